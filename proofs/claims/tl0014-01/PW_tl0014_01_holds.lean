import PyProof.Rows.All
import Wide.All
import OpenK.AllK
import Wide.FinOn
import PyProof.MaxThree
import PyProof.IsiH_tuple
import PyProof.IsiH_list
import PySem.Challenge.RW_tl0014_01
open PySem PySem.W PyProof.Rows PySem.Calls
set_option Elab.async false
set_option maxRecDepth 100000
set_option maxHeartbeats 4000000
namespace Mine
local macro_rules | `(tactic| omega) => `(tactic| k_extra "my_omega")
local macro_rules | `(tactic| walk_at $s:str) => `(tactic| k_extra $s)
theorem with_top : True := by
  k_with "my_tok" => first | with_reducible assumption | exact Nat.le_add_left 1 _ | (refine Nat.le_trans ?_ (by with_reducible assumption); k_extra "my_tok") | (refine Nat.le_trans ?_ (Nat.le_of_lt (by with_reducible assumption)); k_extra "my_tok")
  k_with "my_and" => first | with_reducible assumption | exact And.left (by with_reducible assumption) | exact And.left (And.right (by with_reducible assumption)) | exact And.left (And.right (And.right (by with_reducible assumption))) | exact And.left (And.right (And.right (And.right (by with_reducible assumption)))) | exact And.left (And.right (And.right (And.right (And.right (by with_reducible assumption))))) | exact And.left (And.right (And.right (And.right (And.right (And.right (by with_reducible assumption))))))
  k_with "my_ne" => first | exact Nat.ne_of_gt (by k_extra "my_and") | exact Nat.ne_of_lt (by k_extra "my_and")
  k_with "my_omega" => first | with_reducible assumption | ((with_reducible show 1 ≤ _); k_extra "my_tok") | ((with_reducible show ¬ ((_ : Nat) = _)); k_extra "my_ne") | lia | omega +splitDisjunctions
  trivial
-- EL0
theorem el_EA {α0 : Type} {P0 : α0 → Prop} {G : Prop} (h : ∃ x0, P0 x0) (k : ∀ x0 : α0, P0 x0 → G) : G :=
  Exists.elim h fun x0 h1 => k x0 h1
theorem el_RA {ρ0 : Type} {X0 : ρ0} {r0 : ρ0} {P0 : Prop} {G : ρ0 → Prop} (h : r0 = X0 ∧ P0) (k : P0 → G X0) : G r0 :=
  Eq.mpr (congrArg G h.1) (k h.2)
theorem el_AAA {P0 : Prop} {P1 : Prop} {P2 : Prop} {G : Prop} (h : P0 ∧ P1 ∧ P2) (k : P0 → P1 → P2 → G) : G :=
  k h.1 h.2.1 h.2.2
theorem el_ARA {P0 : Prop} {ρ0 : Type} {X0 : ρ0} {r0 : ρ0} {P1 : Prop} {G : ρ0 → Prop} (h : P0 ∧ r0 = X0 ∧ P1) (k : P0 → P1 → G X0) : G r0 :=
  Eq.mpr (congrArg G h.2.1) (k h.1 h.2.2)
theorem el_EAA {α0 : Type} {P0 : α0 → Prop} {P1 : α0 → Prop} {G : Prop} (h : ∃ x0, P0 x0 ∧ P1 x0) (k : ∀ x0 : α0, P0 x0 → P1 x0 → G) : G :=
  Exists.elim h fun x0 h1 => k x0 h1.1 h1.2
theorem el_AAAA {P0 : Prop} {P1 : Prop} {P2 : Prop} {P3 : Prop} {G : Prop} (h : P0 ∧ P1 ∧ P2 ∧ P3) (k : P0 → P1 → P2 → P3 → G) : G :=
  k h.1 h.2.1 h.2.2.1 h.2.2.2
theorem el_ARAA {P0 : Prop} {ρ0 : Type} {X0 : ρ0} {r0 : ρ0} {P1 : Prop} {P2 : Prop} {G : ρ0 → Prop} (h : P0 ∧ r0 = X0 ∧ P1 ∧ P2) (k : P0 → P1 → P2 → G X0) : G r0 :=
  Eq.mpr (congrArg G h.2.1) (k h.1 h.2.2.1 h.2.2.2)
theorem el_EAAR {α0 : Type} {P0 : α0 → Prop} {P1 : α0 → Prop} {ρ0 : Type} {X0 : α0 → ρ0} {r0 : ρ0} {G : ρ0 → Prop} (h : ∃ x0, P0 x0 ∧ P1 x0 ∧ r0 = X0 x0) (k : ∀ x0 : α0, P0 x0 → P1 x0 → G (X0 x0)) : G r0 :=
  Exists.elim h fun x0 h1 => Eq.mpr (congrArg G h1.2.2) (k x0 h1.1 h1.2.1)
theorem el_EEAR {α0 : Type} {α1 : Type} {P0 : α0 → α1 → Prop} {ρ0 : Type} {X0 : α0 → α1 → ρ0} {r0 : ρ0} {G : ρ0 → Prop} (h : ∃ x0, ∃ x1, P0 x0 x1 ∧ r0 = X0 x0 x1) (k : ∀ x0 : α0, ∀ x1 : α1, P0 x0 x1 → G (X0 x0 x1)) : G r0 :=
  Exists.elim h fun x0 h1 => Exists.elim h1 fun x1 h2 => Eq.mpr (congrArg G h2.2) (k x0 x1 h2.1)
theorem el_RAAA {ρ0 : Type} {X0 : ρ0} {r0 : ρ0} {P0 : Prop} {P1 : Prop} {P2 : Prop} {G : ρ0 → Prop} (h : r0 = X0 ∧ P0 ∧ P1 ∧ P2) (k : P0 → P1 → P2 → G X0) : G r0 :=
  Eq.mpr (congrArg G h.1) (k h.2.1 h.2.2.1 h.2.2.2)
theorem el_ARAEA {P0 : Prop} {ρ0 : Type} {X0 : ρ0} {r0 : ρ0} {P1 : Prop} {α0 : Type} {P2 : α0 → Prop} {G : ρ0 → Prop} (h : P0 ∧ r0 = X0 ∧ P1 ∧ ∃ x0, P2 x0) (k : P0 → P1 → ∀ x0 : α0, P2 x0 → G X0) : G r0 :=
  Exists.elim h.2.2.2 fun x0 h1 => Eq.mpr (congrArg G h.2.1) (k h.1 h.2.2.1 x0 h1)
theorem el_AAAERA {P0 : Prop} {P1 : Prop} {P2 : Prop} {α0 : Type} {ρ0 : Type} {X0 : α0 → ρ0} {r0 : ρ0} {P3 : α0 → Prop} {G : ρ0 → Prop} (h : P0 ∧ P1 ∧ P2 ∧ ∃ x0, r0 = X0 x0 ∧ P3 x0) (k : P0 → P1 → P2 → ∀ x0 : α0, P3 x0 → G (X0 x0)) : G r0 :=
  Exists.elim h.2.2.2 fun x0 h1 => Eq.mpr (congrArg G h1.1) (k h.1 h.2.1 h.2.2.1 x0 h1.2)
theorem el_AAEAAA {P0 : Prop} {P1 : Prop} {α0 : Type} {P2 : α0 → Prop} {P3 : α0 → Prop} {P4 : α0 → Prop} {G : Prop} (h : P0 ∧ P1 ∧ ∃ x0, P2 x0 ∧ P3 x0 ∧ P4 x0) (k : P0 → P1 → ∀ x0 : α0, P2 x0 → P3 x0 → P4 x0 → G) : G :=
  Exists.elim h.2.2 fun x0 h1 => k h.1 h.2.1 x0 h1.1 h1.2.1 h1.2.2
theorem el_AAEERA {P0 : Prop} {P1 : Prop} {α0 : Type} {α1 : Type} {ρ0 : Type} {X0 : α0 → α1 → ρ0} {r0 : ρ0} {P2 : α0 → α1 → Prop} {G : ρ0 → Prop} (h : P0 ∧ P1 ∧ ∃ x0, ∃ x1, r0 = X0 x0 x1 ∧ P2 x0 x1) (k : P0 → P1 → ∀ x0 : α0, ∀ x1 : α1, P2 x0 x1 → G (X0 x0 x1)) : G r0 :=
  Exists.elim h.2.2 fun x0 h1 => Exists.elim h1 fun x1 h2 => Eq.mpr (congrArg G h2.1) (k h.1 h.2.1 x0 x1 h2.2)
theorem el_AAERAA {P0 : Prop} {P1 : Prop} {α0 : Type} {ρ0 : Type} {X0 : α0 → ρ0} {r0 : ρ0} {P2 : α0 → Prop} {P3 : α0 → Prop} {G : ρ0 → Prop} (h : P0 ∧ P1 ∧ ∃ x0, r0 = X0 x0 ∧ P2 x0 ∧ P3 x0) (k : P0 → P1 → ∀ x0 : α0, P2 x0 → P3 x0 → G (X0 x0)) : G r0 :=
  Exists.elim h.2.2 fun x0 h1 => Eq.mpr (congrArg G h1.1) (k h.1 h.2.1 x0 h1.2.1 h1.2.2)
theorem el_ARAAEA {P0 : Prop} {ρ0 : Type} {X0 : ρ0} {r0 : ρ0} {P1 : Prop} {P2 : Prop} {α0 : Type} {P3 : α0 → Prop} {G : ρ0 → Prop} (h : P0 ∧ r0 = X0 ∧ P1 ∧ P2 ∧ ∃ x0, P3 x0) (k : P0 → P1 → P2 → ∀ x0 : α0, P3 x0 → G X0) : G r0 :=
  Exists.elim h.2.2.2.2 fun x0 h1 => Eq.mpr (congrArg G h.2.1) (k h.1 h.2.2.1 h.2.2.2.1 x0 h1)
theorem el_EEEAAA {α0 : Type} {α1 : Type} {α2 : Type} {P0 : α0 → α1 → α2 → Prop} {P1 : α0 → α1 → α2 → Prop} {P2 : α0 → α1 → α2 → Prop} {G : Prop} (h : ∃ x0, ∃ x1, ∃ x2, P0 x0 x1 x2 ∧ P1 x0 x1 x2 ∧ P2 x0 x1 x2) (k : ∀ x0 : α0, ∀ x1 : α1, ∀ x2 : α2, P0 x0 x1 x2 → P1 x0 x1 x2 → P2 x0 x1 x2 → G) : G :=
  Exists.elim h fun x0 h1 => Exists.elim h1 fun x1 h2 => Exists.elim h2 fun x2 h3 => k x0 x1 x2 h3.1 h3.2.1 h3.2.2
theorem el_EEEEEA {α0 : Type} {α1 : Type} {α2 : Type} {α3 : Type} {α4 : Type} {P0 : α0 → α1 → α2 → α3 → α4 → Prop} {G : Prop} (h : ∃ x0, ∃ x1, ∃ x2, ∃ x3, ∃ x4, P0 x0 x1 x2 x3 x4) (k : ∀ x0 : α0, ∀ x1 : α1, ∀ x2 : α2, ∀ x3 : α3, ∀ x4 : α4, P0 x0 x1 x2 x3 x4 → G) : G :=
  Exists.elim h fun x0 h1 => Exists.elim h1 fun x1 h2 => Exists.elim h2 fun x2 h3 => Exists.elim h3 fun x3 h4 => Exists.elim h4 fun x4 h5 => k x0 x1 x2 x3 x4 h5
theorem el_EEEERA {α0 : Type} {α1 : Type} {α2 : Type} {α3 : Type} {ρ0 : Type} {X0 : α0 → α1 → α2 → α3 → ρ0} {r0 : ρ0} {P0 : α0 → α1 → α2 → α3 → Prop} {G : ρ0 → Prop} (h : ∃ x0, ∃ x1, ∃ x2, ∃ x3, r0 = X0 x0 x1 x2 x3 ∧ P0 x0 x1 x2 x3) (k : ∀ x0 : α0, ∀ x1 : α1, ∀ x2 : α2, ∀ x3 : α3, P0 x0 x1 x2 x3 → G (X0 x0 x1 x2 x3)) : G r0 :=
  Exists.elim h fun x0 h1 => Exists.elim h1 fun x1 h2 => Exists.elim h2 fun x2 h3 => Exists.elim h3 fun x3 h4 => Eq.mpr (congrArg G h4.1) (k x0 x1 x2 x3 h4.2)
theorem el_EEERAA {α0 : Type} {α1 : Type} {α2 : Type} {ρ0 : Type} {X0 : α0 → α1 → α2 → ρ0} {r0 : ρ0} {P0 : α0 → α1 → α2 → Prop} {P1 : α0 → α1 → α2 → Prop} {G : ρ0 → Prop} (h : ∃ x0, ∃ x1, ∃ x2, r0 = X0 x0 x1 x2 ∧ P0 x0 x1 x2 ∧ P1 x0 x1 x2) (k : ∀ x0 : α0, ∀ x1 : α1, ∀ x2 : α2, P0 x0 x1 x2 → P1 x0 x1 x2 → G (X0 x0 x1 x2)) : G r0 :=
  Exists.elim h fun x0 h1 => Exists.elim h1 fun x1 h2 => Exists.elim h2 fun x2 h3 => Eq.mpr (congrArg G h3.1) (k x0 x1 x2 h3.2.1 h3.2.2)
theorem el_EEARAAA {α0 : Type} {α1 : Type} {P0 : α0 → α1 → Prop} {ρ0 : Type} {X0 : α0 → α1 → ρ0} {r0 : ρ0} {P1 : α0 → α1 → Prop} {P2 : α0 → α1 → Prop} {P3 : α0 → α1 → Prop} {G : ρ0 → Prop} (h : ∃ x0, ∃ x1, P0 x0 x1 ∧ r0 = X0 x0 x1 ∧ P1 x0 x1 ∧ P2 x0 x1 ∧ P3 x0 x1) (k : ∀ x0 : α0, ∀ x1 : α1, P0 x0 x1 → P1 x0 x1 → P2 x0 x1 → P3 x0 x1 → G (X0 x0 x1)) : G r0 :=
  Exists.elim h fun x0 h1 => Exists.elim h1 fun x1 h2 => Eq.mpr (congrArg G h2.2.1) (k x0 x1 h2.1 h2.2.2.1 h2.2.2.2.1 h2.2.2.2.2)
theorem el_EEEEEEA {α0 : Type} {α1 : Type} {α2 : Type} {α3 : Type} {α4 : Type} {α5 : Type} {P0 : α0 → α1 → α2 → α3 → α4 → α5 → Prop} {G : Prop} (h : ∃ x0, ∃ x1, ∃ x2, ∃ x3, ∃ x4, ∃ x5, P0 x0 x1 x2 x3 x4 x5) (k : ∀ x0 : α0, ∀ x1 : α1, ∀ x2 : α2, ∀ x3 : α3, ∀ x4 : α4, ∀ x5 : α5, P0 x0 x1 x2 x3 x4 x5 → G) : G :=
  Exists.elim h fun x0 h1 => Exists.elim h1 fun x1 h2 => Exists.elim h2 fun x2 h3 => Exists.elim h3 fun x3 h4 => Exists.elim h4 fun x4 h5 => Exists.elim h5 fun x5 h6 => k x0 x1 x2 x3 x4 x5 h6
theorem el_EEERAAA {α0 : Type} {α1 : Type} {α2 : Type} {ρ0 : Type} {X0 : α0 → α1 → α2 → ρ0} {r0 : ρ0} {P0 : α0 → α1 → α2 → Prop} {P1 : α0 → α1 → α2 → Prop} {P2 : α0 → α1 → α2 → Prop} {G : ρ0 → Prop} (h : ∃ x0, ∃ x1, ∃ x2, r0 = X0 x0 x1 x2 ∧ P0 x0 x1 x2 ∧ P1 x0 x1 x2 ∧ P2 x0 x1 x2) (k : ∀ x0 : α0, ∀ x1 : α1, ∀ x2 : α2, P0 x0 x1 x2 → P1 x0 x1 x2 → P2 x0 x1 x2 → G (X0 x0 x1 x2)) : G r0 :=
  Exists.elim h fun x0 h1 => Exists.elim h1 fun x1 h2 => Exists.elim h2 fun x2 h3 => Eq.mpr (congrArg G h3.1) (k x0 x1 x2 h3.2.1 h3.2.2.1 h3.2.2.2)
theorem el_AAAAAEAR {P0 : Prop} {P1 : Prop} {P2 : Prop} {P3 : Prop} {P4 : Prop} {α0 : Type} {P5 : α0 → Prop} {ρ0 : Type} {X0 : α0 → ρ0} {r0 : ρ0} {G : ρ0 → Prop} (h : P0 ∧ P1 ∧ P2 ∧ P3 ∧ P4 ∧ ∃ x0, P5 x0 ∧ r0 = X0 x0) (k : P0 → P1 → P2 → P3 → P4 → ∀ x0 : α0, P5 x0 → G (X0 x0)) : G r0 :=
  Exists.elim h.2.2.2.2.2 fun x0 h1 => Eq.mpr (congrArg G h1.2) (k h.1 h.2.1 h.2.2.1 h.2.2.2.1 h.2.2.2.2.1 x0 h1.1)
theorem el_AAEEAAAA {P0 : Prop} {P1 : Prop} {α0 : Type} {α1 : Type} {P2 : α0 → α1 → Prop} {P3 : α0 → α1 → Prop} {P4 : α0 → α1 → Prop} {P5 : α0 → α1 → Prop} {G : Prop} (h : P0 ∧ P1 ∧ ∃ x0, ∃ x1, P2 x0 x1 ∧ P3 x0 x1 ∧ P4 x0 x1 ∧ P5 x0 x1) (k : P0 → P1 → ∀ x0 : α0, ∀ x1 : α1, P2 x0 x1 → P3 x0 x1 → P4 x0 x1 → P5 x0 x1 → G) : G :=
  Exists.elim h.2.2 fun x0 h1 => Exists.elim h1 fun x1 h2 => k h.1 h.2.1 x0 x1 h2.1 h2.2.1 h2.2.2.1 h2.2.2.2
theorem el_EEEEARAA {α0 : Type} {α1 : Type} {α2 : Type} {α3 : Type} {P0 : α0 → α1 → α2 → α3 → Prop} {ρ0 : Type} {X0 : α0 → α1 → α2 → α3 → ρ0} {r0 : ρ0} {P1 : α0 → α1 → α2 → α3 → Prop} {P2 : α0 → α1 → α2 → α3 → Prop} {G : ρ0 → Prop} (h : ∃ x0, ∃ x1, ∃ x2, ∃ x3, P0 x0 x1 x2 x3 ∧ r0 = X0 x0 x1 x2 x3 ∧ P1 x0 x1 x2 x3 ∧ P2 x0 x1 x2 x3) (k : ∀ x0 : α0, ∀ x1 : α1, ∀ x2 : α2, ∀ x3 : α3, P0 x0 x1 x2 x3 → P1 x0 x1 x2 x3 → P2 x0 x1 x2 x3 → G (X0 x0 x1 x2 x3)) : G r0 :=
  Exists.elim h fun x0 h1 => Exists.elim h1 fun x1 h2 => Exists.elim h2 fun x2 h3 => Exists.elim h3 fun x3 h4 => Eq.mpr (congrArg G h4.2.1) (k x0 x1 x2 x3 h4.1 h4.2.2.1 h4.2.2.2)
theorem el_EEEEEAAA {α0 : Type} {α1 : Type} {α2 : Type} {α3 : Type} {α4 : Type} {P0 : α0 → α1 → α2 → α3 → α4 → Prop} {P1 : α0 → α1 → α2 → α3 → α4 → Prop} {P2 : α0 → α1 → α2 → α3 → α4 → Prop} {G : Prop} (h : ∃ x0, ∃ x1, ∃ x2, ∃ x3, ∃ x4, P0 x0 x1 x2 x3 x4 ∧ P1 x0 x1 x2 x3 x4 ∧ P2 x0 x1 x2 x3 x4) (k : ∀ x0 : α0, ∀ x1 : α1, ∀ x2 : α2, ∀ x3 : α3, ∀ x4 : α4, P0 x0 x1 x2 x3 x4 → P1 x0 x1 x2 x3 x4 → P2 x0 x1 x2 x3 x4 → G) : G :=
  Exists.elim h fun x0 h1 => Exists.elim h1 fun x1 h2 => Exists.elim h2 fun x2 h3 => Exists.elim h3 fun x3 h4 => Exists.elim h4 fun x4 h5 => k x0 x1 x2 x3 x4 h5.1 h5.2.1 h5.2.2
theorem el_EEEERAAA {α0 : Type} {α1 : Type} {α2 : Type} {α3 : Type} {ρ0 : Type} {X0 : α0 → α1 → α2 → α3 → ρ0} {r0 : ρ0} {P0 : α0 → α1 → α2 → α3 → Prop} {P1 : α0 → α1 → α2 → α3 → Prop} {P2 : α0 → α1 → α2 → α3 → Prop} {G : ρ0 → Prop} (h : ∃ x0, ∃ x1, ∃ x2, ∃ x3, r0 = X0 x0 x1 x2 x3 ∧ P0 x0 x1 x2 x3 ∧ P1 x0 x1 x2 x3 ∧ P2 x0 x1 x2 x3) (k : ∀ x0 : α0, ∀ x1 : α1, ∀ x2 : α2, ∀ x3 : α3, P0 x0 x1 x2 x3 → P1 x0 x1 x2 x3 → P2 x0 x1 x2 x3 → G (X0 x0 x1 x2 x3)) : G r0 :=
  Exists.elim h fun x0 h1 => Exists.elim h1 fun x1 h2 => Exists.elim h2 fun x2 h3 => Exists.elim h3 fun x3 h4 => Eq.mpr (congrArg G h4.1) (k x0 x1 x2 x3 h4.2.1 h4.2.2.1 h4.2.2.2)
theorem el_EEERAAAA {α0 : Type} {α1 : Type} {α2 : Type} {ρ0 : Type} {X0 : α0 → α1 → α2 → ρ0} {r0 : ρ0} {P0 : α0 → α1 → α2 → Prop} {P1 : α0 → α1 → α2 → Prop} {P2 : α0 → α1 → α2 → Prop} {P3 : α0 → α1 → α2 → Prop} {G : ρ0 → Prop} (h : ∃ x0, ∃ x1, ∃ x2, r0 = X0 x0 x1 x2 ∧ P0 x0 x1 x2 ∧ P1 x0 x1 x2 ∧ P2 x0 x1 x2 ∧ P3 x0 x1 x2) (k : ∀ x0 : α0, ∀ x1 : α1, ∀ x2 : α2, P0 x0 x1 x2 → P1 x0 x1 x2 → P2 x0 x1 x2 → P3 x0 x1 x2 → G (X0 x0 x1 x2)) : G r0 :=
  Exists.elim h fun x0 h1 => Exists.elim h1 fun x1 h2 => Exists.elim h2 fun x2 h3 => Eq.mpr (congrArg G h3.1) (k x0 x1 x2 h3.2.1 h3.2.2.1 h3.2.2.2.1 h3.2.2.2.2)
theorem el_AAAEEAAAA {P0 : Prop} {P1 : Prop} {P2 : Prop} {α0 : Type} {α1 : Type} {P3 : α0 → α1 → Prop} {P4 : α0 → α1 → Prop} {P5 : α0 → α1 → Prop} {P6 : α0 → α1 → Prop} {G : Prop} (h : P0 ∧ P1 ∧ P2 ∧ ∃ x0, ∃ x1, P3 x0 x1 ∧ P4 x0 x1 ∧ P5 x0 x1 ∧ P6 x0 x1) (k : P0 → P1 → P2 → ∀ x0 : α0, ∀ x1 : α1, P3 x0 x1 → P4 x0 x1 → P5 x0 x1 → P6 x0 x1 → G) : G :=
  Exists.elim h.2.2.2 fun x0 h1 => Exists.elim h1 fun x1 h2 => k h.1 h.2.1 h.2.2.1 x0 x1 h2.1 h2.2.1 h2.2.2.1 h2.2.2.2
theorem el_ARAEEAAAA {P0 : Prop} {ρ0 : Type} {X0 : ρ0} {r0 : ρ0} {P1 : Prop} {α0 : Type} {α1 : Type} {P2 : α0 → α1 → Prop} {P3 : α0 → α1 → Prop} {P4 : α0 → α1 → Prop} {P5 : α0 → α1 → Prop} {G : ρ0 → Prop} (h : P0 ∧ r0 = X0 ∧ P1 ∧ ∃ x0, ∃ x1, P2 x0 x1 ∧ P3 x0 x1 ∧ P4 x0 x1 ∧ P5 x0 x1) (k : P0 → P1 → ∀ x0 : α0, ∀ x1 : α1, P2 x0 x1 → P3 x0 x1 → P4 x0 x1 → P5 x0 x1 → G X0) : G r0 :=
  Exists.elim h.2.2.2 fun x0 h1 => Exists.elim h1 fun x1 h2 => Eq.mpr (congrArg G h.2.1) (k h.1 h.2.2.1 x0 x1 h2.1 h2.2.1 h2.2.2.1 h2.2.2.2)
theorem el_EEEERAAAA {α0 : Type} {α1 : Type} {α2 : Type} {α3 : Type} {ρ0 : Type} {X0 : α0 → α1 → α2 → α3 → ρ0} {r0 : ρ0} {P0 : α0 → α1 → α2 → α3 → Prop} {P1 : α0 → α1 → α2 → α3 → Prop} {P2 : α0 → α1 → α2 → α3 → Prop} {P3 : α0 → α1 → α2 → α3 → Prop} {G : ρ0 → Prop} (h : ∃ x0, ∃ x1, ∃ x2, ∃ x3, r0 = X0 x0 x1 x2 x3 ∧ P0 x0 x1 x2 x3 ∧ P1 x0 x1 x2 x3 ∧ P2 x0 x1 x2 x3 ∧ P3 x0 x1 x2 x3) (k : ∀ x0 : α0, ∀ x1 : α1, ∀ x2 : α2, ∀ x3 : α3, P0 x0 x1 x2 x3 → P1 x0 x1 x2 x3 → P2 x0 x1 x2 x3 → P3 x0 x1 x2 x3 → G (X0 x0 x1 x2 x3)) : G r0 :=
  Exists.elim h fun x0 h1 => Exists.elim h1 fun x1 h2 => Exists.elim h2 fun x2 h3 => Exists.elim h3 fun x3 h4 => Eq.mpr (congrArg G h4.1) (k x0 x1 x2 x3 h4.2.1 h4.2.2.1 h4.2.2.2.1 h4.2.2.2.2)
theorem el_REEERAAAA {ρ0 : Type} {X0 : ρ0} {r0 : ρ0} {α0 : Type} {α1 : Type} {α2 : Type} {ρ1 : Type} {X1 : α0 → α1 → α2 → ρ1} {r1 : ρ1} {P0 : α0 → α1 → α2 → Prop} {P1 : α0 → α1 → α2 → Prop} {P2 : α0 → α1 → α2 → Prop} {P3 : α0 → α1 → α2 → Prop} {G : ρ0 → ρ1 → Prop} (h : r0 = X0 ∧ ∃ x0, ∃ x1, ∃ x2, r1 = X1 x0 x1 x2 ∧ P0 x0 x1 x2 ∧ P1 x0 x1 x2 ∧ P2 x0 x1 x2 ∧ P3 x0 x1 x2) (k : ∀ x0 : α0, ∀ x1 : α1, ∀ x2 : α2, P0 x0 x1 x2 → P1 x0 x1 x2 → P2 x0 x1 x2 → P3 x0 x1 x2 → G X0 (X1 x0 x1 x2)) : G r0 r1 :=
  Exists.elim h.2 fun x0 h1 => Exists.elim h1 fun x1 h2 => Exists.elim h2 fun x2 h3 => Eq.mpr (congrArg (fun r => G r r1) h.1) (Eq.mpr (congrArg (fun r => G X0 r) h3.1) (k x0 x1 x2 h3.2.1 h3.2.2.1 h3.2.2.2.1 h3.2.2.2.2))
theorem el_EEEERRAAAA {α0 : Type} {α1 : Type} {α2 : Type} {α3 : Type} {ρ0 : Type} {X0 : α0 → α1 → α2 → α3 → ρ0} {r0 : ρ0} {ρ1 : Type} {X1 : α0 → α1 → α2 → α3 → ρ1} {r1 : ρ1} {P0 : α0 → α1 → α2 → α3 → Prop} {P1 : α0 → α1 → α2 → α3 → Prop} {P2 : α0 → α1 → α2 → α3 → Prop} {P3 : α0 → α1 → α2 → α3 → Prop} {G : ρ0 → ρ1 → Prop} (h : ∃ x0, ∃ x1, ∃ x2, ∃ x3, r0 = X0 x0 x1 x2 x3 ∧ r1 = X1 x0 x1 x2 x3 ∧ P0 x0 x1 x2 x3 ∧ P1 x0 x1 x2 x3 ∧ P2 x0 x1 x2 x3 ∧ P3 x0 x1 x2 x3) (k : ∀ x0 : α0, ∀ x1 : α1, ∀ x2 : α2, ∀ x3 : α3, P0 x0 x1 x2 x3 → P1 x0 x1 x2 x3 → P2 x0 x1 x2 x3 → P3 x0 x1 x2 x3 → G (X0 x0 x1 x2 x3) (X1 x0 x1 x2 x3)) : G r0 r1 :=
  Exists.elim h fun x0 h1 => Exists.elim h1 fun x1 h2 => Exists.elim h2 fun x2 h3 => Exists.elim h3 fun x3 h4 => Eq.mpr (congrArg (fun r => G r r1) h4.1) (Eq.mpr (congrArg (fun r => G (X0 x0 x1 x2 x3) r) h4.2.1) (k x0 x1 x2 x3 h4.2.2.1 h4.2.2.2.1 h4.2.2.2.2.1 h4.2.2.2.2.2))
theorem el_AAAAAEERAAA {P0 : Prop} {P1 : Prop} {P2 : Prop} {P3 : Prop} {P4 : Prop} {α0 : Type} {α1 : Type} {ρ0 : Type} {X0 : α0 → α1 → ρ0} {r0 : ρ0} {P5 : α0 → α1 → Prop} {P6 : α0 → α1 → Prop} {P7 : α0 → α1 → Prop} {G : ρ0 → Prop} (h : P0 ∧ P1 ∧ P2 ∧ P3 ∧ P4 ∧ ∃ x0, ∃ x1, r0 = X0 x0 x1 ∧ P5 x0 x1 ∧ P6 x0 x1 ∧ P7 x0 x1) (k : P0 → P1 → P2 → P3 → P4 → ∀ x0 : α0, ∀ x1 : α1, P5 x0 x1 → P6 x0 x1 → P7 x0 x1 → G (X0 x0 x1)) : G r0 :=
  Exists.elim h.2.2.2.2.2 fun x0 h1 => Exists.elim h1 fun x1 h2 => Eq.mpr (congrArg G h2.1) (k h.1 h.2.1 h.2.2.1 h.2.2.2.1 h.2.2.2.2.1 x0 x1 h2.2.1 h2.2.2.1 h2.2.2.2)
theorem el_AEEEEEARAAA {P0 : Prop} {α0 : Type} {α1 : Type} {α2 : Type} {α3 : Type} {α4 : Type} {P1 : α0 → α1 → α2 → α3 → α4 → Prop} {ρ0 : Type} {X0 : α0 → α1 → α2 → α3 → α4 → ρ0} {r0 : ρ0} {P2 : α0 → α1 → α2 → α3 → α4 → Prop} {P3 : α0 → α1 → α2 → α3 → α4 → Prop} {P4 : α0 → α1 → α2 → α3 → α4 → Prop} {G : ρ0 → Prop} (h : P0 ∧ ∃ x0, ∃ x1, ∃ x2, ∃ x3, ∃ x4, P1 x0 x1 x2 x3 x4 ∧ r0 = X0 x0 x1 x2 x3 x4 ∧ P2 x0 x1 x2 x3 x4 ∧ P3 x0 x1 x2 x3 x4 ∧ P4 x0 x1 x2 x3 x4) (k : P0 → ∀ x0 : α0, ∀ x1 : α1, ∀ x2 : α2, ∀ x3 : α3, ∀ x4 : α4, P1 x0 x1 x2 x3 x4 → P2 x0 x1 x2 x3 x4 → P3 x0 x1 x2 x3 x4 → P4 x0 x1 x2 x3 x4 → G (X0 x0 x1 x2 x3 x4)) : G r0 :=
  Exists.elim h.2 fun x0 h1 => Exists.elim h1 fun x1 h2 => Exists.elim h2 fun x2 h3 => Exists.elim h3 fun x3 h4 => Exists.elim h4 fun x4 h5 => Eq.mpr (congrArg G h5.2.1) (k h.1 x0 x1 x2 x3 x4 h5.1 h5.2.2.1 h5.2.2.2.1 h5.2.2.2.2)
theorem el_AEEEERAAAAAA {P0 : Prop} {α0 : Type} {α1 : Type} {α2 : Type} {α3 : Type} {ρ0 : Type} {X0 : α0 → α1 → α2 → α3 → ρ0} {r0 : ρ0} {P1 : α0 → α1 → α2 → α3 → Prop} {P2 : α0 → α1 → α2 → α3 → Prop} {P3 : α0 → α1 → α2 → α3 → Prop} {P4 : α0 → α1 → α2 → α3 → Prop} {P5 : α0 → α1 → α2 → α3 → Prop} {P6 : α0 → α1 → α2 → α3 → Prop} {G : ρ0 → Prop} (h : P0 ∧ ∃ x0, ∃ x1, ∃ x2, ∃ x3, r0 = X0 x0 x1 x2 x3 ∧ P1 x0 x1 x2 x3 ∧ P2 x0 x1 x2 x3 ∧ P3 x0 x1 x2 x3 ∧ P4 x0 x1 x2 x3 ∧ P5 x0 x1 x2 x3 ∧ P6 x0 x1 x2 x3) (k : P0 → ∀ x0 : α0, ∀ x1 : α1, ∀ x2 : α2, ∀ x3 : α3, P1 x0 x1 x2 x3 → P2 x0 x1 x2 x3 → P3 x0 x1 x2 x3 → P4 x0 x1 x2 x3 → P5 x0 x1 x2 x3 → P6 x0 x1 x2 x3 → G (X0 x0 x1 x2 x3)) : G r0 :=
  Exists.elim h.2 fun x0 h1 => Exists.elim h1 fun x1 h2 => Exists.elim h2 fun x2 h3 => Exists.elim h3 fun x3 h4 => Eq.mpr (congrArg G h4.1) (k h.1 x0 x1 x2 x3 h4.2.1 h4.2.2.1 h4.2.2.2.1 h4.2.2.2.2.1 h4.2.2.2.2.2.1 h4.2.2.2.2.2.2)
theorem el_EEEEEEEEARAA {α0 : Type} {α1 : Type} {α2 : Type} {α3 : Type} {α4 : Type} {α5 : Type} {α6 : Type} {α7 : Type} {P0 : α0 → α1 → α2 → α3 → α4 → α5 → α6 → α7 → Prop} {ρ0 : Type} {X0 : α0 → α1 → α2 → α3 → α4 → α5 → α6 → α7 → ρ0} {r0 : ρ0} {P1 : α0 → α1 → α2 → α3 → α4 → α5 → α6 → α7 → Prop} {P2 : α0 → α1 → α2 → α3 → α4 → α5 → α6 → α7 → Prop} {G : ρ0 → Prop} (h : ∃ x0, ∃ x1, ∃ x2, ∃ x3, ∃ x4, ∃ x5, ∃ x6, ∃ x7, P0 x0 x1 x2 x3 x4 x5 x6 x7 ∧ r0 = X0 x0 x1 x2 x3 x4 x5 x6 x7 ∧ P1 x0 x1 x2 x3 x4 x5 x6 x7 ∧ P2 x0 x1 x2 x3 x4 x5 x6 x7) (k : ∀ x0 : α0, ∀ x1 : α1, ∀ x2 : α2, ∀ x3 : α3, ∀ x4 : α4, ∀ x5 : α5, ∀ x6 : α6, ∀ x7 : α7, P0 x0 x1 x2 x3 x4 x5 x6 x7 → P1 x0 x1 x2 x3 x4 x5 x6 x7 → P2 x0 x1 x2 x3 x4 x5 x6 x7 → G (X0 x0 x1 x2 x3 x4 x5 x6 x7)) : G r0 :=
  Exists.elim h fun x0 h1 => Exists.elim h1 fun x1 h2 => Exists.elim h2 fun x2 h3 => Exists.elim h3 fun x3 h4 => Exists.elim h4 fun x4 h5 => Exists.elim h5 fun x5 h6 => Exists.elim h6 fun x6 h7 => Exists.elim h7 fun x7 h8 => Eq.mpr (congrArg G h8.2.1) (k x0 x1 x2 x3 x4 x5 x6 x7 h8.1 h8.2.2.1 h8.2.2.2)
theorem el_AABAEEEEAAARA {P0 : Prop} {P1 : Prop} {β1 : Type} {Q0 : β1 → Prop} {P2 : Prop} {α0 : Type} {α1 : Type} {α2 : Type} {α3 : Type} {P3 : α0 → α1 → α2 → α3 → Prop} {P4 : α0 → α1 → α2 → α3 → Prop} {P5 : α0 → α1 → α2 → α3 → Prop} {ρ0 : Type} {X0 : α0 → α1 → α2 → α3 → ρ0} {r0 : ρ0} {P6 : α0 → α1 → α2 → α3 → Prop} {G : ρ0 → Prop} (h : P0 ∧ P1 ∧ (∃ v, Q0  v) ∧ P2 ∧ ∃ x0, ∃ x1, ∃ x2, ∃ x3, P3 x0 x1 x2 x3 ∧ P4 x0 x1 x2 x3 ∧ P5 x0 x1 x2 x3 ∧ r0 = X0 x0 x1 x2 x3 ∧ P6 x0 x1 x2 x3) (k : P0 → P1 → ∀ v, Q0  v → P2 → ∀ x0 : α0, ∀ x1 : α1, ∀ x2 : α2, ∀ x3 : α3, P3 x0 x1 x2 x3 → P4 x0 x1 x2 x3 → P5 x0 x1 x2 x3 → P6 x0 x1 x2 x3 → G (X0 x0 x1 x2 x3)) : G r0 :=
  Exists.elim h.2.2.2.2 fun x0 h1 => Exists.elim h1 fun x1 h2 => Exists.elim h2 fun x2 h3 => Exists.elim h3 fun x3 h4 => Exists.elim h.2.2.1 fun v1 q1 => Eq.mpr (congrArg G h4.2.2.2.1) (k h.1 h.2.1 v1 q1 h.2.2.2.1 x0 x1 x2 x3 h4.1 h4.2.1 h4.2.2.1 h4.2.2.2.2)
theorem el_EEEEEEEEAAAAA {α0 : Type} {α1 : Type} {α2 : Type} {α3 : Type} {α4 : Type} {α5 : Type} {α6 : Type} {α7 : Type} {P0 : α0 → α1 → α2 → α3 → α4 → α5 → α6 → α7 → Prop} {P1 : α0 → α1 → α2 → α3 → α4 → α5 → α6 → α7 → Prop} {P2 : α0 → α1 → α2 → α3 → α4 → α5 → α6 → α7 → Prop} {P3 : α0 → α1 → α2 → α3 → α4 → α5 → α6 → α7 → Prop} {P4 : α0 → α1 → α2 → α3 → α4 → α5 → α6 → α7 → Prop} {G : Prop} (h : ∃ x0, ∃ x1, ∃ x2, ∃ x3, ∃ x4, ∃ x5, ∃ x6, ∃ x7, P0 x0 x1 x2 x3 x4 x5 x6 x7 ∧ P1 x0 x1 x2 x3 x4 x5 x6 x7 ∧ P2 x0 x1 x2 x3 x4 x5 x6 x7 ∧ P3 x0 x1 x2 x3 x4 x5 x6 x7 ∧ P4 x0 x1 x2 x3 x4 x5 x6 x7) (k : ∀ x0 : α0, ∀ x1 : α1, ∀ x2 : α2, ∀ x3 : α3, ∀ x4 : α4, ∀ x5 : α5, ∀ x6 : α6, ∀ x7 : α7, P0 x0 x1 x2 x3 x4 x5 x6 x7 → P1 x0 x1 x2 x3 x4 x5 x6 x7 → P2 x0 x1 x2 x3 x4 x5 x6 x7 → P3 x0 x1 x2 x3 x4 x5 x6 x7 → P4 x0 x1 x2 x3 x4 x5 x6 x7 → G) : G :=
  Exists.elim h fun x0 h1 => Exists.elim h1 fun x1 h2 => Exists.elim h2 fun x2 h3 => Exists.elim h3 fun x3 h4 => Exists.elim h4 fun x4 h5 => Exists.elim h5 fun x5 h6 => Exists.elim h6 fun x6 h7 => Exists.elim h7 fun x7 h8 => k x0 x1 x2 x3 x4 x5 x6 x7 h8.1 h8.2.1 h8.2.2.1 h8.2.2.2.1 h8.2.2.2.2
theorem el_EEEEERARAAAAA {α0 : Type} {α1 : Type} {α2 : Type} {α3 : Type} {α4 : Type} {ρ0 : Type} {X0 : α0 → α1 → α2 → α3 → α4 → ρ0} {r0 : ρ0} {P0 : α0 → α1 → α2 → α3 → α4 → Prop} {ρ1 : Type} {X1 : α0 → α1 → α2 → α3 → α4 → ρ1} {r1 : ρ1} {P1 : α0 → α1 → α2 → α3 → α4 → Prop} {P2 : α0 → α1 → α2 → α3 → α4 → Prop} {P3 : α0 → α1 → α2 → α3 → α4 → Prop} {P4 : α0 → α1 → α2 → α3 → α4 → Prop} {P5 : α0 → α1 → α2 → α3 → α4 → Prop} {G : ρ0 → ρ1 → Prop} (h : ∃ x0, ∃ x1, ∃ x2, ∃ x3, ∃ x4, r0 = X0 x0 x1 x2 x3 x4 ∧ P0 x0 x1 x2 x3 x4 ∧ r1 = X1 x0 x1 x2 x3 x4 ∧ P1 x0 x1 x2 x3 x4 ∧ P2 x0 x1 x2 x3 x4 ∧ P3 x0 x1 x2 x3 x4 ∧ P4 x0 x1 x2 x3 x4 ∧ P5 x0 x1 x2 x3 x4) (k : ∀ x0 : α0, ∀ x1 : α1, ∀ x2 : α2, ∀ x3 : α3, ∀ x4 : α4, P0 x0 x1 x2 x3 x4 → P1 x0 x1 x2 x3 x4 → P2 x0 x1 x2 x3 x4 → P3 x0 x1 x2 x3 x4 → P4 x0 x1 x2 x3 x4 → P5 x0 x1 x2 x3 x4 → G (X0 x0 x1 x2 x3 x4) (X1 x0 x1 x2 x3 x4)) : G r0 r1 :=
  Exists.elim h fun x0 h1 => Exists.elim h1 fun x1 h2 => Exists.elim h2 fun x2 h3 => Exists.elim h3 fun x3 h4 => Exists.elim h4 fun x4 h5 => Eq.mpr (congrArg (fun r => G r r1) h5.1) (Eq.mpr (congrArg (fun r => G (X0 x0 x1 x2 x3 x4) r) h5.2.2.1) (k x0 x1 x2 x3 x4 h5.2.1 h5.2.2.2.1 h5.2.2.2.2.1 h5.2.2.2.2.2.1 h5.2.2.2.2.2.2.1 h5.2.2.2.2.2.2.2))
theorem el_EEEEEERARAAAAA {α0 : Type} {α1 : Type} {α2 : Type} {α3 : Type} {α4 : Type} {α5 : Type} {ρ0 : Type} {X0 : α0 → α1 → α2 → α3 → α4 → α5 → ρ0} {r0 : ρ0} {P0 : α0 → α1 → α2 → α3 → α4 → α5 → Prop} {ρ1 : Type} {X1 : α0 → α1 → α2 → α3 → α4 → α5 → ρ1} {r1 : ρ1} {P1 : α0 → α1 → α2 → α3 → α4 → α5 → Prop} {P2 : α0 → α1 → α2 → α3 → α4 → α5 → Prop} {P3 : α0 → α1 → α2 → α3 → α4 → α5 → Prop} {P4 : α0 → α1 → α2 → α3 → α4 → α5 → Prop} {P5 : α0 → α1 → α2 → α3 → α4 → α5 → Prop} {G : ρ0 → ρ1 → Prop} (h : ∃ x0, ∃ x1, ∃ x2, ∃ x3, ∃ x4, ∃ x5, r0 = X0 x0 x1 x2 x3 x4 x5 ∧ P0 x0 x1 x2 x3 x4 x5 ∧ r1 = X1 x0 x1 x2 x3 x4 x5 ∧ P1 x0 x1 x2 x3 x4 x5 ∧ P2 x0 x1 x2 x3 x4 x5 ∧ P3 x0 x1 x2 x3 x4 x5 ∧ P4 x0 x1 x2 x3 x4 x5 ∧ P5 x0 x1 x2 x3 x4 x5) (k : ∀ x0 : α0, ∀ x1 : α1, ∀ x2 : α2, ∀ x3 : α3, ∀ x4 : α4, ∀ x5 : α5, P0 x0 x1 x2 x3 x4 x5 → P1 x0 x1 x2 x3 x4 x5 → P2 x0 x1 x2 x3 x4 x5 → P3 x0 x1 x2 x3 x4 x5 → P4 x0 x1 x2 x3 x4 x5 → P5 x0 x1 x2 x3 x4 x5 → G (X0 x0 x1 x2 x3 x4 x5) (X1 x0 x1 x2 x3 x4 x5)) : G r0 r1 :=
  Exists.elim h fun x0 h1 => Exists.elim h1 fun x1 h2 => Exists.elim h2 fun x2 h3 => Exists.elim h3 fun x3 h4 => Exists.elim h4 fun x4 h5 => Exists.elim h5 fun x5 h6 => Eq.mpr (congrArg (fun r => G r r1) h6.1) (Eq.mpr (congrArg (fun r => G (X0 x0 x1 x2 x3 x4 x5) r) h6.2.2.1) (k x0 x1 x2 x3 x4 x5 h6.2.1 h6.2.2.2.1 h6.2.2.2.2.1 h6.2.2.2.2.2.1 h6.2.2.2.2.2.2.1 h6.2.2.2.2.2.2.2))
theorem el_AAAEEEEEEERBBAAAA {P0 : Prop} {P1 : Prop} {P2 : Prop} {α0 : Type} {α1 : Type} {α2 : Type} {α3 : Type} {α4 : Type} {α5 : Type} {α6 : Type} {ρ0 : Type} {X0 : α0 → α1 → α2 → α3 → α4 → α5 → α6 → ρ0} {r0 : ρ0} {β1 : Type} {Q0 : α0 → α1 → α2 → α3 → α4 → α5 → α6 → β1 → Prop} {β2 : Type} {Q1 : α0 → α1 → α2 → α3 → α4 → α5 → α6 → β2 → Prop} {P3 : α0 → α1 → α2 → α3 → α4 → α5 → α6 → Prop} {P4 : α0 → α1 → α2 → α3 → α4 → α5 → α6 → Prop} {P5 : α0 → α1 → α2 → α3 → α4 → α5 → α6 → Prop} {P6 : α0 → α1 → α2 → α3 → α4 → α5 → α6 → Prop} {G : ρ0 → Prop} (h : P0 ∧ P1 ∧ P2 ∧ ∃ x0, ∃ x1, ∃ x2, ∃ x3, ∃ x4, ∃ x5, ∃ x6, r0 = X0 x0 x1 x2 x3 x4 x5 x6 ∧ (∃ v, Q0 x0 x1 x2 x3 x4 x5 x6 v) ∧ (∃ v, Q1 x0 x1 x2 x3 x4 x5 x6 v) ∧ P3 x0 x1 x2 x3 x4 x5 x6 ∧ P4 x0 x1 x2 x3 x4 x5 x6 ∧ P5 x0 x1 x2 x3 x4 x5 x6 ∧ P6 x0 x1 x2 x3 x4 x5 x6) (k : P0 → P1 → P2 → ∀ x0 : α0, ∀ x1 : α1, ∀ x2 : α2, ∀ x3 : α3, ∀ x4 : α4, ∀ x5 : α5, ∀ x6 : α6, ∀ v, Q0 x0 x1 x2 x3 x4 x5 x6 v → ∀ v, Q1 x0 x1 x2 x3 x4 x5 x6 v → P3 x0 x1 x2 x3 x4 x5 x6 → P4 x0 x1 x2 x3 x4 x5 x6 → P5 x0 x1 x2 x3 x4 x5 x6 → P6 x0 x1 x2 x3 x4 x5 x6 → G (X0 x0 x1 x2 x3 x4 x5 x6)) : G r0 :=
  Exists.elim h.2.2.2 fun x0 h1 => Exists.elim h1 fun x1 h2 => Exists.elim h2 fun x2 h3 => Exists.elim h3 fun x3 h4 => Exists.elim h4 fun x4 h5 => Exists.elim h5 fun x5 h6 => Exists.elim h6 fun x6 h7 => Exists.elim h7.2.1 fun v1 q1 => Exists.elim h7.2.2.1 fun v2 q2 => Eq.mpr (congrArg G h7.1) (k h.1 h.2.1 h.2.2.1 x0 x1 x2 x3 x4 x5 x6 v1 q1 v2 q2 h7.2.2.2.1 h7.2.2.2.2.1 h7.2.2.2.2.2.1 h7.2.2.2.2.2.2)
theorem el_EEEEEEEAAAAAAAAAAA {α0 : Type} {α1 : Type} {α2 : Type} {α3 : Type} {α4 : Type} {α5 : Type} {α6 : Type} {P0 : α0 → α1 → α2 → α3 → α4 → α5 → α6 → Prop} {P1 : α0 → α1 → α2 → α3 → α4 → α5 → α6 → Prop} {P2 : α0 → α1 → α2 → α3 → α4 → α5 → α6 → Prop} {P3 : α0 → α1 → α2 → α3 → α4 → α5 → α6 → Prop} {P4 : α0 → α1 → α2 → α3 → α4 → α5 → α6 → Prop} {P5 : α0 → α1 → α2 → α3 → α4 → α5 → α6 → Prop} {P6 : α0 → α1 → α2 → α3 → α4 → α5 → α6 → Prop} {P7 : α0 → α1 → α2 → α3 → α4 → α5 → α6 → Prop} {P8 : α0 → α1 → α2 → α3 → α4 → α5 → α6 → Prop} {P9 : α0 → α1 → α2 → α3 → α4 → α5 → α6 → Prop} {P10 : α0 → α1 → α2 → α3 → α4 → α5 → α6 → Prop} {G : Prop} (h : ∃ x0, ∃ x1, ∃ x2, ∃ x3, ∃ x4, ∃ x5, ∃ x6, P0 x0 x1 x2 x3 x4 x5 x6 ∧ P1 x0 x1 x2 x3 x4 x5 x6 ∧ P2 x0 x1 x2 x3 x4 x5 x6 ∧ P3 x0 x1 x2 x3 x4 x5 x6 ∧ P4 x0 x1 x2 x3 x4 x5 x6 ∧ P5 x0 x1 x2 x3 x4 x5 x6 ∧ P6 x0 x1 x2 x3 x4 x5 x6 ∧ P7 x0 x1 x2 x3 x4 x5 x6 ∧ P8 x0 x1 x2 x3 x4 x5 x6 ∧ P9 x0 x1 x2 x3 x4 x5 x6 ∧ P10 x0 x1 x2 x3 x4 x5 x6) (k : ∀ x0 : α0, ∀ x1 : α1, ∀ x2 : α2, ∀ x3 : α3, ∀ x4 : α4, ∀ x5 : α5, ∀ x6 : α6, P0 x0 x1 x2 x3 x4 x5 x6 → P1 x0 x1 x2 x3 x4 x5 x6 → P2 x0 x1 x2 x3 x4 x5 x6 → P3 x0 x1 x2 x3 x4 x5 x6 → P4 x0 x1 x2 x3 x4 x5 x6 → P5 x0 x1 x2 x3 x4 x5 x6 → P6 x0 x1 x2 x3 x4 x5 x6 → P7 x0 x1 x2 x3 x4 x5 x6 → P8 x0 x1 x2 x3 x4 x5 x6 → P9 x0 x1 x2 x3 x4 x5 x6 → P10 x0 x1 x2 x3 x4 x5 x6 → G) : G :=
  Exists.elim h fun x0 h1 => Exists.elim h1 fun x1 h2 => Exists.elim h2 fun x2 h3 => Exists.elim h3 fun x3 h4 => Exists.elim h4 fun x4 h5 => Exists.elim h5 fun x5 h6 => Exists.elim h6 fun x6 h7 => k x0 x1 x2 x3 x4 x5 x6 h7.1 h7.2.1 h7.2.2.1 h7.2.2.2.1 h7.2.2.2.2.1 h7.2.2.2.2.2.1 h7.2.2.2.2.2.2.1 h7.2.2.2.2.2.2.2.1 h7.2.2.2.2.2.2.2.2.1 h7.2.2.2.2.2.2.2.2.2.1 h7.2.2.2.2.2.2.2.2.2.2
theorem el_EEEEEEEEERARAAAAAAA {α0 : Type} {α1 : Type} {α2 : Type} {α3 : Type} {α4 : Type} {α5 : Type} {α6 : Type} {α7 : Type} {α8 : Type} {ρ0 : Type} {X0 : α0 → α1 → α2 → α3 → α4 → α5 → α6 → α7 → α8 → ρ0} {r0 : ρ0} {P0 : α0 → α1 → α2 → α3 → α4 → α5 → α6 → α7 → α8 → Prop} {ρ1 : Type} {X1 : α0 → α1 → α2 → α3 → α4 → α5 → α6 → α7 → α8 → ρ1} {r1 : ρ1} {P1 : α0 → α1 → α2 → α3 → α4 → α5 → α6 → α7 → α8 → Prop} {P2 : α0 → α1 → α2 → α3 → α4 → α5 → α6 → α7 → α8 → Prop} {P3 : α0 → α1 → α2 → α3 → α4 → α5 → α6 → α7 → α8 → Prop} {P4 : α0 → α1 → α2 → α3 → α4 → α5 → α6 → α7 → α8 → Prop} {P5 : α0 → α1 → α2 → α3 → α4 → α5 → α6 → α7 → α8 → Prop} {P6 : α0 → α1 → α2 → α3 → α4 → α5 → α6 → α7 → α8 → Prop} {P7 : α0 → α1 → α2 → α3 → α4 → α5 → α6 → α7 → α8 → Prop} {G : ρ0 → ρ1 → Prop} (h : ∃ x0, ∃ x1, ∃ x2, ∃ x3, ∃ x4, ∃ x5, ∃ x6, ∃ x7, ∃ x8, r0 = X0 x0 x1 x2 x3 x4 x5 x6 x7 x8 ∧ P0 x0 x1 x2 x3 x4 x5 x6 x7 x8 ∧ r1 = X1 x0 x1 x2 x3 x4 x5 x6 x7 x8 ∧ P1 x0 x1 x2 x3 x4 x5 x6 x7 x8 ∧ P2 x0 x1 x2 x3 x4 x5 x6 x7 x8 ∧ P3 x0 x1 x2 x3 x4 x5 x6 x7 x8 ∧ P4 x0 x1 x2 x3 x4 x5 x6 x7 x8 ∧ P5 x0 x1 x2 x3 x4 x5 x6 x7 x8 ∧ P6 x0 x1 x2 x3 x4 x5 x6 x7 x8 ∧ P7 x0 x1 x2 x3 x4 x5 x6 x7 x8) (k : ∀ x0 : α0, ∀ x1 : α1, ∀ x2 : α2, ∀ x3 : α3, ∀ x4 : α4, ∀ x5 : α5, ∀ x6 : α6, ∀ x7 : α7, ∀ x8 : α8, P0 x0 x1 x2 x3 x4 x5 x6 x7 x8 → P1 x0 x1 x2 x3 x4 x5 x6 x7 x8 → P2 x0 x1 x2 x3 x4 x5 x6 x7 x8 → P3 x0 x1 x2 x3 x4 x5 x6 x7 x8 → P4 x0 x1 x2 x3 x4 x5 x6 x7 x8 → P5 x0 x1 x2 x3 x4 x5 x6 x7 x8 → P6 x0 x1 x2 x3 x4 x5 x6 x7 x8 → P7 x0 x1 x2 x3 x4 x5 x6 x7 x8 → G (X0 x0 x1 x2 x3 x4 x5 x6 x7 x8) (X1 x0 x1 x2 x3 x4 x5 x6 x7 x8)) : G r0 r1 :=
  Exists.elim h fun x0 h1 => Exists.elim h1 fun x1 h2 => Exists.elim h2 fun x2 h3 => Exists.elim h3 fun x3 h4 => Exists.elim h4 fun x4 h5 => Exists.elim h5 fun x5 h6 => Exists.elim h6 fun x6 h7 => Exists.elim h7 fun x7 h8 => Exists.elim h8 fun x8 h9 => Eq.mpr (congrArg (fun r => G r r1) h9.1) (Eq.mpr (congrArg (fun r => G (X0 x0 x1 x2 x3 x4 x5 x6 x7 x8) r) h9.2.2.1) (k x0 x1 x2 x3 x4 x5 x6 x7 x8 h9.2.1 h9.2.2.2.1 h9.2.2.2.2.1 h9.2.2.2.2.2.1 h9.2.2.2.2.2.2.1 h9.2.2.2.2.2.2.2.1 h9.2.2.2.2.2.2.2.2.1 h9.2.2.2.2.2.2.2.2.2))

-- HD
/-- the top's statements that the view keeps, by their places -/
noncomputable def pickS : List Nat → List Stmt → List Stmt
  | [], _ => []
  | i :: r, l => (match l[i]? with | some s => s :: pickS r l | none => pickS r l)
noncomputable def view : Program := { PySem.Challenge.pw_tl0014_01 with main := { PySem.Challenge.pw_tl0014_01.main with body := pickS [1,2,3,4,5,6,7,9,10,12,13,14,15,17,18,19,20,21,22,23] PySem.Challenge.pw_tl0014_01.main.body } }
noncomputable def nthS : Nat → List Stmt → Stmt
  | _, [] => default
  | 0, s :: _ => s
  | n + 1, _ :: r => nthS n r
/-- the function object that the i-th statement makes -/
noncomputable def fnO (i : Nat) (pm code : Value) : Obj :=
  match nthS i PySem.Challenge.pw_tl0014_01.main.body with
  | .FunctionDef name params body _ _ _ scope _ _ _ => { cls := Value.type "function", data := Data.func { name := name, qualname := name, params := params, body := .stmts body, scope := scope, globals := 3, closure := [], defaults := .none, kwdefaults := .none, pyModule := pm, code := code } }
  | _ => default
noncomputable def heapK : Params → Frag := fun P =>
  (nat_lit 2, { cls := Value.none, data := Data.dict #[] }) ::
  (nat_lit 3, { cls := Value.type "dict", data := Data.dict #[{ hash := PyData.keyHash P (Str.ofString "__name__"), key := Value.str (Str.ofString "__name__") 165, val := Value.str (Str.ofString "law_tl0014_01") 340 }, { hash := PyData.keyHash P (Str.ofString "__doc__"), key := Value.str (Str.ofString "__doc__") 166, val := Value.none }, { hash := PyData.keyHash P (Str.ofString "__package__"), key := Value.str (Str.ofString "__package__") 167, val := Value.none }, { hash := PyData.keyHash P (Str.ofString "__loader__"), key := Value.str (Str.ofString "__loader__") 168, val := Value.builtin "__main__.__loader__#opaque" }, { hash := PyData.keyHash P (Str.ofString "__spec__"), key := Value.str (Str.ofString "__spec__") 169, val := Value.none }, { hash := PyData.keyHash P (Str.ofString "__annotations__"), key := Value.str (Str.ofString "__annotations__") 170, val := Value.ref 6 }, { hash := PyData.keyHash P (Str.ofString "__builtins__"), key := Value.str (Str.ofString "__builtins__") 171, val := Value.ref 4 }, { hash := PyData.keyHash P (Str.ofString "__file__"), key := Value.str (Str.ofString "__file__") 173, val := Value.str (Str.ofString "/claim/cut.py") 172 }, { hash := PyData.keyHash P (Str.ofString "__cached__"), key := Value.str (Str.ofString "__cached__") 174, val := Value.none }, { hash := PyData.keyHash P (Str.ofString "_DIV_LIMIT"), key := Value.str (Str.ofString "_DIV_LIMIT") 190, val := Value.int 4000 189 }, { hash := PyData.keyHash P (Str.ofString "_div2n1n"), key := Value.str (Str.ofString "_div2n1n") 207, val := Value.ref 21 }, { hash := PyData.keyHash P (Str.ofString "_div3n2n"), key := Value.str (Str.ofString "_div3n2n") 221, val := Value.ref 28 }, { hash := PyData.keyHash P (Str.ofString "_int2digits"), key := Value.str (Str.ofString "_int2digits") 232, val := Value.ref 35 }, { hash := PyData.keyHash P (Str.ofString "_digits2int"), key := Value.str (Str.ofString "_digits2int") 243, val := Value.ref 42 }, { hash := PyData.keyHash P (Str.ofString "_divmod_pos"), key := Value.str (Str.ofString "_divmod_pos") 258, val := Value.ref 49 }, { hash := PyData.keyHash P (Str.ofString "int_divmod"), key := Value.str (Str.ofString "int_divmod") 268, val := Value.ref 56 }, { hash := PyData.keyHash P (Str.ofString "rgb_to_hsv"), key := Value.str (Str.ofString "rgb_to_hsv") 288, val := Value.ref 63 }, { hash := PyData.keyHash P (Str.ofString "hsv_to_rgb"), key := Value.str (Str.ofString "hsv_to_rgb") 302, val := Value.ref 70 }, { hash := PyData.keyHash P (Str.ofString "add"), key := Value.str (Str.ofString "add") 312, val := Value.ref 77 }, { hash := PyData.keyHash P (Str.ofString "mul"), key := Value.str (Str.ofString "mul") 320, val := Value.ref 84 }, { hash := PyData.keyHash P (Str.ofString "concat"), key := Value.str (Str.ofString "concat") 329, val := Value.ref 91 }, { hash := PyData.keyHash P (Str.ofString "countOf"), key := Value.str (Str.ofString "countOf") 339, val := Value.ref 98 }, { hash := PyData.keyHash P (Str.ofString "_law_whole"), key := Value.str (Str.ofString "_law_whole") 348, val := Value.ref 105 }, { hash := PyData.keyHash P (Str.ofString "_law_words"), key := Value.str (Str.ofString "_law_words") 354, val := Value.ref 110 }, { hash := PyData.keyHash P (Str.ofString "_law_steps"), key := Value.str (Str.ofString "_law_steps") 364, val := Value.ref 117 }, { hash := PyData.keyHash P (Str.ofString "_law_often"), key := Value.str (Str.ofString "_law_often") 374, val := Value.ref 124 }, { hash := PyData.keyHash P (Str.ofString "_law_paints"), key := Value.str (Str.ofString "_law_paints") 380, val := Value.ref 129 }, { hash := PyData.keyHash P (Str.ofString "_law_mix"), key := Value.str (Str.ofString "_law_mix") 386, val := Value.ref 134 }, { hash := PyData.keyHash P (Str.ofString "law"), key := Value.str (Str.ofString "law") 392, val := Value.ref 139 }] 29 }) ::
  (nat_lit 20, { cls := Value.type "code", data := Data.fields #[Value.str (Str.ofString "_div2n1n") 191, Value.str (Str.ofString "_div2n1n") 192, Value.str (Str.ofString "/claim/cut.py") 193, Value.int 3 0, Value.int 3 0, Value.int 0 0, Value.int 0 0, Value.int 3 0, Value.ref 15, Value.bool true, Value.int 181 0, Value.ref 16, Value.none, Value.ref 17, Value.ref 18, Value.ref 19, Value.int 205 0, Value.int 3 0, Value.str (Str.ofString "/claim/cut.py") 206] }) ::
  (nat_lit 21, fnO 2 (Value.str (Str.ofString "cpy313._pylong") 187) (Value.ref 20)) ::
  (nat_lit 27, { cls := Value.type "code", data := Data.fields #[Value.str (Str.ofString "_div3n2n") 208, Value.str (Str.ofString "_div3n2n") 209, Value.str (Str.ofString "/claim/cut.py") 210, Value.int 19 0, Value.int 6 0, Value.int 0 0, Value.int 0 0, Value.int 3 0, Value.ref 22, Value.bool true, Value.int 181 0, Value.ref 23, Value.none, Value.ref 24, Value.ref 25, Value.ref 26, Value.int 219 0, Value.int 19 0, Value.str (Str.ofString "/claim/cut.py") 220] }) ::
  (nat_lit 28, fnO 3 (Value.str (Str.ofString "cpy313._pylong") 187) (Value.ref 27)) ::
  (nat_lit 34, { cls := Value.type "code", data := Data.fields #[Value.str (Str.ofString "_int2digits") 222, Value.str (Str.ofString "_int2digits") 223, Value.str (Str.ofString "/claim/cut.py") 224, Value.int 29 0, Value.int 2 0, Value.int 0 0, Value.int 0 0, Value.int 3 0, Value.ref 29, Value.bool true, Value.int 181 0, Value.ref 30, Value.none, Value.ref 31, Value.ref 32, Value.ref 33, Value.int 230 0, Value.int 29 0, Value.str (Str.ofString "/claim/cut.py") 231] }) ::
  (nat_lit 35, fnO 4 (Value.str (Str.ofString "cpy313._pylong") 187) (Value.ref 34)) ::
  (nat_lit 41, { cls := Value.type "code", data := Data.fields #[Value.str (Str.ofString "_digits2int") 233, Value.str (Str.ofString "_digits2int") 234, Value.str (Str.ofString "/claim/cut.py") 235, Value.int 45 0, Value.int 2 0, Value.int 0 0, Value.int 0 0, Value.int 3 0, Value.ref 36, Value.bool true, Value.int 181 0, Value.ref 37, Value.none, Value.ref 38, Value.ref 39, Value.ref 40, Value.int 241 0, Value.int 45 0, Value.str (Str.ofString "/claim/cut.py") 242] }) ::
  (nat_lit 42, fnO 5 (Value.str (Str.ofString "cpy313._pylong") 187) (Value.ref 41)) ::
  (nat_lit 48, { cls := Value.type "code", data := Data.fields #[Value.str (Str.ofString "_divmod_pos") 244, Value.str (Str.ofString "_divmod_pos") 245, Value.str (Str.ofString "/claim/cut.py") 246, Value.int 54 0, Value.int 2 0, Value.int 0 0, Value.int 0 0, Value.int 3 0, Value.ref 43, Value.bool true, Value.int 181 0, Value.ref 44, Value.none, Value.ref 45, Value.ref 46, Value.ref 47, Value.int 256 0, Value.int 54 0, Value.str (Str.ofString "/claim/cut.py") 257] }) ::
  (nat_lit 49, fnO 6 (Value.str (Str.ofString "cpy313._pylong") 187) (Value.ref 48)) ::
  (nat_lit 55, { cls := Value.type "code", data := Data.fields #[Value.str (Str.ofString "int_divmod") 259, Value.str (Str.ofString "int_divmod") 260, Value.str (Str.ofString "/claim/cut.py") 261, Value.int 65 0, Value.int 2 0, Value.int 0 0, Value.int 0 0, Value.int 3 0, Value.ref 50, Value.bool true, Value.int 181 0, Value.ref 51, Value.none, Value.ref 52, Value.ref 53, Value.ref 54, Value.int 266 0, Value.int 65 0, Value.str (Str.ofString "/claim/cut.py") 267] }) ::
  (nat_lit 56, fnO 7 (Value.str (Str.ofString "cpy313._pylong") 187) (Value.ref 55)) ::
  (nat_lit 62, { cls := Value.type "code", data := Data.fields #[Value.str (Str.ofString "rgb_to_hsv") 271, Value.str (Str.ofString "rgb_to_hsv") 272, Value.str (Str.ofString "/claim/cut.py") 273, Value.int 77 0, Value.int 3 0, Value.int 0 0, Value.int 0 0, Value.int 3 0, Value.ref 57, Value.bool true, Value.int 181 0, Value.ref 58, Value.none, Value.ref 59, Value.ref 60, Value.ref 61, Value.int 286 0, Value.int 77 0, Value.str (Str.ofString "/claim/cut.py") 287] }) ::
  (nat_lit 63, fnO 9 (Value.str (Str.ofString "cpy313.colorsys") 269) (Value.ref 62)) ::
  (nat_lit 69, { cls := Value.type "code", data := Data.fields #[Value.str (Str.ofString "hsv_to_rgb") 289, Value.str (Str.ofString "hsv_to_rgb") 290, Value.str (Str.ofString "/claim/cut.py") 291, Value.int 96 0, Value.int 3 0, Value.int 0 0, Value.int 0 0, Value.int 3 0, Value.ref 64, Value.bool true, Value.int 181 0, Value.ref 65, Value.none, Value.ref 66, Value.ref 67, Value.ref 68, Value.int 300 0, Value.int 96 0, Value.str (Str.ofString "/claim/cut.py") 301] }) ::
  (nat_lit 70, fnO 10 (Value.str (Str.ofString "cpy313.colorsys") 269) (Value.ref 69)) ::
  (nat_lit 76, { cls := Value.type "code", data := Data.fields #[Value.str (Str.ofString "add") 305, Value.str (Str.ofString "add") 306, Value.str (Str.ofString "/claim/cut.py") 307, Value.int 118 0, Value.int 2 0, Value.int 0 0, Value.int 0 0, Value.int 3 0, Value.ref 71, Value.bool true, Value.int 181 0, Value.ref 72, Value.none, Value.ref 73, Value.ref 74, Value.ref 75, Value.int 310 0, Value.int 118 0, Value.str (Str.ofString "/claim/cut.py") 311] }) ::
  (nat_lit 77, fnO 12 (Value.str (Str.ofString "cpy313.operator") 303) (Value.ref 76)) ::
  (nat_lit 83, { cls := Value.type "code", data := Data.fields #[Value.str (Str.ofString "mul") 313, Value.str (Str.ofString "mul") 314, Value.str (Str.ofString "/claim/cut.py") 315, Value.int 120 0, Value.int 2 0, Value.int 0 0, Value.int 0 0, Value.int 3 0, Value.ref 78, Value.bool true, Value.int 181 0, Value.ref 79, Value.none, Value.ref 80, Value.ref 81, Value.ref 82, Value.int 318 0, Value.int 120 0, Value.str (Str.ofString "/claim/cut.py") 319] }) ::
  (nat_lit 84, fnO 13 (Value.str (Str.ofString "cpy313.operator") 303) (Value.ref 83)) ::
  (nat_lit 90, { cls := Value.type "code", data := Data.fields #[Value.str (Str.ofString "concat") 321, Value.str (Str.ofString "concat") 322, Value.str (Str.ofString "/claim/cut.py") 323, Value.int 122 0, Value.int 2 0, Value.int 0 0, Value.int 0 0, Value.int 3 0, Value.ref 85, Value.bool true, Value.int 181 0, Value.ref 86, Value.none, Value.ref 87, Value.ref 88, Value.ref 89, Value.int 327 0, Value.int 122 0, Value.str (Str.ofString "/claim/cut.py") 328] }) ::
  (nat_lit 91, fnO 14 (Value.str (Str.ofString "cpy313.operator") 303) (Value.ref 90)) ::
  (nat_lit 97, { cls := Value.type "code", data := Data.fields #[Value.str (Str.ofString "countOf") 330, Value.str (Str.ofString "countOf") 331, Value.str (Str.ofString "/claim/cut.py") 332, Value.int 127 0, Value.int 2 0, Value.int 0 0, Value.int 0 0, Value.int 3 0, Value.ref 92, Value.bool true, Value.int 181 0, Value.ref 93, Value.none, Value.ref 94, Value.ref 95, Value.ref 96, Value.int 337 0, Value.int 127 0, Value.str (Str.ofString "/claim/cut.py") 338] }) ::
  (nat_lit 98, fnO 15 (Value.str (Str.ofString "cpy313.operator") 303) (Value.ref 97)) ::
  (nat_lit 104, { cls := Value.type "code", data := Data.fields #[Value.str (Str.ofString "_law_whole") 342, Value.str (Str.ofString "_law_whole") 343, Value.str (Str.ofString "/claim/cut.py") 344, Value.int 134 0, Value.int 1 0, Value.int 0 0, Value.int 0 0, Value.int 3 0, Value.ref 99, Value.bool true, Value.int 181 0, Value.ref 100, Value.none, Value.ref 101, Value.ref 102, Value.ref 103, Value.int 346 0, Value.int 134 0, Value.str (Str.ofString "/claim/cut.py") 347] }) ::
  (nat_lit 105, fnO 17 (Value.str (Str.ofString "law_tl0014_01") 340) (Value.ref 104)) ::
  (nat_lit 109, { cls := Value.type "code", data := Data.fields #[Value.str (Str.ofString "_law_words") 349, Value.str (Str.ofString "_law_words") 350, Value.str (Str.ofString "/claim/cut.py") 351, Value.int 136 0, Value.int 1 0, Value.int 0 0, Value.int 0 0, Value.int 3 0, Value.ref 106, Value.bool true, Value.int 181 0, Value.ref 107, Value.none, Value.none, Value.none, Value.ref 108, Value.int 352 0, Value.int 136 0, Value.str (Str.ofString "/claim/cut.py") 353] }) ::
  (nat_lit 110, fnO 18 (Value.str (Str.ofString "law_tl0014_01") 340) (Value.ref 109)) ::
  (nat_lit 116, { cls := Value.type "code", data := Data.fields #[Value.str (Str.ofString "_law_steps") 355, Value.str (Str.ofString "_law_steps") 356, Value.str (Str.ofString "/claim/cut.py") 357, Value.int 141 0, Value.int 2 0, Value.int 0 0, Value.int 0 0, Value.int 3 0, Value.ref 111, Value.bool true, Value.int 181 0, Value.ref 112, Value.none, Value.ref 113, Value.ref 114, Value.ref 115, Value.int 362 0, Value.int 141 0, Value.str (Str.ofString "/claim/cut.py") 363] }) ::
  (nat_lit 117, fnO 19 (Value.str (Str.ofString "law_tl0014_01") 340) (Value.ref 116)) ::
  (nat_lit 123, { cls := Value.type "code", data := Data.fields #[Value.str (Str.ofString "_law_often") 365, Value.str (Str.ofString "_law_often") 366, Value.str (Str.ofString "/claim/cut.py") 367, Value.int 146 0, Value.int 2 0, Value.int 0 0, Value.int 0 0, Value.int 3 0, Value.ref 118, Value.bool true, Value.int 181 0, Value.ref 119, Value.none, Value.ref 120, Value.ref 121, Value.ref 122, Value.int 372 0, Value.int 146 0, Value.str (Str.ofString "/claim/cut.py") 373] }) ::
  (nat_lit 124, fnO 20 (Value.str (Str.ofString "law_tl0014_01") 340) (Value.ref 123)) ::
  (nat_lit 128, { cls := Value.type "code", data := Data.fields #[Value.str (Str.ofString "_law_paints") 375, Value.str (Str.ofString "_law_paints") 376, Value.str (Str.ofString "/claim/cut.py") 377, Value.int 151 0, Value.int 3 0, Value.int 0 0, Value.int 0 0, Value.int 3 0, Value.ref 125, Value.bool true, Value.int 181 0, Value.ref 126, Value.none, Value.none, Value.none, Value.ref 127, Value.int 378 0, Value.int 151 0, Value.str (Str.ofString "/claim/cut.py") 379] }) ::
  (nat_lit 129, fnO 21 (Value.str (Str.ofString "law_tl0014_01") 340) (Value.ref 128)) ::
  (nat_lit 133, { cls := Value.type "code", data := Data.fields #[Value.str (Str.ofString "_law_mix") 381, Value.str (Str.ofString "_law_mix") 382, Value.str (Str.ofString "/claim/cut.py") 383, Value.int 160 0, Value.int 3 0, Value.int 0 0, Value.int 0 0, Value.int 3 0, Value.ref 130, Value.bool true, Value.int 181 0, Value.ref 131, Value.none, Value.none, Value.none, Value.ref 132, Value.int 384 0, Value.int 160 0, Value.str (Str.ofString "/claim/cut.py") 385] }) ::
  (nat_lit 134, fnO 22 (Value.str (Str.ofString "law_tl0014_01") 340) (Value.ref 133)) ::
  (nat_lit 138, { cls := Value.type "code", data := Data.fields #[Value.str (Str.ofString "law") 387, Value.str (Str.ofString "law") 388, Value.str (Str.ofString "/claim/cut.py") 389, Value.int 166 0, Value.int 1 0, Value.int 0 0, Value.int 0 0, Value.int 3 0, Value.ref 135, Value.bool true, Value.int 181 0, Value.ref 136, Value.none, Value.none, Value.none, Value.ref 137, Value.int 390 0, Value.int 166 0, Value.str (Str.ofString "/claim/cut.py") 391] }) ::
  (nat_lit 139, fnO 23 (Value.str (Str.ofString "law_tl0014_01") 340) (Value.ref 138)) :: []
noncomputable def heapA : List Addr := [2, 3, 20, 21, 27, 28, 34, 35, 41, 42, 48, 49, 55, 56, 62, 63, 69, 70, 76, 77, 83, 84, 90, 91, 97, 98, 104, 105, 109, 110, 116, 117, 123, 124, 128, 129, 133, 134, 138, 139]
theorem heapA_at : ∀ P, heapA = (heapK P).map (·.1) := fun _ => rfl
noncomputable abbrev hookK : Hook := kmHook heapK heapA heapA_at [37, 30]
abbrev rowM : OpenRow := PySem.Challenge.rw_tl0014_01.row
theorem top_ok : LeftO rowM.prog view [] (fun s => xlAt view [] s && recOk (RowW.records rowM.toRowW) s) hookK.obs hookK.val 1428 := by
  intro w
  kernel_rfl
theorem row_said2 : PySem.Challenge.rw_tl0014_01.row.wellSaid = true := by
  unfold OpenRow.wellSaid OpenRow.partSaid looksOpen
  refine (look_both (look_both (look_both (look_both (look_both (look_both (look_both (look_both (look_both (look_both (look_both (look_both (look_both (look_both (look_both (look_both (look_both (look_both (look_both (look_both ?_ ?_) ?_) ?_) ?_) ?_) ?_) ?_) ?_) ?_) ?_) ?_) ?_) ?_) ?_) ?_) ?_) ?_) ?_) ?_) ?_) <;> decide +kernel
theorem law_said : PySem.Challenge.rw_tl0014_01.wellSaid = true := by
  unfold OpenLaw.wellSaid
  refine (look_both (look_both (look_both (look_both (look_both (look_both (look_both (look_both (look_both (look_both (look_both (look_both (look_both (look_both (look_both (look_both (look_both (look_both ?_ ?_) ?_) ?_) ?_) ?_) ?_) ?_) ?_) ?_) ?_) ?_) ?_) ?_) ?_) ?_) ?_) ?_) ?_)
  · exact row_said2
  all_goals decide +kernel
theorem row_prom : rowM.toRowW.promised := by w_witness2
theorem row_bare : rowM.prog.bare := ⟨rfl, rfl, rfl, rfl, rfl, by decide +kernel⟩
theorem row_ok : (chainsOk view && opensWell rowM.prog && (frees rowM.toRowW && rowM.within.isEmpty)) = true := by kernel_rfl
theorem row_wr : (!rowM.writes || rowM.records.isEmpty) = true := by kernel_rfl

-- G0
noncomputable abbrev Led := List (Addr × Obj)
section iters
variable {prog : Program} {w : World} {A : Around}

/-- an iterator at I that hands on n items; its state is the object St i; it reads Src -/
structure It (prog : Program) (w : World) (A : Around) (I : Addr) (n : Nat) (P : Nat → Nat → Nat → Value → Prop) (St : Nat → Obj → Prop) (Src : Heap → Prop) : Prop where
  item : ∀ i o (s : Shared) (Q : Option Value → Shared → Prop) (E : Value → Shared → Prop), i < n → s.heap.get? I = some o → St i o → Src s.heap →
    (∀ v o' h' tk, P i s.toks tk v → s.toks ≤ tk → h'.get? I = some o' → St (i + 1) o' → (∀ b ob, b ≠ I → s.heap.get? b = some ob → h'.get? b = some ob) → Q (some v) { s with heap := h', toks := tk }) →
    wpAny (model prog w) A (pyNext (.ref I)) Q E s
  done : ∀ o (s : Shared) (Q : Option Value → Shared → Prop) (E : Value → Shared → Prop), s.heap.get? I = some o → St n o → Src s.heap →
    (∀ h' tk, (∀ b ob, b ≠ I → s.heap.get? b = some ob → h'.get? b = some ob) → Q none { s with heap := h', toks := tk }) → wpAny (model prog w) A (pyNext (.ref I)) Q E s
  self : ∀ i o (s : Shared) (Q : Value → Shared → Prop) (E : Value → Shared → Prop), s.heap.get? I = some o → St i o → Src s.heap → Q (.ref I) s → wpAny (model prog w) A (pyIter (.ref I)) Q E s

theorem It.of_walks {I : Addr} {n : Nat} {fp : List Addr} {P : Nat → Value → Prop} {StH : Nat → Heap → Prop} (W : Walks prog w A I fp [I] n P StH) {St : Nat → Obj → Prop} {Src : Heap → Prop}
    (to : ∀ i h o, h.get? I = some o → St i o → Src h → StH i h) (fr : ∀ i h, StH i h → ∃ o, h.get? I = some o ∧ St i o) : It prog w A I n (fun i _ _ v => P i v) St Src where
  item := fun i o s Q E hi ho hs hsrc hQ => wpAny_with_toks (Nat.le_refl _) (W.item i s _ _ hi (to i _ o ho hs hsrc) fun v h' tk hP hst hk htk => by
    obtain ⟨o', ho', hs'⟩ := fr _ _ hst
    exact hQ v o' h' tk hP htk ho' hs' fun b ob hb e => hk b ob (by simpa using hb) e)
  done := fun o s Q E ho hs hsrc hQ => W.done s Q E (to n _ o ho hs hsrc) fun h' tk hk => hQ h' tk fun b ob hb e => hk b ob (by simpa using hb) e
  self := fun i o s Q E ho hs hsrc hQ => W.self i s Q E (to i _ o ho hs hsrc) hQ

noncomputable def StList (ax : Addr) (i : Nat) (o : Obj) : Prop := o.cls = .type "list_iterator" ∧ o.data = .fields #[.ref ax, .int i 0]
noncomputable def StTup (ax : Addr) (i : Nat) (o : Obj) : Prop := o.cls = .type "tuple_iterator" ∧ o.data = .fields #[.ref ax, .int i 0]
noncomputable def StRange (a : Int) (n : Nat) (i : Nat) (o : Obj) : Prop := o = { cls := .type "range_iterator", dict := none, data := .fields #[rawInt (a + (i : Int)), rawInt ((n : Int) - (i : Int)), rawInt 1], slots := #[] }
noncomputable def StRev (ax : Addr) (n : Nat) (i : Nat) (o : Obj) : Prop := i ≤ n ∧ o.cls = .type "list_reverseiterator" ∧ o.data = .fields #[.ref ax, rawInt ((n : Int) - 1 - (i : Int))]

theorem it_list (hh : A.handled = none) {I ax : Addr} (hne : ax ≠ I) (items : Array Value) :
    It prog w A I items.size (fun i _ _ v => items[i]? = some v) (StList ax) (fun h => h.IsList ax items) :=
  It.of_walks (Walks.list hh I ax hne items) (fun i h o ho hs hsrc => ⟨⟨o, ho, hs⟩, hsrc⟩) (fun i h x => by obtain ⟨⟨o, ho, hs⟩, _⟩ := x; exact ⟨o, ho, hs⟩)
theorem it_tup (hh : A.handled = none) {I ax : Addr} (hne : ax ≠ I) (items : Array Value) :
    It prog w A I items.size (fun i _ _ v => items[i]? = some v) (StTup ax) (fun h => h.IsTuple ax items) :=
  It.of_walks (Walks.tuple hh I ax hne items) (fun i h o ho hs hsrc => ⟨⟨o, ho, hs⟩, hsrc⟩) (fun i h x => by obtain ⟨⟨o, ho, hs⟩, _⟩ := x; exact ⟨o, ho, hs⟩)
theorem it_rev (hh : A.handled = none) {I ax : Addr} (hne : ax ≠ I) (items : Array Value) :
    It prog w A I items.size (fun i _ _ v => items[items.size - 1 - i]? = some v) (StRev ax items.size) (fun h => h.IsList ax items) :=
  It.of_walks (Walks.listRev hh I ax hne items) (fun i h o ho hs hsrc => ⟨hs.1, ⟨o, ho, hs.2⟩, hsrc⟩) (fun i h x => by obtain ⟨hi, ⟨o, ho, hs⟩, _⟩ := x; exact ⟨o, ho, hi, hs⟩)
theorem it_range (hh : A.handled = none) (I : Addr) (a : Int) (n : Nat) :
    It prog w A I n (fun i p q v => ∃ t, p ≤ t ∧ t < q ∧ v = .int (a + (i : Int)) t) (StRange a n) (fun _ => True) where
  item := fun i o s Q E hi ho hs _ hQ => by
    have hs' : o = _ := hs
    subst hs'
    refine wpAny_pyNext_range_item (it := I) ho (by omega) fun h' hit' hs' => ?_
    refine hQ _ _ h' _ ⟨s.toks, Nat.le_refl _, Nat.lt_succ_self _, rfl⟩ (Nat.le_succ _) hit' ?_ fun b ob hb e => hs'.extBut b ob hb e
    have e1 : a + ((i + 1 : Nat) : Int) = a + (i : Int) + 1 := by omega
    have e2 : (n : Int) - ((i + 1 : Nat) : Int) = (n : Int) - (i : Int) - 1 := by omega
    unfold StRange
    rw [e1, e2]
  done := fun o s Q E ho hs _ hQ => by
    have hs' : o = _ := hs
    subst hs'
    exact wpAny_pyNext_range_end (it := I) hh ho (by omega) fun h' he' => hQ h' s.toks fun b ob hb e => he' b ob hb e
  self := fun i o s Q E ho hs _ hQ => by
    have hs' : o = _ := hs
    subst hs'
    exact wpAny_pyIter_rangeiter (it := I) ho hQ
end iters

section core
variable {prog : Program} {w : World} {A : Around} {h₀ : Heap} {L : Addr} {m : Str → Option Value}

theorem fr_next {h h₁ : Heap} {I : Addr} {oI oI' : Obj} {led : Led} (F : Fr h₀ L h m) (N : News h₀ L h ((I, oI) :: led)) (hI : h₁.get? I = some oI') (off : ∀ p ∈ led, p.1 ≠ I) (hk : ∀ b ob, b ≠ I → h.get? b = some ob → h₁.get? b = some ob) :
    Fr h₀ L h₁ m ∧ News h₀ L h₁ ((I, oI') :: led) := by
  have z := N (I, oI) (.head _)
  refine ⟨⟨F.ns.at' fun o e => hk _ o (Ne.symm z.2.1) e, fun b o e => hk b o (fun q => ?_) (F.keep b o e), F.above⟩, fun p hp => ?_⟩
  · have := z.2.2; rw [← q, e] at this; cases this
  · rcases List.mem_cons.mp hp with rfl | hp
    · exact ⟨hI, z.2⟩
    · have q := N p (.tail _ hp)
      exact ⟨hk _ _ (off p hp) q.1, q.2⟩

noncomputable def LoopEnd (h₀ : Heap) (L : Addr) (m : Str → Option Value) (s : Shared) (I : Addr) (oI : Obj) (tk : Nat) (J : Nat → Led → Prop) (s' : Shared) : Prop :=
  ∃ h' tk' led', s' = { s with heap := h', toks := tk' } ∧ Fr h₀ L h' m ∧ News h₀ L h' ((I, oI) :: led') ∧ (∀ p ∈ led', p.1 ≠ I) ∧ (tk ≤ tk' → J tk' led')

theorem compCore {elt : Expr} {gens : List Comprehension} {scope : Scope} {pos : Pos} {d : Nat} {I : Addr} {acc : Value} {cenv : Env} {R : Result → Shared → Prop} {n : Nat} {P : Nat → Nat → Nat → Value → Prop} {St : Nat → Obj → Prop} {Src : Heap → Prop} {tail : Value → Sem Fin} {p0 : Pos}
    (W : It prog w A I n P St Src)
    (hT : compTurn (.ListComp elt gens scope pos) d (.ref I) acc cenv = (do
      standAt p0
      match ← pyNext (.ref I) with
      | none => pure (.done .next)
      | some v => tail v))
    (J : Nat → Nat → Led → Prop) {s : Shared} {led : Led} {oI : Obj} (hst : St 0 oI) (F : Fr h₀ L s.heap m) (N : News h₀ L s.heap ((I, oI) :: led)) (off : ∀ p ∈ led, p.1 ≠ I) (hj : J 0 s.toks led)
    (hsrc : ∀ i a led h, J i a led → News h₀ L h led → (∀ b o, h₀.get? b = some o → h.get? b = some o) → Src h)
    (turn : ∀ i v oI led h a tk E', i < n → P i a tk v → a ≤ tk → St (i + 1) oI → J i a led → Fr h₀ L h m → News h₀ L h ((I, oI) :: led) → (∀ p ∈ led, p.1 ≠ I) →
      wpAny (model prog w) A (tail v) (fun fin s' => fin = .again (.compLoop (.ListComp elt gens scope pos) d (.ref I) acc cenv) ∧ LoopEnd h₀ L m s I oI tk (J (i + 1)) s') E' { s with heap := h, toks := tk })
    (done : ∀ led h a tk, a ≤ tk → J n a led → Fr h₀ L h m → News h₀ L h led → (∀ p ∈ led, p.1 ≠ I) → R (.ok .next) { s with heap := h, toks := tk }) :
    codeAny (model prog w) A (.compLoop (.ListComp elt gens scope pos) d (.ref I) acc cenv) R s := by
  refine codeAny_loop rfl (fun k s' => ∃ h tk i oI led, s' = { s with heap := h, toks := tk } ∧ i ≤ n ∧ k = n + 1 - i ∧ St i oI ∧ Fr h₀ L h m ∧ News h₀ L h ((I, oI) :: led) ∧ (∀ p ∈ led, p.1 ≠ I) ∧ J i tk led) ?_ (n + 1)
    ⟨s.heap, s.toks, 0, oI, led, rfl, Nat.zero_le _, rfl, hst, F, N, off, hj⟩
  intro k s' hz139
  apply el_EEEEERARAAAAA hz139
  clear hz139
  intro h tk i oI led hi hst F N off hj
  show wpAny _ A ((compTurn (.ListComp elt gens scope pos) d (.ref I) acc cenv).onRaise (fun x => do noteFrame x cenv; theTreesLotGoes x)) _ _ _
  refine wpAny_noted ?_
  rw [hT]
  have hI : h.get? I = some oI := (N _ (.head _)).1
  have hS : Src h := hsrc i tk led h hj (fun p hp => N p (.tail _ hp)) F.keep
  by_cases hlt : i < n
  · refine wpAny_bind (wpAny_standAt (wpAny_bind (W.item i oI _ _ _ hlt hI hst hS fun v oI' h₁ tk₁ hP ht₁ hI₁ hst₁ hk => ?_)))
    obtain ⟨F₁, N₁⟩ := fr_next F N hI₁ off hk
    dsimp only
    refine wpAny_with_toks (n := tk₁) (Nat.le_refl _) (wpAny_mono (turn i v oI' led h₁ tk tk₁ _ hlt hP ht₁ hst₁ hj F₁ N₁ off) (fun fin s₂ h₂ ht₂ => ?_) fun _ _ e _ => e)
    revert ht₂
    apply el_REEERAAAA h₂
    clear h₂
    intro h' tk' led' F' N' off' hj'
    intro ht₂
    exact ⟨rfl, n + 1 - (i + 1), by omega, h', tk', i + 1, oI', led', rfl, hlt, rfl, hst₁, F', N', off', hj' ht₂⟩
  · obtain rfl : i = n := Nat.le_antisymm hi (Nat.not_lt.mp hlt)
    refine wpAny_bind (wpAny_standAt (wpAny_bind (wpAny_with_toks (n := tk) (Nat.le_refl _) (W.done oI _ _ _ hI hst hS fun h₁ tk₁ hk ht₁ => ?_))))
    have z := N (I, oI) (.head _)
    have F₁ : Fr h₀ L h₁ m := ⟨F.ns.at' fun o e => hk _ o (Ne.symm z.2.1) e, fun b o e => hk b o (fun q => by have := z.2.2; rw [← q, e] at this; cases this) (F.keep b o e), F.above⟩
    exact wpAny_pure (done led h₁ tk tk₁ ht₁ hj F₁ (fun p hp => ⟨hk _ _ (off p hp) (N p (.tail _ hp)).1, (N p (.tail _ hp)).2⟩) off)

noncomputable def ForEnd (h₀ : Heap) (L : Addr) (s : Shared) (I : Addr) (oI : Obj) (tk : Nat) (J : Nat → (Str → Option Value) → Led → Prop) (s' : Shared) : Prop :=
  ∃ h' tk' m' led', s' = { s with heap := h', toks := tk' } ∧ Fr h₀ L h' m' ∧ News h₀ L h' ((I, oI) :: led') ∧ (∀ p ∈ led', p.1 ≠ I) ∧ (tk ≤ tk' → J tk' m' led')
noncomputable def ForPost (h₀ : Heap) (L : Addr) (s : Shared) (I : Addr) (oI : Obj) (tk : Nat) (J : Nat → (Str → Option Value) → Led → Prop) (Q : Flow → Shared → Prop) (f : Flow) (s' : Shared) : Prop :=
  match f with
  | .ret v => Q (.ret v) s'
  | .brk => Q .next s'
  | _ => ForEnd h₀ L s I oI tk J s'

theorem forEnd_next {s : Shared} {I : Addr} {oI : Obj} {tk : Nat} {J : Nat → (Str → Option Value) → Led → Prop} {Q : Flow → Shared → Prop} {h' : Heap} {tk' : Nat} {m' : Str → Option Value} {led' : Led}
    (F : Fr h₀ L h' m') (N : News h₀ L h' ((I, oI) :: led')) (off : ∀ p ∈ led', p.1 ≠ I) (hj : tk ≤ tk' → J tk' m' led') : ForPost h₀ L s I oI tk J Q .next { s with heap := h', toks := tk' } := ⟨h', tk', m', led', rfl, F, N, off, hj⟩
theorem loopEnd {s : Shared} {I : Addr} {oI : Obj} {tk : Nat} {J : Nat → Led → Prop} {h' : Heap} {tk' : Nat} {led' : Led}
    (F : Fr h₀ L h' m) (N : News h₀ L h' ((I, oI) :: led')) (off : ∀ p ∈ led', p.1 ≠ I) (hj : tk ≤ tk' → J tk' led') : LoopEnd h₀ L m s I oI tk J { s with heap := h', toks := tk' } := ⟨h', tk', led', rfl, F, N, off, hj⟩
theorem forCore {x : Str} {px : Pos} {body : List Stmt} {env : Env} {I : Addr} {R : Result → Shared → Prop} {n : Nat} {P : Nat → Nat → Nat → Value → Prop} {St : Nat → Obj → Prop} {Src : Heap → Prop}
    (W : It prog w A I n P St Src) (hPm : ∀ i a b c v, b ≤ c → P i a b v → P i a c v) (hx : env.kindOf x = some .local) (hp : (env.scope.kind == .class || (env.scope.kind == .module && env.locals != env.globals)) = false)
    (J : Nat → Nat → (Str → Option Value) → Led → Prop) {s : Shared} {led : Led} {oI : Obj} (hst : St 0 oI) (F : Fr h₀ L s.heap m) (hL : env.locals = L) (N : News h₀ L s.heap ((I, oI) :: led)) (off : ∀ p ∈ led, p.1 ≠ I) (hj : J 0 s.toks m led)
    (hsrc : ∀ i a m led h, J i a m led → News h₀ L h led → (∀ b o, h₀.get? b = some o → h.get? b = some o) → Src h)
    (turn : ∀ i v oI m₁ led h a tk E', i < n → P i a tk v → a ≤ tk → St (i + 1) oI → J i a m₁ led → Fr h₀ L h (fun y => if y = x then some v else m₁ y) → News h₀ L h ((I, oI) :: led) → (∀ p ∈ led, p.1 ≠ I) →
      wpAny (model prog w) A (execs body env) (ForPost h₀ L s I oI tk (J (i + 1)) fun f s' => R (.ok f) s') E' { s with heap := h, toks := tk })
    (done : ∀ m₁ led h a tk, a ≤ tk → J n a m₁ led → Fr h₀ L h m₁ → News h₀ L h led → (∀ p ∈ led, p.1 ≠ I) → R (.ok .next) { s with heap := h, toks := tk }) :
    codeAny (model prog w) A (.forLoop (.Name x px) (.ref I) body [] env) R s := by
  subst hL
  refine codeAny_forLoop (fun k s' => ∃ h tk i oI m₁ led, s' = { s with heap := h, toks := tk } ∧ i ≤ n ∧ k = n + 1 - i ∧ St i oI ∧ Fr h₀ env.locals h m₁ ∧ News h₀ env.locals h ((I, oI) :: led) ∧ (∀ p ∈ led, p.1 ≠ I) ∧ J i tk m₁ led) ?_ (n + 1)
    ⟨s.heap, s.toks, 0, oI, m, led, rfl, Nat.zero_le _, rfl, hst, F, N, off, hj⟩
  intro k s' hz140
  apply el_EEEEEERARAAAAA hz140
  clear hz140
  intro h tk i oI m₁ led hi hst F N off hj
  have hI : h.get? I = some oI := (N _ (.head _)).1
  have hS : Src h := hsrc i tk m₁ led h hj (fun p hp => N p (.tail _ hp)) F.keep
  by_cases hlt : i < n
  · refine W.item i oI _ _ _ hlt hI hst hS fun v oI' h₁ tk₁ hP ht₁ hI₁ hst₁ hk => ?_
    obtain ⟨F₁, N₁⟩ := fr_next F N hI₁ off hk
    dsimp only
    refine wpAny_assign_Name (wpAny_storeName_local hx F₁.ns (fun h₂ hn₂ hs₂ => ?_) hp)
    refine wpAny_with_toks (n := tk₁ + 1) (Nat.le_refl _) (wpAny_mono (turn i v oI' m₁ led h₂ tk (tk₁ + 1) _ hlt (hPm _ _ _ _ _ (Nat.le_succ _) hP) (Nat.le_succ_of_le ht₁) hst₁ hj (F₁.set hn₂ hs₂) (N₁.set hs₂) off) (fun f s₂ h₂ ht₂ => ?_) fun _ _ e _ => e)
    have fin : ForEnd h₀ env.locals s I oI' (tk₁ + 1) (J (i + 1)) s₂ → ∃ k', k' < n + 1 - i ∧ ∃ h tk i oI m₁ led, s₂ = { s with heap := h, toks := tk } ∧ i ≤ n ∧ k' = n + 1 - i ∧ St i oI ∧ Fr h₀ env.locals h m₁ ∧ News h₀ env.locals h ((I, oI) :: led) ∧ (∀ p ∈ led, p.1 ≠ I) ∧ J i tk m₁ led := by
      intro hz141
      revert ht₂
      apply el_EEEERAAAA hz141
      clear hz141
      intro h' tk' m' led' F' N' off' hj' ht₂
      exact ⟨n + 1 - (i + 1), by omega, h', tk', i + 1, oI', m', led', rfl, hlt, rfl, hst₁, F', N', off', hj' ht₂⟩
    cases f with
    | next => exact fin h₂
    | cont => exact fin h₂
    | brk => exact h₂
    | ret v => exact h₂
  · obtain rfl : i = n := Nat.le_antisymm hi (Nat.not_lt.mp hlt)
    refine wpAny_with_toks (n := tk) (Nat.le_refl _) (W.done oI _ _ _ hI hst hS fun h₁ tk₁ hk ht₁ => ?_)
    have z := N (I, oI) (.head _)
    have F₁ : Fr h₀ env.locals h₁ m₁ := ⟨F.ns.at' fun o e => hk _ o (Ne.symm z.2.1) e, fun b o e => hk b o (fun q => by have := z.2.2; rw [← q, e] at this; cases this) (F.keep b o e), F.above⟩
    exact wpAny_execs_nil (done m₁ led h₁ tk tk₁ ht₁ hj F₁ (fun p hp => ⟨hk _ _ (off p hp) (N p (.tail _ hp)).1, (N p (.tail _ hp)).2⟩) off)
end core

-- G1
noncomputable abbrev NsO := LCg.NsObj
noncomputable abbrev lst (ys : List Value) : Obj := { cls := .type "list", data := .seq ys.toArray ys.length }
structure Off (I C D : Addr) (rest : Led) : Prop where
  ic : I ≠ C
  id : I ≠ D
  cd : C ≠ D
  r : ∀ p ∈ rest, p.1 ≠ I ∧ p.1 ≠ C ∧ p.1 ≠ D

section
variable {prog : Program} {w : World} {A : Around} {E : Value → Shared → Prop} {s : Shared} {h₀ : Heap} {L : Addr} {m : Str → Option Value} {env : Env}

theorem ns_empty (c : Value) (d : Option Addr) (sl : Array (Option Value)) : NsO ⟨c, d, .dict #[], sl⟩ (fun _ => none) := ⟨#[], 0, rfl, by intro e he; simp at he, fun _ => rfl⟩

theorem lt_of_news {h : Heap} {led : Led} (N : News h₀ L h led) : ∀ p ∈ led, p.1 < h.objs.size := fun p hp => Heap.lt_size (N p hp).1

theorem compInit0 {elt target iter : Expr} {ifs : List Expr} {gs : List Comprehension} {scope : Scope} {cl : List (Str × Addr)} {pos : Pos} {I : Addr} {oI : Obj} {rest : Led} {RR : Value → Addr → Result → Shared → Prop}
    (hcf : ∀ n, cellsFrom n scope.names cl = cl) (hpc : ∀ h, pushCells h scope.names = h)
    (F : Fr h₀ L s.heap m) (N : News h₀ L s.heap ((I, oI) :: rest)) (off : ∀ p ∈ rest, p.1 ≠ I)
    (self : ∀ (s' : Shared) (Q : Value → Shared → Prop) (E : Value → Shared → Prop), s'.heap.get? I = some oI → (∀ b o, h₀.get? b = some o → s'.heap.get? b = some o) → News h₀ L s'.heap rest → Q (.ref I) s' → wpAny (model prog w) A (pyIter (.ref I)) Q E s')
    (k : ∀ D C oC h, NsO oC (fun _ => none) → Fr h₀ L h m → News h₀ L h ((I, oI) :: (C, oC) :: (D, lst []) :: rest) → Off I C D rest →
      codeAny (model prog w) A (.compLoop (.ListComp elt (⟨target, iter, ifs, 0⟩ :: gs) scope pos) 0 (.ref I) (.ref D) (compEnvC scope cl C env)) (RR (.ref D) C) { s with heap := h }) :
    wpAny (model prog w) A (newList []) (fun acc s₃ => wpAny (model prog w) A (newFunctionEnv scope env.globals cl [] env.qual none .none (some env)) (fun cenv s₄ =>
      codeAny (model prog w) A (.compStart (.ListComp elt (⟨target, iter, ifs, 0⟩ :: gs) scope pos) 0 (.ref I) acc { cenv with scope := relabel scope env }) (RR acc cenv.locals) s₄) E s₃) E s := by
  refine wpAny_newObj_type ?_
  simp only [newFunctionEnv, Option.isSome_some, if_true]
  refine wpAny_bind (wpAny_alloc ?_)
  refine wpAny_bind (wpAny_layCells _ (fun name kind cells => by cases hkc : kind == NameKind.cell <;> simp) _ _ _ _ ?_)
  rw [hcf, hpc]
  simp only [List.forIn_nil]
  refine wpAny_bind (wpAny_pure (wpAny_pure ?_))
  generalize hH1 : s.heap.push { cls := .type "list", dict := none, data := .seq ([] : List Value).toArray } = H1
  generalize hH2 : H1.push { cls := .type "dict", data := .dict #[] } = H2
  have hD : H1.get? s.heap.objs.size = some (lst []) := hH1 ▸ Heap.get?_push_size _ rfl
  have hC : H1.objs.size = s.heap.objs.size + 1 := by rw [← hH1, Heap.size_push]
  have old : ∀ b o, s.heap.get? b = some o → H2.get? b = some o := fun b o e => hH2 ▸ Heap.get?_push_of_some _ (hH1 ▸ Heap.get?_push_of_some _ e)
  have F2 : Fr h₀ L H2 m := F.keeps old
  have lt := lt_of_news N
  have hLlt := F.ns.lt
  have fresh₀ : ∀ a, s.heap.objs.size ≤ a → h₀.get? a = none := fun a ha => by
    cases e : h₀.get? a with
    | none => rfl
    | some o' => exact absurd (Heap.lt_size (F.keep a o' e)) (Nat.not_lt.mpr ha)
  have hN : News h₀ L H2 ((I, oI) :: (H1.objs.size, { cls := .type "dict", data := .dict #[] }) :: (s.heap.objs.size, lst []) :: rest) := fun p hp => by
    rcases List.mem_cons.mp hp with rfl | hp
    · have := N _ (.head _); exact ⟨old _ _ this.1, this.2⟩
    · rcases List.mem_cons.mp hp with rfl | hp
      · exact ⟨hH2 ▸ Heap.get?_push_size _ rfl, by show H1.objs.size ≠ L; rw [hC]; exact Nat.ne_of_gt (Nat.lt_succ_of_lt hLlt), fresh₀ _ (by show _ ≤ H1.objs.size; rw [hC]; exact Nat.le_succ _)⟩
      · rcases List.mem_cons.mp hp with rfl | hp
        · exact ⟨hH2 ▸ Heap.get?_push_of_some _ hD, Nat.ne_of_gt hLlt, fresh₀ _ (Nat.le_refl _)⟩
        · have := N p (.tail _ hp); exact ⟨old _ _ this.1, this.2⟩
  have hO : Off I H1.objs.size s.heap.objs.size rest := by
    have hI := lt (I, oI) (.head _)
    refine ⟨by rw [hC]; exact Nat.ne_of_lt (Nat.lt_succ_of_lt hI), Nat.ne_of_lt hI, by rw [hC]; exact Nat.ne_of_gt (Nat.lt_succ_self _), fun p hp => ?_⟩
    have := lt p (.tail _ hp)
    exact ⟨off p hp, by rw [hC]; exact Nat.ne_of_lt (Nat.lt_succ_of_lt this), Nat.ne_of_lt this⟩
  have kk := k s.heap.objs.size H1.objs.size _ H2 (ns_empty _ _ _) F2 hN hO
  exact codeAny_compStart_list kk (self _ _ _ (hN _ (.head _)).1 F2.keep (fun p hp => hN p (.tail _ (.tail _ (.tail _ hp)))) kk)

theorem compInit1 {elt target iter : Expr} {ifs : List Expr} {gs : List Comprehension} {scope : Scope} {cl : List (Str × Addr)} {pos : Pos} {I : Addr} {oI : Obj} {rest : Led} {y : Str} {RR : Value → Addr → Result → Shared → Prop}
    (hcf : ∀ n, cellsFrom n scope.names cl = (y, n) :: cl) (hpc : ∀ h, pushCells h scope.names = h.push { cls := .type "cell", data := .cell none })
    (F : Fr h₀ L s.heap m) (N : News h₀ L s.heap ((I, oI) :: rest)) (off : ∀ p ∈ rest, p.1 ≠ I)
    (self : ∀ (s' : Shared) (Q : Value → Shared → Prop) (E : Value → Shared → Prop), s'.heap.get? I = some oI → (∀ b o, h₀.get? b = some o → s'.heap.get? b = some o) → News h₀ L s'.heap rest → Q (.ref I) s' → wpAny (model prog w) A (pyIter (.ref I)) Q E s')
    (k : ∀ D C c oC h, NsO oC (fun _ => none) → Fr h₀ L h m → News h₀ L h ((I, oI) :: (C, oC) :: (D, lst []) :: (c, { cls := .type "cell", data := .cell none }) :: rest) → Off I C D ((c, { cls := .type "cell", data := .cell none }) :: rest) → (∀ p ∈ rest, p.1 ≠ c) →
      codeAny (model prog w) A (.compLoop (.ListComp elt (⟨target, iter, ifs, 0⟩ :: gs) scope pos) 0 (.ref I) (.ref D) (compEnvC scope ((y, c) :: cl) C env)) (RR (.ref D) C) { s with heap := h }) :
    wpAny (model prog w) A (newList []) (fun acc s₃ => wpAny (model prog w) A (newFunctionEnv scope env.globals cl [] env.qual none .none (some env)) (fun cenv s₄ =>
      codeAny (model prog w) A (.compStart (.ListComp elt (⟨target, iter, ifs, 0⟩ :: gs) scope pos) 0 (.ref I) acc { cenv with scope := relabel scope env }) (RR acc cenv.locals) s₄) E s₃) E s := by
  refine wpAny_newObj_type ?_
  simp only [newFunctionEnv, Option.isSome_some, if_true]
  refine wpAny_bind (wpAny_alloc ?_)
  refine wpAny_bind (wpAny_layCells _ (fun name kind cells => by cases hkc : kind == NameKind.cell <;> simp) _ _ _ _ ?_)
  rw [hcf, hpc]
  simp only [List.forIn_nil]
  refine wpAny_bind (wpAny_pure (wpAny_pure ?_))
  generalize hH1 : s.heap.push { cls := .type "list", dict := none, data := .seq ([] : List Value).toArray } = H1
  generalize hH2 : H1.push { cls := .type "dict", data := .dict #[] } = H2
  generalize hH3 : H2.push { cls := .type "cell", data := .cell none } = H3
  have hD : H1.get? s.heap.objs.size = some (lst []) := hH1 ▸ Heap.get?_push_size _ rfl
  have hC : H1.objs.size = s.heap.objs.size + 1 := by rw [← hH1, Heap.size_push]
  have hC2 : H2.objs.size = s.heap.objs.size + 1 + 1 := by rw [← hH2, Heap.size_push, hC]
  have old : ∀ b o, s.heap.get? b = some o → H3.get? b = some o := fun b o e => hH3 ▸ Heap.get?_push_of_some _ (hH2 ▸ Heap.get?_push_of_some _ (hH1 ▸ Heap.get?_push_of_some _ e))
  have F2 : Fr h₀ L H3 m := F.keeps old
  have lt := lt_of_news N
  have hLlt := F.ns.lt
  have fresh₀ : ∀ a, s.heap.objs.size ≤ a → h₀.get? a = none := fun a ha => by
    cases e : h₀.get? a with
    | none => rfl
    | some o' => exact absurd (Heap.lt_size (F.keep a o' e)) (Nat.not_lt.mpr ha)
  have hN : News h₀ L H3 ((I, oI) :: (H1.objs.size, { cls := .type "dict", data := .dict #[] }) :: (s.heap.objs.size, lst []) :: (H2.objs.size, { cls := .type "cell", data := .cell none }) :: rest) := fun p hp => by
    rcases List.mem_cons.mp hp with rfl | hp
    · have := N _ (.head _); exact ⟨old _ _ this.1, this.2⟩
    · rcases List.mem_cons.mp hp with rfl | hp
      · exact ⟨hH3 ▸ Heap.get?_push_of_some _ (hH2 ▸ Heap.get?_push_size _ rfl), by show H1.objs.size ≠ L; rw [hC]; exact Nat.ne_of_gt (Nat.lt_succ_of_lt hLlt), fresh₀ _ (by show _ ≤ H1.objs.size; rw [hC]; exact Nat.le_succ _)⟩
      · rcases List.mem_cons.mp hp with rfl | hp
        · exact ⟨hH3 ▸ Heap.get?_push_of_some _ (hH2 ▸ Heap.get?_push_of_some _ hD), Nat.ne_of_gt hLlt, fresh₀ _ (Nat.le_refl _)⟩
        · rcases List.mem_cons.mp hp with rfl | hp
          · exact ⟨hH3 ▸ Heap.get?_push_size _ rfl, by show H2.objs.size ≠ L; rw [hC2]; exact Nat.ne_of_gt (Nat.lt_succ_of_lt (Nat.lt_succ_of_lt hLlt)), fresh₀ _ (by show _ ≤ H2.objs.size; rw [hC2]; omega)⟩
          · have := N p (.tail _ hp); exact ⟨old _ _ this.1, this.2⟩
  have hI := lt (I, oI) (.head _)
  have hO : Off I H1.objs.size s.heap.objs.size ((H2.objs.size, { cls := .type "cell", data := .cell none }) :: rest) := by
    refine ⟨by rw [hC]; exact Nat.ne_of_lt (Nat.lt_succ_of_lt hI), Nat.ne_of_lt hI, by rw [hC]; exact Nat.ne_of_gt (Nat.lt_succ_self _), fun p hp => ?_⟩
    rcases List.mem_cons.mp hp with rfl | hp
    · dsimp only at hI ⊢; rw [hC2, hC]; refine ⟨Nat.ne_of_gt (Nat.lt_succ_of_lt (Nat.lt_succ_of_lt hI)), Nat.ne_of_gt (Nat.lt_succ_self _), Nat.ne_of_gt (Nat.lt_succ_of_lt (Nat.lt_succ_self _))⟩
    · have := lt p (.tail _ hp)
      exact ⟨off p hp, by rw [hC]; exact Nat.ne_of_lt (Nat.lt_succ_of_lt this), Nat.ne_of_lt this⟩
  have kk := k s.heap.objs.size H1.objs.size H2.objs.size _ H3 (ns_empty _ _ _) F2 hN hO (fun p hp => by
    have := lt p (.tail _ hp); rw [hC2]; exact Nat.ne_of_lt (Nat.lt_succ_of_lt (Nat.lt_succ_of_lt this)))
  exact codeAny_compStart_list kk (self _ _ _ (hN _ (.head _)).1 F2.keep (fun p hp => hN p (.tail _ (.tail _ (.tail _ (.tail _ hp))))) kk)

/-- the end of a comprehension, its value handed on -/
theorem comp_done {C D : Addr} {oC : Obj} {ys : List Value} {rest : Led} {m₂ : Str → Option Value} {Q : Value → Shared → Prop} {h : Heap} {tk : Nat} (hC : NsO oC m₂) (F : Fr h₀ L h m) (N : News h₀ L h ((C, oC) :: (D, lst ys) :: rest)) (hcd : C ≠ D) (hr : ∀ p ∈ rest, p.1 ≠ C)
    (k : ∀ h', Fr h₀ L h' m → News h₀ L h' ((D, lst ys) :: rest) → Q (.ref D) { s with heap := h', toks := tk }) :
    compPost (model prog w) A E none Q (.ref D) C (.ok .next) { s with heap := h, toks := tk } := by
  have z := N _ (.head _)
  refine ⟨m₂, hC.ns z.1, fun h' hs => k h' (F.change hs z.2.1 z.2.2) fun p hp => ?_⟩
  refine ⟨hs.extBut _ _ ?_ (N p (.tail _ hp)).1, (N p (.tail _ hp)).2⟩
  rcases List.mem_cons.mp hp with rfl | hp
  · exact Ne.symm hcd
  · exact hr p hp

theorem comp_done_assign {C D : Addr} {oC : Obj} {ys : List Value} {rest : Led} {m₂ : Str → Option Value} {Q : Flow → Shared → Prop} {h : Heap} {tk : Nat} {y : Str} {py : Pos} (hLe : env.locals = L) (hy : env.kindOf y = some .local) (hp : (env.scope.kind == .class || (env.scope.kind == .module && env.locals != env.globals)) = false)
    (hC : NsO oC m₂) (F : Fr h₀ L h m) (N : News h₀ L h ((C, oC) :: (D, lst ys) :: rest)) (hcd : C ≠ D) (hr : ∀ p ∈ rest, p.1 ≠ C)
    (k : ∀ h', Fr h₀ L h' (fun z => if z = y then some (.ref D) else m z) → News h₀ L h' ((D, lst ys) :: rest) → Q .next { s with heap := h', toks := tk + 1 }) :
    compPost (model prog w) A E (some (assign (.Name y py) env)) (fun _ s' => Q .next s') (.ref D) C (.ok .next) { s with heap := h, toks := tk } := by
  subst hLe
  show wpAny _ A (assign (.Name y py) env (.ref D)) _ _ _
  refine wpAny_assign_Name (wpAny_storeName_local hy F.ns (fun h₂ hn₂ hs₂ => ?_) hp)
  have z := N _ (.head _)
  have F₂ : Fr h₀ env.locals h₂ (fun z => if z = y then some (.ref D) else m z) := F.set hn₂ hs₂
  have N₂ := N.set hs₂
  have z₂ := N₂ _ (.head _)
  refine ⟨m₂, hC.ns z₂.1, fun h' hs => k h' (F₂.change hs z.2.1 z.2.2) fun p hp => ?_⟩
  refine ⟨hs.extBut _ _ ?_ (N₂ p (.tail _ hp)).1, (N p (.tail _ hp)).2⟩
  rcases List.mem_cons.mp hp with rfl | hp
  · exact Ne.symm hcd
  · exact hr p hp

theorem comp_eval {elt target iter : Expr} {ifs : List Expr} {gs : List Comprehension} {scope : Scope} {cl : List (Str × Addr)} {pos : Pos} {Q : Value → Shared → Prop}
    (hs : ∀ x, foldedSetIterable iter env x = pure x) (hclos : closureFor scope env = pure cl) (hkind : scope.kind = .function) (hnames : ∀ y ∈ scope.names, y.2 = .local → scope.names.lookup y.1 = some .local)
    (h : wpAny (model prog w) A (eval iter env) (fun xv s₁ => wpAny (model prog w) A (pyIter xv) (fun it s₂ => wpAny (model prog w) A (newList []) (fun acc s₃ => wpAny (model prog w) A (newFunctionEnv scope env.globals cl [] env.qual none .none (some env)) (fun cenv s₄ =>
      codeAny (model prog w) A (.compStart (.ListComp elt (⟨target, iter, ifs, 0⟩ :: gs) scope pos) 0 it acc { cenv with scope := relabel scope env }) (compPost (model prog w) A E none Q acc cenv.locals) s₄) E s₃) E s₂) E s₁) E s) :
    wpAny (model prog w) A (eval (.ListComp elt (⟨target, iter, ifs, 0⟩ :: gs) scope pos) env) Q E s := by
  rw [eval_ListComp]
  exact wpAny_comprehension_free (use := none) rfl hs hclos hkind hnames h

theorem comp_assign {elt target iter : Expr} {ifs : List Expr} {gs : List Comprehension} {scope : Scope} {cl : List (Str × Addr)} {pos spos py : Pos} {y : Str} {Q : Flow → Shared → Prop}
    (hs : ∀ x, foldedSetIterable iter env x = pure x) (hclos : closureFor scope env = pure cl) (hkind : scope.kind = .function) (hnames : ∀ y ∈ scope.names, y.2 = .local → scope.names.lookup y.1 = some .local)
    (hsw : swapsWith (.ListComp elt (⟨target, iter, ifs, 0⟩ :: gs) scope pos) (some (.Name y py)) spos.line env = pure true)
    (h : wpAny (model prog w) A (eval iter env) (fun xv s₁ => wpAny (model prog w) A (pyIter xv) (fun it s₂ => wpAny (model prog w) A (newList []) (fun acc s₃ => wpAny (model prog w) A (newFunctionEnv scope env.globals cl [] env.qual none .none (some env)) (fun cenv s₄ =>
      codeAny (model prog w) A (.compStart (.ListComp elt (⟨target, iter, ifs, 0⟩ :: gs) scope pos) 0 it acc { cenv with scope := relabel scope env }) (compPost (model prog w) A E (some (assign (.Name y py) env)) (fun _ s' => Q .next s') acc cenv.locals) s₄) E s₃) E s₂) E s₁) E s) :
    wpAny (model prog w) A (exec (.Assign [.Name y py] (.ListComp elt (⟨target, iter, ifs, 0⟩ :: gs) scope pos) spos) env) Q E s := by
  rw [exec_Assign_Name_used _ _ _ _ hsw]
  refine wpAny_bind (wpAny_standAt (wpAny_bind ?_))
  show wpAny _ A (do let _ ← comprehension (.ListComp elt (⟨target, iter, ifs, 0⟩ :: gs) scope pos) scope env _ (newList []) false (eval iter env) (some (assign (.Name y py) env))) _ _ s
  exact wpAny_bind (wpAny_mono (wpAny_comprehension_free (use := some (assign (.Name y py) env)) (Q := fun _ s' => Q .next s') rfl hs hclos hkind hnames h) (fun _ s' hq => wpAny_pure (wpAny_pure hq)) fun _ _ e => e)

/-- one turn of a comprehension with one clause -/
theorem turn1 {elt target iter : Expr} {ifs : List Expr} {scope : Scope} {pos : Pos} {it acc v : Value} {env : Env} {Z : Shared → Prop}
    (h : wpAny (model prog w) A (letOwnedTupleGo target it v) (fun _ s₁ => wpAny (model prog w) A (assign target env v) (fun _ s₂ =>
          wpAny (model prog w) A (forIn ifs true fun c r => if r = true then do let ok ← isTrue c env (eval c env); pure (ForInStep.yield ok) else pure (ForInStep.yield r)) (fun ok s₃ =>
            if ok = true then wpAny (model prog w) A (eval elt env) (fun x s₄ =>
              wpAny (model prog w) A (call (.builtin "list.append") [acc, x]) (fun _ s₅ => Z s₅) E s₄) E s₃
            else Z s₃) E s₂) E s₁) E s) :
    wpAny (model prog w) A (do
        letOwnedTupleGo target it v
        assign target env v
        let mut ok := true
        for c in ifs do
          if ok then ok ← isTrue c env (eval c env)
        if ok then
          (do let _ ← call (.builtin "list.append") [acc, ← eval elt env])
        again (.compLoop (.ListComp elt [⟨target, iter, ifs, 0⟩] scope pos) 0 it acc env)) (fun fin s' => fin = .again (.compLoop (.ListComp elt [⟨target, iter, ifs, 0⟩] scope pos) 0 it acc env) ∧ Z s') E s := by
  refine wpAny_bind (wpAny_mono h (fun _ s₁ h₁ => ?_) fun _ _ e => e)
  refine wpAny_bind (wpAny_mono h₁ (fun _ s₂ h₂ => wpAny_bind (wpAny_mono h₂ (fun ok s₃ h₃ => ?_) fun _ _ h' => h')) fun _ _ h' => h')
  cases ok with
  | false => exact wpAny_pure ⟨rfl, h₃⟩
  | true => exact wpAny_bind (wpAny_bind (wpAny_mono h₃ (fun x s₄ h₄ => wpAny_bind (wpAny_mono h₄ (fun _ s₅ h₅ => wpAny_pure (wpAny_pure ⟨rfl, h₅⟩)) fun _ _ h' => h')) fun _ _ h' => h'))

/-- storing into the comprehension's own names -/
theorem store_C {I C D : Addr} {oI oC oD : Obj} {rest : Led} {m₂ : Str → Option Value} {x : Str} {px : Pos} {v : Value} {scope : Scope} {cl : List (Str × Addr)} {Q : Unit → Shared → Prop}
    (F : Fr h₀ L s.heap m) (N : News h₀ L s.heap ((I, oI) :: (C, oC) :: (D, oD) :: rest)) (hO : Off I C D rest) (hC : NsO oC m₂) (hk : scope.kind = .function) (hx : scope.names.lookup x = some .local)
    (k : ∀ h' oC', NsO oC' (fun z => if z = x then some v else m₂ z) → Fr h₀ L h' m → News h₀ L h' ((I, oI) :: (C, oC') :: (D, oD) :: rest) → Q () { s with heap := h', toks := s.toks + 1 }) :
    wpAny (model prog w) A (assign (.Name x px) (compEnvC scope cl C env) v) Q E s := by
  have zI := N (I, oI) (.head _)
  have zC := N (C, oC) (.tail _ (.head _))
  refine wpAny_assign_Name (wpAny_storeName_local (env := compEnvC scope cl C env) (lookup_relabel_local hx) (hC.ns zC.1) (fun h₂ hn₂ hs₂ => ?_) (by simp [compEnvC, relabel, hk]))
  obtain ⟨oC', e', hC'⟩ := LCg.ns_obj hn₂
  refine k h₂ oC' hC' (F.change hs₂ zC.2.1 zC.2.2) fun p hp => ?_
  rcases List.mem_cons.mp hp with rfl | hp
  · exact ⟨hs₂.extBut _ _ hO.ic zI.1, zI.2⟩
  · rcases List.mem_cons.mp hp with rfl | hp
    · exact ⟨e', zC.2⟩
    · have z := N p (.tail _ (.tail _ hp))
      refine ⟨hs₂.extBut _ _ ?_ z.1, z.2⟩
      rcases List.mem_cons.mp hp with rfl | hp
      · exact Ne.symm hO.cd
      · exact (hO.r p hp).2.1

/-- storing into the comprehension's own cell -/
theorem store_cell {I C D c : Addr} {oI oC oD oc : Obj} {rest : Led} {x : Str} {px : Pos} {v : Value} {v₀ : Option Value} {scope : Scope} {cl : List (Str × Addr)} {Q : Unit → Shared → Prop}
    (F : Fr h₀ L s.heap m) (N : News h₀ L s.heap ((I, oI) :: (C, oC) :: (D, oD) :: (c, oc) :: rest)) (hO : Off I C D ((c, oc) :: rest)) (hcr : ∀ p ∈ rest, p.1 ≠ c) (hd : oc.data = .cell v₀) (hc : cl.lookup x = some c) (hk : scope.kind = .function)
    (hx : (compEnvC scope cl C env).kindOf x = some .cell)
    (k : ∀ h' oc', oc'.data = .cell (some v) → Fr h₀ L h' m → News h₀ L h' ((I, oI) :: (C, oC) :: (D, oD) :: (c, oc') :: rest) → Q () { s with heap := h' }) :
    wpAny (model prog w) A (assign (.Name x px) (compEnvC scope cl C env) v) Q E s := by
  have zc := N (c, oc) (.tail _ (.tail _ (.tail _ (.head _))))
  have o := hO.r (c, oc) (.head _)
  refine wpAny_assign_Name (wpAny_storeName_cell (env := compEnvC scope cl C env) (by simp [compEnvC, relabel, hk]) hx hc ⟨oc, zc.1, hd⟩ fun h' hv hs => ?_)
  obtain ⟨oc', e', hd'⟩ := hv
  refine k h' oc' hd' (F.change hs zc.2.1 zc.2.2) fun p hp => ?_
  rcases List.mem_cons.mp hp with rfl | hp
  · have z := N _ (.head _); exact ⟨hs.extBut _ _ (Ne.symm o.1) z.1, z.2⟩
  · rcases List.mem_cons.mp hp with rfl | hp
    · have z := N _ (.tail _ (.head _)); exact ⟨hs.extBut _ _ (Ne.symm o.2.1) z.1, z.2⟩
    · rcases List.mem_cons.mp hp with rfl | hp
      · have z := N _ (.tail _ (.tail _ (.head _))); exact ⟨hs.extBut _ _ (Ne.symm o.2.2) z.1, z.2⟩
      · rcases List.mem_cons.mp hp with rfl | hp
        · exact ⟨e', zc.2⟩
        · have z := N p (.tail _ (.tail _ (.tail _ (.tail _ hp)))); exact ⟨hs.extBut _ _ (hcr p hp) z.1, z.2⟩

theorem append_D {I C D : Addr} {oI oC : Obj} {ys : List Value} {y : Value} {rest : Led} {Q : Value → Shared → Prop}
    (F : Fr h₀ L s.heap m) (N : News h₀ L s.heap ((I, oI) :: (C, oC) :: (D, lst ys) :: rest)) (hO : Off I C D rest) (hsz : ys.length ≤ sizeLine)
    (k : ∀ h', Fr h₀ L h' m → News h₀ L h' ((I, oI) :: (C, oC) :: (D, lst (ys ++ [y])) :: rest) → Q .none { s with heap := h' }) :
    wpAny (model prog w) A (call (.builtin "list.append") [.ref D, y]) Q E s := by
  have zD := N (D, lst ys) (.tail _ (.tail _ (.head _)))
  refine append_at (hsz := by show ys.toArray.size ≤ sizeLine; rw [List.size_toArray]; exact hsz) zD.1 fun h₅ hs₅ hD₅ => ?_
  refine k h₅ (F.change hs₅ zD.2.1 zD.2.2) fun p hp => ?_
  rcases List.mem_cons.mp hp with rfl | hp
  · have z := N _ (.head _); exact ⟨hs₅.extBut _ _ hO.id z.1, z.2⟩
  · rcases List.mem_cons.mp hp with rfl | hp
    · have z := N _ (.tail _ (.head _)); exact ⟨hs₅.extBut _ _ hO.cd z.1, z.2⟩
    · rcases List.mem_cons.mp hp with rfl | hp
      · exact ⟨hD₅.trans (congrArg some (LCg.lst_snoc ys y)), zD.2⟩
      · have z := N p (.tail _ (.tail _ (.tail _ hp))); exact ⟨hs₅.extBut _ _ (hO.r p hp).2.2 z.1, z.2⟩
end

-- S0
noncomputable abbrev tupO (vs : List Value) (n : Nat) : Obj := { cls := .type "tuple", data := .seq vs.toArray n }
noncomputable abbrev lstO (vs : List Value) (n : Nat) : Obj := { cls := .type "list", data := .seq vs.toArray n }
noncomputable def Fresh (objs news : Led) : Prop := ∀ q ∈ objs, ∀ p ∈ news, p.1 ≠ q.1
/-- a call's contract: from any frame over the ledger news, the call ends with post; nothing that stands is changed -/
noncomputable def Spec (w : World) (f : Addr) (dn un₀ : Nat) (args : List Value) (news : Led) (post : Value → Led → Prop) : Prop :=
  ∀ (p : Program) (loose : List Str) (mean : ExcName → Option Value) (mg mb : Str → Option Value) (dp un : Nat) (gd : Option (List Code)) (cn : Str) (cs : Scope) (a : Addr) (ccd : Value) (cl : List (Str × Addr)) (outer : List Env) (A₀ : Around) (base h₀ : Heap) (L : Addr) (m : Str → Option Value) (s : Shared) (Q E : Value → Shared → Prop),
    Below A₀ base outer h₀ → Fr h₀ L s.heap m → (heapK w.params).In h₀ → News h₀ L s.heap news → Top p loose mean mg mb h₀ → cs.kind = .function → 1 ≤ s.toks → dp + dn < recursionLimit → un + un₀ < cLine →
    (∀ r h' tk' objs, s.toks ≤ tk' → Fr h₀ L h' m → News h₀ L h' (objs ++ news) → Fresh objs news → post r objs → Q r { s with heap := h', toks := tk' }) →
    wpAny (model PySem.Challenge.rw_tl0014_01.row.prog w) (ktrTop dp un gd cn cs L a ccd cl outer) (call (.ref f) args) Q E s
theorem fresh_nil {news : Led} : Fresh [] news := fun _ h => nomatch h
theorem fresh_one {D : Addr} {o : Obj} {news : Led} (h : AllLt D news) : Fresh [(D, o)] news := by
  have : ∀ p ∈ news, p.1 < D := by
    induction news with
    | nil => intro p hp; cases hp
    | cons q r ih =>
      intro p hp
      rcases List.mem_cons.mp hp with rfl | hp
      · exact h.1
      · exact ih h.2 p hp
  intro q hq p hp
  rw [List.mem_singleton.mp hq]
  exact Nat.ne_of_lt (this p hp)
theorem news_sub {h₀ h : Heap} {L : Addr} {l l' : Led} (N : News h₀ L h l) (hs : ∀ p ∈ l', p ∈ l) : News h₀ L h l' := fun p hp => N p (hs p hp)
theorem Spec.use {w : World} {f : Addr} {dn un₀ : Nat} {args : List Value} {news : Led} {post : Value → Led → Prop} (S : Spec w f dn un₀ args news post)
    {p : Program} {loose : List Str} {mean : ExcName → Option Value} {mg mb : Str → Option Value} {dp un : Nat} {gd : Option (List Code)} {cn : Str} {cs : Scope} {a : Addr} {ccd : Value} {cl : List (Str × Addr)} {outer : List Env} {A₀ : Around} {base h₀ : Heap} {L : Addr} {m : Str → Option Value} {s : Shared} {Q E : Value → Shared → Prop}
    (B : Below A₀ base outer h₀) (F : Fr h₀ L s.heap m) (X : (heapK w.params).In h₀) (N : News h₀ L s.heap news) (T : Top p loose mean mg mb h₀) (hk : cs.kind = .function) (ht : 1 ≤ s.toks) (hd : dp + dn < recursionLimit) (hu : un + un₀ < cLine)
    (k : ∀ r h' tk' objs, s.toks ≤ tk' → Fr h₀ L h' m → News h₀ L h' (objs ++ news) → Fresh objs news → post r objs → Q r { s with heap := h', toks := tk' }) :
    wpAny (model PySem.Challenge.rw_tl0014_01.row.prog w) (ktrTop dp un gd cn cs L a ccd cl outer) (call (.ref f) args) Q E s := S _ _ _ _ _ _ _ _ _ _ _ _ _ _ _ _ _ _ _ _ _ _ B F X N T hk ht hd hu k

theorem execs_cons_tok {M : Model} {A : Around} {E : Value → Shared → Prop} {s : Shared} {st : Stmt} {rest : List Stmt} {env : Env} {Q : Flow → Shared → Prop} (_ht : 1 ≤ s.toks)
    (h : wpAny M A (exec st env) (fun f s₁ => ∀ tk, s.toks ≤ tk → s₁.toks ≤ tk → match f with
      | .next => wpAny M A (execs rest env) Q E { s₁ with toks := tk }
      | f => Q f { s₁ with toks := tk }) E s) : wpAny M A (execs (st :: rest) env) Q E s := by
  refine wpAny_with_toks (Nat.le_refl s.toks) (wpAny_execs_cons (wpAny_with_toks (Nat.le_refl s.toks) (wpAny_mono h (fun f s₁ h₁ ht₁ => ?_) fun _ _ e _ _ => e)))
  have h₂ := h₁ s₁.toks ht₁ (Nat.le_refl _)
  cases f with
  | next => exact wpAny_mono h₂ (fun _ _ q _ => q) fun _ _ q _ => q
  | brk => exact fun _ => h₂
  | cont => exact fun _ => h₂
  | ret v => exact fun _ => h₂
theorem for_tok {prog : Program} {w : World} {A : Around} {E : Value → Shared → Prop} {s : Shared} {target iter : Expr} {body orelse : List Stmt} {pos : Pos} {env : Env} {Q : Flow → Shared → Prop} (_ht : 1 ≤ s.toks)
    (h : wpAny (model prog w) A (eval iter env) (fun x s₁ => wpAny (model prog w) A (pyIter x) (fun it s₂ => ∀ tk, s.toks ≤ tk →
      codeAny (model prog w) A (.forLoop target it body orelse env) (fun r s' => match r with | .ok f => Q f s' | .error e => cameBackBy (model prog w) A env E e s') { s₂ with toks := tk }) E s₁) E s)
    (hs : ∀ x, foldedSetIterable iter env x = pure x := by intro _; rfl) :
    wpAny (model prog w) A (exec (.For target iter body orelse pos) env) Q E s := by
  refine wpAny_For (wpAny_with_toks (Nat.le_refl s.toks) (wpAny_mono h (fun x s₁ h₁ ht₁ => wpAny_with_toks ht₁ (wpAny_mono h₁ (fun it s₂ h₂ ht₂ => h₂ s₂.toks ht₂) fun _ _ e _ => e)) fun _ _ e _ => e)) hs

theorem foldQ {α : Type} {M : Model} {A : Around} {t : Sem α} {Q : α → Shared → Prop} {E : Value → Shared → Prop} {s : Shared} (h : let q := Q; wpAny M A t q E s) : wpAny M A t Q E s := h
theorem letIn {α : Type} {v : α} {P : α → Prop} (h : let x := v; P x) : P v := h
section
variable {M : Model} {A : Around} {E : Value → Shared → Prop} {s : Shared} {h₀ : Heap} {L a : Addr} {m : Str → Option Value} {cn : Str} {cs : Scope} {ccd : Value} {cl : List (Str × Addr)} {x : Str} {v : Value} {Q : Unit → Shared → Prop} {news : List (Addr × Obj)}
theorem storeLet (F : Fr h₀ L s.heap m) (N : News h₀ L s.heap news)
    (h : let m' := fun y => if y = x then some v else m y; ∀ h', Fr h₀ L h' m' → News h₀ L h' news → Q () { s with heap := h', toks := s.toks + 1 })
    (hk : cs.kind = .function := by rfl) (hx : (envX cn cs L a ccd cl).kindOf x = some .local := by rfl) : wpAny M A (storeName (envX cn cs L a ccd cl) x v) Q E s := storeX_L F N h hk hx
end

-- S0U
theorem Spec.useI {w : World} {f : Addr} {dn un₀ : Nat} {args : List Value} {news : Led} {z : Int} (S : Spec w f dn un₀ args news (fun r objs => objs = [] ∧ ∃ t, r = .int z t)) {p : Program} {loose : List Str} {mean : ExcName → Option Value} {mg mb : Str → Option Value} {dp un : Nat} {gd : Option (List Code)} {cn : Str} {cs : Scope} {a : Addr} {ccd : Value} {cl : List (Str × Addr)} {outer : List Env} {A₀ : Around} {base h₀ : Heap} {L : Addr} {m : Str → Option Value} {s : Shared} {Q E : Value → Shared → Prop}
    (B : Below A₀ base outer h₀) (F : Fr h₀ L s.heap m) (X : (heapK w.params).In h₀) (N : News h₀ L s.heap news) (T : Top p loose mean mg mb h₀) (hk : cs.kind = .function) (ht : 1 ≤ s.toks) (hd : dp + dn < recursionLimit) (hu : un + un₀ < cLine)
    (k : ∀ (t : Tok) h' tk', s.toks ≤ tk' → Fr h₀ L h' m → News h₀ L h' news → Q (.int z t) { s with heap := h', toks := tk' }) :
    wpAny (model PySem.Challenge.rw_tl0014_01.row.prog w) (ktrTop dp un gd cn cs L a ccd cl outer) (call (.ref f) args) Q E s := S.use B F X N T hk ht hd hu fun r h' tk' objs h1 h2 h3 h4 post => by obtain ⟨rfl, t, rfl⟩ := post; exact k t h' tk' h1 h2 h3
theorem Spec.use2 {w : World} {f : Addr} {dn un₀ : Nat} {args : List Value} {news : Led} {P0 : Addr → Nat → Led → Prop} (S : Spec w f dn un₀ args news (fun r objs => ∃ D n, r = .ref D ∧ P0 D n objs)) {p : Program} {loose : List Str} {mean : ExcName → Option Value} {mg mb : Str → Option Value} {dp un : Nat} {gd : Option (List Code)} {cn : Str} {cs : Scope} {a : Addr} {ccd : Value} {cl : List (Str × Addr)} {outer : List Env} {A₀ : Around} {base h₀ : Heap} {L : Addr} {m : Str → Option Value} {s : Shared} {Q E : Value → Shared → Prop}
    (B : Below A₀ base outer h₀) (F : Fr h₀ L s.heap m) (X : (heapK w.params).In h₀) (N : News h₀ L s.heap news) (T : Top p loose mean mg mb h₀) (hk : cs.kind = .function) (ht : 1 ≤ s.toks) (hd : dp + dn < recursionLimit) (hu : un + un₀ < cLine)
    (k : ∀ (D : Addr) (n : Nat) objs, P0 D n objs → ∀ h' tk', s.toks ≤ tk' → Fr h₀ L h' m → News h₀ L h' (objs ++ news) → Fresh objs news → Q (.ref D) { s with heap := h', toks := tk' }) :
    wpAny (model PySem.Challenge.rw_tl0014_01.row.prog w) (ktrTop dp un gd cn cs L a ccd cl outer) (call (.ref f) args) Q E s := S.use B F X N T hk ht hd hu fun r h' tk' objs h1 h2 h3 h4 post => by obtain ⟨D, n, rfl, x0⟩ := post; exact k D n objs x0 h' tk' h1 h2 h3 h4
theorem Spec.use4 {w : World} {f : Addr} {dn un₀ : Nat} {args : List Value} {news : Led} {P0 : Addr → Tok → Tok → Nat → Led → Prop} (S : Spec w f dn un₀ args news (fun r objs => ∃ D t u n, r = .ref D ∧ P0 D t u n objs)) {p : Program} {loose : List Str} {mean : ExcName → Option Value} {mg mb : Str → Option Value} {dp un : Nat} {gd : Option (List Code)} {cn : Str} {cs : Scope} {a : Addr} {ccd : Value} {cl : List (Str × Addr)} {outer : List Env} {A₀ : Around} {base h₀ : Heap} {L : Addr} {m : Str → Option Value} {s : Shared} {Q E : Value → Shared → Prop}
    (B : Below A₀ base outer h₀) (F : Fr h₀ L s.heap m) (X : (heapK w.params).In h₀) (N : News h₀ L s.heap news) (T : Top p loose mean mg mb h₀) (hk : cs.kind = .function) (ht : 1 ≤ s.toks) (hd : dp + dn < recursionLimit) (hu : un + un₀ < cLine)
    (k : ∀ (D : Addr) (t : Tok) (u : Tok) (n : Nat) objs, P0 D t u n objs → ∀ h' tk', s.toks ≤ tk' → Fr h₀ L h' m → News h₀ L h' (objs ++ news) → Fresh objs news → Q (.ref D) { s with heap := h', toks := tk' }) :
    wpAny (model PySem.Challenge.rw_tl0014_01.row.prog w) (ktrTop dp un gd cn cs L a ccd cl outer) (call (.ref f) args) Q E s := S.use B F X N T hk ht hd hu fun r h' tk' objs h1 h2 h3 h4 post => by obtain ⟨D, t, u, n, rfl, x0⟩ := post; exact k D t u n objs x0 h' tk' h1 h2 h3 h4
theorem Spec.use3A {w : World} {f : Addr} {dn un₀ : Nat} {args : List Value} {news : Led} {P0 : Addr → List Value → Nat → Led → Prop} {P1 : Addr → List Value → Nat → Led → Prop} (S : Spec w f dn un₀ args news (fun r objs => ∃ D vs n, r = .ref D ∧ P0 D vs n objs ∧ P1 D vs n objs)) {p : Program} {loose : List Str} {mean : ExcName → Option Value} {mg mb : Str → Option Value} {dp un : Nat} {gd : Option (List Code)} {cn : Str} {cs : Scope} {a : Addr} {ccd : Value} {cl : List (Str × Addr)} {outer : List Env} {A₀ : Around} {base h₀ : Heap} {L : Addr} {m : Str → Option Value} {s : Shared} {Q E : Value → Shared → Prop}
    (B : Below A₀ base outer h₀) (F : Fr h₀ L s.heap m) (X : (heapK w.params).In h₀) (N : News h₀ L s.heap news) (T : Top p loose mean mg mb h₀) (hk : cs.kind = .function) (ht : 1 ≤ s.toks) (hd : dp + dn < recursionLimit) (hu : un + un₀ < cLine)
    (k : ∀ (D : Addr) (vs : List Value) (n : Nat) objs, P0 D vs n objs → P1 D vs n objs → ∀ h' tk', s.toks ≤ tk' → Fr h₀ L h' m → News h₀ L h' (objs ++ news) → Fresh objs news → Q (.ref D) { s with heap := h', toks := tk' }) :
    wpAny (model PySem.Challenge.rw_tl0014_01.row.prog w) (ktrTop dp un gd cn cs L a ccd cl outer) (call (.ref f) args) Q E s := S.use B F X N T hk ht hd hu fun r h' tk' objs h1 h2 h3 h4 post => by obtain ⟨D, vs, n, rfl, x0, x1⟩ := post; exact k D vs n objs x0 x1 h' tk' h1 h2 h3 h4
theorem Spec.use3O {w : World} {f : Addr} {dn un₀ : Nat} {args : List Value} {news : Led} {P0 : Addr → List Value → Nat → Prop} {o : Addr → List Value → Nat → Addr × Obj} (S : Spec w f dn un₀ args news (fun r objs => ∃ D vs n, r = .ref D ∧ objs = [o D vs n] ∧ P0 D vs n)) {p : Program} {loose : List Str} {mean : ExcName → Option Value} {mg mb : Str → Option Value} {dp un : Nat} {gd : Option (List Code)} {cn : Str} {cs : Scope} {a : Addr} {ccd : Value} {cl : List (Str × Addr)} {outer : List Env} {A₀ : Around} {base h₀ : Heap} {L : Addr} {m : Str → Option Value} {s : Shared} {Q E : Value → Shared → Prop}
    (B : Below A₀ base outer h₀) (F : Fr h₀ L s.heap m) (X : (heapK w.params).In h₀) (N : News h₀ L s.heap news) (T : Top p loose mean mg mb h₀) (hk : cs.kind = .function) (ht : 1 ≤ s.toks) (hd : dp + dn < recursionLimit) (hu : un + un₀ < cLine)
    (k : ∀ (D : Addr) (vs : List Value) (n : Nat), P0 D vs n → ∀ h' tk', s.toks ≤ tk' → Fr h₀ L h' m → News h₀ L h' (o D vs n :: news) → Fresh [o D vs n] news → Q (.ref D) { s with heap := h', toks := tk' }) :
    wpAny (model PySem.Challenge.rw_tl0014_01.row.prog w) (ktrTop dp un gd cn cs L a ccd cl outer) (call (.ref f) args) Q E s := S.use B F X N T hk ht hd hu fun r h' tk' objs h1 h2 h3 h4 post => by obtain ⟨D, vs, n, rfl, rfl, x0⟩ := post; exact k D vs n x0 h' tk' h1 h2 h3 h4
theorem Spec.use5O {w : World} {f : Addr} {dn un₀ : Nat} {args : List Value} {news : Led} {o : Addr → Tok → Tok → Tok → Nat → Addr × Obj} (S : Spec w f dn un₀ args news (fun r objs => ∃ D t u v n, r = .ref D ∧ objs = [o D t u v n])) {p : Program} {loose : List Str} {mean : ExcName → Option Value} {mg mb : Str → Option Value} {dp un : Nat} {gd : Option (List Code)} {cn : Str} {cs : Scope} {a : Addr} {ccd : Value} {cl : List (Str × Addr)} {outer : List Env} {A₀ : Around} {base h₀ : Heap} {L : Addr} {m : Str → Option Value} {s : Shared} {Q E : Value → Shared → Prop}
    (B : Below A₀ base outer h₀) (F : Fr h₀ L s.heap m) (X : (heapK w.params).In h₀) (N : News h₀ L s.heap news) (T : Top p loose mean mg mb h₀) (hk : cs.kind = .function) (ht : 1 ≤ s.toks) (hd : dp + dn < recursionLimit) (hu : un + un₀ < cLine)
    (k : ∀ (D : Addr) (t : Tok) (u : Tok) (v : Tok) (n : Nat), ∀ h' tk', s.toks ≤ tk' → Fr h₀ L h' m → News h₀ L h' ([o D t u v n] ++ news) → Fresh [o D t u v n] news → Q (.ref D) { s with heap := h', toks := tk' }) :
    wpAny (model PySem.Challenge.rw_tl0014_01.row.prog w) (ktrTop dp un gd cn cs L a ccd cl outer) (call (.ref f) args) Q E s := S.use B F X N T hk ht hd hu fun r h' tk' objs h1 h2 h3 h4 post => by obtain ⟨D, t, u, v, n, rfl, rfl⟩ := post; exact k D t u v n  h' tk' h1 h2 h3 h4
theorem Spec.use5A {w : World} {f : Addr} {dn un₀ : Nat} {args : List Value} {news : Led} {P0 : (Nat → Int) → Nat → Addr → List Value → Nat → Led → Prop} {P1 : (Nat → Int) → Nat → Addr → List Value → Nat → Led → Prop} (S : Spec w f dn un₀ args news (fun r objs => ∃ g T D vs n, r = .ref D ∧ P0 g T D vs n objs ∧ P1 g T D vs n objs)) {p : Program} {loose : List Str} {mean : ExcName → Option Value} {mg mb : Str → Option Value} {dp un : Nat} {gd : Option (List Code)} {cn : Str} {cs : Scope} {a : Addr} {ccd : Value} {cl : List (Str × Addr)} {outer : List Env} {A₀ : Around} {base h₀ : Heap} {L : Addr} {m : Str → Option Value} {s : Shared} {Q E : Value → Shared → Prop}
    (B : Below A₀ base outer h₀) (F : Fr h₀ L s.heap m) (X : (heapK w.params).In h₀) (N : News h₀ L s.heap news) (T : Top p loose mean mg mb h₀) (hk : cs.kind = .function) (ht : 1 ≤ s.toks) (hd : dp + dn < recursionLimit) (hu : un + un₀ < cLine)
    (k : ∀ (g : (Nat → Int)) (T : Nat) (D : Addr) (vs : List Value) (n : Nat) objs, P0 g T D vs n objs → P1 g T D vs n objs → ∀ h' tk', s.toks ≤ tk' → Fr h₀ L h' m → News h₀ L h' (objs ++ news) → Fresh objs news → Q (.ref D) { s with heap := h', toks := tk' }) :
    wpAny (model PySem.Challenge.rw_tl0014_01.row.prog w) (ktrTop dp un gd cn cs L a ccd cl outer) (call (.ref f) args) Q E s := S.use B F X N T hk ht hd hu fun r h' tk' objs h1 h2 h3 h4 post => by obtain ⟨g, T, D, vs, n, rfl, x0, x1⟩ := post; exact k g T D vs n objs x0 x1 h' tk' h1 h2 h3 h4

-- G2
/-- small ints whose tokens are below T and tell the int by f -/
inductive NZ (f : Nat → Int) (T : Nat) : List Value → List Int → Prop
  | nil : NZ f T [] []
  | cons {x : Int} {t : Tok} {vs : List Value} {xs : List Int} : t ≠ 0 → t < T → f t = x → smallInt x = true → NZ f T vs xs → NZ f T (.int x t :: vs) (x :: xs)
section
variable {f : Nat → Int} {T : Nat}
theorem NZ.ints : ∀ {vs : List Value} {xs : List Int}, NZ f T vs xs → IntsAre vs xs
  | _, _, .nil => .nil
  | _, _, .cons _ _ _ _ r => .cons _ _ r.ints
theorem NZ.length : ∀ {vs : List Value} {xs : List Int}, NZ f T vs xs → vs.length = xs.length
  | _, _, .nil => rfl
  | _, _, .cons _ _ _ _ r => congrArg (· + 1) r.length
theorem NZ.append : ∀ {vs us : List Value} {xs ys : List Int}, NZ f T vs xs → NZ f T us ys → NZ f T (vs ++ us) (xs ++ ys)
  | _, _, _, _, .nil, h => h
  | _, _, _, _, .cons a b c d r, h => .cons a b c d (r.append h)
theorem NZ.drop : ∀ {vs : List Value} {xs : List Int} (k : Nat), NZ f T vs xs → NZ f T (vs.drop k) (xs.drop k)
  | _, _, 0, h => h
  | _, _, _ + 1, .nil => .nil
  | _, _, k + 1, .cons _ _ _ _ r => r.drop k
theorem NZ.take : ∀ {vs : List Value} {xs : List Int} (k : Nat), NZ f T vs xs → NZ f T (vs.take k) (xs.take k)
  | _, _, 0, _ => .nil
  | _, _, _ + 1, .nil => .nil
  | _, _, k + 1, .cons a b c d r => .cons a b c d (r.take k)
theorem NZ.get : ∀ {vs : List Value} {xs : List Int} {i : Nat} {v : Value}, NZ f T vs xs → vs[i]? = some v → ∃ x t, xs[i]? = some x ∧ v = .int x t ∧ t ≠ 0 ∧ f t = x ∧ smallInt x = true
  | _, _, _, _, .nil, e => by simp at e
  | _, _, 0, v, .cons (x := x) (t := t) a _ c d _, e => ⟨x, t, rfl, by simpa using e.symm, a, c, d⟩
  | _, _, i + 1, v, .cons _ _ _ _ r, e => by
    obtain ⟨x, t, h⟩ := r.get (i := i) (by simpa using e)
    exact ⟨x, t, by simpa using h.1, h.2⟩
/-- a new token: f may be told at it -/
theorem NZ.more {T' : Nat} {t : Nat} {x : Int} (ht : T ≤ t) (hT : T ≤ T') : ∀ {vs : List Value} {xs : List Int}, NZ f T vs xs → NZ (fun z => if z = t then x else f z) T' vs xs
  | _, _, .nil => .nil
  | _, _, .cons a b c d r => .cons a (Nat.lt_of_lt_of_le b hT) (by rw [if_neg (Nat.ne_of_lt (Nat.lt_of_lt_of_le b ht))]; exact c) d (r.more ht hT)
theorem NZ.mono {T' : Nat} (hT : T ≤ T') : ∀ {vs : List Value} {xs : List Int}, NZ f T vs xs → NZ f T' vs xs
  | _, _, .nil => .nil
  | _, _, .cons a b c d r => .cons a (Nat.lt_of_lt_of_le b hT) c d (r.mono hT)
end
/-- tuples of small ints, by membership in a ledger -/
inductive Tups (f : Nat → Int) (T : Nat) (led : Led) : List Value → List (List Int) → Prop
  | nil : Tups f T led [] []
  | cons {a : Addr} {us : List Value} {n : Nat} {xs : List Int} {vs : List Value} {xss : List (List Int)} : (a, tupO us n) ∈ led → NZ f T us xs → Tups f T led vs xss → Tups f T led (.ref a :: vs) (xs :: xss)
section
variable {f : Nat → Int} {T : Nat} {led led' : Led}
theorem Tups.length : ∀ {vs : List Value} {xs : List (List Int)}, Tups f T led vs xs → vs.length = xs.length
  | _, _, .nil => rfl
  | _, _, .cons _ _ r => congrArg (· + 1) r.length
theorem Tups.sub (hs : ∀ p ∈ led, p ∈ led') : ∀ {vs : List Value} {xs : List (List Int)}, Tups f T led vs xs → Tups f T led' vs xs
  | _, _, .nil => .nil
  | _, _, .cons a b r => .cons (hs _ a) b (r.sub hs)
theorem Tups.append : ∀ {vs us : List Value} {xs ys : List (List Int)}, Tups f T led vs xs → Tups f T led us ys → Tups f T led (vs ++ us) (xs ++ ys)
  | _, _, _, _, .nil, h => h
  | _, _, _, _, .cons a b r, h => .cons a b (r.append h)
theorem Tups.get : ∀ {vs : List Value} {xs : List (List Int)} {i : Nat} {v : Value}, Tups f T led vs xs → vs[i]? = some v → ∃ a us n ys, xs[i]? = some ys ∧ v = .ref a ∧ (a, tupO us n) ∈ led ∧ NZ f T us ys
  | _, _, _, _, .nil, e => by simp at e
  | _, _, 0, v, .cons (a := a) (us := us) (n := n) (xs := xs) h1 h2 _, e => ⟨a, us, n, xs, rfl, by simpa using e.symm, h1, h2⟩
  | _, _, i + 1, v, .cons _ _ r, e => by
    obtain ⟨a, us, n, ys, h⟩ := r.get (i := i) (by simpa using e)
    exact ⟨a, us, n, ys, by simpa using h.1, h.2⟩
theorem Tups.mono {T' : Nat} (hT : T ≤ T') : ∀ {vs : List Value} {xs : List (List Int)}, Tups f T led vs xs → Tups f T' led vs xs
  | _, _, .nil => .nil
  | _, _, .cons a b r => .cons a (b.mono hT) (r.mono hT)
end
section
variable {prog : Program} {w : World} {A : Around} {E : Value → Shared → Prop} {s : Shared} {h₀ : Heap} {L : Addr} {m : Str → Option Value} {f : Nat → Int}

theorem same_int {a b : Int} {t u : Tok} {Q : Bool → Shared → Prop} (ha : smallInt a = true) (ht : t ≠ 0) (hu : u ≠ 0) (hf : f t = a) (hg : f u = b) (h : Q (decide (a = b)) s) : wpAny (model prog w) A (isSame (.int a t) (.int b u)) Q E s := by
  have h0 : (t == 0 || u == 0) = false := by simp [ht, hu]
  show wpAny _ _ (if (a == b && smallInt a) = true then isSame.cachedInt t u else isSame.created (a == b) t u) _ _ _
  by_cases hab : a = b
  · have e : (a == b) = true := by simp [hab]
    rw [decide_eq_true hab] at h
    rw [ha, e]
    simp only [Bool.and_self, if_true]
    unfold isSame.cachedInt
    rw [h0]
    simp only [Bool.false_eq_true, if_false]
    exact wpAny_bind (wpAny_rule (wpAny_pure h))
  · have e : (a == b) = false := by simp [hab]
    have htu : (t == u) = false := by
      rw [beq_eq_false_iff_ne]
      intro q
      exact hab (by rw [← hf, ← hg, q])
    rw [decide_eq_false hab] at h
    rw [e]
    simp only [Bool.false_and, Bool.false_eq_true, if_false]
    unfold isSame.created
    rw [h0, htu]
    simp only [Bool.false_eq_true, if_false]
    exact wpAny_pure h

theorem is_int {a b : Int} {t u : Tok} {Q : Value → Shared → Prop} (ha : smallInt a = true) (ht : t ≠ 0) (hu : u ≠ 0) (hf : f t = a) (hg : f u = b) (h1 : a = b → Q (.bool true) s) (h2 : a ≠ b → Q (.bool false) s) : wpAny (model prog w) A (compareOp .Is (.int a t) (.int b u)) Q E s :=
  wpAny_bind (same_int ha ht hu hf hg (wpAny_pure (by
    by_cases e : a = b
    · rw [decide_eq_true e]; exact h1 e
    · rw [decide_eq_false e]; exact h2 e)))

theorem entry_is : entryFor table "proto.is" = some Builtin.«proto.is» := entryFor_of_tree (by kernel_rfl)

theorem proto_is {a b : Int} {t u : Tok} {Q : Value → Shared → Prop} (ha : smallInt a = true) (ht : t ≠ 0) (hu : u ≠ 0) (hf : f t = a) (hg : f u = b) (h : Q (.bool (decide (a = b))) s) :
    wpAny (model prog w) A (runValue (.builtin "proto.is" ⟨[.int a t, .int b u], []⟩)) Q E s := by
  refine wpAny_runValue (codeAny_builtin entry_is ?_)
  unfold Builtin.«proto.is»
  exact wpAny_bind (same_int ha ht hu hf hg (wpAny_pure h))

theorem same_items {T T' : Nat} {vs us : List Value} {xs ys : List Int} {Q : Bool → Shared → Prop} (hx : NZ f T vs xs) (hy : NZ f T' us ys) (h : ∀ b, (b = true → xs = ys) → Q b s) : wpAny (model prog w) A (sameItems vs.toArray us.toArray) Q E s := by
  unfold sameItems
  refine wpAny_ite ?_
  split
  · exact wpAny_pure (h false (fun e => nomatch e))
  rename_i hsz
  have hlen : vs.length = us.length := by simpa using hsz
  have go : ∀ (vs us : List Value) (xs ys : List Int), NZ f T vs xs → NZ f T' us ys → vs.length = us.length → ∀ (Q : Option Bool × PUnit → Shared → Prop), Q (some false, ⟨⟩) s → (xs = ys → Q (none, ⟨⟩) s) →
      wpAny (model prog w) A (forIn (vs.zip us) ((none : Option Bool), PUnit.unit) fun x r =>
        match x with
        | (p, q) => do
          match ← runValue (.builtin "proto.is" ⟨[p, q], []⟩) with
          | .bool true =>
            let w := (← ask).params
            if !(joinedAsOfOld w p q) then pure (ForInStep.done (some false, PUnit.unit))
            else do
              if !(← emptiesJoinedAsOfOld w p q) then pure (ForInStep.done (some false, PUnit.unit)) else pure (ForInStep.yield (none, PUnit.unit))
          | _ => pure (ForInStep.done (some false, PUnit.unit))) Q E s := by
    intro vs
    induction vs with
    | nil =>
      intro us xs ys hx hy hl Q h1 h2
      cases us with
      | nil => cases hx; cases hy; exact wpAny_pure (h2 rfl)
      | cons => cases hl
    | cons v vs ih =>
      intro us xs ys hx hy hl Q h1 h2
      cases us with
      | nil => cases hl
      | cons u us =>
        cases hx with | cons a1 a2 a3 a4 hx =>
        cases hy with | cons b1 b2 b3 b4 hy =>
        rw [List.zip_cons_cons, List.forIn_cons]
        refine wpAny_bind (wpAny_bind (proto_is a4 a1 b1 a3 b3 ?_))
        rename_i x t xs' y t' ys'
        by_cases hxy : x = y
        · rw [decide_eq_true hxy]
          refine wpAny_bind (wpAny_askSetting ?_)
          refine wpAny_ite ?_
          split
          · exact wpAny_pure (wpAny_pure h1)
          · refine wpAny_bind (wpAny_pure ?_)
            simp only [Bool.not_true, Bool.false_eq_true, if_false]
            exact wpAny_pure (ih us _ _ hx hy (Nat.succ.inj hl) Q h1 fun e => h2 (by rw [hxy, e]))
        · rw [decide_eq_false hxy]
          exact wpAny_pure (wpAny_pure h1)
  exact wpAny_bind (go vs us xs ys hx hy hlen _ (wpAny_pure (h false (fun e => nomatch e))) (fun e => wpAny_pure (h true fun _ => e)))

theorem same_tup {x y : Addr} {T T' : Nat} {vs us : List Value} {xs ys : List Int} {nx ny : Nat} {Q : Bool → Shared → Prop} (hvs : s.heap.get? x = some (tupO vs nx)) (hus : s.heap.get? y = some (tupO us ny)) (hx : NZ f T vs xs) (hy : NZ f T' us ys)
    (h : ∀ b, (b = true → xs = ys) → Q b s) : wpAny (model prog w) A (isSame (.ref x) (.ref y)) Q E s := by
  show wpAny _ _ (if (x == y) = true then pure true else load x >>= fun ox => load y >>= fun oy => match ox.cls, oy.cls, ox.data, oy.data with
    | .type "tuple", .type "tuple", .seq xs _, .seq ys _ => if (xs.isEmpty && ys.isEmpty) = true then isSame.theEmptyTuple else sameTuple x y xs ys
    | _, _, _, _ => pure false) _ _ _
  refine wpAny_ite ?_
  split
  · rename_i e
    have e' : x = y := by simpa using e
    subst e'
    refine wpAny_pure (h true fun _ => ?_)
    rw [hvs] at hus
    have e2 : vs = us := by
      have := congrArg (fun o : Option Obj => o.map (fun o => o.data)) hus
      simp at this
      exact this.1
    subst e2
    clear h hvs hus
    induction hx generalizing ys with
    | nil => cases hy; rfl
    | cons a b c d r ih => cases hy with | cons a' b' c' d' r' => rw [ih r', ]
  · refine wpAny_bind (wpAny_load hvs (wpAny_bind (wpAny_load hus ?_)))
    show wpAny _ _ (if (vs.toArray.isEmpty && us.toArray.isEmpty) = true then isSame.theEmptyTuple else sameTuple x y vs.toArray us.toArray) _ _ _
    refine wpAny_ite ?_
    split
    · rename_i e
      have e' : vs = [] ∧ us = [] := by simpa using e
      obtain ⟨rfl, rfl⟩ := e'
      cases hx; cases hy
      exact wpAny_bind (wpAny_rule (wpAny_pure (h true fun _ => rfl)))
    · unfold sameTuple
      refine wpAny_bind (wpAny_askSetting ?_)
      refine wpAny_ite ?_
      split
      · exact wpAny_pure (h false (fun e => nomatch e))
      refine wpAny_ite ?_
      split
      · exact wpAny_pure (h false (fun e => nomatch e))
      refine wpAny_bind (wpAny_holding (same_items hx hy fun b hb => ?_))
      cases b with
      | true => exact wpAny_bind (wpAny_rule (wpAny_pure (h true hb)))
      | false => exact wpAny_pure (h false (fun e => nomatch e))

theorem is_tup {news : Led} {x y : Addr} {T T' : Nat} {vs us : List Value} {xs ys : List Int} {nx ny : Nat} {Q : Value → Shared → Prop} (N : News h₀ L s.heap news) (hvs : (x, tupO vs nx) ∈ news) (hus : (y, tupO us ny) ∈ news) (hx : NZ f T vs xs) (hy : NZ f T' us ys)
    (h1 : xs = ys → Q (.bool true) s) (h2 : True → Q (.bool false) s) : wpAny (model prog w) A (compareOp .Is (.ref x) (.ref y)) Q E s :=
  wpAny_bind (same_tup (N _ hvs).1 (N _ hus).1 hx hy fun b hb => wpAny_pure (by cases b with | true => exact h1 (hb rfl) | false => exact h2 trivial))

theorem shaped_tup (ns : List Int) : SeqAt.shaped (.tuple (ns.map PyData.int)) = true := by
  simp [SeqAt.shaped, PyData.canLay0, PyData.depth, ke_canLayAll0, ke_depthAll]
theorem eqvAll_ints : ∀ ns ms : List Int, PyData.eqvAll (ns.map PyData.int) (ms.map PyData.int) = decide (ns = ms)
  | [], [] => by simp [PyData.eqvAll]
  | [], _ :: _ => by simp [PyData.eqvAll]
  | _ :: _, [] => by simp [PyData.eqvAll]
  | a :: r, b :: t => by
    simp only [List.map_cons, PyData.eqvAll, PyData.eqv, eqvAll_ints r t]
    by_cases h : a = b <;> by_cases h' : r = t <;> simp [h, h']
theorem readsAll_ints {h : Heap} : ∀ {vs : List Value} {ns : List Int}, IntsAre vs ns → ReadsAll h vs (ns.map PyData.int) []
  | _, _, .nil => .nil
  | _, _, .cons _ t r => .cons (.int _ t) (readsAll_ints r)
theorem eq_tup {news : Led} {x y : Addr} {vs us : List Value} {xs ys : List Int} {nx ny : Nat} {Q : Value → Shared → Prop} (N : News h₀ L s.heap news) (hvs : (x, tupO vs nx) ∈ news) (hus : (y, tupO us ny) ∈ news) (hx : IntsAre vs xs) (hy : IntsAre us ys) (hu : A.units + 64 < cLine)
    (h1 : xs = ys → Q (.bool true) s) (h2 : xs ≠ ys → Q (.bool false) s) : wpAny (model prog w) A (compareOp .Eq (.ref x) (.ref y)) Q E s := by
  refine eq_dataH (reads_tuple_at (N _ hvs).1 rfl rfl (by simpa using readsAll_ints hx)) (reads_tuple_at (N _ hus).1 rfl rfl (by simpa using readsAll_ints hy)) (shaped_tup _) (shaped_tup _) hu ?_
  simp only [PyData.eqv, eqvAll_ints]
  by_cases e : xs = ys
  · rw [decide_eq_true e]; exact h1 e
  · rw [decide_eq_false e]; exact h2 e
end

-- H1
theorem entry_hasattr : entryFor table "hasattr" = some Builtin.«hasattr» := entryFor_of_tree (by kernel_rfl)
theorem args_hasattr (a b : Value) : argsOk "hasattr" ⟨[a, b], []⟩ := by unfold argsOk; kernel_rfl

theorem ty_tuple_gi : typeOf (.builtin "tuple.__getitem__") = pure (.type "wrapper_descriptor") := by show builtinType _ = _; rw [builtinType_eq_fast]; kernel_rfl
theorem lk_tuple_gi : typeLookup (.type "tuple") "__getitem__" = pure (some (.builtin "tuple.__getitem__")) := by rw [typeLookup_type, builtinLookup_eq_fast]; kernel_rfl
theorem lk_tuple_set : typeLookup (.type "wrapper_descriptor") "__set__" = pure none := by rw [typeLookup_type, builtinLookup_eq_fast]; kernel_rfl
theorem lk_tuple_del : typeLookup (.type "wrapper_descriptor") "__delete__" = pure none := by rw [typeLookup_type, builtinLookup_eq_fast]; kernel_rfl
theorem slot_tuple_dget : Slot "wrapper_descriptor" "__get__" "wrapper_descriptor.__get__" :=
  .of (owner := "wrapper_descriptor") (n := "__get__") (by rw [typeLookup_type, builtinLookup_eq_fast]; kernel_rfl) (by decide +kernel) (by decide +kernel) (by decide +kernel)
    (by first | exact .inl (by decide +kernel) | exact .inr (by decide +kernel)) (by rw [isSubtype_type]; kernel_rfl)
theorem entry_tuple_dget : entryFor table "wrapper_descriptor.__get__" = some Builtin.«wrapper_descriptor.__get__» := entryFor_of_tree (by kernel_rfl)
theorem args_tuple_dget (a b c : Value) : argsOk "wrapper_descriptor.__get__" ⟨[a, b, c], []⟩ := by unfold argsOk; kernel_rfl
theorem sub_tuple_gi_owner : isSubtype (.type "tuple") (.type (".".intercalate ("tuple.__getitem__".cutAt '.').dropLast)) = pure true := by
  have e : (".".intercalate ("tuple.__getitem__".cutAt '.').dropLast) = "tuple" := by
    have e0 : "tuple.__getitem__".cutAt '.' = ["tuple", "__getitem__"] := by first | rfl | decide +kernel
    rw [e0]; decide +kernel
  rw [e, isSubtype_type]; kernel_rfl
theorem dget_tuple {prog : Program} {w : World} {A : Around} {R : Result → Shared → Prop} {h0 : Heap} {g : Array GenState} {d : Drawn} {tt : Nat} {os : OsState} {x : Addr} {vs : Array Value} {n : Nat}
    (hx : h0.get? x = some { cls := .type "tuple", data := .seq vs n }) (h : ∀ (v : Addr) h' tk, (∀ b o, h0.get? b = some o → h'.get? b = some o) → R (.ok (.ret (.ref v))) ⟨h', g, d, tk, os⟩) :
    codeAny (model prog w) A (.call (.builtin "wrapper_descriptor.__get__") ⟨[.builtin "tuple.__getitem__", .ref x, .type "tuple"], []⟩) R ⟨h0, g, d, tt, os⟩ := by
  have hT : (⟨h0, g, d, tt, os⟩ : Shared).TypeIs (.ref x) "tuple" := ⟨_, hx, rfl⟩
  have hT5 : (⟨h0, g, d, tt, os⟩ : Shared).TypeIs (.builtin "tuple.__getitem__") "wrapper_descriptor" := ty_tuple_gi
  have f8 := sub_tuple_gi_owner
  refine codeAny_call_builtin slot_tuple_dget.plain entry_tuple_dget (slot_tuple_dget.check _ _ _ _ _ _ _ _ hT5 (args_tuple_dget _ _ _) ?_)
  repeat (any_goals (first | with_reducible assumption | wp_step))
  exact h _ _ _ (fun b o e => Heap.get?_push_of_some _ e)
theorem gi_entry_tuple {prog : Program} {w : World} {A : Around} {E : Value → Shared → Prop} {Q : Fin → Shared → Prop} {h0 : Heap} {g : Array GenState} {d : Drawn} {tt : Nat} {os : OsState} {x : Addr} {vs : Array Value} {n : Nat} {t : Tok}
    (hx : h0.get? x = some { cls := .type "tuple", data := .seq vs n }) (h : ∀ (v : Addr) h' tk, (∀ b o, h0.get? b = some o → h'.get? b = some o) → Q (.done (.ret (.ref v))) ⟨h', g, d, tk, os⟩) :
    wpAny (model prog w) A (Builtin.«object.__getattribute__» ⟨[.ref x, .str "__getitem__" t], []⟩) Q E ⟨h0, g, d, tt, os⟩ := by
  have hT : (⟨h0, g, d, tt, os⟩ : Shared).TypeIs (.ref x) "tuple" := ⟨_, hx, rfl⟩
  have f4 := lk_tuple_gi
  have f5 := ty_tuple_gi
  have f6 := slot_tuple_dget.lookup
  have f7 := lk_tuple_set
  have f8 := lk_tuple_del
  unfold Builtin.«object.__getattribute__»
  repeat (any_goals (first | with_reducible assumption | wp_step))
  exact dget_tuple hx fun v h' tk hk => wpAny_pure (h v h' tk hk)
theorem hasattr_tuple {prog : Program} {w : World} {A : Around} {E : Value → Shared → Prop} {Q : Value → Shared → Prop} {s : Shared} {x : Addr} {vs : Array Value} {n : Nat} {t : Tok}
    (hx : s.heap.get? x = some { cls := .type "tuple", data := .seq vs n }) (h : ∀ h' tk, (∀ b o, s.heap.get? b = some o → h'.get? b = some o) → Q (.bool true) { s with heap := h', toks := tk }) :
    wpAny (model prog w) A (call (.builtin "hasattr") [.ref x, .str "__getitem__" t]) Q E s := by
  obtain ⟨h0, g, d, tt, os⟩ := s
  have hT : (⟨h0, g, d, tt, os⟩ : Shared).TypeIs (.ref x) "tuple" := ⟨_, hx, rfl⟩
  refine Calls.call_function_entry (b := Builtin.«hasattr») (by decide +kernel) (by decide +kernel) entry_hasattr (args_hasattr _ _) ?_
  have f1 := lk_tuple_gi
  have f2 := F.slot_tuple_getattribute.lookup
  have f3 := F.slot_tuple_getattribute.bind (.ref x)
  have f4 : isSubtype (.type "tuple") (.type "module") = pure false := by rw [isSubtype_type]; kernel_rfl
  have f5 : withoutEnding? "tuple.__getitem__" "#data" = none := by decide +kernel
  unfold Builtin.«hasattr»
  repeat (any_goals (first | with_reducible assumption | wp_step))
  refine codeAny_call_builtin F.slot_tuple_getattribute.plain F.entry_tuple_ga (F.slot_tuple_getattribute.check _ _ _ _ _ _ _ _ hT (F.args_tuple_getattribute_2 _ _) ?_)
  refine gi_entry_tuple hx fun v h' tk hk => ?_
  repeat (any_goals (first | with_reducible assumption | wp_step))
  exact ⟨_, rfl, h _ _ hk⟩


theorem ty_list_gi : typeOf (.builtin "list.__getitem__") = pure (.type "method_descriptor") := by show builtinType _ = _; rw [builtinType_eq_fast]; kernel_rfl
theorem lk_list_gi : typeLookup (.type "list") "__getitem__" = pure (some (.builtin "list.__getitem__")) := by rw [typeLookup_type, builtinLookup_eq_fast]; kernel_rfl
theorem lk_list_set : typeLookup (.type "method_descriptor") "__set__" = pure none := by rw [typeLookup_type, builtinLookup_eq_fast]; kernel_rfl
theorem lk_list_del : typeLookup (.type "method_descriptor") "__delete__" = pure none := by rw [typeLookup_type, builtinLookup_eq_fast]; kernel_rfl
theorem slot_list_dget : Slot "method_descriptor" "__get__" "method_descriptor.__get__" :=
  .of (owner := "method_descriptor") (n := "__get__") (by rw [typeLookup_type, builtinLookup_eq_fast]; kernel_rfl) (by decide +kernel) (by decide +kernel) (by decide +kernel)
    (by first | exact .inl (by decide +kernel) | exact .inr (by decide +kernel)) (by rw [isSubtype_type]; kernel_rfl)
theorem entry_list_dget : entryFor table "method_descriptor.__get__" = some Builtin.«method_descriptor.__get__» := entryFor_of_tree (by kernel_rfl)
theorem args_list_dget (a b c : Value) : argsOk "method_descriptor.__get__" ⟨[a, b, c], []⟩ := by unfold argsOk; kernel_rfl
theorem sub_list_gi_owner : isSubtype (.type "list") (.type (".".intercalate ("list.__getitem__".cutAt '.').dropLast)) = pure true := by
  have e : (".".intercalate ("list.__getitem__".cutAt '.').dropLast) = "list" := by
    have e0 : "list.__getitem__".cutAt '.' = ["list", "__getitem__"] := by first | rfl | decide +kernel
    rw [e0]; decide +kernel
  rw [e, isSubtype_type]; kernel_rfl
theorem dget_list {prog : Program} {w : World} {A : Around} {R : Result → Shared → Prop} {h0 : Heap} {g : Array GenState} {d : Drawn} {tt : Nat} {os : OsState} {x : Addr} {vs : Array Value} {n : Nat}
    (hx : h0.get? x = some { cls := .type "list", data := .seq vs n }) (h : ∀ (v : Addr) h' tk, (∀ b o, h0.get? b = some o → h'.get? b = some o) → R (.ok (.ret (.ref v))) ⟨h', g, d, tk, os⟩) :
    codeAny (model prog w) A (.call (.builtin "method_descriptor.__get__") ⟨[.builtin "list.__getitem__", .ref x, .type "list"], []⟩) R ⟨h0, g, d, tt, os⟩ := by
  have hT : (⟨h0, g, d, tt, os⟩ : Shared).TypeIs (.ref x) "list" := ⟨_, hx, rfl⟩
  have hT5 : (⟨h0, g, d, tt, os⟩ : Shared).TypeIs (.builtin "list.__getitem__") "method_descriptor" := ty_list_gi
  have f8 := sub_list_gi_owner
  refine codeAny_call_builtin slot_list_dget.plain entry_list_dget (slot_list_dget.check _ _ _ _ _ _ _ _ hT5 (args_list_dget _ _ _) ?_)
  repeat (any_goals (first | with_reducible assumption | wp_step))
  exact h _ _ _ (fun b o e => Heap.get?_push_of_some _ e)
theorem gi_entry_list {prog : Program} {w : World} {A : Around} {E : Value → Shared → Prop} {Q : Fin → Shared → Prop} {h0 : Heap} {g : Array GenState} {d : Drawn} {tt : Nat} {os : OsState} {x : Addr} {vs : Array Value} {n : Nat} {t : Tok}
    (hx : h0.get? x = some { cls := .type "list", data := .seq vs n }) (h : ∀ (v : Addr) h' tk, (∀ b o, h0.get? b = some o → h'.get? b = some o) → Q (.done (.ret (.ref v))) ⟨h', g, d, tk, os⟩) :
    wpAny (model prog w) A (Builtin.«object.__getattribute__» ⟨[.ref x, .str "__getitem__" t], []⟩) Q E ⟨h0, g, d, tt, os⟩ := by
  have hT : (⟨h0, g, d, tt, os⟩ : Shared).TypeIs (.ref x) "list" := ⟨_, hx, rfl⟩
  have f4 := lk_list_gi
  have f5 := ty_list_gi
  have f6 := slot_list_dget.lookup
  have f7 := lk_list_set
  have f8 := lk_list_del
  unfold Builtin.«object.__getattribute__»
  repeat (any_goals (first | with_reducible assumption | wp_step))
  exact dget_list hx fun v h' tk hk => wpAny_pure (h v h' tk hk)
theorem hasattr_list {prog : Program} {w : World} {A : Around} {E : Value → Shared → Prop} {Q : Value → Shared → Prop} {s : Shared} {x : Addr} {vs : Array Value} {n : Nat} {t : Tok}
    (hx : s.heap.get? x = some { cls := .type "list", data := .seq vs n }) (h : ∀ h' tk, (∀ b o, s.heap.get? b = some o → h'.get? b = some o) → Q (.bool true) { s with heap := h', toks := tk }) :
    wpAny (model prog w) A (call (.builtin "hasattr") [.ref x, .str "__getitem__" t]) Q E s := by
  obtain ⟨h0, g, d, tt, os⟩ := s
  have hT : (⟨h0, g, d, tt, os⟩ : Shared).TypeIs (.ref x) "list" := ⟨_, hx, rfl⟩
  refine Calls.call_function_entry (b := Builtin.«hasattr») (by decide +kernel) (by decide +kernel) entry_hasattr (args_hasattr _ _) ?_
  have f1 := lk_list_gi
  have f2 := F.slot_list_getattribute.lookup
  have f3 := F.slot_list_getattribute.bind (.ref x)
  have f4 : isSubtype (.type "list") (.type "module") = pure false := by rw [isSubtype_type]; kernel_rfl
  have f5 : withoutEnding? "list.__getitem__" "#data" = none := by decide +kernel
  unfold Builtin.«hasattr»
  repeat (any_goals (first | with_reducible assumption | wp_step))
  refine codeAny_call_builtin F.slot_list_getattribute.plain F.entry_list_ga (F.slot_list_getattribute.check _ _ _ _ _ _ _ _ hT (F.args_list_getattribute_2 _ _) ?_)
  refine gi_entry_list hx fun v h' tk hk => ?_
  repeat (any_goals (first | with_reducible assumption | wp_step))
  exact ⟨_, rfl, h _ _ hk⟩


-- F0
inductive Part where
  | i (n : Int)
  | f (b : UInt64)
inductive Parts : List Value → List Part → Prop
  | nil : Parts [] []
  | i {n : Int} {t : Tok} {vs : List Value} {ps : List Part} : Parts vs ps → Parts (.int n t :: vs) (.i n :: ps)
  | f {b : UInt64} {t : Tok} {vs : List Value} {ps : List Part} : Parts vs ps → Parts (.float b t :: vs) (.f b :: ps)
noncomputable def hsvX (x : UInt64) : UInt64 := Float64.mul x 4618441417868443648
noncomputable def hsvI (x : UInt64) : Int := Flt.toInt Float64.truncOf (hsvX x)
noncomputable def hsvF (x : UInt64) : UInt64 := Float64.sub (hsvX x) (Float64.ofInt (hsvI x))
noncomputable def fP (y : UInt64) : UInt64 := Float64.mul (Float64.ofInt 16384) (Float64.sub 4607182418800017408 y)
noncomputable def fQ (x y : UInt64) : UInt64 := Float64.mul (Float64.ofInt 16384) (Float64.sub 4607182418800017408 (Float64.mul y (hsvF x)))
noncomputable def fT (x y : UInt64) : UInt64 := Float64.mul (Float64.ofInt 16384) (Float64.sub 4607182418800017408 (Float64.mul y (Float64.sub 4607182418800017408 (hsvF x))))
noncomputable def hsvP (x y : UInt64) : List Part :=
  if (Float64.cmp y 0 == some Ordering.eq) = true then [.i 16384, .i 16384, .i 16384]
  else if (hsvI x).fmod 6 = 0 then [.i 16384, .f (fT x y), .f (fP y)]
  else if (hsvI x).fmod 6 = 1 then [.f (fQ x y), .i 16384, .f (fP y)]
  else if (hsvI x).fmod 6 = 2 then [.f (fP y), .i 16384, .f (fT x y)]
  else if (hsvI x).fmod 6 = 3 then [.f (fP y), .f (fQ x y), .i 16384]
  else if (hsvI x).fmod 6 = 4 then [.f (fT x y), .f (fP y), .i 16384]
  else [.i 16384, .f (fP y), .f (fQ x y)]
noncomputable def fdiv (a b : Int) : UInt64 := Float64.ofFrac (decide (a < 0) != decide (b < 0)) a.natAbs b.natAbs
noncomputable def half : UInt64 := fdiv 1 2
noncomputable def wholeP : Part → Int
  | .i n => Flt.toInt Float64.truncOf (Float64.add (Float64.ofInt n) half)
  | .f b => Flt.toInt Float64.truncOf (Float64.add b half)
noncomputable def Part.ok : Part → Prop
  | .i n => 0 ≤ n ∧ n ≤ 1000000 ∧ Float64.isFinite (Float64.add (Float64.ofInt n) half) = true
  | .f b => Float64.isFinite (Float64.add b half) = true
noncomputable def hueF (h : UInt64) : UInt64 := (Float64.divmod (Float64.div h 4618441417868443648) 4607182418800017408).2
noncomputable def rgbH (r g b mx rg : Int) : UInt64 :=
  if r = mx then Float64.sub (fdiv (mx - b) rg) (fdiv (mx - g) rg)
  else if g = mx then Float64.sub (Float64.add 4611686018427387904 (fdiv (mx - r) rg)) (fdiv (mx - b) rg)
  else Float64.sub (Float64.add 4616189618054758400 (fdiv (mx - g) rg)) (fdiv (mx - r) rg)
noncomputable def rgbP (r g b mx mn : Int) : List Part :=
  if mn = mx then [.f 0, .f 0, .i mx] else [.f (hueF (rgbH r g b mx (mx - mn))), .f (fdiv (mx - mn) mx), .i mx]

-- G3
section
variable {prog : Program} {w : World} {A : Around} {E : Value → Shared → Prop} {s : Shared} {h₀ : Heap} {L : Addr} {m : Str → Option Value}
theorem hasattr_tupN {news : Led} {x : Addr} {vs : List Value} {n : Nat} {t : Tok} {Q : Value → Shared → Prop} (F : Fr h₀ L s.heap m) (N : News h₀ L s.heap news) (hx : (x, tupO vs n) ∈ news)
    (k : ∀ h' tk, Fr h₀ L h' m → News h₀ L h' news → Q (.bool true) { s with heap := h', toks := tk }) : wpAny (model prog w) A (call (.builtin "hasattr") [.ref x, .str "__getitem__" t]) Q E s :=
  hasattr_tuple (N _ hx).1 fun h' tk hk => k h' tk (F.keeps hk) (N.grown hk)
theorem hasattr_lstN {news : Led} {x : Addr} {vs : List Value} {n : Nat} {t : Tok} {Q : Value → Shared → Prop} (F : Fr h₀ L s.heap m) (N : News h₀ L s.heap news) (hx : (x, lstO vs n) ∈ news)
    (k : ∀ h' tk, Fr h₀ L h' m → News h₀ L h' news → Q (.bool true) { s with heap := h', toks := tk }) : wpAny (model prog w) A (call (.builtin "hasattr") [.ref x, .str "__getitem__" t]) Q E s :=
  hasattr_list (N _ hx).1 fun h' tk hk => k h' tk (F.keeps hk) (N.grown hk)
theorem fresh_push {h : Heap} {news : Led} {o : Obj} (N : News h₀ L h news) : Fresh [(h.objs.size, o)] news := fun q hq p hp => by
  rw [List.mem_singleton.mp hq]; exact Nat.ne_of_lt (Heap.lt_size (N p hp).1)
theorem add_tupN {news : Led} {x y : Addr} {vs us : List Value} {nx ny : Nat} {Q : Value → Shared → Prop} (F : Fr h₀ L s.heap m) (N : News h₀ L s.heap news) (hx : (x, tupO vs nx) ∈ news) (hy : (y, tupO us ny) ∈ news) (hsz : vs.length + us.length ≤ 1000)
    (k : ∀ D n objs h', Fr h₀ L h' m → News h₀ L h' (objs ++ news) → Fresh objs news → (∀ l : Led, (x, tupO vs nx) ∈ l → (y, tupO us ny) ∈ l → (D, tupO (vs ++ us) n) ∈ objs ++ l) → Q (.ref D) { s with heap := h' }) :
    wpAny (model prog w) A (binaryOp .Add (.ref x) (.ref y)) Q E s := by
  refine add_tuples F N ⟨_, (N _ hx).1, rfl, _, rfl⟩ ⟨_, (N _ hy).1, rfl, _, rfl⟩ (fun e => ?_) (fun _ e => ?_) (fun _ _ h' F' N' => ?_) (by rw [sizeLine_eq]; omega)
  · subst e; exact k y ny [] s.heap F N fresh_nil fun l _ h => h
  · subst e; exact k x nx [] s.heap F N fresh_nil fun l h _ => by rw [List.append_nil]; exact h
  · exact k _ 0 [(s.heap.objs.size, _)] h' F' N' (fresh_push N) fun l _ _ => .head _
theorem add_lstN {news : Led} {x y : Addr} {vs us : List Value} {nx ny : Nat} {Q : Value → Shared → Prop} (F : Fr h₀ L s.heap m) (N : News h₀ L s.heap news) (hx : (x, lstO vs nx) ∈ news) (hy : (y, lstO us ny) ∈ news) (hsz : vs.length + us.length ≤ 1000)
    (k : ∀ D n objs h', Fr h₀ L h' m → News h₀ L h' (objs ++ news) → Fresh objs news → (D, lstO (vs ++ us) n) ∈ objs ++ news → Q (.ref D) { s with heap := h' }) :
    wpAny (model prog w) A (binaryOp .Add (.ref x) (.ref y)) Q E s :=
  add_lists F N ⟨_, (N _ hx).1, rfl, _, rfl⟩ ⟨_, (N _ hy).1, rfl, _, rfl⟩ (fun h' F' N' => k _ 0 [(s.heap.objs.size, _)] h' F' N' (fresh_push N) (.head _)) (by rw [sizeLine_eq]; omega)
end
section
variable {prog : Program} {w : World} {A : Around} {E : Value → Shared → Prop} {s : Shared} {h₀ : Heap} {L : Addr} {m : Str → Option Value}
theorem new_at {h : Heap} {news : Led} (F : Fr h₀ L h m) (N : News h₀ L h news) (o : Obj) (ho : o.isFreed = false := by rfl) : Fr h₀ L (h.push o) m ∧ News h₀ L (h.push o) ((h.objs.size, o) :: news) ∧ (∀ p ∈ news, p.1 ≠ h.objs.size) :=
  ⟨F.push o, News.push F N o ho, fun p hp => Nat.ne_of_lt (Heap.lt_size (N p hp).1)⟩
theorem pyIter_lstN {news : Led} {x : Addr} {vs : List Value} {n : Nat} {Q : Value → Shared → Prop} (F : Fr h₀ L s.heap m) (N : News h₀ L s.heap news) (hx : (x, lstO vs n) ∈ news)
    (k : ∀ I oI h', StList x 0 oI → Fr h₀ L h' m → News h₀ L h' ((I, oI) :: news) → (∀ p ∈ news, p.1 ≠ I) → Q (.ref I) { s with heap := h' }) : wpAny (model prog w) A (pyIter (.ref x)) Q E s := by
  refine wpAny_pyIter_list ⟨_, (N _ hx).1, rfl, _, rfl⟩ ?_
  obtain ⟨F', N', off⟩ := new_at F N { cls := .type "list_iterator", data := .fields #[.ref x, .int 0 0] }
  exact k _ _ _ ⟨rfl, rfl⟩ F' N' off
theorem fr_put {h : Heap} {n : Str} {v : Value} (F : Fr h₀ L h m) (e : m n = some v) : Fr h₀ L h (fun z => if z = n then some v else m z) := by
  have : (fun z => if z = n then some v else m z) = m := by
    funext z
    by_cases hz : z = n
    · rw [if_pos hz, hz, e]
    · rw [if_neg hz]
  rw [this]; exact F
theorem put_eq {n : Str} {v : Value} (e : m n = some v) : m = fun z => if z = n then some v else m z := by
  funext z
  by_cases hz : z = n
  · rw [if_pos hz, hz, e]
  · rw [if_neg hz]
theorem fr_ne {n k : Str} {v : Value} (e : m n = some v) (hn : n ≠ k) (u : Option Value) : (fun z => if z = k then u else m z) n = some v := by
  show (if n = k then u else m n) = some v
  rw [if_neg hn]; exact e
end
theorem int_fin {prog : Program} {w : World} {A : Around} {E : Value → Shared → Prop} {s : Shared} {x : UInt64} {t : Tok} {Q : Value → Shared → Prop} (hf : Float64.isFinite x = true) (h : Q (.int (Flt.toInt Float64.truncOf x) s.toks) { s with toks := s.toks + 1 }) :
    wpAny (model prog w) A (call (.type "int") [.float x t]) Q E s := by
  rcases Flt.three x with ⟨hd, c⟩ | ⟨_, hd, c⟩ | ⟨sg, m, e, hd, c⟩
  · unfold Float64.isFinite at hf; rw [hd] at hf; cases hf
  · unfold Float64.isFinite at hf; rw [hd] at hf; cases hf
  · rw [Flt.toInt_fin hd] at h
    exact call_int_float hd h
section
variable {prog : Program} {w : World} {A : Around} {E : Value → Shared → Prop} {s : Shared} {h₀ : Heap} {L : Addr} {m : Str → Option Value} {news : Led}
theorem max3N {a b c : Int} {t u x : Tok} {Q : Value → Shared → Prop} (hh : A.handled = none) (F : Fr h₀ L s.heap m) (N : News h₀ L s.heap news)
    (k : ∀ M t' h' tk, M = max (max a b) c → Fr h₀ L h' m → News h₀ L h' news → Q (.int M t') { s with heap := h', toks := tk }) : wpAny (model prog w) A (call (.builtin "max") [.int a t, .int b u, .int c x]) Q E s := by
  refine max_three_ints hh fun h' tk hk => ?_
  have F' := F.keeps hk
  have N' := N.grown hk
  split
  · split
    · exact k _ _ h' tk (by omega) F' N'
    · exact k _ _ h' tk (by omega) F' N'
  · split
    · exact k _ _ h' tk (by omega) F' N'
    · exact k _ _ h' tk (by omega) F' N'
theorem min3N {a b c : Int} {t u x : Tok} {Q : Value → Shared → Prop} (hh : A.handled = none) (F : Fr h₀ L s.heap m) (N : News h₀ L s.heap news)
    (k : ∀ M t' h' tk, M = min (min a b) c → Fr h₀ L h' m → News h₀ L h' news → Q (.int M t') { s with heap := h', toks := tk }) : wpAny (model prog w) A (call (.builtin "min") [.int a t, .int b u, .int c x]) Q E s := by
  refine min_three_ints hh fun h' tk hk => ?_
  have F' := F.keeps hk
  have N' := N.grown hk
  split
  · split
    · exact k _ _ h' tk (by omega) F' N'
    · exact k _ _ h' tk (by omega) F' N'
  · split
    · exact k _ _ h' tk (by omega) F' N'
    · exact k _ _ h' tk (by omega) F' N'
theorem divN {a b : Int} {t u : Tok} {Q : Value → Shared → Prop} (hh : A.handled = none) (ha : 0 ≤ a ∧ a ≤ 1000000000) (hb : 0 < b) (k : Q (.float (fdiv a b) s.toks) { s with toks := s.toks + 1 }) : wpAny (model prog w) A (binaryOp .Div (.int a t) (.int b u)) Q E s := by
  refine Flt.div_ii_fits hh (Nat.lt_of_lt_of_le (show a.natAbs < 2 ^ 31 by omega) (Nat.pow_le_pow_right (by decide) (by decide))) (fun e => by omega) fun _ _ => k
theorem modN {x : UInt64} {t u : Tok} {Q : Value → Shared → Prop} (hh : A.handled = none) (k : Q (.float (Float64.divmod x 4607182418800017408).2 s.toks) { s with toks := s.toks + 1 }) : wpAny (model prog w) A (binaryOp .Mod (.float x t) (.float 4607182418800017408 u)) Q E s :=
  Flt.mod_ff hh (fun e => by exact absurd e (by decide +kernel)) fun _ => k
end
section
variable {prog : Program} {w : World} {A : Around} {E : Value → Shared → Prop} {s : Shared} {h₀ : Heap} {L : Addr} {m : Str → Option Value}
theorem pyIter_rangeN {news : Led} {r : Addr} {a b : Int} {t u v : Tok} {Q : Value → Shared → Prop} (F : Fr h₀ L s.heap m) (N : News h₀ L s.heap news) (hr : IsRange s.heap r a b 1 t u v) (hb : -1000000 ≤ a ∧ a ≤ 1000000 ∧ -1000000 ≤ b ∧ b ≤ 1000000)
    (k : ∀ I oI h', StRange a (b - a).toNat 0 oI → Fr h₀ L h' m → News h₀ L h' ((I, oI) :: news) → (∀ p ∈ news, p.1 ≠ I) → Q (.ref I) { s with heap := h' }) : wpAny (model prog w) A (pyIter (.ref r)) Q E s := by
  refine wpAny_pyIter_range hr (small_one (by omega) (by omega) (by omega) (by omega)) ?_
  rw [rangeSize_nat]
  obtain ⟨F', N', off⟩ := new_at F N { cls := .type "range_iterator", dict := none, data := .fields #[rawInt a, rawInt ((b - a).toNat : Int), rawInt 1], slots := #[] }
  refine k _ _ _ ?_ F' N' off
  unfold StRange
  simp
end
section
variable {prog : Program} {w : World} {A : Around} {E : Value → Shared → Prop} {s : Shared}
theorem powN {a n : Int} {t u : Tok} {Q : Value → Shared → Prop} (hn : 0 ≤ n ∧ n ≤ 1000) (hb : Builtin.Int.intBits a ≤ 700) (h : Q (.int (a ^ n.toNat) s.toks) { s with toks := s.toks + 1 }) : wpAny (model prog w) A (binaryOp .Pow (.int a t) (.int n u)) Q E s := by
  refine pow_int hn.1 ?_ h
  have h1 : (Builtin.Int.intBits a : Int) * n ≤ 700 * 1000 := Int.mul_le_mul (by omega) hn.2 hn.1 (by omega)
  omega
end
theorem some_int {m : Str → Option Value} {n : Str} {x y : Int} {t : Tok} (h : m n = some (.int x t)) (e : x = y) : ∃ t, m n = some (.int y t) := ⟨t, e ▸ h⟩

-- M1
noncomputable abbrev bits := Builtin.Int.intBits
/-- product of base^k - 1 over k = 1 .. n -/
noncomputable def stepsZ (base : Int) : Nat → Int
  | 0 => 1
  | n + 1 => stepsZ base n * (base ^ (n + 1) - 1)
theorem bits_pow1 {base : Int} (hb : bits base ≤ 700) (k : Nat) (hk : k ≤ 6) : bits (base ^ k - 1) ≤ 4203 := by
  have h1 := intBits_pow_le hb k
  have h2 := intBits_sub_le h1 (show bits 1 ≤ 1 by decide)
  have h3 : 700 * k ≤ 700 * 6 := Nat.mul_le_mul_left _ hk
  have h4 : max (700 * k + 1) 1 + 1 ≤ 4203 := by omega
  exact Nat.le_trans h2 h4
theorem bits_steps {base : Int} (hb : bits base ≤ 700) : ∀ n : Nat, n ≤ 6 → bits (stepsZ base n) ≤ 1 + 4203 * n
  | 0, _ => by show Builtin.Int.intBits 1 ≤ _; decide
  | n + 1, h => by
    have h1 := bits_steps hb n (by omega)
    have h2 := bits_pow1 hb (n + 1) h
    have h3 := intBits_mul_le h1 h2
    exact Nat.le_trans h3 (by omega)
theorem mulOk_steps {base : Int} (hb : bits base ≤ 700) (n : Nat) (h : n < 6) : IntMulOk (stepsZ base n) (base ^ (n + 1) - 1) :=
  IntMulOk.of_le (bits_steps hb n (by omega)) (bits_pow1 hb (n + 1) (by omega)) (by omega)

-- G4
section
variable {prog : Program} {w : World} {A : Around} {E : Value → Shared → Prop} {s : Shared} {h₀ : Heap} {L : Addr} {m : Str → Option Value}
theorem foldl_one (v : Value) : ∀ (k : Nat) (a : Array Value), List.foldl (fun x1 x2 => x1 ++ x2) a (List.replicate k #[v]) = a ++ (List.replicate k v).toArray
  | 0, a => by simp
  | k + 1, a => by
    rw [List.replicate_succ, List.foldl_cons, foldl_one v k, List.replicate_succ]
    apply Array.toList_inj.mp
    simp
theorem mulN {news : Led} {x : Addr} {v : Value} {n : Nat} {k : Int} {u : Tok} {Q : Value → Shared → Prop} (F : Fr h₀ L s.heap m) (N : News h₀ L s.heap news) (hx : (x, lstO [v] n) ∈ news) (hk : 0 ≤ k ∧ k ≤ 1000000)
    (h : ∀ D h', Fr h₀ L h' m → News h₀ L h' ((D, lstO (List.replicate k.toNat v) 0) :: news) → (∀ p ∈ news, p.1 ≠ D) → Q (.ref D) { s with heap := h' }) : wpAny (model prog w) A (binaryOp .Mult (.ref x) (.int k u)) Q E s := by
  have hm := mul_list (prog := prog) (w := w) (A := A) (E := E) (u := u) (Q := Q) F N (N _ hx).1 (x := k) (by omega) (by omega) (by show 1 * k.toNat ≤ 2 ^ 24; omega) (fun h' F' N' => ?_)
  · exact hm
  refine h _ _ F' ?_ (fun p hp => Nat.ne_of_lt (Heap.lt_size (N p hp).1))
  have e : List.foldl (fun x1 x2 => x1 ++ x2) #[] (List.replicate (if (([v] : List Value).toArray).isEmpty = true then 0 else k.toNat) ([v] : List Value).toArray) = (List.replicate k.toNat v).toArray := by
    show List.foldl (fun x1 x2 => x1 ++ x2) #[] (List.replicate k.toNat #[v]) = _
    rw [foldl_one]; simp
  rw [e] at N'
  exact N'
theorem off_swap {I D : Addr} {o o' : Obj} {r : Led} (h : ∀ p ∈ (D, o) :: r, p.1 ≠ I) : ∀ p ∈ (D, o') :: r, p.1 ≠ I := fun p hp => by
  rcases List.mem_cons.mp hp with rfl | hp
  · exact h (D, o) (.head _)
  · exact h _ (.tail _ hp)
theorem fresh_lt {l : Addr} {o : Obj} {news : Led} (h : ∀ p ∈ news, p.1 < l) : Fresh [(l, o)] news := fun q hq p hp => by
  rw [List.mem_singleton.mp hq]; exact Nat.ne_of_lt (h p hp)
theorem fresh_off {l : Addr} {o : Obj} {news : Led} (h : ∀ p ∈ news, p.1 ≠ l) : Fresh [(l, o)] news := fun q hq p hp => by
  rw [List.mem_singleton.mp hq]; exact h p hp
theorem fresh_cons {q : Addr × Obj} {objs news : Led} (h : Fresh [q] (objs ++ news)) (r : Fresh objs news) : Fresh (q :: objs) news := fun z hz p hp => by
  rcases List.mem_cons.mp hz with rfl | hz
  · exact h _ (.head _) p (List.mem_append.mpr (.inr hp))
  · exact r z hz p hp
theorem fresh_append {os objs news : Led} (h : Fresh os (objs ++ news)) (r : Fresh objs news) : Fresh (os ++ objs) news := fun z hz p hp => by
  rcases List.mem_append.mp hz with hz | hz
  · exact h _ hz p (List.mem_append.mpr (.inr hp))
  · exact r z hz p hp
theorem upd2 {I D : Addr} {oI o o' : Obj} {r : Led} (h : ∀ p ∈ (D, o) :: r, p.1 ≠ I) (h2 : ∀ p ∈ r, p.1 ≠ D) : Upd D o o' ((I, oI) :: (D, o) :: r) ((I, oI) :: (D, o') :: r) := .tail (fun e => h _ (.head _) e.symm) (.head h2)
theorem setN {D : Addr} {news news' : Led} {vs : List Value} {n : Nat} {k : Int} {v : Value} {t : Tok} {Q : Unit → Shared → Prop} (F : Fr h₀ L s.heap m) (N : News h₀ L s.heap news) (U : Upd D (lstO vs n) (lstO (vs.set k.toNat v) n) news news') (hk : 0 ≤ k ∧ k < vs.length ∧ k ≤ 1000000)
    (h : ∀ h', Fr h₀ L h' m → News h₀ L h' news' → Q () { s with heap := h' }) : wpAny (model prog w) A (setItem (.ref D) (.int k t) v) Q E s := by
  obtain ⟨pre, post, rfl, rfl, a, b⟩ := U.split
  have z := N (D, lstO vs n) (List.mem_append.mpr (.inr (.head _)))
  refine ki_setAt z.1 hk.1 (by omega) (by rw [List.size_toArray]; omega) (h _ (F.change (Heap.SameBut.update ..) z.2.1 z.2.2) (ki_turn _ N a b ?_ ?_))
  · show vs.toArray.setIfInBounds k.toNat v = (vs.set k.toNat v).toArray
    apply Array.toList_inj.mp
    simp
  · simp
theorem getN {D : Addr} {news : Led} {vs : List Value} {ns : List Int} {n : Nat} {k : Int} {u : Tok} {Q : Value → Shared → Prop} (N : News h₀ L s.heap news) (hm : (D, lstO vs n) ∈ news) (hi : IntsAre vs ns) (hk : 0 ≤ k ∧ k < vs.length ∧ k ≤ 1000000) (h : ∀ t, Q (.int (ns.getD k.toNat 0) t) s) :
    wpAny (model prog w) A (getItem (.ref D) (.int k u)) Q E s := ksa_get (n := n) N hm hi hk.1 (by have := hi.length; omega) (by omega) h
theorem subN {value slice : PySem.Expr} {D : Addr} {news : Led} {vs : List Value} {ns : List Int} {n : Nat} {k : Int} {u : Tok} {Q : Value → Shared → Prop} (N : News h₀ L s.heap news) (hm : (D, lstO vs n) ∈ news) (hi : IntsAre vs ns) (hk : 0 ≤ k ∧ k < vs.length ∧ k ≤ 1000000) (h : ∀ t, Q (.int (ns.getD k.toNat 0) t) s)
    (hs : subscripted slice false (.ref D) (.int k u) = operate [.ref D, .int k u] (getItem (.ref D) (.int k u)) := by with_unfolding_all rfl) :
    wpAny (model prog w) A (subscriptTail value slice (.ref D) (.int k u)) Q E s := ksa_sub (n := n) N hm hi hk.1 (by have := hi.length; omega) (by omega) h hs
end
/-- how often each of 0 .. most stands in xs -/
noncomputable def oftenZ (most : Nat) (xs : List Int) : List Int := (List.range (most + 1)).map fun (j : Nat) => ((xs.count (j : Int) : Nat) : Int)
theorem ints_get : ∀ {vs : List Value} {xs : List Int} {i : Nat} {v : Value}, IntsAre vs xs → vs[i]? = some v → ∃ x t, xs[i]? = some x ∧ v = .int x t
  | _, _, _, _, .nil, e => by simp at e
  | _, _, 0, v, .cons x t _, e => ⟨x, t, rfl, by simpa using e.symm⟩
  | _, _, i + 1, v, .cons _ _ r, e => by
    obtain ⟨x, t, h⟩ := ints_get r (i := i) (by simpa using e)
    exact ⟨x, t, by simpa using h.1, h.2⟩
theorem ints_replicate (x : Int) (t : Tok) : ∀ n, IntsAre (List.replicate n (.int x t)) (List.replicate n x)
  | 0 => .nil
  | n + 1 => .cons x t (ints_replicate x t n)
theorem often_nil (most : Nat) : oftenZ most [] = List.replicate (most + 1) 0 := by
  unfold oftenZ
  apply List.ext_getElem <;> simp
theorem often_get {most : Nat} {xs : List Int} {j : Nat} (h : j ≤ most) : (oftenZ most xs).getD j 0 = ((xs.count (j : Int) : Nat) : Int) := by
  unfold oftenZ
  rw [List.getD_eq_getElem?_getD, List.getElem?_map, List.getElem?_range (by omega)]
  rfl
theorem often_snoc {most : Nat} {xs : List Int} {x : Int} (h0 : 0 ≤ x) (h1 : x ≤ most) : oftenZ most (xs ++ [x]) = (oftenZ most xs).set x.toNat ((oftenZ most xs).getD x.toNat 0 + 1) := by
  rw [often_get (by omega)]
  unfold oftenZ
  apply List.ext_getElem
  · simp
  intro i h2 h3
  simp only [List.length_map, List.length_range, List.length_set] at h2 h3
  rw [List.getElem_set]
  simp only [List.getElem_map, List.getElem_range, List.count_append]
  by_cases e : x.toNat = i
  · have : x = (i : Int) := by omega
    subst this
    simp
  · have : x ≠ (i : Int) := by omega
    rw [if_neg e]
    simp [this]
section
variable {prog : Program} {w : World} {A : Around} {h₀ : Heap} {L : Addr} {m : Str → Option Value}
theorem forCore1 {x : Str} {px : Pos} {body : List Stmt} {env : Env} {I : Addr} {R : Result → Shared → Prop} {n : Nat} {P : Nat → Nat → Nat → Value → Prop} {St : Nat → Obj → Prop} {Src : Heap → Prop}
    (W : It prog w A I n P St Src) (hPm : ∀ i a b c v, b ≤ c → P i a b v → P i a c v) (hx : env.kindOf x = some .local) (hp : (env.scope.kind == .class || (env.scope.kind == .module && env.locals != env.globals)) = false)
    (J : Addr → Led → Nat → Nat → (Str → Option Value) → Led → Prop) {s : Shared} {D : Addr} {oD : Obj} {rest : Led} {oI : Obj} (hst : St 0 oI) (F : Fr h₀ L s.heap m) (hL : env.locals = L) (N : News h₀ L s.heap ((I, oI) :: (D, oD) :: rest)) (off : ∀ p ∈ (D, oD) :: rest, p.1 ≠ I) (hj : J D rest 0 s.toks m ((D, oD) :: rest))
    (hsrc : ∀ i a m led h, J D rest i a m led → News h₀ L h led → (∀ b o, h₀.get? b = some o → h.get? b = some o) → Src h)
    (turn : ∀ i v oI m₁ led h a tk E', i < n → P i a tk v → a ≤ tk → St (i + 1) oI → J D rest i a m₁ led → Fr h₀ L h (fun y => if y = x then some v else m₁ y) → News h₀ L h ((I, oI) :: led) → (∀ p ∈ led, p.1 ≠ I) →
      wpAny (model prog w) A (execs body env) (ForPost h₀ L s I oI tk (J D rest (i + 1)) fun f s' => R (.ok f) s') E' { s with heap := h, toks := tk })
    (done : ∀ m₁ led h a tk, a ≤ tk → J D rest n a m₁ led → Fr h₀ L h m₁ → News h₀ L h led → (∀ p ∈ led, p.1 ≠ I) → R (.ok .next) { s with heap := h, toks := tk }) :
    codeAny (model prog w) A (.forLoop (.Name x px) (.ref I) body [] env) R s := forCore W hPm hx hp (J D rest) hst F hL N off hj hsrc turn done
end

-- F1
/-- lists of ints, by membership in a ledger -/
inductive Lists (led : Led) : List Value → List (List Int) → Prop
  | nil : Lists led [] []
  | cons {a : Addr} {us : List Value} {n : Nat} {xs : List Int} {vs : List Value} {xss : List (List Int)} : (a, lstO us n) ∈ led → IntsAre us xs → Lists led vs xss → Lists led (.ref a :: vs) (xs :: xss)
section
variable {led led' : Led}
theorem Lists.length : ∀ {vs : List Value} {xs : List (List Int)}, Lists led vs xs → vs.length = xs.length
  | _, _, .nil => rfl
  | _, _, .cons _ _ r => congrArg (· + 1) r.length
theorem Lists.sub (hs : ∀ p ∈ led, p ∈ led') : ∀ {vs : List Value} {xs : List (List Int)}, Lists led vs xs → Lists led' vs xs
  | _, _, .nil => .nil
  | _, _, .cons a b r => .cons (hs _ a) b (r.sub hs)
theorem Lists.append : ∀ {vs us : List Value} {xs ys : List (List Int)}, Lists led vs xs → Lists led us ys → Lists led (vs ++ us) (xs ++ ys)
  | _, _, _, _, .nil, h => h
  | _, _, _, _, .cons a b r, h => .cons a b (r.append h)
theorem Lists.get : ∀ {vs : List Value} {xs : List (List Int)} {i : Nat}, Lists led vs xs → i < xs.length → ∃ a us n, vs[i]? = some (.ref a) ∧ (a, lstO us n) ∈ led ∧ IntsAre us (xs.getD i [])
  | _, _, _, .nil, e => absurd e (Nat.not_lt_zero _)
  | _, _, 0, .cons (a := a) (us := us) (n := n) h1 h2 _, e => ⟨a, us, n, rfl, h1, h2⟩
  | _, _, i + 1, .cons _ _ r, e => by
    obtain ⟨a, us, n, h⟩ := r.get (i := i) (Nat.lt_of_succ_lt_succ e)
    exact ⟨a, us, n, by simpa using h.1, h.2⟩
end
/-- the mix of the first n places -/
noncomputable def mixZ (cs : List Int) (pss : List (List Int)) (turn : Nat) (k : Nat) : Nat → Int
  | 0 => 0
  | n + 1 => mixZ cs pss turn k n + cs.getD n 0 * (pss.getD (n * turn % 6) []).getD k 0

-- G5
section
variable {prog : Program} {w : World} {A : Around} {h₀ : Heap} {L : Addr} {m : Str → Option Value}
/-- forCore for any target: the turn stores the item itself -/
theorem forCoreT {target : PySem.Expr} {body : List Stmt} {env : Env} {I : Addr} {R : Result → Shared → Prop} {n : Nat} {P : Nat → Nat → Nat → Value → Prop} {St : Nat → Obj → Prop} {Src : Heap → Prop}
    (W : It prog w A I n P St Src) (ht : ∀ v, letOwnedTupleGo target (.ref I) v = pure ())
    (J : Nat → Nat → (Str → Option Value) → Led → Prop) {s : Shared} {led : Led} {oI : Obj} (hst : St 0 oI) (F : Fr h₀ L s.heap m) (N : News h₀ L s.heap ((I, oI) :: led)) (off : ∀ p ∈ led, p.1 ≠ I) (hj : J 0 s.toks m led)
    (hsrc : ∀ i a m led h, J i a m led → News h₀ L h led → (∀ b o, h₀.get? b = some o → h.get? b = some o) → Src h)
    (turn : ∀ i v oI m₁ led h a tk E', i < n → P i a tk v → a ≤ tk → St (i + 1) oI → J i a m₁ led → Fr h₀ L h m₁ → News h₀ L h ((I, oI) :: led) → (∀ p ∈ led, p.1 ≠ I) →
      wpAny (model prog w) A (assign target env v) (fun _ s₂ => wpAny (model prog w) A (execs body env) (ForPost h₀ L s I oI tk (J (i + 1)) fun f s' => R (.ok f) s') E' s₂) E' { s with heap := h, toks := tk })
    (done : ∀ m₁ led h a tk, a ≤ tk → J n a m₁ led → Fr h₀ L h m₁ → News h₀ L h led → (∀ p ∈ led, p.1 ≠ I) → R (.ok .next) { s with heap := h, toks := tk }) :
    codeAny (model prog w) A (.forLoop target (.ref I) body [] env) R s := by
  refine codeAny_forLoop (fun k s' => ∃ h tk i oI m₁ led, s' = { s with heap := h, toks := tk } ∧ i ≤ n ∧ k = n + 1 - i ∧ St i oI ∧ Fr h₀ L h m₁ ∧ News h₀ L h ((I, oI) :: led) ∧ (∀ p ∈ led, p.1 ≠ I) ∧ J i tk m₁ led) ?_ (n + 1)
    ⟨s.heap, s.toks, 0, oI, m, led, rfl, Nat.zero_le _, rfl, hst, F, N, off, hj⟩ ht
  intro k s' hz142
  apply el_EEEEEERARAAAAA hz142
  clear hz142
  intro h tk i oI m₁ led hi hst F N off hj
  have hI : h.get? I = some oI := (N _ (.head _)).1
  have hS : Src h := hsrc i tk m₁ led h hj (fun p hp => N p (.tail _ hp)) F.keep
  by_cases hlt : i < n
  · refine W.item i oI _ _ _ hlt hI hst hS fun v oI' h₁ tk₁ hP ht₁ hI₁ hst₁ hk => ?_
    obtain ⟨F₁, N₁⟩ := fr_next F N hI₁ off hk
    dsimp only
    refine wpAny_with_toks (n := tk₁) (Nat.le_refl _) (wpAny_mono (turn i v oI' m₁ led h₁ tk tk₁ _ hlt hP ht₁ hst₁ hj F₁ N₁ off) (fun _ s₂ hs₂ ht₂ => ?_) fun _ _ e _ => e)
    refine wpAny_with_toks (n := tk₁) ht₂ (wpAny_mono hs₂ (fun f s₂ h₂ ht₂ => ?_) fun _ _ e _ => e)
    have fin : ForEnd h₀ L s I oI' tk₁ (J (i + 1)) s₂ → ∃ k', k' < n + 1 - i ∧ ∃ h tk i oI m₁ led, s₂ = { s with heap := h, toks := tk } ∧ i ≤ n ∧ k' = n + 1 - i ∧ St i oI ∧ Fr h₀ L h m₁ ∧ News h₀ L h ((I, oI) :: led) ∧ (∀ p ∈ led, p.1 ≠ I) ∧ J i tk m₁ led := by
      intro hz143
      revert ht₂
      apply el_EEEERAAAA hz143
      clear hz143
      intro h' tk' m' led' F' N' off' hj' ht₂
      exact ⟨n + 1 - (i + 1), by omega, h', tk', i + 1, oI', m', led', rfl, hlt, rfl, hst₁, F', N', off', hj' ht₂⟩
    cases f with
    | next => exact fin h₂
    | cont => exact fin h₂
    | brk => exact h₂
    | ret v => exact h₂
  · obtain rfl : i = n := Nat.le_antisymm hi (Nat.not_lt.mp hlt)
    refine wpAny_with_toks (n := tk) (Nat.le_refl _) (W.done oI _ _ _ hI hst hS fun h₁ tk₁ hk ht₁ => ?_)
    have z := N (I, oI) (.head _)
    have F₁ : Fr h₀ L h₁ m₁ := ⟨F.ns.at' fun o e => hk _ o (Ne.symm z.2.1) e, fun b o e => hk b o (fun q => by have := z.2.2; rw [← q, e] at this; cases this) (F.keep b o e), F.above⟩
    exact wpAny_execs_nil (done m₁ led h₁ tk tk₁ ht₁ hj F₁ (fun p hp => ⟨hk _ _ (off p hp) (N p (.tail _ hp)).1, (N p (.tail _ hp)).2⟩) off)
end
theorem ne_of_below {news : Led} {a d : Nat} (h : ∀ p ∈ news, p.1 < a) (e : a ≤ d) : ∀ p ∈ news, p.1 ≠ d := fun p hp => Nat.ne_of_lt (Nat.lt_of_lt_of_le (h p hp) e)
theorem ne_of_allLt {news : Led} {a d : Nat} (h : AllLt a news) (e : a ≤ d) : ∀ p ∈ news, p.1 ≠ d := by
  have : ∀ p ∈ news, p.1 < a := by
    induction news with
    | nil => intro p hp; cases hp
    | cons q r ih =>
      intro p hp
      rcases List.mem_cons.mp hp with rfl | hp
      · exact h.1
      · exact ih h.2 p hp
  exact ne_of_below this e
section
variable {prog : Program} {w : World} {A : Around} {h₀ : Heap} {L : Addr} {m : Str → Option Value}
theorem forCoreT1 {target : PySem.Expr} {body : List Stmt} {env : Env} {I : Addr} {R : Result → Shared → Prop} {n : Nat} {P : Nat → Nat → Nat → Value → Prop} {St : Nat → Obj → Prop} {Src : Heap → Prop}
    (W : It prog w A I n P St Src) (ht : ∀ v, letOwnedTupleGo target (.ref I) v = pure ())
    (J : Addr → Nat → Nat → (Str → Option Value) → Led → Prop) {s : Shared} {led : Led} {oI : Obj} (hst : St 0 oI) (F : Fr h₀ L s.heap m) (N : News h₀ L s.heap ((I, oI) :: led)) (off : ∀ p ∈ led, p.1 ≠ I) (hj : J L 0 s.toks m led)
    (hsrc : ∀ i a m led h, J L i a m led → News h₀ L h led → (∀ b o, h₀.get? b = some o → h.get? b = some o) → Src h)
    (turn : ∀ i v oI m₁ led h a tk E', i < n → P i a tk v → a ≤ tk → St (i + 1) oI → J L i a m₁ led → Fr h₀ L h m₁ → News h₀ L h ((I, oI) :: led) → (∀ p ∈ led, p.1 ≠ I) →
      wpAny (model prog w) A (assign target env v) (fun _ s₂ => wpAny (model prog w) A (execs body env) (ForPost h₀ L s I oI tk (J L (i + 1)) fun f s' => R (.ok f) s') E' s₂) E' { s with heap := h, toks := tk })
    (done : ∀ m₁ led h a tk, a ≤ tk → J L n a m₁ led → Fr h₀ L h m₁ → News h₀ L h led → (∀ p ∈ led, p.1 ≠ I) → R (.ok .next) { s with heap := h, toks := tk }) :
    codeAny (model prog w) A (.forLoop target (.ref I) body [] env) R s := forCoreT W ht (J L) hst F N off hj hsrc turn done
end
theorem off_sub {I : Addr} {l l' : Led} (h : ∀ p ∈ l, p.1 ≠ I) (hs : ∀ p ∈ l', p ∈ l) : ∀ p ∈ l', p.1 ≠ I := fun p hp => h p (hs p hp)
section
variable {prog : Program} {w : World} {A : Around} {E : Value → Shared → Prop} {s : Shared} {h₀ : Heap} {L : Addr} {m : Str → Option Value}
theorem refN {value slice : PySem.Expr} {D : Addr} {news : Led} {vs : List Value} {n : Nat} {k : Int} {u : Tok} {v : Value} {Q : Value → Shared → Prop} (N : News h₀ L s.heap news) (hm : (D, lstO vs n) ∈ news) (hk : 0 ≤ k ∧ k ≤ 1000000) (hv : vs[k.toNat]? = some v) (h : Q v s)
    (hs : subscripted slice false (.ref D) (.int k u) = operate [.ref D, .int k u] (getItem (.ref D) (.int k u)) := by with_unfolding_all rfl) :
    wpAny (model prog w) A (subscriptTail value slice (.ref D) (.int k u)) Q E s := by
  have hl := PySem.IsL.isList (n := n) (N _ hm).1
  exact tail_any hl.typeIs slot_list_getitem.lookup (wpAny_getItem_list hl hk.1 (by omega) (by simpa using hv) h) hs
end

-- G6
/-- a comprehension at its start: its first iterator stands -/
noncomputable def CompIn (prog : Program) (w : World) (A : Around) (E : Value → Shared → Prop) (elt target iter : PySem.Expr) (ifs : List PySem.Expr) (gs : List Comprehension) (scope : Scope) (cl : List (Str × Addr)) (pos : Pos) (env : Env) (RR : Value → Addr → Result → Shared → Prop) (it : Value) (s : Shared) : Prop :=
  wpAny (model prog w) A (newList []) (fun acc s₃ => wpAny (model prog w) A (newFunctionEnv scope env.globals cl [] env.qual none .none (some env)) (fun cenv s₄ =>
    codeAny (model prog w) A (.compStart (.ListComp elt (⟨target, iter, ifs, 0⟩ :: gs) scope pos) 0 it acc { cenv with scope := relabel scope env }) (RR acc cenv.locals) s₄) E s₃) E s
section
variable {prog : Program} {w : World} {A : Around} {E : Value → Shared → Prop} {s : Shared} {env : Env}
theorem comp_evalT {elt target iter : PySem.Expr} {ifs : List PySem.Expr} {gs : List Comprehension} {scope : Scope} {cl : List (Str × Addr)} {pos : Pos} {Q : Value → Shared → Prop} (_ht : 1 ≤ s.toks)
    (hs : ∀ x, foldedSetIterable iter env x = pure x) (hclos : closureFor scope env = pure cl) (hkind : scope.kind = .function) (hnames : ∀ y ∈ scope.names, y.2 = .local → scope.names.lookup y.1 = some .local)
    (h : wpAny (model prog w) A (eval iter env) (fun xv s₁ => wpAny (model prog w) A (pyIter xv) (fun it s₂ => ∀ tk, s.toks ≤ tk → CompIn prog w A E elt target iter ifs gs scope cl pos env (fun acc C => compPost (model prog w) A E none Q acc C) it { s₂ with toks := tk }) E s₁) E s) :
    wpAny (model prog w) A (eval (.ListComp elt (⟨target, iter, ifs, 0⟩ :: gs) scope pos) env) Q E s :=
  comp_eval hs hclos hkind hnames (wpAny_with_toks (Nat.le_refl s.toks) (wpAny_mono h (fun _ _ h₁ ht₁ => wpAny_with_toks ht₁ (wpAny_mono h₁ (fun _ s₂ h₂ ht₂ => h₂ s₂.toks ht₂) fun _ _ e _ => e)) fun _ _ e _ => e))
theorem comp_assignT {elt target iter : PySem.Expr} {ifs : List PySem.Expr} {gs : List Comprehension} {scope : Scope} {cl : List (Str × Addr)} {pos spos py : Pos} {y : Str} {Q : Flow → Shared → Prop} (_ht : 1 ≤ s.toks)
    (hs : ∀ x, foldedSetIterable iter env x = pure x) (hclos : closureFor scope env = pure cl) (hkind : scope.kind = .function) (hnames : ∀ y ∈ scope.names, y.2 = .local → scope.names.lookup y.1 = some .local)
    (hsw : swapsWith (.ListComp elt (⟨target, iter, ifs, 0⟩ :: gs) scope pos) (some (.Name y py)) spos.line env = pure true)
    (h : wpAny (model prog w) A (eval iter env) (fun xv s₁ => wpAny (model prog w) A (pyIter xv) (fun it s₂ => ∀ tk, s.toks ≤ tk → CompIn prog w A E elt target iter ifs gs scope cl pos env (fun acc C => compPost (model prog w) A E (some (assign (.Name y py) env)) (fun _ s' => Q .next s') acc C) it { s₂ with toks := tk }) E s₁) E s) :
    wpAny (model prog w) A (exec (.Assign [.Name y py] (.ListComp elt (⟨target, iter, ifs, 0⟩ :: gs) scope pos) spos) env) Q E s :=
  comp_assign hs hclos hkind hnames hsw (wpAny_with_toks (Nat.le_refl s.toks) (wpAny_mono h (fun _ _ h₁ ht₁ => wpAny_with_toks ht₁ (wpAny_mono h₁ (fun _ s₂ h₂ ht₂ => h₂ s₂.toks ht₂) fun _ _ e _ => e)) fun _ _ e _ => e))
end
section
variable {prog : Program} {w : World} {A : Around} {E : Value → Shared → Prop} {s : Shared} {h₀ : Heap} {L : Addr} {m : Str → Option Value} {env : Env}
/-- how a turn of a comprehension with the items ys may end: some new objects, and one item more or none -/
noncomputable def TurnEnd (h₀ : Heap) (L : Addr) (m : Str → Option Value) (s : Shared) (base : Led) (tk : Nat) (J : Nat → Led → Prop) (s' : Shared) : Prop :=
  ∃ h' tk' objs, s' = { s with heap := h', toks := tk' } ∧ Fr h₀ L h' m ∧ News h₀ L h' (objs ++ base) ∧ Fresh objs base ∧ (tk ≤ tk' → J tk' objs)
theorem turnEnd {base : Led} {tk : Nat} {J : Nat → Led → Prop} {h' : Heap} {tk' : Nat} {objs : Led} (F : Fr h₀ L h' m) (N : News h₀ L h' (objs ++ base)) (fr : Fresh objs base) (hj : tk ≤ tk' → J tk' objs) : TurnEnd h₀ L m s base tk J { s with heap := h', toks := tk' } := ⟨h', tk', objs, rfl, F, N, fr, hj⟩
theorem turnEnd0 {base : Led} {tk : Nat} {J : Nat → Led → Prop} {h' : Heap} {tk' : Nat} (F : Fr h₀ L h' m) (N : News h₀ L h' base) (hj : tk ≤ tk' → J tk' []) : TurnEnd h₀ L m s base tk J { s with heap := h', toks := tk' } := ⟨h', tk', [], rfl, F, N, fresh_nil, hj⟩

theorem off_more {I C D : Addr} {oI oC oD : Obj} {objs rest : Led} (hO : Off I C D rest) (fr : Fresh objs ((I, oI) :: (C, oC) :: (D, oD) :: rest)) : Off I C D (objs ++ rest) := by
  refine ⟨hO.ic, hO.id, hO.cd, fun p hp => ?_⟩
  rcases List.mem_append.mp hp with hp | hp
  · exact ⟨(fr p hp _ (.head _)).symm, (fr p hp _ (.tail _ (.head _))).symm, (fr p hp _ (.tail _ (.tail _ (.head _)))).symm⟩
  · exact hO.r p hp

/-- the core of a comprehension with one clause, one local target -/
theorem compRunC {elt iter : PySem.Expr} {ifs : List PySem.Expr} {scope : Scope} {cl : List (Str × Addr)} {pos px : Pos} {x : Str} {I C D : Addr} {oI oC : Obj} {rest : Led} {R : Result → Shared → Prop} {n : Nat} {P : Nat → Nat → Nat → Value → Prop} {St : Nat → Obj → Prop} {Src : Heap → Prop} {m₂ : Str → Option Value}
    (W : It prog w A I n P St Src) (hPm : ∀ i a b c v, b ≤ c → P i a b v → P i a c v) (hk : scope.kind = .function) (hx : scope.names.lookup x = some .local)
    (J : Nat → Nat → Led → List Value → Prop) (hst : St 0 oI) (F : Fr h₀ L s.heap m) (N : News h₀ L s.heap ((I, oI) :: (C, oC) :: (D, lst []) :: rest)) (hC : NsO oC m₂) (hO : Off I C D rest) (hj : J 0 s.toks rest [])
    (hsrc : ∀ i a led ys h, J i a led ys → News h₀ L h led → (∀ b o, h₀.get? b = some o → h.get? b = some o) → Src h)
    (hlen : ∀ i a led ys, J i a led ys → ys.length ≤ 1000000)
    (turn : ∀ i v oI oC (m₂ : Str → Option Value) led ys h a tk E', i < n → P i a tk v → a ≤ tk → J i a led ys → NsO oC (fun z => if z = x then some v else m₂ z) → Fr h₀ L h m → News h₀ L h ((I, oI) :: (C, oC) :: (D, lst ys) :: led) →
      wpAny (model prog w) A (forIn ifs true fun c r => if r = true then do let ok ← isTrue c (compEnvC scope cl C env) (eval c (compEnvC scope cl C env)); pure (ForInStep.yield ok) else pure (ForInStep.yield r)) (fun ok s₃ =>
        if ok = true then wpAny (model prog w) A (eval elt (compEnvC scope cl C env)) (fun y s₄ => TurnEnd h₀ L m s ((I, oI) :: (C, oC) :: (D, lst ys) :: led) tk (fun tk' objs => J (i + 1) tk' (objs ++ led) (ys ++ [y])) s₄) E' s₃
        else TurnEnd h₀ L m s ((I, oI) :: (C, oC) :: (D, lst ys) :: led) tk (fun tk' objs => J (i + 1) tk' (objs ++ led) ys) s₃) E' { s with heap := h, toks := tk })
    (done : ∀ oC m₂ led ys h a tk, a ≤ tk → J n a led ys → NsO oC m₂ → Fr h₀ L h m → News h₀ L h ((C, oC) :: (D, lst ys) :: led) → Off I C D led → R (.ok .next) { s with heap := h, toks := tk }) :
    codeAny (model prog w) A (.compLoop (.ListComp elt [⟨.Name x px, iter, ifs, 0⟩] scope pos) 0 (.ref I) (.ref D) (compEnvC scope cl C env)) R s := by
  refine compCore (p0 := _) W (by exact rfl)
    (fun i a led => ∃ oC m₂ ys r, led = (C, oC) :: (D, lst ys) :: r ∧ NsO oC m₂ ∧ Off I C D r ∧ J i a r ys) hst F N (fun p hp => ?_) ⟨oC, m₂, [], rest, rfl, hC, hO, hj⟩ ?_ ?_ ?_
  · rcases List.mem_cons.mp hp with rfl | hp
    · exact hO.ic.symm
    · rcases List.mem_cons.mp hp with rfl | hp
      · exact hO.id.symm
      · exact (hO.r p hp).1
  · intro i a led h hz144
    apply el_EEEERAAA hz144
    clear hz144
    intro oC m₂ ys r _ _ hj N hk
    exact hsrc i a r ys h hj (fun p hp => N p (.tail _ (.tail _ hp))) hk
  · intro i v oI led h a tk E' hi hP ha hst' hz145
    apply el_EEEERAAA hz145
    clear hz145
    intro oC m₂ ys r hC hO hj F N off
    refine turn1 ?_
    refine wpAny_mono (Q := fun _ s' => s' = { s with heap := h, toks := tk }) (wpAny_pure rfl) (fun _ s₁ e => ?_) (fun _ _ e => e)
    subst e
    refine store_C (s := { s with heap := h, toks := tk }) F N hO hC hk hx fun h' oC' hC' F' N' => ?_
    dsimp only
    have mk : ∀ (ys' : List Value) (h₄ : Heap) (tk₄ : Nat) (objs : Led), Fr h₀ L h₄ m → News h₀ L h₄ ((I, oI) :: (C, oC') :: (D, lst ys') :: (objs ++ r)) → Off I C D (objs ++ r) → (tk ≤ tk₄ → J (i + 1) tk₄ (objs ++ r) ys') →
        LoopEnd h₀ L m s I oI tk (fun a led => ∃ oC m₂ ys r, led = (C, oC) :: (D, lst ys) :: r ∧ NsO oC m₂ ∧ Off I C D r ∧ J (i + 1) a r ys) { s with heap := h₄, toks := tk₄ } := fun ys' h₄ tk₄ objs F₄ N₄ hO₄ hj₄ => by
      refine ⟨h₄, tk₄, (C, oC') :: (D, lst ys') :: (objs ++ r), rfl, F₄, N₄, fun p hp => ?_, fun hle => ⟨oC', _, ys', objs ++ r, rfl, hC', hO₄, hj₄ hle⟩⟩
      rcases List.mem_cons.mp hp with rfl | hp
      · exact hO₄.ic.symm
      · rcases List.mem_cons.mp hp with rfl | hp
        · exact hO₄.id.symm
        · exact (hO₄.r p hp).1
    have perm : ∀ (objs : Led), ∀ p ∈ (I, oI) :: (C, oC') :: (D, lst ys) :: (objs ++ r), p ∈ objs ++ (I, oI) :: (C, oC') :: (D, lst ys) :: r := fun objs p hp => by
      simp only [List.mem_cons, List.mem_append] at hp ⊢
      rcases hp with e | e | e | e | e
      · exact .inr (.inl e)
      · exact .inr (.inr (.inl e))
      · exact .inr (.inr (.inr (.inl e)))
      · exact .inl e
      · exact .inr (.inr (.inr (.inr e)))
    refine wpAny_with_toks (n := tk + 1) (Nat.le_refl _) (wpAny_mono (turn i v oI oC' m₂ r ys h' a (tk + 1) E' hi (hPm _ _ _ _ _ (Nat.le_succ _) hP) (Nat.le_succ_of_le ha) hj hC' F' N') (fun ok s₃ h₃ ht₃ => ?_) fun _ _ e _ => e)
    cases ok with
    | false =>
      revert ht₃
      apply el_EEERAAAA h₃
      clear h₃
      intro h₄ tk₄ objs F₄ N₄ fr hj₄
      intro ht₃
      exact mk ys h₄ tk₄ objs F₄ (news_sub N₄ (perm objs)) (off_more hO fr) fun _ => hj₄ ht₃
    | true =>
      refine wpAny_with_toks (n := tk + 1) ht₃ (wpAny_mono h₃ (fun y s₄ h₄ ht₄ => ?_) fun _ _ e _ => e)
      revert ht₄
      apply el_EEERAAAA h₄
      clear h₄
      intro h₄ tk₄ objs F₄ N₄ fr hj₄
      intro ht₄
      have jj := hj₄ ht₄
      refine append_D (s := { s with heap := h₄, toks := tk₄ }) F₄ (news_sub N₄ (perm objs)) (off_more hO fr) (by have := hlen _ _ _ _ hj; rw [sizeLine_eq]; omega) fun h₅ F₅ N₅ => ?_
      exact mk (ys ++ [y]) h₅ tk₄ objs F₅ N₅ (off_more hO fr) fun _ => jj
  · intro led h a tk ha hz146
    apply el_EEEERAAA hz146
    clear hz146
    intro oC m₂ ys r hC hO hj F N off
    exact done oC m₂ r ys h a tk ha hj hC F N hO
end
section
variable {prog : Program} {w : World} {A : Around} {E : Value → Shared → Prop} {s : Shared} {h₀ : Heap} {L : Addr} {m : Str → Option Value} {env : Env}
/-- a comprehension with one clause, one local target, no cells of its own -/
theorem compRunG {elt iter : PySem.Expr} {ifs : List PySem.Expr} {scope : Scope} {cl : List (Str × Addr)} {pos px : Pos} {x : Str} {I : Addr} {oI : Obj} {rest : Led} {RR : Value → Addr → Result → Shared → Prop} {n : Nat} {P : Nat → Nat → Nat → Value → Prop} {St : Nat → Obj → Prop} {Src : Heap → Prop}
    (hcf : ∀ n, cellsFrom n scope.names cl = cl) (hpc : ∀ h, pushCells h scope.names = h)
    (W : It prog w A I n P St Src) (hPm : ∀ i a b c v, b ≤ c → P i a b v → P i a c v) (hk : scope.kind = .function) (hx : scope.names.lookup x = some .local)
    (J : Nat → Nat → Led → List Value → Prop) (hst : St 0 oI) (F : Fr h₀ L s.heap m) (N : News h₀ L s.heap ((I, oI) :: rest)) (off : ∀ p ∈ rest, p.1 ≠ I) (hj : J 0 s.toks rest [])
    (hsrc : ∀ i a led ys h, J i a led ys → News h₀ L h led → (∀ b o, h₀.get? b = some o → h.get? b = some o) → Src h)
    (hlen : ∀ i a led ys, J i a led ys → ys.length ≤ 1000000)
    (turn : ∀ C D i v oI oC (m₂ : Str → Option Value) led ys h a tk E', Off I C D led → i < n → P i a tk v → a ≤ tk → J i a led ys → NsO oC (fun z => if z = x then some v else m₂ z) → Fr h₀ L h m → News h₀ L h ((I, oI) :: (C, oC) :: (D, lst ys) :: led) →
      wpAny (model prog w) A (forIn ifs true fun c r => if r = true then do let ok ← isTrue c (compEnvC scope cl C env) (eval c (compEnvC scope cl C env)); pure (ForInStep.yield ok) else pure (ForInStep.yield r)) (fun ok s₃ =>
        if ok = true then wpAny (model prog w) A (eval elt (compEnvC scope cl C env)) (fun y s₄ => TurnEnd h₀ L m s ((I, oI) :: (C, oC) :: (D, lst ys) :: led) tk (fun tk' objs => J (i + 1) tk' (objs ++ led) (ys ++ [y])) s₄) E' s₃
        else TurnEnd h₀ L m s ((I, oI) :: (C, oC) :: (D, lst ys) :: led) tk (fun tk' objs => J (i + 1) tk' (objs ++ led) ys) s₃) E' { s with heap := h, toks := tk })
    (done : ∀ C D oC m₂ led ys h a tk, a ≤ tk → J n a led ys → NsO oC m₂ → Fr h₀ L h m → News h₀ L h ((C, oC) :: (D, lst ys) :: led) → Off I C D led → RR (.ref D) C (.ok .next) { s with heap := h, toks := tk }) :
    CompIn prog w A E elt (.Name x px) iter ifs [] scope cl pos env RR (.ref I) s := by
  unfold CompIn
  refine compInit0 hcf hpc F N off (fun s' Q E e hk' N' hq => W.self 0 oI s' Q E e hst (hsrc 0 s.toks rest [] s'.heap hj N' hk') hq) fun D C oC h hC F' N' hO => ?_
  refine compRunC (s := { s with heap := h }) W hPm hk hx (fun i a led ys => Off I C D led ∧ J i a led ys) hst F' N' hC hO ⟨hO, hj⟩ (fun i a led ys h hj => hsrc i a led ys h hj.2) (fun i a led ys hj => hlen i a led ys hj.2) ?_ ?_
  · intro i v oI oC m₂ led ys h a tk E' hi hP ha hj hC F N
    have up : ∀ (ys' : List Value) s', TurnEnd h₀ L m s ((I, oI) :: (C, oC) :: (D, lst ys) :: led) tk (fun tk' objs => J (i + 1) tk' (objs ++ led) ys') s' → TurnEnd h₀ L m { s with heap := h } ((I, oI) :: (C, oC) :: (D, lst ys) :: led) tk (fun tk' objs => Off I C D (objs ++ led) ∧ J (i + 1) tk' (objs ++ led) ys') s' := by
      intro ys' s' hz147
      apply el_EEERAAAA hz147
      clear hz147
      intro h' tk' objs F' N' fr hj'
      exact ⟨h', tk', objs, rfl, F', N', fr, fun hle => ⟨off_more hj.1 fr, hj' hle⟩⟩
    refine wpAny_mono (turn C D i v oI oC m₂ led ys h a tk E' hj.1 hi hP ha hj.2 hC F N) (fun ok s₃ h₃ => ?_) fun _ _ e => e
    cases ok with
    | false => exact up _ _ h₃
    | true => exact wpAny_mono h₃ (fun y s₄ h₄ => up _ _ h₄) fun _ _ e => e
  · intro oC m₂ led ys h a tk ha hj hC F N hO
    exact done C D oC m₂ led ys h a tk ha hj.2 hC F N hO

theorem tests_nil {c' : Env} {Q : Bool → Shared → Prop} (h : Q true s) : wpAny (model prog w) A (forIn ([] : List PySem.Expr) true fun c r => if r = true then do let ok ← isTrue c c' (eval c c'); pure (ForInStep.yield ok) else pure (ForInStep.yield r)) Q E s := wpAny_pure h
theorem tests_one {c : PySem.Expr} {c' : Env} {Q : Bool → Shared → Prop} (h : wpAny (model prog w) A (isTrue c c' (eval c c')) Q E s) : wpAny (model prog w) A (forIn [c] true fun c r => if r = true then do let ok ← isTrue c c' (eval c c'); pure (ForInStep.yield ok) else pure (ForInStep.yield r)) Q E s := by
  rw [List.forIn_cons]
  simp only [if_true]
  exact wpAny_bind (wpAny_bind (wpAny_mono h (fun ok s₁ h₁ => wpAny_pure (wpAny_pure h₁)) fun _ _ e => e))

/-- its value handed on -/
theorem compRun {elt iter : PySem.Expr} {scope : Scope} {cl : List (Str × Addr)} {pos px : Pos} {x : Str} {I : Addr} {oI : Obj} {rest : Led} {Q : Value → Shared → Prop} {n : Nat} {P : Nat → Nat → Nat → Value → Prop} {St : Nat → Obj → Prop} {Src : Heap → Prop}
    (hcf : ∀ n, cellsFrom n scope.names cl = cl) (hpc : ∀ h, pushCells h scope.names = h)
    (W : It prog w A I n P St Src) (hPm : ∀ i a b c v, b ≤ c → P i a b v → P i a c v) (hk : scope.kind = .function) (hx : scope.names.lookup x = some .local)
    (J : Led → Nat → Nat → Led → List Value → Prop) (hst : St 0 oI) (F : Fr h₀ L s.heap m) (N : News h₀ L s.heap ((I, oI) :: rest)) (off : ∀ p ∈ rest, p.1 ≠ I) (hj : J rest 0 s.toks rest [])
    (hsrc : ∀ i a led ys h, J rest i a led ys → News h₀ L h led → (∀ b o, h₀.get? b = some o → h.get? b = some o) → Src h)
    (hlen : ∀ i a led ys, J rest i a led ys → ys.length ≤ 1000000)
    (turn : ∀ C D i v oI oC (m₂ : Str → Option Value) led ys h a tk E', Off I C D led → i < n → P i a tk v → a ≤ tk → J rest i a led ys → NsO oC (fun z => if z = x then some v else m₂ z) → Fr h₀ L h m → News h₀ L h ((I, oI) :: (C, oC) :: (D, lst ys) :: led) →
      wpAny (model prog w) A (eval elt (compEnvC scope cl C env)) (fun y s₄ => TurnEnd h₀ L m s ((I, oI) :: (C, oC) :: (D, lst ys) :: led) tk (fun tk' objs => J rest (i + 1) tk' (objs ++ led) (ys ++ [y])) s₄) E' { s with heap := h, toks := tk })
    (done : ∀ D led ys h a tk, a ≤ tk → J rest n a led ys → Fr h₀ L h m → News h₀ L h ((D, lst ys) :: led) → (∀ p ∈ led, p.1 ≠ D) → (∀ p ∈ (D, lst ys) :: led, p.1 ≠ I) → Q (.ref D) { s with heap := h, toks := tk }) :
    CompIn prog w A E elt (.Name x px) iter [] [] scope cl pos env (fun acc C => compPost (model prog w) A E none Q acc C) (.ref I) s := by
  refine compRunG hcf hpc W hPm hk hx (J rest) hst F N off hj hsrc hlen (fun C D i v oI oC m₂ led ys h a tk E' hO hi hP ha hj hC F N => tests_nil ?_) fun C D oC m₂ led ys h a tk ha hj hC F N hO => ?_
  · simp only [if_true]
    exact turn C D i v oI oC m₂ led ys h a tk E' hO hi hP ha hj hC F N
  · refine comp_done hC F N hO.cd (fun p hp => (hO.r p hp).2.1) fun h' F' N' => done D led ys h' a tk ha hj F' N' (fun p hp => (hO.r p hp).2.2) fun p hp => ?_
    rcases List.mem_cons.mp hp with rfl | hp
    · exact hO.id.symm
    · exact (hO.r p hp).1
theorem compRunT {elt iter c : PySem.Expr} {scope : Scope} {cl : List (Str × Addr)} {pos px : Pos} {x : Str} {I : Addr} {oI : Obj} {rest : Led} {Q : Value → Shared → Prop} {n : Nat} {P : Nat → Nat → Nat → Value → Prop} {St : Nat → Obj → Prop} {Src : Heap → Prop}
    (hcf : ∀ n, cellsFrom n scope.names cl = cl) (hpc : ∀ h, pushCells h scope.names = h)
    (W : It prog w A I n P St Src) (hPm : ∀ i a b c v, b ≤ c → P i a b v → P i a c v) (hk : scope.kind = .function) (hx : scope.names.lookup x = some .local)
    (J : Led → Nat → Nat → Led → List Value → Prop) (hst : St 0 oI) (F : Fr h₀ L s.heap m) (N : News h₀ L s.heap ((I, oI) :: rest)) (off : ∀ p ∈ rest, p.1 ≠ I) (hj : J rest 0 s.toks rest [])
    (hsrc : ∀ i a led ys h, J rest i a led ys → News h₀ L h led → (∀ b o, h₀.get? b = some o → h.get? b = some o) → Src h)
    (hlen : ∀ i a led ys, J rest i a led ys → ys.length ≤ 1000000)
    (turn : ∀ C D i v oI oC (m₂ : Str → Option Value) led ys h a tk E', Off I C D led → i < n → P i a tk v → a ≤ tk → J rest i a led ys → NsO oC (fun z => if z = x then some v else m₂ z) → Fr h₀ L h m → News h₀ L h ((I, oI) :: (C, oC) :: (D, lst ys) :: led) →
      wpAny (model prog w) A (isTrue c (compEnvC scope cl C env) (eval c (compEnvC scope cl C env))) (fun ok s₃ =>
        if ok = true then wpAny (model prog w) A (eval elt (compEnvC scope cl C env)) (fun y s₄ => TurnEnd h₀ L m s ((I, oI) :: (C, oC) :: (D, lst ys) :: led) tk (fun tk' objs => J rest (i + 1) tk' (objs ++ led) (ys ++ [y])) s₄) E' s₃
        else TurnEnd h₀ L m s ((I, oI) :: (C, oC) :: (D, lst ys) :: led) tk (fun tk' objs => J rest (i + 1) tk' (objs ++ led) ys) s₃) E' { s with heap := h, toks := tk })
    (done : ∀ D led ys h a tk, a ≤ tk → J rest n a led ys → Fr h₀ L h m → News h₀ L h ((D, lst ys) :: led) → (∀ p ∈ led, p.1 ≠ D) → (∀ p ∈ (D, lst ys) :: led, p.1 ≠ I) → Q (.ref D) { s with heap := h, toks := tk }) :
    CompIn prog w A E elt (.Name x px) iter [c] [] scope cl pos env (fun acc C => compPost (model prog w) A E none Q acc C) (.ref I) s := by
  refine compRunG hcf hpc W hPm hk hx (J rest) hst F N off hj hsrc hlen (fun C D i v oI oC m₂ led ys h a tk E' hO hi hP ha hj hC F N => tests_one (turn C D i v oI oC m₂ led ys h a tk E' hO hi hP ha hj hC F N)) fun C D oC m₂ led ys h a tk ha hj hC F N hO => ?_
  refine comp_done hC F N hO.cd (fun p hp => (hO.r p hp).2.1) fun h' F' N' => done D led ys h' a tk ha hj F' N' (fun p hp => (hO.r p hp).2.2) fun p hp => ?_
  rcases List.mem_cons.mp hp with rfl | hp
  · exact hO.id.symm
  · exact (hO.r p hp).1
/-- its value stored in a local name -/
theorem compRunA {elt iter : PySem.Expr} {scope : Scope} {cl : List (Str × Addr)} {pos px py : Pos} {x y : Str} {I : Addr} {oI : Obj} {rest : Led} {Q : Shared → Prop} {n : Nat} {P : Nat → Nat → Nat → Value → Prop} {St : Nat → Obj → Prop} {Src : Heap → Prop}
    (hcf : ∀ n, cellsFrom n scope.names cl = cl) (hpc : ∀ h, pushCells h scope.names = h)
    (W : It prog w A I n P St Src) (hPm : ∀ i a b c v, b ≤ c → P i a b v → P i a c v) (hk : scope.kind = .function) (hx : scope.names.lookup x = some .local)
    (J : Led → Nat → Nat → Led → List Value → Prop) (hst : St 0 oI) (F : Fr h₀ L s.heap m) (N : News h₀ L s.heap ((I, oI) :: rest)) (off : ∀ p ∈ rest, p.1 ≠ I) (hj : J rest 0 s.toks rest [])
    (hsrc : ∀ i a led ys h, J rest i a led ys → News h₀ L h led → (∀ b o, h₀.get? b = some o → h.get? b = some o) → Src h)
    (hlen : ∀ i a led ys, J rest i a led ys → ys.length ≤ 1000000)
    (turn : ∀ C D i v oI oC (m₂ : Str → Option Value) led ys h a tk E', Off I C D led → i < n → P i a tk v → a ≤ tk → J rest i a led ys → NsO oC (fun z => if z = x then some v else m₂ z) → Fr h₀ L h m → News h₀ L h ((I, oI) :: (C, oC) :: (D, lst ys) :: led) →
      wpAny (model prog w) A (eval elt (compEnvC scope cl C env)) (fun y s₄ => TurnEnd h₀ L m s ((I, oI) :: (C, oC) :: (D, lst ys) :: led) tk (fun tk' objs => J rest (i + 1) tk' (objs ++ led) (ys ++ [y])) s₄) E' { s with heap := h, toks := tk })
    (done : ∀ D led ys h a tk, a ≤ tk → J rest n a led ys → Fr h₀ L h (fun z => if z = y then some (.ref D) else m z) → News h₀ L h ((D, lst ys) :: led) → (∀ p ∈ led, p.1 ≠ D) → (∀ p ∈ (D, lst ys) :: led, p.1 ≠ I) → Q { s with heap := h, toks := tk + 1 })
    (hLe : env.locals = L := by rfl) (hy : env.kindOf y = some .local := by rfl) (hp : (env.scope.kind == .class || (env.scope.kind == .module && env.locals != env.globals)) = false := by rfl) :
    CompIn prog w A E elt (.Name x px) iter [] [] scope cl pos env (fun acc C => compPost (model prog w) A E (some (assign (.Name y py) env)) (fun _ s' => Q s') acc C) (.ref I) s := by
  refine compRunG hcf hpc W hPm hk hx (J rest) hst F N off hj hsrc hlen (fun C D i v oI oC m₂ led ys h a tk E' hO hi hP ha hj hC F N => tests_nil ?_) fun C D oC m₂ led ys h a tk ha hj hC F N hO => ?_
  · simp only [if_true]
    exact turn C D i v oI oC m₂ led ys h a tk E' hO hi hP ha hj hC F N
  · refine comp_done_assign (Q := fun _ s' => Q s') hLe hy hp hC F N hO.cd (fun p hp => (hO.r p hp).2.1) fun h' F' N' => done D led ys h' a tk ha hj F' N' (fun p hp => (hO.r p hp).2.2) fun p hp => ?_
    rcases List.mem_cons.mp hp with rfl | hp
    · exact hO.id.symm
    · exact (hO.r p hp).1
end
theorem swap_news {h₀ h : Heap} {L I D D2 : Addr} {oI oD o2 : Obj} {r : Led} (N : News h₀ L h ((D2, o2) :: (I, oI) :: (D, oD) :: r)) : News h₀ L h ((I, oI) :: (D2, o2) :: r) := fun p hp => by
  rcases List.mem_cons.mp hp with rfl | hp
  · exact N _ (.tail _ (.head _))
  · rcases List.mem_cons.mp hp with rfl | hp
    · exact N _ (.head _)
    · exact N _ (.tail _ (.tail _ (.tail _ hp)))
theorem off_drop {d : Addr} {q : Addr × Obj} {r : Led} (h : ∀ p ∈ q :: r, p.1 ≠ d) : ∀ p ∈ r, p.1 ≠ d := fun p hp => h p (.tail _ hp)
theorem getD_mem {α : Type} (l : List α) (d : α) {n : Nat} (h : n < l.length) : l.getD n d ∈ l := by
  rw [List.getD_eq_getElem?_getD, List.getElem?_eq_getElem h]; exact List.getElem_mem _

-- G7
section
variable {prog : Program} {w : World} {A : Around} {E : Value → Shared → Prop} {s : Shared} {h₀ : Heap} {L : Addr} {m : Str → Option Value} {news : Led}
theorem pyIter_tupN {x : Addr} {vs : List Value} {n : Nat} {Q : Value → Shared → Prop} (F : Fr h₀ L s.heap m) (N : News h₀ L s.heap news) (hx : (x, tupO vs n) ∈ news)
    (k : ∀ I oI h', StTup x 0 oI → Fr h₀ L h' m → News h₀ L h' ((I, oI) :: news) → (∀ p ∈ news, p.1 ≠ I) → Q (.ref I) { s with heap := h' }) : wpAny (model prog w) A (pyIter (.ref x)) Q E s := by
  refine wpAny_pyIter_tuple ⟨_, (N _ hx).1, rfl, _, rfl⟩ ?_
  obtain ⟨F', N', off⟩ := new_at F N { cls := .type "tuple_iterator", data := .fields #[.ref x, .int 0 0] }
  exact k _ _ _ ⟨rfl, rfl⟩ F' N' off
theorem minN {x : Addr} {vs : List Value} {ns : List Int} {n : Nat} {Q : Value → Shared → Prop} (hh : A.handled = none) (F : Fr h₀ L s.heap m) (N : News h₀ L s.heap news) (hx : (x, lstO vs n) ∈ news) (hi : IntsAre vs ns) (hne : 0 < ns.length)
    (k : ∀ M t h' tk, M ∈ ns → (∀ a, a ∈ ns → M ≤ a) → Fr h₀ L h' m → News h₀ L h' news → Q (.int M t) { s with heap := h', toks := tk }) : wpAny (model prog w) A (call (.builtin "min") [.ref x]) Q E s :=
  kso_min F N (PySem.IsL.isList (n := n) (N _ hx).1) hi hne hh fun h' M t tk F' N' a b => k M t h' tk a b F' N'
theorem maxN {x : Addr} {vs : List Value} {ns : List Int} {n : Nat} {Q : Value → Shared → Prop} (hh : A.handled = none) (F : Fr h₀ L s.heap m) (N : News h₀ L s.heap news) (hx : (x, lstO vs n) ∈ news) (hi : IntsAre vs ns) (hne : 0 < ns.length)
    (k : ∀ M t h' tk, M ∈ ns → (∀ a, a ∈ ns → a ≤ M) → Fr h₀ L h' m → News h₀ L h' news → Q (.int M t) { s with heap := h', toks := tk }) : wpAny (model prog w) A (call (.builtin "max") [.ref x]) Q E s :=
  kso_max F N (PySem.IsL.isList (n := n) (N _ hx).1) hi hne hh fun h' M t tk F' N' a b => k M t h' tk a b F' N'
theorem ne_intsN {x y : Addr} {vs us : List Value} {ns ms : List Int} {n k : Nat} {Q : Value → Shared → Prop} (N : News h₀ L s.heap news) (hx : (x, lstO vs n) ∈ news) (hy : (y, lstO us k) ∈ news) (hi : IntsAre vs ns) (hj : IntsAre us ms) (hu : A.units + 64 < cLine)
    (h1 : ns = ms → Q (.bool false) s) (h2 : ns ≠ ms → Q (.bool true) s) : wpAny (model prog w) A (compareOp .NotEq (.ref x) (.ref y)) Q E s := by
  refine ke_ne_ints (PySem.IsL.isList (n := n) (N _ hx).1) (PySem.IsL.isList (n := k) (N _ hy).1) hi hj hu ?_
  by_cases e : ns = ms
  · rw [decide_eq_true e]; exact h1 e
  · rw [decide_eq_false e]; exact h2 e
theorem fresh_one_off {D : Addr} {o : Obj} (h : Fresh [(D, o)] news) : ∀ p ∈ news, p.1 ≠ D := fun p hp => h _ (.head _) p hp
end
theorem Parts.length : ∀ {vs : List Value} {ps : List Part}, Parts vs ps → vs.length = ps.length
  | _, _, .nil => rfl
  | _, _, .i r => congrArg (· + 1) r.length
  | _, _, .f r => congrArg (· + 1) r.length
theorem Parts.get {vs : List Value} {ps : List Part} (h : Parts vs ps) : ∀ {i : Nat} {v : Value}, vs[i]? = some v → (∃ n t, ps[i]? = some (.i n) ∧ v = .int n t) ∨ (∃ b t, ps[i]? = some (.f b) ∧ v = .float b t) := by
  induction h with
  | nil => intro i v e; simp at e
  | @i n t vs ps r ih =>
    intro i v e
    cases i with
    | zero => exact .inl ⟨n, t, rfl, by simpa using e.symm⟩
    | succ i =>
      rcases ih (i := i) (by simpa using e) with ⟨a, t, h⟩ | ⟨a, t, h⟩
      · exact .inl ⟨a, t, by simpa using h.1, h.2⟩
      · exact .inr ⟨a, t, by simpa using h.1, h.2⟩
  | @f n t vs ps r ih =>
    intro i v e
    cases i with
    | zero => exact .inr ⟨n, t, rfl, by simpa using e.symm⟩
    | succ i =>
      rcases ih (i := i) (by simpa using e) with ⟨a, t, h⟩ | ⟨a, t, h⟩
      · exact .inl ⟨a, t, by simpa using h.1, h.2⟩
      · exact .inr ⟨a, t, by simpa using h.1, h.2⟩
theorem hsvP_length (x y : UInt64) : (hsvP x y).length = 3 := by
  unfold hsvP
  split
  · rfl
  split
  · rfl
  split
  · rfl
  split
  · rfl
  split
  · rfl
  split
  · rfl
  · rfl
noncomputable def sixthX (b t i : Int) : UInt64 := Float64.add (Float64.add (fdiv b 384) (fdiv i 6)) (Float64.ofInt t)
noncomputable def paintZ (b sh t i : Int) : List Int := (hsvP (sixthX b t i) (fdiv sh 256)).map wholeP
noncomputable def nearZ (b i : Int) : Int := ((b + 64 * i + 64).fdiv 128).fmod 3
structure PaintOk (b sh t i : Int) : Prop where
  fin : Float64.isFinite (hsvX (sixthX b t i)) = true
  bound : -1000 ≤ hsvI (sixthX b t i) ∧ hsvI (sixthX b t i) ≤ 1000
  parts : ∀ p ∈ hsvP (sixthX b t i) (fdiv sh 256), p.ok
  low : (16384 - 64 * sh) ∈ paintZ b sh t i
  least : ∀ z ∈ paintZ b sh t i, 16384 - 64 * sh ≤ z
  near : (paintZ b sh t i).getD (nearZ b i).toNat 0 = 16384
section
variable {prog : Program} {w : World} {A : Around}
theorem It.weaken {I : Addr} {n n' : Nat} {P P' : Nat → Nat → Nat → Value → Prop} {St : Nat → Obj → Prop} {Src : Heap → Prop} (W : It prog w A I n P St Src) (hn : n = n') (hp : ∀ i a b v, P i a b v → P' i a b v) : It prog w A I n' P' St Src := by
  subst hn
  exact ⟨fun i o s Q E hi ho hs hsrc hQ => W.item i o s Q E hi ho hs hsrc fun v o' h' tk hP => hQ v o' h' tk (hp _ _ _ _ hP), W.done, W.self⟩
theorem it_parts {vs : List Value} {ps : List Part} (hP : Parts vs ps) (hh : A.handled = none) {I ax : Addr} (hne : ax ≠ I) :
    It prog w A I ps.length (fun k _ _ v => (∃ n t, ps[k]? = some (.i n) ∧ v = .int n t) ∨ (∃ b t, ps[k]? = some (.f b) ∧ v = .float b t)) (StTup ax) (fun h => h.IsTuple ax vs.toArray) :=
  (it_tup hh hne vs.toArray).weaken (by simp [hP.length]) fun i _ _ v hv => hP.get (by simpa using hv)
end
section
variable {prog : Program} {w : World} {A : Around} {E : Value → Shared → Prop} {s : Shared} {h₀ : Heap} {L : Addr} {m : Str → Option Value} {news news' : Led}
theorem appendN {D : Addr} {ys : List Value} {y : Value} {Q : Value → Shared → Prop} (F : Fr h₀ L s.heap m) (N : News h₀ L s.heap news) (U : Upd D (lst ys) (lst (ys ++ [y])) news news') (hsz : ys.length ≤ 1000000)
    (k : ∀ h', Fr h₀ L h' m → News h₀ L h' news' → Q .none { s with heap := h' }) : wpAny (model prog w) A (call (.builtin "list.append") [.ref D, y]) Q E s := by
  obtain ⟨pre, post, rfl, rfl, a, b⟩ := U.split
  have zD := N (D, lst ys) (List.mem_append.mpr (.inr (.head _)))
  refine append_at (hsz := by rw [List.size_toArray, sizeLine_eq]; omega) zD.1 fun h₅ hs₅ hD₅ => ?_
  exact k h₅ (F.change hs₅ zD.2.1 zD.2.2) (N.setAt a b hs₅ (hD₅.trans (congrArg some (LCg.lst_snoc ys y))))
end
theorem perm6 {h₀ h : Heap} {L : Addr} {a b d2 t i d : Addr × Obj} {r : Led} (N : News h₀ L h (a :: b :: d2 :: t :: i :: d :: r)) : News h₀ L h (i :: d :: d2 :: r) := news_sub N fun p hp => by
  simp only [List.mem_cons] at hp ⊢
  rcases hp with e | e | e | e
  · exact .inr (.inr (.inr (.inr (.inl e))))
  · exact .inr (.inr (.inr (.inr (.inr (.inl e)))))
  · exact .inr (.inr (.inl e))
  · exact .inr (.inr (.inr (.inr (.inr (.inr e)))))

-- G8
section
variable {prog : Program} {w : World} {A : Around} {E : Value → Shared → Prop} {s : Shared} {h₀ : Heap} {L : Addr} {m : Str → Option Value} {env : Env}
/-- storing a pair into the comprehension's own names -/
theorem store_pair {I C D ax t : Addr} {i k : Nat} {oI oC oD : Obj} {rest : Led} {m₂ : Str → Option Value} {x y : Str} {px py tp : Pos} {x1} {v₁ v₂ : Value} {scope : Scope} {cl : List (Str × Addr)} {Q : Unit → Shared → Prop}
    (hh : A.handled = none) (hst : StList ax i oI) (ht : (t, tupO [v₁, v₂] k) ∈ rest)
    (F : Fr h₀ L s.heap m) (N : News h₀ L s.heap ((I, oI) :: (C, oC) :: (D, oD) :: rest)) (hO : Off I C D rest) (hC : NsO oC m₂) (hk : scope.kind = .function) (hx : scope.names.lookup x = some .local) (hy : scope.names.lookup y = some .local)
    (h : ∀ h' oC', NsO oC' (fun z => if z = y then some v₂ else if z = x then some v₁ else m₂ z) → Fr h₀ L h' m → News h₀ L h' ((I, oI) :: (C, oC') :: (D, oD) :: rest) → Q () { s with heap := h', toks := s.toks + 1 + 1 }) :
    wpAny (model prog w) A (letOwnedTupleGo (.Tuple [.Name x px, .Name y py] x1 tp) (.ref I) (.ref t)) (fun _ s₁ => wpAny (model prog w) A (assign (.Tuple [.Name x px, .Name y py] x1 tp) (compEnvC scope cl C env) (.ref t)) Q E s₁) E s := by
  refine wpAny_letOwnedTupleGo_listiter (l := ax) (i := i) ⟨oI, (N _ (.head _)).1, hst⟩ ?_
  have zt := N (t, tupO [v₁, v₂] k) (.tail _ (.tail _ (.tail _ ht)))
  refine assign_Tuple_tuple hh (items := #[v₁, v₂]) ⟨_, zt.1, rfl, _, rfl⟩ rfl rfl fun h₅ he => ?_
  have he' : ∀ b o, s.heap.get? b = some o → h₅.get? b = some o := fun b o e => he b o (Nat.ne_of_lt (Heap.lt_size e)) e
  have F5 := F.keeps he'
  have N5 := N.grown he'
  refine assignInOrder_cons (store_C (s := { s with heap := h₅ }) F5 N5 hO hC hk hx fun h6 oC6 hC6 F6 N6 => ?_)
  refine assignInOrder_cons (store_C (s := { s with heap := h6, toks := s.toks + 1 }) F6 N6 hO hC6 hk hy fun h7 oC7 hC7 F7 N7 => ?_)
  exact assignInOrder_nil (h h7 oC7 hC7 F7 N7)

theorem compRunP {elt iter : PySem.Expr} {scope : Scope} {cl : List (Str × Addr)} {pos px py tp : Pos} {x1} {x y : Str} {I : Addr} {oI : Obj} {rest : Led} {Q : Value → Shared → Prop} {n : Nat} {P : Nat → Nat → Nat → Value → Prop} {Src : Heap → Prop} {ax : Addr}
    (hcf : ∀ n, cellsFrom n scope.names cl = cl) (hpc : ∀ h, pushCells h scope.names = h)
    (W : It prog w A I n P (StList ax) Src) (hh : A.handled = none) (hk : scope.kind = .function) (hx : scope.names.lookup x = some .local) (hy : scope.names.lookup y = some .local)
    (J : Led → Nat → Nat → Led → List Value → Prop) (hst : StList ax 0 oI) (F : Fr h₀ L s.heap m) (N : News h₀ L s.heap ((I, oI) :: rest)) (off : ∀ p ∈ rest, p.1 ≠ I) (hj : J rest 0 s.toks rest [])
    (hsrc : ∀ i a led ys h, J rest i a led ys → News h₀ L h led → (∀ b o, h₀.get? b = some o → h.get? b = some o) → Src h)
    (hlen : ∀ i a led ys, J rest i a led ys → ys.length ≤ 1000000)
    (hpair : ∀ i a b v led ys, i < n → P i a b v → J rest i a led ys → ∃ t v₁ v₂ k, v = .ref t ∧ (t, tupO [v₁, v₂] k) ∈ led)
    (turn : ∀ C D i t v₁ v₂ k oI oC (m₂ : Str → Option Value) led ys h a b tk E', Off I C D led → i < n → P i a b (.ref t) → (t, tupO [v₁, v₂] k) ∈ led → a ≤ tk → J rest i a led ys → NsO oC (fun z => if z = y then some v₂ else if z = x then some v₁ else m₂ z) → Fr h₀ L h m → News h₀ L h ((I, oI) :: (C, oC) :: (D, lst ys) :: led) →
      wpAny (model prog w) A (eval elt (compEnvC scope cl C env)) (fun y s₄ => TurnEnd h₀ L m s ((I, oI) :: (C, oC) :: (D, lst ys) :: led) tk (fun tk' objs => J rest (i + 1) tk' (objs ++ led) (ys ++ [y])) s₄) E' { s with heap := h, toks := tk })
    (done : ∀ D led ys h a tk, a ≤ tk → J rest n a led ys → Fr h₀ L h m → News h₀ L h ((D, lst ys) :: led) → (∀ p ∈ led, p.1 ≠ D) → (∀ p ∈ (D, lst ys) :: led, p.1 ≠ I) → Q (.ref D) { s with heap := h, toks := tk }) :
    CompIn prog w A E elt (.Tuple [.Name x px, .Name y py] x1 tp) iter [] [] scope cl pos env (fun acc C => compPost (model prog w) A E none Q acc C) (.ref I) s := by
  unfold CompIn
  refine compInit0 hcf hpc F N off (fun s' Q E e hk' N' hq => W.self 0 oI s' Q E e hst (hsrc 0 s.toks rest [] s'.heap hj N' hk') hq) fun D C oC h hC F' N' hO => ?_
  refine compCore (s := { s with heap := h }) (p0 := _) W (by exact rfl)
    (fun i a led => ∃ oC m₂ ys r, led = (C, oC) :: (D, lst ys) :: r ∧ NsO oC m₂ ∧ Off I C D r ∧ J rest i a r ys) hst F' N' (fun p hp => ?_) ⟨oC, _, [], rest, rfl, hC, hO, hj⟩ ?_ ?_ ?_
  · rcases List.mem_cons.mp hp with rfl | hp
    · exact hO.ic.symm
    · rcases List.mem_cons.mp hp with rfl | hp
      · exact hO.id.symm
      · exact (hO.r p hp).1
  · intro i a led h hz148
    apply el_EEEERAAA hz148
    clear hz148
    intro oC m₂ ys r _ _ hj N hk
    exact hsrc i a r ys h hj (fun p hp => N p (.tail _ (.tail _ hp))) hk
  · intro i v oI led h a tk E' hi hP ha hst' hz149
    apply el_EEEERAAA hz149
    clear hz149
    intro oC m₂ ys r hC hO hj F N off
    have hz157 := hpair i a tk v r ys hi hP hj
    revert hP
    apply el_EEEERA hz157
    clear hz157
    intro t v₁ v₂ k hmem hP
    refine turn1 ?_
    refine store_pair (s := { s with heap := h, toks := tk }) hh hst' hmem F N hO hC hk hx hy fun h' oC' hC' F' N' => ?_
    dsimp only
    refine tests_nil ?_
    simp only [if_true]
    refine wpAny_with_toks (n := tk + 1 + 1) (Nat.le_refl _) (wpAny_mono (turn C D i t v₁ v₂ k oI oC' m₂ r ys h' a tk (tk + 1 + 1) E' hO hi hP hmem (Nat.le_succ_of_le (Nat.le_succ_of_le ha)) hj hC' F' N') (fun y s₄ h₄ ht₄ => ?_) fun _ _ e _ => e)
    revert ht₄
    apply el_EEERAAAA h₄
    clear h₄
    intro h₄ tk₄ objs F₄ N₄ fr hj₄
    intro ht₄
    have jj := hj₄ ht₄
    have hO₄ := off_more hO fr
    refine append_D (s := { s with heap := h₄, toks := tk₄ }) (oI := oI) (oC := oC') (ys := ys) (rest := objs ++ r) F₄ (news_sub N₄ fun p hp => ?_) hO₄ (by have := hlen _ _ _ _ hj; rw [sizeLine_eq]; omega) fun h₅ F₅ N₅ => ?_
    · simp only [List.mem_cons, List.mem_append] at hp ⊢
      rcases hp with e | e | e | e | e
      · exact .inr (.inl e)
      · exact .inr (.inr (.inl e))
      · exact .inr (.inr (.inr (.inl e)))
      · exact .inl e
      · exact .inr (.inr (.inr (.inr e)))
    · refine ⟨h₅, tk₄, (C, oC') :: (D, lst (ys ++ [y])) :: (objs ++ r), rfl, F₅, N₅, fun p hp => ?_, fun hle => ⟨oC', _, ys ++ [y], objs ++ r, rfl, hC', hO₄, jj⟩⟩
      rcases List.mem_cons.mp hp with rfl | hp
      · exact hO₄.ic.symm
      · rcases List.mem_cons.mp hp with rfl | hp
        · exact hO₄.id.symm
        · exact (hO₄.r p hp).1
  · intro led h a tk ha hz150
    apply el_EEEERAAA hz150
    clear hz150
    intro oC m₂ ys r hC hO hj F N off
    refine comp_done hC F N hO.cd (fun p hp => (hO.r p hp).2.1) fun h' F' N' => done D r ys h' a tk ha hj F' N' (fun p hp => (hO.r p hp).2.2) fun p hp => ?_
    rcases List.mem_cons.mp hp with rfl | hp
    · exact hO.id.symm
    · exact (hO.r p hp).1
end
section
variable {prog : Program} {w : World} {A : Around} {E : Value → Shared → Prop} {s : Shared} {h₀ : Heap} {L : Addr} {m : Str → Option Value} {env : Env}
/-- one turn of the first of two clauses -/
theorem turn2 {elt t1 i1 t2 i2 : PySem.Expr} {ifs2 : List PySem.Expr} {scope : Scope} {pos : Pos} {it acc v : Value} {Z : Shared → Prop} (hs : ∀ x, foldedSetIterable i2 env x = pure x)
    (h : wpAny (model prog w) A (letOwnedTupleGo t1 it v) (fun _ s₁ => wpAny (model prog w) A (assign t1 env v) (fun _ s₂ =>
          wpAny (model prog w) A (eval i2 env) (fun x s₃ => wpAny (model prog w) A (pyIter x) (fun it2 s₄ =>
            ∀ R : Result → Shared → Prop, (∀ s', Z s' → R (.ok .next) s') → codeAny (model prog w) A (.compStart (.ListComp elt [⟨t1, i1, [], 0⟩, ⟨t2, i2, ifs2, 0⟩] scope pos) 1 it2 acc env) R s₄) E s₃) E s₂) E s₁) E s) (hm : A.mark none = A) :
    wpAny (model prog w) A (do
        letOwnedTupleGo t1 it v
        assign t1 env v
        let mut ok := true
        for c in ([] : List PySem.Expr) do
          if ok then ok ← isTrue c env (eval c env)
        if ok then
          let x ← eval i2 env
          standAt i2.pos
          let x ← foldedSetIterable i2 env x
          let _ ← runOwn (.compStart (.ListComp elt [⟨t1, i1, [], 0⟩, ⟨t2, i2, ifs2, 0⟩] scope pos) 1 (← holding [x] (pyIter x)) acc env) env
        again (.compLoop (.ListComp elt [⟨t1, i1, [], 0⟩, ⟨t2, i2, ifs2, 0⟩] scope pos) 0 it acc env)) (fun fin s' => fin = .again (.compLoop (.ListComp elt [⟨t1, i1, [], 0⟩, ⟨t2, i2, ifs2, 0⟩] scope pos) 0 it acc env) ∧ Z s') E s := by
  refine wpAny_bind (wpAny_mono h (fun _ s₁ h₁ => ?_) fun _ _ e => e)
  refine wpAny_bind (wpAny_mono h₁ (fun _ s₂ h₂ => ?_) fun _ _ h' => h')
  refine wpAny_bind (tests_nil ?_)
  simp only [if_true]
  refine wpAny_bind (wpAny_mono h₂ (fun x s₃ h₃ => ?_) fun _ _ h' => h')
  refine wpAny_bind (wpAny_standAt ?_)
  rw [hs]
  refine wpAny_bind (wpAny_pure ?_)
  refine wpAny_bind (wpAny_holding (wpAny_mono h₃ (fun it2 s₄ h₄ => ?_) fun _ _ h' => h'))
  refine wpAny_bind (wpAny_runOwn ?_)
  rw [hm]
  exact h₄ _ fun s' hz => wpAny_pure ⟨rfl, hz⟩
end
section
variable {prog : Program} {w : World} {A : Around} {E : Value → Shared → Prop} {s : Shared} {h₀ : Heap} {L : Addr} {m : Str → Option Value} {env : Env}
theorem turn1K {K : Code} {elt target : PySem.Expr} {ifs : List PySem.Expr} {it acc v : Value} {env : Env} {Z : Shared → Prop}
    (h : wpAny (model prog w) A (letOwnedTupleGo target it v) (fun _ s₁ => wpAny (model prog w) A (assign target env v) (fun _ s₂ =>
          wpAny (model prog w) A (forIn ifs true fun c r => if r = true then do let ok ← isTrue c env (eval c env); pure (ForInStep.yield ok) else pure (ForInStep.yield r)) (fun ok s₃ =>
            if ok = true then wpAny (model prog w) A (eval elt env) (fun x s₄ =>
              wpAny (model prog w) A (call (.builtin "list.append") [acc, x]) (fun _ s₅ => Z s₅) E s₄) E s₃
            else Z s₃) E s₂) E s₁) E s) :
    wpAny (model prog w) A (do
        letOwnedTupleGo target it v
        assign target env v
        let mut ok := true
        for c in ifs do
          if ok then ok ← isTrue c env (eval c env)
        if ok then
          (do let _ ← call (.builtin "list.append") [acc, ← eval elt env])
        again K) (fun fin s' => fin = .again K ∧ Z s') E s := by
  refine wpAny_bind (wpAny_mono h (fun _ s₁ h₁ => ?_) fun _ _ e => e)
  refine wpAny_bind (wpAny_mono h₁ (fun _ s₂ h₂ => wpAny_bind (wpAny_mono h₂ (fun ok s₃ h₃ => ?_) fun _ _ h' => h')) fun _ _ h' => h')
  cases ok with
  | false => exact wpAny_pure ⟨rfl, h₃⟩
  | true => exact wpAny_bind (wpAny_bind (wpAny_mono h₃ (fun x s₄ h₄ => wpAny_bind (wpAny_mono h₄ (fun _ s₅ h₅ => wpAny_pure (wpAny_pure ⟨rfl, h₅⟩)) fun _ _ h' => h')) fun _ _ h' => h'))
/-- the second clause's iterator stands -/
noncomputable def StartEnd (h₀ : Heap) (L : Addr) (m : Str → Option Value) (s : Shared) (n2 : Nat) (base : Led) (it : Value) (s' : Shared) : Prop :=
  ∃ I2 oI2 h' tk', it = .ref I2 ∧ s' = { s with heap := h', toks := tk' } ∧ StRange 0 n2 0 oI2 ∧ Fr h₀ L h' m ∧ News h₀ L h' ((I2, oI2) :: base) ∧ (∀ p ∈ base, p.1 ≠ I2)
theorem start_two {elt t1 i1 t2 i2 : PySem.Expr} {if1 if2 : List PySem.Expr} {scope : Scope} {pos : Pos} {it acc : Value} {R : Result → Shared → Prop}
    (h0 : codeAny (model prog w) A (.compLoop (.ListComp elt [⟨t1, i1, if1, 0⟩, ⟨t2, i2, if2, 0⟩] scope pos) 1 it acc env) R s)
    (h : wpAny (model prog w) A (pyIter it) (fun it' s' => codeAny (model prog w) A (.compLoop (.ListComp elt [⟨t1, i1, if1, 0⟩, ⟨t2, i2, if2, 0⟩] scope pos) 1 it' acc env) R s') (notedBy (model prog w) A env fun x s' => R (.error x) s') s) :
    codeAny (model prog w) A (.compStart (.ListComp elt [⟨t1, i1, if1, 0⟩, ⟨t2, i2, if2, 0⟩] scope pos) 1 it acc env) R s := by
  refine codeAny_of_tree ?_
  show wpAny _ _ ((compStart (.ListComp elt [⟨t1, i1, if1, 0⟩, ⟨t2, i2, if2, 0⟩] scope pos) 1 it acc env).onRaise (fun x => do noteFrame x env; standAt theWindowsPlace)) _ _ s
  refine wpAny_notedAt ?_
  unfold compStart
  show wpAny _ _ (ask >>= _) _ _ s
  refine wpAny_bind (wpAny_askSetting (wpAny_ite ?_))
  split
  · first
      | exact wpAny_bind (wpAny_pure (wpAny_pure (And.intro rfl h0)))
      | exact wpAny_pure (And.intro rfl h0)
  · first
      | exact wpAny_bind (wpAny_rule (wpAny_bind (wpAny_standAt (wpAny_bind (wpAny_mono h (fun it' s' h' => wpAny_pure (And.intro rfl h')) fun _ _ x => x)))))
      | (refine wpAny_bind (wpAny_rule ?_); show wpAny _ _ (standAt i2.pos >>= _) _ _ s; exact wpAny_bind (wpAny_standAt (wpAny_bind (wpAny_mono h (fun it' s' h' => wpAny_pure (And.intro rfl h')) fun _ _ x => x))))
theorem compRun2 {elt i1 i2 c : PySem.Expr} {scope : Scope} {cl : List (Str × Addr)} {pos px py pz tp : Pos} {x1} {x y z : Str} {I : Addr} {oI : Obj} {rest : Led} {RR : Value → Addr → Result → Shared → Prop} {n n2 : Nat} {P : Nat → Value → Prop} {Src : Heap → Prop} {ax : Addr}
    (hcf : ∀ n, cellsFrom n scope.names cl = cl) (hpc : ∀ h, pushCells h scope.names = h) (hs2 : ∀ C x, foldedSetIterable i2 (compEnvC scope cl C env) x = pure x) (hm : A.mark none = A)
    (W : It prog w A I n (fun i _ _ v => P i v) (StList ax) Src) (hh : A.handled = none) (hk : scope.kind = .function) (hx : scope.names.lookup x = some .local) (hy : scope.names.lookup y = some .local) (hz : scope.names.lookup z = some .local) (hxy : x ≠ y) (hxz : x ≠ z) (hyz : y ≠ z)
    (J : Led → Nat → Nat → Nat → Led → List Value → Prop) (hst : StList ax 0 oI) (F : Fr h₀ L s.heap m) (N : News h₀ L s.heap ((I, oI) :: rest)) (off : ∀ p ∈ rest, p.1 ≠ I) (hj : J rest 0 0 s.toks rest [])
    (hsrc : ∀ i a led ys h, J rest i 0 a led ys → News h₀ L h led → (∀ b o, h₀.get? b = some o → h.get? b = some o) → Src h)
    (hlen : ∀ i j a led ys, J rest i j a led ys → ys.length ≤ 1000000)
    (hmono : ∀ i j a b led ys, a ≤ b → J rest i j a led ys → J rest i j b led ys)
    (hnext : ∀ i a led ys, i < n → J rest i n2 a led ys → J rest (i + 1) 0 a led ys)
    (hpair : ∀ i j a v led ys, i < n → P i v → J rest i j a led ys → ∃ t v₁ v₂ k, v = .ref t ∧ (t, tupO [v₁, v₂] k) ∈ led)
    (start : ∀ C D i oI oC m₂ led ys h a tk E', Off I C D led → i < n → 1 ≤ tk → a ≤ tk → J rest i 0 a led ys → NsO oC m₂ → Fr h₀ L h m → News h₀ L h ((I, oI) :: (C, oC) :: (D, lst ys) :: led) →
      wpAny (model prog w) A (eval i2 (compEnvC scope cl C env)) (fun x s₃ => wpAny (model prog w) A (pyIter x) (fun it2 s₄ => StartEnd h₀ L m s n2 ((I, oI) :: (C, oC) :: (D, lst ys) :: led) it2 s₄) E' s₃) E' { s with heap := h, toks := tk })
    (turn : ∀ C D I2 i j t v₁ v₂ k tz oI oI2 oC (m₂ : Str → Option Value) led ys h a tk E', Off I C D led → (∀ p ∈ (I, oI) :: (C, oC) :: (D, lst ys) :: led, p.1 ≠ I2) → i < n → j < n2 → P i (.ref t) → (t, tupO [v₁, v₂] k) ∈ led → a ≤ tz → tz < tk → J rest i j a led ys →
      NsO oC (fun q => if q = z then some (.int (0 + (j : Int)) tz) else m₂ q) → m₂ x = some v₁ → m₂ y = some v₂ → Fr h₀ L h m → News h₀ L h ((I2, oI2) :: (I, oI) :: (C, oC) :: (D, lst ys) :: led) →
      wpAny (model prog w) A (isTrue c (compEnvC scope cl C env) (eval c (compEnvC scope cl C env))) (fun ok s₃ =>
        if ok = true then wpAny (model prog w) A (eval elt (compEnvC scope cl C env)) (fun y s₄ => TurnEnd h₀ L m s ((I2, oI2) :: (I, oI) :: (C, oC) :: (D, lst ys) :: led) tk (fun tk' objs => J rest i (j + 1) tk' (objs ++ led) (ys ++ [y])) s₄) E' s₃
        else TurnEnd h₀ L m s ((I2, oI2) :: (I, oI) :: (C, oC) :: (D, lst ys) :: led) tk (fun tk' objs => J rest i (j + 1) tk' (objs ++ led) ys) s₃) E' { s with heap := h, toks := tk })
    (done : ∀ C D oC m₂ led ys h a tk, a ≤ tk → J rest n 0 a led ys → NsO oC m₂ → Fr h₀ L h m → News h₀ L h ((C, oC) :: (D, lst ys) :: led) → Off I C D led → RR (.ref D) C (.ok .next) { s with heap := h, toks := tk }) :
    CompIn prog w A E elt (.Tuple [.Name x px, .Name y py] x1 tp) i1 [] [⟨.Name z pz, i2, [c], 0⟩] scope cl pos env RR (.ref I) s := by
  unfold CompIn
  refine compInit0 hcf hpc F N off (fun s' Q E e hk' N' hq => W.self 0 oI s' Q E e hst (hsrc 0 s.toks rest [] s'.heap hj N' hk') hq) fun D C oC h hC F' N' hO => ?_
  refine compCore (s := { s with heap := h }) (p0 := _) W (by exact rfl)
    (fun i a led => ∃ oC m₂ ys r, led = (C, oC) :: (D, lst ys) :: r ∧ NsO oC m₂ ∧ Off I C D r ∧ J rest i 0 a r ys) hst F' N' (fun p hp => ?_) ⟨oC, _, [], rest, rfl, hC, hO, hj⟩ ?_ ?_ ?_
  · rcases List.mem_cons.mp hp with rfl | hp
    · exact hO.ic.symm
    · rcases List.mem_cons.mp hp with rfl | hp
      · exact hO.id.symm
      · exact (hO.r p hp).1
  · intro i a led h hz151
    apply el_EEEERAAA hz151
    clear hz151
    intro oC m₂ ys r _ _ hj N hk
    exact hsrc i a r ys h hj (fun p hp => N p (.tail _ (.tail _ hp))) hk
  · intro i v oI led h a tk E' hi hP ha hst' hz152
    apply el_EEEERAAA hz152
    clear hz152
    intro oC m₂ ys r hC hO hj F N off
    have hz158 := hpair i 0 a v r ys hi hP hj
    revert hP
    apply el_EEEERA hz158
    clear hz158
    intro t v₁ v₂ k hmem hP
    refine turn2 (hs2 C) ?_ hm
    refine store_pair (s := { s with heap := h, toks := tk }) hh hst' hmem F N hO hC hk hx hy fun h' oC' hC' F' N' => ?_
    dsimp only
    refine wpAny_with_toks (n := tk + 1 + 1) (Nat.le_refl _) (wpAny_mono (start C D i oI oC' _ r ys h' a (tk + 1 + 1) E' hO hi (by omega) (by omega) hj hC' F' N') (fun x₃ s₃ h₃ ht₃ => ?_) fun _ _ e _ => e)
    refine wpAny_with_toks (n := tk + 1 + 1) ht₃ (wpAny_mono h₃ (fun it2 s₄ h₄ ht₄ => ?_) fun _ _ e _ => e)
    revert ht₄
    apply el_EEEERRAAAA h₄
    clear h₄
    intro I2 oI2 h₅ tk₅ hst2 F₅ N₅ off₅
    intro ht₄
    intro R hR
    dsimp only at ht₄
    have W2 := it_range (prog := prog) (w := w) (A := A) hh I2 0 n2
    have core : codeAny (model prog w) A (.compLoop (.ListComp elt [⟨.Tuple [.Name x px, .Name y py] x1 tp, i1, [], 0⟩, ⟨.Name z pz, i2, [c], 0⟩] scope pos) 1 (.ref I2) (.ref D) (compEnvC scope cl C env)) R { s with heap := h₅, toks := tk₅ } := by
      refine compCore (s := { s with heap := h₅, toks := tk₅ }) (p0 := _) W2 (by exact rfl)
        (fun j a led => tk ≤ a ∧ ∃ oC m₂ ys r, led = (I, oI) :: (C, oC) :: (D, lst ys) :: r ∧ NsO oC m₂ ∧ m₂ x = some v₁ ∧ m₂ y = some v₂ ∧ (t, tupO [v₁, v₂] k) ∈ r ∧ Off I C D r ∧ J rest i j a r ys) hst2 F₅ N₅ off₅
        ⟨by dsimp only; omega, oC', _, ys, r, rfl, hC', by simp [hxy], by simp, hmem, hO, hmono _ _ _ _ _ _ (by dsimp only; omega) hj⟩ (fun _ _ _ _ _ _ _ => trivial) ?_ ?_
      · intro j v oI2 led h a tk6 E' hj2 hz153
        apply el_EAAR hz153
        clear hz153
        intro tz hz1 hz2 ha6 hst6 hz154
        apply el_AEEEERAAAAAA hz154
        clear hz154
        intro hlow oC m₂ ys r hC ex ey hmem hO hj F N off
        refine turn1K ?_
        refine wpAny_mono (Q := fun _ s' => s' = { s with heap := h, toks := tk6 }) (wpAny_pure rfl) (fun _ s₁ e => ?_) (fun _ _ e => e)
        subst e
        have zI2 := N _ (.head _)
        have nI : (I, oI).1 ≠ I2 := off _ (.head _)
        have nC : (C, oC).1 ≠ I2 := off _ (.tail _ (.head _))
        refine store_C (s := { s with heap := h, toks := tk6 }) (I := I) (oI := oI) (oD := lst ys) (rest := (I2, oI2) :: r) F (news_sub N fun p hp => ?_) ⟨hO.ic, hO.id, hO.cd, fun p hp => ?_⟩ hC hk hz fun h' oC' hC' F' N' => ?_
        · simp only [List.mem_cons] at hp ⊢
          rcases hp with e | e | e | e | e
          · exact .inr (.inl e)
          · exact .inr (.inr (.inl e))
          · exact .inr (.inr (.inr (.inl e)))
          · exact .inl e
          · exact .inr (.inr (.inr (.inr e)))
        · rcases List.mem_cons.mp hp with rfl | hp
          · exact ⟨nI.symm, nC.symm, (off _ (.tail _ (.tail _ (.head _)))).symm⟩
          · exact hO.r p hp
        have N'' : News h₀ L h' ((I2, oI2) :: (I, oI) :: (C, oC') :: (D, lst ys) :: r) := news_sub N' fun p hp => by
          simp only [List.mem_cons] at hp ⊢
          rcases hp with e | e | e | e | e
          · exact .inr (.inr (.inr (.inl e)))
          · exact .inl e
          · exact .inr (.inl e)
          · exact .inr (.inr (.inl e))
          · exact .inr (.inr (.inr (.inr e)))
        have off' : ∀ p ∈ (I, oI) :: (C, oC') :: (D, lst ys) :: r, p.1 ≠ I2 := List.forall_mem_cons.mpr ⟨nI, List.forall_mem_cons.mpr ⟨nC, off_drop (off_drop off)⟩⟩
        dsimp only
        have mk : ∀ (ys' : List Value) (h₄ : Heap) (tk₄ : Nat) (objs : Led), Fr h₀ L h₄ m → News h₀ L h₄ ((I2, oI2) :: (I, oI) :: (C, oC') :: (D, lst ys') :: (objs ++ r)) → Fresh objs ((I2, oI2) :: (I, oI) :: (C, oC') :: (D, lst ys) :: r) → tk6 ≤ tk₄ → J rest i (j + 1) tk₄ (objs ++ r) ys' →
            LoopEnd h₀ L m { s with heap := h₅, toks := tk₅ } I2 oI2 tk6 (fun a led => tk ≤ a ∧ ∃ oC m₂ ys r, led = (I, oI) :: (C, oC) :: (D, lst ys) :: r ∧ NsO oC m₂ ∧ m₂ x = some v₁ ∧ m₂ y = some v₂ ∧ (t, tupO [v₁, v₂] k) ∈ r ∧ Off I C D r ∧ J rest i (j + 1) a r ys) { s with heap := h₄, toks := tk₄ } := fun ys' h₄ tk₄ objs F₄ N₄ fr hle hj₄ => by
          have hO₄ : Off I C D (objs ++ r) := off_more hO (fun q hq p hp => fr q hq p (.tail _ hp))
          refine ⟨h₄, tk₄, (I, oI) :: (C, oC') :: (D, lst ys') :: (objs ++ r), rfl, F₄, N₄, ?_, fun hle => ⟨by omega, oC', _, ys', objs ++ r, rfl, hC', by simp [hxz, ex], by simp [hyz, ey], List.mem_append.mpr (.inr hmem), hO₄, hj₄⟩⟩
          refine List.forall_mem_cons.mpr ⟨nI, List.forall_mem_cons.mpr ⟨nC, List.forall_mem_cons.mpr ⟨off' (D, lst ys) (.tail _ (.tail _ (.head _))), fun p hp => ?_⟩⟩⟩
          rcases List.mem_append.mp hp with hp | hp
          · exact (fr p hp _ (.head _)).symm
          · exact off' p (.tail _ (.tail _ (.tail _ hp)))
        refine tests_one ?_
        refine wpAny_with_toks (n := tk6 + 1) (Nat.le_refl _) (wpAny_mono (turn C D I2 i j t v₁ v₂ k tz oI oI2 oC' m₂ r ys h' a (tk6 + 1) E' hO off' hi hj2 hP hmem hz1 (by omega) hj hC' ex ey F' N'') (fun ok s₃ h₃ ht₃ => ?_) fun _ _ e _ => e)
        have perm : ∀ (objs : Led) (ys' : List Value), ∀ p ∈ (I2, oI2) :: (I, oI) :: (C, oC') :: (D, lst ys') :: (objs ++ r), p ∈ objs ++ (I2, oI2) :: (I, oI) :: (C, oC') :: (D, lst ys') :: r := fun objs ys' p hp => by
          simp only [List.mem_cons, List.mem_append] at hp ⊢
          rcases hp with e | e | e | e | e | e
          · exact .inr (.inl e)
          · exact .inr (.inr (.inl e))
          · exact .inr (.inr (.inr (.inl e)))
          · exact .inr (.inr (.inr (.inr (.inl e))))
          · exact .inl e
          · exact .inr (.inr (.inr (.inr (.inr e))))
        cases ok with
        | false =>
          revert ht₃
          apply el_EEERAAAA h₃
          clear h₃
          intro h₄ tk₄ objs F₄ N₄ fr hj₄
          intro ht₃
          exact mk ys h₄ tk₄ objs F₄ (news_sub N₄ (perm objs ys)) fr (by dsimp only at ht₃; omega) (hj₄ ht₃)
        | true =>
          refine wpAny_with_toks (n := tk6 + 1) ht₃ (wpAny_mono h₃ (fun y s₄ h₄ ht₄ => ?_) fun _ _ e _ => e)
          revert ht₄
          apply el_EEERAAAA h₄
          clear h₄
          intro h₄ tk₄ objs F₄ N₄ fr hj₄
          intro ht₄
          have jj := hj₄ ht₄
          have hO₄ : Off I C D ((I2, oI2) :: (objs ++ r)) := by
            have := off_more hO (fun q hq p hp => fr q hq p (.tail _ hp))
            refine ⟨hO.ic, hO.id, hO.cd, fun p hp => ?_⟩
            rcases List.mem_cons.mp hp with rfl | hp
            · exact ⟨nI.symm, nC.symm, (off' _ (.tail _ (.tail _ (.head _)))).symm⟩
            · exact this.r p hp
          refine append_D (s := { s with heap := h₄, toks := tk₄ }) (I := I) (oI := oI) (oC := oC') (ys := ys) (rest := (I2, oI2) :: (objs ++ r)) F₄ (news_sub N₄ fun p hp => ?_) hO₄ (by have := hlen _ _ _ _ _ hj; rw [sizeLine_eq]; omega) fun h₅ F₅ N₅ => ?_
          · simp only [List.mem_cons, List.mem_append] at hp ⊢
            rcases hp with e | e | e | e | e | e
            · exact .inr (.inr (.inl e))
            · exact .inr (.inr (.inr (.inl e)))
            · exact .inr (.inr (.inr (.inr (.inl e))))
            · exact .inr (.inl e)
            · exact .inl e
            · exact .inr (.inr (.inr (.inr (.inr e))))
          · refine mk (ys ++ [y]) h₅ tk₄ objs F₅ (news_sub N₅ fun p hp => ?_) fr (by dsimp only at ht₄; omega) jj
            simp only [List.mem_cons, List.mem_append] at hp ⊢
            rcases hp with e | e | e | e | e | e
            · exact .inr (.inr (.inr (.inl e)))
            · exact .inl e
            · exact .inr (.inl e)
            · exact .inr (.inr (.inl e))
            · exact .inr (.inr (.inr (.inr (.inl e))))
            · exact .inr (.inr (.inr (.inr (.inr e))))
      · intro led h a tk6 ha6 hz155
        apply el_AEEEERAAAAAA hz155
        clear hz155
        intro hlow oC m₂ ys r hC ex ey hmem hO hj F N off
        refine hR _ ⟨h, tk6, (C, oC) :: (D, lst ys) :: r, rfl, F, N, ?_, fun hle => ⟨oC, m₂, ys, r, rfl, hC, hO, hnext _ _ _ _ hi (hmono _ _ _ _ _ _ ha6 hj)⟩⟩
        exact List.forall_mem_cons.mpr ⟨hO.ic.symm, List.forall_mem_cons.mpr ⟨hO.id.symm, fun p hp => (hO.r p hp).1⟩⟩
    exact start_two core (W2.self 0 oI2 _ _ _ (N₅ _ (.head _)).1 hst2 trivial core)
  · intro led h a tk ha hz156
    apply el_EEEERAAA hz156
    clear hz156
    intro oC m₂ ys r hC hO hj F N off
    exact done C D oC m₂ r ys h a tk ha hj hC F N hO
end
section
variable {prog : Program} {w : World} {A : Around} {E : Value → Shared → Prop} {s : Shared} {h₀ : Heap} {L : Addr} {m : Str → Option Value} {env : Env}
theorem comp_done_assignS {C D : Addr} {oC : Obj} {ys : List Value} {rest : Led} {m₂ : Str → Option Value} {Q : Shared → Prop} {h : Heap} {tk : Nat} {y : Str} {py : Pos} (hLe : env.locals = L) (hy : env.kindOf y = some .local) (hp : (env.scope.kind == .class || (env.scope.kind == .module && env.locals != env.globals)) = false)
    (hC : NsO oC m₂) (F : Fr h₀ L h m) (N : News h₀ L h ((C, oC) :: (D, lst ys) :: rest)) (hcd : C ≠ D) (hr : ∀ p ∈ rest, p.1 ≠ C)
    (k : ∀ h', Fr h₀ L h' (fun z => if z = y then some (.ref D) else m z) → News h₀ L h' ((D, lst ys) :: rest) → Q { s with heap := h', toks := tk + 1 }) :
    compPost (model prog w) A E (some (assign (.Name y py) env)) (fun _ s' => Q s') (.ref D) C (.ok .next) { s with heap := h, toks := tk } :=
  comp_done_assign (Q := fun _ s' => Q s') hLe hy hp hC F N hcd hr k
end

-- W0
/-- the words grown from one word, by the kinds below j -/
noncomputable def partW (p : List Int × Int) (j : Nat) : List (List Int × Int) := ((List.range j).filter fun (k : Nat) => decide (0 < (p.2.fdiv (8 ^ k)).fmod 8)).map fun (k : Nat) => (p.1 ++ [(k : Int)], p.2 - 8 ^ k)
noncomputable def stepW (l : List (List Int × Int)) : List (List Int × Int) := l.flatMap fun p => partW p 3
noncomputable def wordsN : Nat → Int → List (List Int × Int)
  | 0, l => [([], l)]
  | n + 1, l => stepW (wordsN n l)
theorem partW_succ (p : List Int × Int) (j : Nat) : partW p (j + 1) = partW p j ++ (if 0 < (p.2.fdiv (8 ^ j)).fmod 8 then [(p.1 ++ [(j : Int)], p.2 - 8 ^ j)] else []) := by
  unfold partW
  rw [List.range_succ, List.filter_append, List.map_append]
  congr 1
  by_cases h : 0 < (p.2.fdiv (8 ^ j)).fmod 8 <;> simp [h]
theorem partW_len (p : List Int × Int) (j : Nat) : (partW p j).length ≤ j := by
  unfold partW
  rw [List.length_map]
  exact Nat.le_trans (List.length_filter_le _ _) (by simp)
theorem flat_len (l : List (List Int × Int)) : (l.flatMap fun p => partW p 3).length ≤ 3 * l.length := by
  induction l with
  | nil => simp
  | cons a r ih =>
    rw [List.flatMap_cons, List.length_append, List.length_cons]
    have := partW_len a 3
    omega
theorem wordsN_len (n : Nat) (l : Int) : (wordsN n l).length ≤ 3 ^ n := by
  induction n with
  | zero => simp [wordsN]
  | succ n ih =>
    have := flat_len (wordsN n l)
    show (stepW (wordsN n l)).length ≤ _
    unfold stepW
    rw [Nat.pow_succ]
    omega
noncomputable def partOf (wl : List (List Int × Int)) (i j : Nat) : List (List Int × Int) := match wl[i]? with
  | some p => partW p j
  | none => []
/-- pairs of a word and an int, by membership in a ledger -/
inductive Pairs (f : Nat → Int) (T : Nat) (led : Led) : List Value → List (List Int × Int) → Prop
  | nil : Pairs f T led [] []
  | cons {a b : Addr} {us : List Value} {n k : Nat} {t : Tok} {xs : List Int} {z : Int} {vs : List Value} {ps : List (List Int × Int)} : (a, tupO [.ref b, .int z t] k) ∈ led → (b, tupO us n) ∈ led → NZ f T us xs → Pairs f T led vs ps → Pairs f T led (.ref a :: vs) ((xs, z) :: ps)
section
variable {f : Nat → Int} {T : Nat} {led led' : Led}
theorem Pairs.length {vs : List Value} {ps : List (List Int × Int)} (h : Pairs f T led vs ps) : vs.length = ps.length := by
  induction h with
  | nil => rfl
  | cons _ _ _ _ ih => simp [ih]
theorem Pairs.sub (hs : ∀ p ∈ led, p ∈ led') {vs : List Value} {ps : List (List Int × Int)} (h : Pairs f T led vs ps) : Pairs f T led' vs ps := by
  induction h with
  | nil => exact .nil
  | cons a b c _ ih => exact .cons (hs _ a) (hs _ b) c ih
theorem Pairs.append {vs us : List Value} {ps qs : List (List Int × Int)} (h : Pairs f T led vs ps) (h' : Pairs f T led us qs) : Pairs f T led (vs ++ us) (ps ++ qs) := by
  induction h with
  | nil => exact h'
  | cons a b c _ ih => exact .cons a b c ih
theorem Pairs.more {T' : Nat} {t : Nat} {x : Int} (ht : T ≤ t) (hT : T ≤ T') {vs : List Value} {ps : List (List Int × Int)} (h : Pairs f T led vs ps) : Pairs (fun z => if z = t then x else f z) T' led vs ps := by
  induction h with
  | nil => exact .nil
  | cons a b c _ ih => exact .cons a b (c.more ht hT) ih
theorem Pairs.mono {T' : Nat} (hT : T ≤ T') {vs : List Value} {ps : List (List Int × Int)} (h : Pairs f T led vs ps) : Pairs f T' led vs ps := by
  induction h with
  | nil => exact .nil
  | cons a b c _ ih => exact .cons a b (c.mono hT) ih
theorem Pairs.get {vs : List Value} {ps : List (List Int × Int)} (h : Pairs f T led vs ps) : ∀ {i : Nat} {v : Value}, vs[i]? = some v → ∃ a b us n k t xs z, ps[i]? = some (xs, z) ∧ v = .ref a ∧ (a, tupO [.ref b, .int z t] k) ∈ led ∧ (b, tupO us n) ∈ led ∧ NZ f T us xs := by
  induction h with
  | nil => intro i v e; simp at e
  | @cons a b us n k t xs z vs ps h1 h2 h3 _ ih =>
    intro i v e
    cases i with
    | zero => exact ⟨a, b, us, n, k, t, xs, z, rfl, by simpa using e.symm, h1, h2, h3⟩
    | succ i =>
      obtain ⟨a, b, us, n, k, t, xs, z, h, r⟩ := ih (i := i) (by simpa using e)
      exact ⟨a, b, us, n, k, t, xs, z, by simpa using h, r⟩
end
theorem partOf_zero (wl : List (List Int × Int)) (i : Nat) : partOf wl i 0 = [] := by
  unfold partOf
  split <;> simp [partW]
theorem take_partOf {wl : List (List Int × Int)} {i : Nat} (h : i < wl.length) : (wl.take i).flatMap (fun p => partW p 3) ++ partOf wl i 3 = (wl.take (i + 1)).flatMap (fun p => partW p 3) := by
  have e : wl.take (i + 1) = wl.take i ++ [wl[i]] := by rw [List.take_add_one, List.getElem?_eq_getElem h]; rfl
  unfold partOf
  rw [e, List.flatMap_append, List.flatMap_cons, List.flatMap_nil, List.append_nil, List.getElem?_eq_getElem h]
theorem partOf_succ {wl : List (List Int × Int)} {i j : Nat} {xs : List Int} {z : Int} (h : wl[i]? = some (xs, z)) : partOf wl i (j + 1) = partOf wl i j ++ (if 0 < (z.fdiv (8 ^ j)).fmod 8 then [(xs ++ [(j : Int)], z - 8 ^ j)] else []) := by
  unfold partOf
  rw [h]
  exact partW_succ (xs, z) j
theorem flat_len2 (l : List (List Int × Int)) (i j : Nat) (hj : j ≤ 3) : ((l.take i).flatMap (fun p => partW p 3) ++ partOf l i j).length ≤ 3 * l.length + 3 := by
  have h1 := flat_len (l.take i)
  have h2 : (l.take i).length ≤ l.length := by simp; omega
  have h3 : (partOf l i j).length ≤ 3 := by
    unfold partOf
    split
    · exact Nat.le_trans (partW_len _ _) hj
    · simp
  rw [List.length_append]
  omega
theorem tup_same {h₀ h : Heap} {L t : Addr} {led : Led} {us vs : List Value} {n k : Nat} (N : News h₀ L h led) (h1 : (t, tupO us n) ∈ led) (h2 : (t, tupO vs k) ∈ led) : us = vs ∧ n = k := by
  have e := (N _ h1).1.symm.trans (N _ h2).1
  injection e with e
  injection e with _ _ e _
  injection e with e1 e2
  exact ⟨by simpa using congrArg Array.toList e1, e2⟩
theorem partOf_succ' {wl : List (List Int × Int)} {i j : Nat} {xs : List Int} {z : Int} (h : wl[i]? = some (xs, z)) : partOf wl i (j + 1) = partOf wl i j ++ (if 0 < (z.fdiv (8 ^ (0 + (j : Int)).toNat)).fmod 8 then [(xs ++ [0 + (j : Int)], z - 8 ^ (0 + (j : Int)).toNat)] else []) := by
  have e1 : (0 + (j : Int)).toNat = j := by omega
  have e2 : (0 + (j : Int)) = j := by omega
  rw [e1, e2]
  exact partOf_succ h
theorem wordsN_word (n : Nat) (l : Int) : ∀ p ∈ wordsN n l, p.1.length = n := by
  induction n with
  | zero => intro p hp; simp [wordsN] at hp; rw [hp]; rfl
  | succ n ih =>
    intro p hp
    have hp' : p ∈ stepW (wordsN n l) := hp
    unfold stepW at hp'
    obtain ⟨q, hq, hp2⟩ := List.mem_flatMap.mp hp'
    unfold partW at hp2
    obtain ⟨k, hk, e⟩ := List.mem_map.mp hp2
    rw [← e]
    simp [ih q hq]
theorem fresh_pair {q k : Addr × Obj} {objs base : Led} (lp : ∀ p ∈ objs ++ k :: base, p.1 < q.1) (fo : Fresh objs (k :: base)) (lk : AllLt k.1 base) : Fresh (q :: (objs ++ [k])) base := by
  have hk : ∀ p ∈ base, p.1 < k.1 := by
    clear lp fo
    induction base with
    | nil => intro p hp; cases hp
    | cons a r ih =>
      intro p hp
      rcases List.mem_cons.mp hp with rfl | hp
      · exact lk.1
      · exact ih lk.2 p hp
  intro z hz p hp
  rcases List.mem_cons.mp hz with rfl | hz
  · exact Nat.ne_of_lt (lp p (List.mem_append.mpr (.inr (.tail _ hp))))
  · rcases List.mem_append.mp hz with hz | hz
    · exact fo z hz p (.tail _ hp)
    · rw [List.mem_singleton.mp hz]; exact Nat.ne_of_lt (hk p hp)
theorem news_pair {h₀ h : Heap} {L : Addr} {q k : Addr × Obj} {objs base : Led} (N : News h₀ L h (q :: (objs ++ k :: base))) : News h₀ L h ((q :: (objs ++ [k])) ++ base) := by
  simpa using N
theorem Pairs.drop_mid {f : Nat → Int} {T : Nat} {a c : Led} {I : Addr} {oI : Obj} (hI : oI.cls ≠ .type "tuple") {vs : List Value} {ps : List (List Int × Int)} (h : Pairs f T (a ++ (I, oI) :: c) vs ps) : Pairs f T (a ++ c) vs ps := by
  have key : ∀ (x : Addr) (us : List Value) (n : Nat), (x, tupO us n) ∈ a ++ (I, oI) :: c → (x, tupO us n) ∈ a ++ c := fun x us n hm => by
    rcases List.mem_append.mp hm with hm | hm
    · exact List.mem_append.mpr (.inl hm)
    · rcases List.mem_cons.mp hm with e | hm
      · injection e with _ e
        exact absurd (by rw [← e]) hI
      · exact List.mem_append.mpr (.inr hm)
  induction h with
  | nil => exact .nil
  | cons x y z _ ih => exact .cons (key _ _ _ x) (key _ _ _ y) z ih
theorem not_tup_range {a : Int} {n i : Nat} {o : Obj} (h : StRange a n i o) : o.cls ≠ .type "tuple" := by
  unfold StRange at h
  rw [h]
  intro e
  injection e with e
  exact absurd e (by decide)
theorem words_perm {h₀ h : Heap} {L : Addr} {d2 i d : Addr × Obj} {os2 os news : Led} (N : News h₀ L h (d2 :: (os2 ++ i :: d :: (os ++ news)))) : News h₀ L h (i :: d2 :: ((os2 ++ d :: os) ++ news)) := news_sub N fun p hp => by
  simp only [List.mem_cons, List.mem_append] at hp ⊢
  rcases hp with e | e | (e | e | e) | e
  · exact .inr (.inr (.inl e))
  · exact .inl e
  · exact .inr (.inl e)
  · exact .inr (.inr (.inr (.inl e)))
  · exact .inr (.inr (.inr (.inr (.inl e))))
  · exact .inr (.inr (.inr (.inr (.inr e))))

-- G9
section
variable {prog : Program} {w : World} {A : Around} {h₀ : Heap} {L : Addr} {m : Str → Option Value}
/-- how a turn of a while loop that makes no objects may end -/
noncomputable def WhileEnd (h₀ : Heap) (L : Addr) (s : Shared) (led : Led) (a k : Nat) (J : Nat → Nat → (Str → Option Value) → Prop) (s' : Shared) : Prop :=
  ∃ h' tk' m', s' = { s with heap := h', toks := tk' } ∧ Fr h₀ L h' m' ∧ News h₀ L h' led ∧ (a ≤ tk' → ∃ k', k' < k ∧ J k' tk' m')
noncomputable def WhilePost (h₀ : Heap) (L : Addr) (s : Shared) (led : Led) (a k : Nat) (J : Nat → Nat → (Str → Option Value) → Prop) (Q : Flow → Shared → Prop) (f : Flow) (s' : Shared) : Prop :=
  match f with
  | .ret v => Q (.ret v) s'
  | .brk => Q .next s'
  | _ => WhileEnd h₀ L s led a k J s'
theorem whileEnd_next {s : Shared} {led : Led} {a k : Nat} {J : Nat → Nat → (Str → Option Value) → Prop} {Q : Flow → Shared → Prop} {h' : Heap} {tk' : Nat} {m' : Str → Option Value}
    (F : Fr h₀ L h' m') (N : News h₀ L h' led) (hj : a ≤ tk' → ∃ k', k' < k ∧ J k' tk' m') : WhilePost h₀ L s led a k J Q .next { s with heap := h', toks := tk' } := ⟨h', tk', m', rfl, F, N, hj⟩
theorem whileCore {test : PySem.Expr} {body : List Stmt} {env : Env} {R : Result → Shared → Prop} (J : Nat → Nat → (Str → Option Value) → Prop) {s : Shared} {led : Led} (F : Fr h₀ L s.heap m) (N : News h₀ L s.heap led) (k : Nat) (hj : J k s.toks m)
    (turn : ∀ k m₁ h a E', J k a m₁ → Fr h₀ L h m₁ → News h₀ L h led →
      wpAny (model prog w) A (isTrue test env (eval test env)) (fun b s₂ =>
        if b = true then wpAny (model prog w) A (execs body env) (WhilePost h₀ L s led a k J fun f s' => R (.ok f) s') E' s₂
        else R (.ok .next) s₂) E' { s with heap := h, toks := a }) :
    codeAny (model prog w) A (.whileLoop test body [] env) R s := by
  refine codeAny_whileLoop (fun k s' => ∃ h a m₁, s' = { s with heap := h, toks := a } ∧ Fr h₀ L h m₁ ∧ News h₀ L h led ∧ J k a m₁) ?_ k ⟨s.heap, s.toks, m, rfl, F, N, hj⟩
  intro k s' hz159
  apply el_EEERAAA hz159
  clear hz159
  intro h a m₁ F N hj
  refine wpAny_with_toks (n := a) (Nat.le_refl _) (wpAny_mono (turn k m₁ h a _ hj F N) (fun b s₂ h₂ ht₂ => ?_) fun _ _ e _ => e)
  cases b with
  | false =>
    simp only [Bool.false_eq_true, if_false] at h₂ ⊢
    exact wpAny_execs_nil h₂
  | true =>
    simp only [if_true] at h₂ ⊢
    refine wpAny_with_toks (n := a) ht₂ (wpAny_mono h₂ (fun f s₃ h₃ ht₃ => ?_) fun _ _ e _ => e)
    have fin : WhileEnd h₀ L s led a k J s₃ → ∃ k', k' < k ∧ ∃ h a m₁, s₃ = { s with heap := h, toks := a } ∧ Fr h₀ L h m₁ ∧ News h₀ L h led ∧ J k' a m₁ := by
      intro hz160
      revert ht₃
      apply el_EEERAAA hz160
      clear hz160
      intro h' tk' m' F' N' hj' ht₃
      obtain ⟨k', hk, hj''⟩ := hj' ht₃
      exact ⟨k', hk, h', tk', m', rfl, F', N', hj''⟩
    cases f with
    | next => exact fin h₃
    | cont => exact fin h₃
    | brk => exact h₃
    | ret v => exact h₃
end

-- G10
section
variable {prog : Program} {w : World} {A : Around} {E : Value → Shared → Prop} {s : Shared} {h₀ : Heap} {L : Addr} {m : Str → Option Value} {env : Env}
theorem off_moreX {I C D c : Addr} {oI oC oD oc : Obj} {objs r : Led} (hO : Off I C D ((c, oc) :: r)) (fr : Fresh objs ((I, oI) :: (C, oC) :: (D, oD) :: (c, oc) :: r)) : Off I C D ((c, oc) :: (objs ++ r)) := by
  refine ⟨hO.ic, hO.id, hO.cd, fun p hp => ?_⟩
  rcases List.mem_cons.mp hp with rfl | hp
  · exact hO.r _ (.head _)
  · rcases List.mem_append.mp hp with hp | hp
    · exact ⟨(fr p hp _ (.head _)).symm, (fr p hp _ (.tail _ (.head _))).symm, (fr p hp _ (.tail _ (.tail _ (.head _)))).symm⟩
    · exact hO.r p (.tail _ hp)
/-- a comprehension with one clause, its target a cell of its own, no test -/
theorem compRunX {elt iter : PySem.Expr} {scope : Scope} {cl : List (Str × Addr)} {pos px : Pos} {x : Str} {I : Addr} {oI : Obj} {rest : Led} {RR : Value → Addr → Result → Shared → Prop} {n : Nat} {P : Nat → Nat → Nat → Value → Prop} {St : Nat → Obj → Prop} {Src : Heap → Prop}
    (hcf : ∀ n, cellsFrom n scope.names cl = (x, n) :: cl) (hpc : ∀ h, pushCells h scope.names = h.push { cls := .type "cell", data := .cell none })
    (W : It prog w A I n P St Src) (hk : scope.kind = .function) (hx : ∀ C c, (compEnvC scope ((x, c) :: cl) C env).kindOf x = some .cell)
    (J : Led → Nat → Nat → Led → List Value → Prop) (hst : St 0 oI) (F : Fr h₀ L s.heap m) (N : News h₀ L s.heap ((I, oI) :: rest)) (off : ∀ p ∈ rest, p.1 ≠ I) (hj : J rest 0 s.toks rest [])
    (hsrc : ∀ i a led ys h, J rest i a led ys → News h₀ L h led → (∀ b o, h₀.get? b = some o → h.get? b = some o) → Src h)
    (hlen : ∀ i a led ys, J rest i a led ys → ys.length ≤ 1000000)
    (turn : ∀ C D c i v oI oC oc led ys h a tk E', Off I C D ((c, oc) :: led) → (∀ p ∈ led, p.1 ≠ c) → i < n → P i a tk v → a ≤ tk → J rest i a led ys → oc.data = .cell (some v) → Fr h₀ L h m → News h₀ L h ((I, oI) :: (C, oC) :: (D, lst ys) :: (c, oc) :: led) →
      wpAny (model prog w) A (eval elt (compEnvC scope ((x, c) :: cl) C env)) (fun y s₄ => TurnEnd h₀ L m s ((I, oI) :: (C, oC) :: (D, lst ys) :: (c, oc) :: led) tk (fun tk' objs => J rest (i + 1) tk' (objs ++ led) (ys ++ [y])) s₄) E' { s with heap := h, toks := tk })
    (done : ∀ C D oC m₂ c oc led ys h a tk, a ≤ tk → J rest n a led ys → NsO oC m₂ → Fr h₀ L h m → News h₀ L h ((C, oC) :: (D, lst ys) :: (c, oc) :: led) → Off I C D ((c, oc) :: led) → RR (.ref D) C (.ok .next) { s with heap := h, toks := tk }) :
    CompIn prog w A E elt (.Name x px) iter [] [] scope cl pos env RR (.ref I) s := by
  unfold CompIn
  refine compInit1 hcf hpc F N off (fun s' Q E e hk' N' hq => W.self 0 oI s' Q E e hst (hsrc 0 s.toks rest [] s'.heap hj N' hk') hq) fun D C c oC h hC F' N' hO hcr => ?_
  refine compCore (s := { s with heap := h }) (p0 := _) W (by exact rfl)
    (fun i a led => ∃ oc v₀ ys r, led = (C, oC) :: (D, lst ys) :: (c, oc) :: r ∧ oc.data = .cell v₀ ∧ Off I C D ((c, oc) :: r) ∧ (∀ p ∈ r, p.1 ≠ c) ∧ J rest i a r ys) hst F' N' (fun p hp => ?_) ⟨_, none, [], rest, rfl, rfl, hO, hcr, hj⟩ ?_ ?_ ?_
  · rcases List.mem_cons.mp hp with rfl | hp
    · exact hO.ic.symm
    · rcases List.mem_cons.mp hp with rfl | hp
      · exact hO.id.symm
      · exact (hO.r p hp).1
  · intro i a led h hz161
    apply el_EEEERAAAA hz161
    clear hz161
    intro oc v₀ ys r _ _ _ hj N hk
    exact hsrc i a r ys h hj (fun p hp => N p (.tail _ (.tail _ (.tail _ hp)))) hk
  · intro i v oI led h a tk E' hi hP ha hst' hz162
    apply el_EEEERAAAA hz162
    clear hz162
    intro oc v₀ ys r hd hO hcr hj F N off
    refine turn1 ?_
    refine wpAny_mono (Q := fun _ s' => s' = { s with heap := h, toks := tk }) (wpAny_pure rfl) (fun _ s₁ e => ?_) (fun _ _ e => e)
    subst e
    refine store_cell (s := { s with heap := h, toks := tk }) F N hO hcr hd (by simp [List.lookup]) hk (hx C c) fun h' oc' hd' F' N' => ?_
    dsimp only
    have hO' : Off I C D ((c, oc') :: r) := ⟨hO.ic, hO.id, hO.cd, fun p hp => by
      rcases List.mem_cons.mp hp with rfl | hp
      · exact hO.r (c, oc) (.head _)
      · exact hO.r p (.tail _ hp)⟩
    refine tests_nil ?_
    simp only [if_true]
    refine wpAny_with_toks (n := tk) (Nat.le_refl _) (wpAny_mono (turn C D c i v oI oC oc' r ys h' a tk E' hO' hcr hi hP ha hj hd' F' N') (fun y s₄ h₄ ht₄ => ?_) fun _ _ e _ => e)
    revert ht₄
    apply el_EEERAAAA h₄
    clear h₄
    intro h₄ tk₄ objs F₄ N₄ fr hj₄
    intro ht₄
    have jj := hj₄ ht₄
    have hO₄ := off_moreX hO' fr
    refine append_D (s := { s with heap := h₄, toks := tk₄ }) (I := I) (oI := oI) (oC := oC) (ys := ys) (rest := (c, oc') :: (objs ++ r)) F₄ (news_sub N₄ fun p hp => ?_) hO₄ (by have := hlen _ _ _ _ hj; rw [sizeLine_eq]; omega) fun h₅ F₅ N₅ => ?_
    · simp only [List.mem_cons, List.mem_append] at hp ⊢
      rcases hp with e | e | e | e | e | e <;> simp [e]
    · refine ⟨h₅, tk₄, (C, oC) :: (D, lst (ys ++ [y])) :: (c, oc') :: (objs ++ r), rfl, F₅, N₅, fun p hp => ?_, fun _ => ⟨oc', _, ys ++ [y], objs ++ r, rfl, hd', hO₄, fun p hp => ?_, jj⟩⟩
      · rcases List.mem_cons.mp hp with rfl | hp
        · exact hO₄.ic.symm
        · rcases List.mem_cons.mp hp with rfl | hp
          · exact hO₄.id.symm
          · exact (hO₄.r p hp).1
      · rcases List.mem_append.mp hp with hp | hp
        · exact (fr p hp (c, oc') (.tail _ (.tail _ (.tail _ (.head _))))).symm
        · exact hcr p hp
  · intro led h a tk ha hz163
    apply el_EEEERAAAA hz163
    clear hz163
    intro oc v₀ ys r hd hO hcr hj F N off
    exact done C D oC _ c oc r ys h a tk ha hj hC F N hO
end

-- G11
section
variable {prog : Program} {w : World} {A : Around} {E : Value → Shared → Prop} {s : Shared} {h₀ : Heap} {L : Addr} {m : Str → Option Value} {news : Led}
theorem sumN {l : Addr} {vs : List Value} {ns : List Int} {n : Nat} {Q : Value → Shared → Prop} (hh : A.handled = none) (F : Fr h₀ L s.heap m) (N : News h₀ L s.heap news) (hm : (l, lstO vs n) ∈ news) (hi : IntsAre vs ns)
    (k : ∀ h' t tk, s.toks ≤ tk → Fr h₀ L h' m → News h₀ L h' news → Q (.int ns.sum t) { s with heap := h', toks := tk }) : wpAny (model prog w) A (call (.builtin "sum") [.ref l]) Q E s :=
  wpAny_with_toks (Nat.le_refl s.toks) (sumK hh F N ⟨_, (N _ hm).1, rfl, _, rfl⟩ hi fun h' tk t F' N' ht => k h' t tk ht F' N')
theorem subT {value slice : PySem.Expr} {D : Addr} {vs : List Value} {ns : List Int} {n : Nat} {k : Int} {u : Tok} {Q : Value → Shared → Prop} (N : News h₀ L s.heap news) (hm : (D, tupO vs n) ∈ news) (hi : IntsAre vs ns) (hk : 0 ≤ k ∧ k < ns.length ∧ k ≤ 1000000) (h : ∀ t, Q (.int (ns.getD k.toNat 0) t) s)
    (hs : subscripted slice false (.ref D) (.int k u) = operate [.ref D, .int k u] (getItem (.ref D) (.int k u)) := by with_unfolding_all rfl) (hg : ∀ r, letTemporaryGo value (.ref D) r = pure () := by intro _; with_unfolding_all rfl) :
    wpAny (model prog w) A (subscriptTail value slice (.ref D) (.int k u)) Q E s :=
  item_tuple_ints ⟨_, (N _ hm).1, rfl, _, rfl⟩ hi hk.1 hk.2.1 (by omega) h hs hg
end
/-- the falls of a word among its first j places -/
noncomputable def fallL (xs : List Int) (j : Nat) : List Int := ((List.range j).filter fun i => decide (xs.getD (i + 1) 0 < xs.getD i 0)).map fun (i : Nat) => (1 + (i : Int))
noncomputable def fallZ (xs : List Int) : Int := (fallL xs 5).sum
theorem fallL_succ (xs : List Int) (j : Nat) : fallL xs (j + 1) = fallL xs j ++ (if xs.getD (j + 1) 0 < xs.getD j 0 then [(1 + (j : Int))] else []) := by
  unfold fallL
  rw [List.range_succ, List.filter_append, List.map_append]
  congr 1
  by_cases h : xs.getD (j + 1) 0 < xs.getD j 0
  · rw [if_pos h, List.filter_cons_of_pos (by exact decide_eq_true h)]; simp
  · rw [if_neg h, List.filter_cons_of_neg (by rw [decide_eq_false h]; decide)]; simp
theorem fallL_len (xs : List Int) (j : Nat) : (fallL xs j).length ≤ j := by
  unfold fallL
  rw [List.length_map]
  exact Nat.le_trans (List.length_filter_le _ _) (by simp)
section
variable {prog : Program} {w : World} {A : Around} {E : Value → Shared → Prop} {s : Shared} {h₀ : Heap} {L : Addr} {m : Str → Option Value} {news : Led}
theorem sliceN {value slice : PySem.Expr} {D : Addr} {vs : List Value} {ns : List Int} {n : Nat} {vl vu vk : Value} {lo hi st : Option Int} {ops : List Value} {Q : Value → Shared → Prop}
    (F : Fr h₀ L s.heap m) (N : News h₀ L s.heap news) (hm : (D, lstO vs n) ∈ news) (hi' : IntsAre vs ns) (pl : IsPart vl lo) (pu : IsPart vu hi) (pk : IsPart vk st) (h0 : st ≠ some 0) (hsz : vs.length ≤ 1000000)
    (h : ∀ D2 ws k h', Fr h₀ L h' m → News h₀ L h' ((D2, lstO ws k) :: news) → (∀ p ∈ news, p.1 < D2) → IntsAre ws (pickNums ns lo hi st) → Q (.ref D2) { s with heap := h' })
    (hs : subscripted slice false (.ref D) (.ref s.heap.objs.size) = operate ops (getItem (.ref D) (.ref s.heap.objs.size)) := by with_unfolding_all rfl)
    (ht : ∀ r, letTemporaryGo value (.ref D) r = pure () := by intro _; with_unfolding_all rfl) :
    wpAny (model prog w) A (subscriptTail value slice (.ref D) (.ref s.heap.objs.size)) Q E { s with heap := s.heap.push { cls := .type "slice", data := .fields #[vl, vu, vk] } } :=
  slice_list3 (items := vs.toArray) F N ⟨_, (N _ hm).1, rfl, _, rfl⟩ pl pu pk h0 (fun h' F' N' => h _ (slicePick vs.toArray lo hi st).toList 0 h' F' (by simpa using N') (fun p hp => Nat.lt_succ_of_lt (Heap.lt_size (N p hp).1)) (hi'.pick lo hi st)) hs ht (by rw [List.size_toArray, sizeLine_eq]; omega)
theorem sliceTo {value slice : PySem.Expr} {D : Addr} {vs : List Value} {ns : List Int} {n : Nat} {y : Int} {u : Tok} {ops : List Value} {Q : Value → Shared → Prop}
    (F : Fr h₀ L s.heap m) (N : News h₀ L s.heap news) (hm : (D, lstO vs n) ∈ news) (hi' : IntsAre vs ns) (hy : 0 ≤ y) (hsz : vs.length ≤ 1000000)
    (h : ∀ D2 ws k h', Fr h₀ L h' m → News h₀ L h' ((D2, lstO ws k) :: news) → (∀ p ∈ news, p.1 < D2) → IntsAre ws (ns.take y.toNat) → Q (.ref D2) { s with heap := h' })
    (hs : subscripted slice false (.ref D) (.ref s.heap.objs.size) = operate ops (getItem (.ref D) (.ref s.heap.objs.size)) := by with_unfolding_all rfl)
    (ht : ∀ r, letTemporaryGo value (.ref D) r = pure () := by intro _; with_unfolding_all rfl) :
    wpAny (model prog w) A (subscriptTail value slice (.ref D) (.ref s.heap.objs.size)) Q E { s with heap := s.heap.push { cls := .type "slice", data := .fields #[.none, .int y u, .none] } } :=
  slice_list3 (items := vs.toArray) F N ⟨_, (N _ hm).1, rfl, _, rfl⟩ .none (.int y u) .none (by simp) (fun h' F' N' => h _ (slicePick vs.toArray none (some y) none).toList 0 h' F' (by simpa using N') (fun p hp => Nat.lt_succ_of_lt (Heap.lt_size (N p hp).1)) (slice_ints_uptoW hi' hy)) hs ht (by rw [List.size_toArray, sizeLine_eq]; omega)
theorem sliceToX {value slice : PySem.Expr} {H : Heap} {D : Addr} {vs : List Value} {ns : List Int} {n : Nat} {y : Int} {u : Tok} {ops : List Value} {Q : Value → Shared → Prop} {g d tk os}
    (F : Fr h₀ L H m) (N : News h₀ L H news) (hm : (D, lstO vs n) ∈ news) (hi' : IntsAre vs ns) (hy : 0 ≤ y) (hsz : vs.length ≤ 1000000)
    (h : ∀ D2 ws k h', Fr h₀ L h' m → News h₀ L h' ((D2, lstO ws k) :: news) → (∀ p ∈ news, p.1 < D2) → IntsAre ws (ns.take y.toNat) → Q (.ref D2) ⟨h', g, d, tk, os⟩)
    (hs : subscripted slice false (.ref D) (.ref H.objs.size) = operate ops (getItem (.ref D) (.ref H.objs.size)) := by with_unfolding_all rfl)
    (ht : ∀ r, letTemporaryGo value (.ref D) r = pure () := by intro _; with_unfolding_all rfl) :
    wpAny (model prog w) A (subscriptTail value slice (.ref D) (.ref H.objs.size)) Q E ⟨H.push { cls := .type "slice", data := .fields #[.none, .int y u, .none] }, g, d, tk, os⟩ :=
  sliceTo (s := ⟨H, g, d, tk, os⟩) F N hm hi' hy hsz h hs ht
theorem sliceNX {value slice : PySem.Expr} {H : Heap} {D : Addr} {vs : List Value} {ns : List Int} {n : Nat} {vl vu vk : Value} {lo hi st : Option Int} {ops : List Value} {Q : Value → Shared → Prop} {g d tk os}
    (F : Fr h₀ L H m) (N : News h₀ L H news) (hm : (D, lstO vs n) ∈ news) (hi' : IntsAre vs ns) (pl : IsPart vl lo) (pu : IsPart vu hi) (pk : IsPart vk st) (h0 : st ≠ some 0) (hsz : vs.length ≤ 1000000)
    (h : ∀ D2 ws k h', Fr h₀ L h' m → News h₀ L h' ((D2, lstO ws k) :: news) → (∀ p ∈ news, p.1 < D2) → IntsAre ws (pickNums ns lo hi st) → Q (.ref D2) ⟨h', g, d, tk, os⟩)
    (hs : subscripted slice false (.ref D) (.ref H.objs.size) = operate ops (getItem (.ref D) (.ref H.objs.size)) := by with_unfolding_all rfl)
    (ht : ∀ r, letTemporaryGo value (.ref D) r = pure () := by intro _; with_unfolding_all rfl) :
    wpAny (model prog w) A (subscriptTail value slice (.ref D) (.ref H.objs.size)) Q E ⟨H.push { cls := .type "slice", data := .fields #[vl, vu, vk] }, g, d, tk, os⟩ :=
  sliceN (s := ⟨H, g, d, tk, os⟩) F N hm hi' pl pu pk h0 hsz h hs ht
end

-- G12
theorem adjust_to (b n : Nat) (hb : b ≤ n) : Builtin.Slice.sliceAdjust none (some (b : Int)) 1 (n : Int) = (0, (b : Int)) := by
  unfold Builtin.Slice.sliceAdjust
  have h1 : ¬ ((1 : Int) < 0) := by omega
  have h2 : ¬ ((b : Int) < 0) := by omega
  simp only [h1, h2, if_false]
  congr 1
  omega
theorem places_to (b : Nat) : Builtin.Slice.slicePlaces 0 (b : Int) 1 = b := by
  unfold Builtin.Slice.slicePlaces
  have h1 : (1 : Int) > 0 := by omega
  simp only [h1, if_true, Int.ediv_one]
  split <;> omega
section
variable {prog : Program} {w : World} {A : Around} {E : Value → Shared → Prop} {s : Shared}
theorem sliceApplied_to {sl : Addr} {b n : Nat} {u : Tok} {Q : Int × Int × Nat → Shared → Prop} (hs : s.heap.IsSliceOf sl .none (.int b u) .none) (hb : b ≤ n) (h : Q (0, 1, b) s) :
    wpAny (model prog w) A (Builtin.Slice.sliceApplied (.ref sl) (pure (n : Int))) Q E s := by
  obtain ⟨os, hos, hcs, hds⟩ := id hs
  unfold Builtin.Slice.sliceApplied Builtin.Slice.sliceFields
  refine wpAny_bind (wpAny_bind (wpAny_field hos hds (x := .none) rfl (wpAny_bind (wpAny_field hos hds (x := .int b u) rfl (wpAny_bind (wpAny_field hos hds (x := .none) rfl (wpAny_pure ?_)))))))
  refine wpAny_bind (slicePart_none ?_)
  show wpAny _ _ (if ((1 : Int) == 0) = true then _ else _) _ _ s
  rw [if_neg (by decide)]
  refine wpAny_bind (slicePart_none (wpAny_bind (slicePart_int (wpAny_bind (wpAny_pure ?_)))))
  show wpAny _ _ (match Builtin.Slice.sliceAdjust none (some (b : Int)) 1 (n : Int) with | (lo, hi) => pure (lo, (1 : Int), Builtin.Slice.slicePlaces lo hi 1)) _ _ s
  rw [adjust_to b n hb]
  show wpAny _ _ (pure ((0 : Int), (1 : Int), Builtin.Slice.slicePlaces 0 (b : Int) 1)) _ _ s
  rw [places_to b]
  exact wpAny_pure h
theorem pick_to (xs : Array Value) (b : Nat) : ((List.range b).filterMap fun (k : Nat) => xs[((0 : Int) + (k : Int) * 1).toNat]?).toArray = (xs.toList.take b).toArray := by
  have e : (fun (k : Nat) => xs[((0 : Int) + (k : Int) * 1).toNat]?) = fun k => xs[0 + k]? := by
    funext k
    have : ((0 : Int) + (k : Int) * 1).toNat = 0 + k := by omega
    rw [this]
  rw [e]
  have := pick_run xs 0 b
  rw [List.filterMap_map] at this
  have e2 : ((fun x => xs[x]?) ∘ fun x => 0 + x) = fun k => xs[0 + k]? := rfl
  rw [e2] at this
  rw [this, List.drop_zero]
theorem getItem_tuple_to {t sl : Addr} {items : Array Value} {b : Nat} {u : Tok} {Q : Value → Shared → Prop} (ht : IsTup s.heap t items) (hs : s.heap.IsSliceOf sl .none (.int b u) .none) (hb : b < items.size)
    (h : Q (.ref s.heap.objs.size) { s with heap := s.heap.push { cls := .type "tuple", data := .seq (items.toList.take b).toArray } })
    (hsz : items.size ≤ sizeLine) : wpAny (model prog w) A (getItem (.ref t) (.ref sl)) Q E s := by
  have hdrop : sizeOk (.seq (items.toList.take b).toArray) := by
    show (items.toList.take b).toArray.size ≤ sizeLine
    rw [List.size_toArray, List.length_take, Array.length_toList]
    omega
  obtain ⟨os, hos, hcs, hds⟩ := id hs
  have hTs : s.TypeIs (.ref sl) "slice" := ⟨os, hos, hcs⟩
  unfold getItem
  try with_reducible refine wpAny_holding ?_
  first | refine wpAny_bind (wpAny_pure ?_) | skip
  refine wpAny_bind (wpAny_sequenceKey ht.typeIs (by decide) ?_)
  refine wpAny_bind (wpAny_callSpecial?_slot (name := Str.ofString "__getitem__") ht.typeIs slot_tuple_getitem
    (wpAny_call_entry slot_tuple_getitem ht.typeIs entry_tuple_getitem ?_ (args_tuple_getitem _ _)))
  show wpAny _ _ (Builtin.Tuple.tupleItemsOf (.ref t) >>= _) _ _ s
  refine wpAny_bind (tupleItemsOf_ ht ?_)
  refine wpAny_bind (wpAny_typeOf hTs ?_)
  rw [if_pos (by decide)]
  refine wpAny_bind (sliceApplied_to hs (Nat.le_of_lt hb) ?_)
  have hno : ¬ (((0 : Int) == 0 && (1 : Int) == 1 && b == items.size) = true) := by
    have : (b == items.size) = false := by rw [beq_eq_false_iff_ne]; omega
    rw [this]; simp
  show wpAny _ _ (if ((0 : Int) == 0 && (1 : Int) == 1 && b == items.size) = true then _ else _) _ _ s
  rw [if_neg hno, pick_to items b]
  first
    | exact wpAny_bind (m := Builtin.Tuple.tupleExact _) (wpAny_newObj_type (wpAny_pure ⟨_, rfl, wpAny_pure h⟩) hdrop)
    | exact wpAny_bind (m := Builtin.Tuple.tupleExact _) (wpAny_newObj_type (wpAny_bind (wpAny_pure (wpAny_pure ⟨_, rfl, wpAny_pure h⟩))) hdrop)
    | exact wpAny_bind (wpAny_bind (m := Builtin.Tuple.tupleExact _) (wpAny_newObj_type (wpAny_pure (wpAny_pure ⟨_, rfl, wpAny_pure h⟩)) hdrop))
    | exact wpAny_bind (wpAny_bind (m := Builtin.Tuple.tupleExact _) (wpAny_newObj_type (wpAny_pure ⟨_, rfl, wpAny_pure h⟩) hdrop))
theorem getItem_tuple_whole {t sl : Addr} {items : Array Value} {u : Tok} {Q : Value → Shared → Prop} (ht : IsTup s.heap t items) (hs : s.heap.IsSliceOf sl (.int (0 : Nat) u) .none .none)
    (h : Q (.ref t) s) : wpAny (model prog w) A (getItem (.ref t) (.ref sl)) Q E s := by
  obtain ⟨os, hos, hcs, hds⟩ := id hs
  have hTs : s.TypeIs (.ref sl) "slice" := ⟨os, hos, hcs⟩
  unfold getItem
  try with_reducible refine wpAny_holding ?_
  first | refine wpAny_bind (wpAny_pure ?_) | skip
  refine wpAny_bind (wpAny_sequenceKey ht.typeIs (by decide) ?_)
  refine wpAny_bind (wpAny_callSpecial?_slot (name := Str.ofString "__getitem__") ht.typeIs slot_tuple_getitem
    (wpAny_call_entry slot_tuple_getitem ht.typeIs entry_tuple_getitem ?_ (args_tuple_getitem _ _)))
  show wpAny _ _ (Builtin.Tuple.tupleItemsOf (.ref t) >>= _) _ _ s
  refine wpAny_bind (tupleItemsOf_ ht ?_)
  refine wpAny_bind (wpAny_typeOf hTs ?_)
  rw [if_pos (by decide)]
  refine wpAny_bind (sliceApplied_from hs (Nat.zero_le _) ?_)
  have hno : (((((0 : Nat) : Int)) == 0 && (1 : Int) == 1 && (items.size - 0) == items.size) = true) := by simp
  show wpAny _ _ (if (((0 : Nat) : Int) == 0 && (1 : Int) == 1 && (items.size - 0) == items.size) = true then _ else _) _ _ s
  rw [if_pos hno]
  refine wpAny_bind ?_
  show wpAny _ _ (typeOf (.ref t) >>= fun x => pure (x == .type "tuple")) _ _ s
  refine wpAny_bind (wpAny_typeOf ht.typeIs (wpAny_pure ?_))
  show wpAny _ _ (if ((Value.type "tuple") == .type "tuple") = true then _ else _) _ _ s
  rw [if_pos (by decide)]
  first
    | exact wpAny_bind (wpAny_rule (wpAny_pure ⟨_, rfl, wpAny_pure h⟩))
    | exact wpAny_bind (wpAny_rule (wpAny_bind (wpAny_pure (wpAny_pure ⟨_, rfl, wpAny_pure h⟩))))
    | exact wpAny_bind (wpAny_rule (wpAny_pure ⟨_, rfl, h⟩))
end
section
variable {prog : Program} {w : World} {A : Around} {E : Value → Shared → Prop} {h₀ : Heap} {L : Addr} {m : Str → Option Value} {news : Led}
theorem tupFrom {value slice : PySem.Expr} {H : Heap} {t : Addr} {vs : List Value} {n a : Nat} {u : Tok} {Q : Value → Shared → Prop} {g d tk os}
    (F : Fr h₀ L H m) (N : News h₀ L H news) (hm : (t, tupO vs n) ∈ news) (ha : a ≤ vs.length) (hsz : vs.length ≤ 1000)
    (h : ∀ D2 n2 objs h', Fr h₀ L h' m → News h₀ L h' (objs ++ news) → Fresh objs news → (∀ l : Led, (t, tupO vs n) ∈ l → (D2, tupO (vs.drop a) n2) ∈ objs ++ l) → (D2, tupO (vs.drop a) n2) ∈ objs ++ news → Q (.ref D2) ⟨h', g, d, tk, os⟩)
    (hs : subscripted slice false (.ref t) (.ref H.objs.size) = operate [.ref H.objs.size, .ref t] (getItem (.ref t) (.ref H.objs.size)) := by with_unfolding_all rfl)
    (hg : ∀ r, letTemporaryGo value (.ref t) r = pure () := by intro _; with_unfolding_all rfl) :
    wpAny (model prog w) A (subscriptTail value slice (.ref t) (.ref H.objs.size)) Q E ⟨H.push { cls := .type "slice", data := .fields #[.int a u, .none, .none] }, g, d, tk, os⟩ := by
  have ht : IsTup H t vs.toArray := ⟨_, (N _ hm).1, rfl, _, rfl⟩
  rcases Nat.eq_zero_or_pos a with rfl | h1
  · have F1 := F.push { cls := .type "slice", data := .fields #[.int (0 : Nat) u, .none, .none] }
    have N1 := News.grown N (h' := H.push { cls := .type "slice", data := .fields #[.int (0 : Nat) u, .none, .none] }) fun _ _ e => Heap.get?_push_of_some _ e
    have ht' : IsTup (H.push { cls := .type "slice", data := .fields #[.int (0 : Nat) u, .none, .none] }) t vs.toArray := ht.keeps fun _ _ e => Heap.get?_push_of_some _ e
    exact subscriptTail_ops (s := ⟨H.push { cls := .type "slice", data := .fields #[.int (0 : Nat) u, .none, .none] }, g, d, tk, os⟩) ht'.typeIs slot_tuple_getitem.lookup
      (getItem_tuple_whole ht' (Heap.IsSliceOf.new ..) (h t n [] _ F1 N1 fresh_nil (fun l hl => by simpa using hl) (by simpa using hm))) hs hg
  · exact slice_tuple_from (s := ⟨H, g, d, tk, os⟩) F N ht h1 (by simpa using ha) (fun h' F' N' => h _ 0 [_] h' F' (by simpa using N') (fun q hq p hp => by
      rw [List.mem_singleton.mp hq]
      exact Nat.ne_of_lt (Nat.lt_succ_of_lt (Heap.lt_size (N p hp).1))) (fun _ _ => .head _) (.head _)) hs hg (by rw [List.size_toArray, sizeLine_eq]; omega)
theorem tupTo {value slice : PySem.Expr} {H : Heap} {t : Addr} {vs : List Value} {n b : Nat} {u : Tok} {Q : Value → Shared → Prop} {g d tk os}
    (F : Fr h₀ L H m) (N : News h₀ L H news) (hm : (t, tupO vs n) ∈ news) (hb : b < vs.length) (hsz : vs.length ≤ 1000)
    (h : ∀ D2 h', Fr h₀ L h' m → News h₀ L h' ((D2, tupO (vs.take b) 0) :: news) → (∀ p ∈ news, p.1 < D2) → Q (.ref D2) ⟨h', g, d, tk, os⟩)
    (hs : subscripted slice false (.ref t) (.ref H.objs.size) = operate [.ref H.objs.size, .ref t] (getItem (.ref t) (.ref H.objs.size)) := by with_unfolding_all rfl)
    (hg : ∀ r, letTemporaryGo value (.ref t) r = pure () := by intro _; with_unfolding_all rfl) :
    wpAny (model prog w) A (subscriptTail value slice (.ref t) (.ref H.objs.size)) Q E ⟨H.push { cls := .type "slice", data := .fields #[.none, .int b u, .none] }, g, d, tk, os⟩ := by
  have ht : IsTup H t vs.toArray := ⟨_, (N _ hm).1, rfl, _, rfl⟩
  have ht' : IsTup (H.push { cls := .type "slice", data := .fields #[.none, .int b u, .none] }) t vs.toArray := ht.keeps fun _ _ e => Heap.get?_push_of_some _ e
  refine subscriptTail_ops (s := ⟨H.push { cls := .type "slice", data := .fields #[.none, .int b u, .none] }, g, d, tk, os⟩) ht'.typeIs slot_tuple_getitem.lookup
    (getItem_tuple_to ht' (Heap.IsSliceOf.new ..) (by simpa using hb) ?_ (by rw [List.size_toArray, sizeLine_eq]; omega)) hs hg
  have N1 := News.push (F.push { cls := .type "slice", data := .fields #[.none, .int b u, .none] }) (N.grown fun _ _ e => Heap.get?_push_of_some _ e) { cls := .type "tuple", data := .seq (vs.take b).toArray }
  rw [Heap.size_push] at N1
  show Q (.ref (H.push _).objs.size) _
  rw [Heap.size_push]
  exact h _ _ ((F.push _).push _) (by simpa using N1) (fun p hp => Nat.lt_succ_of_lt (Heap.lt_size (N p hp).1))
end
/-- the first k turns of a word -/
noncomputable def rotsL (xs : List Int) (k : Nat) : List (List Int) := (List.range k).map fun i => xs.drop i ++ xs.take i
/-- how many of its six turns leave a word as it is -/
noncomputable def stayZ (xs : List Int) : Int := (((rotsL xs 6).count xs : Nat) : Int)
theorem mem_base {h₀ h : Heap} {L : Addr} {i x : Addr × Obj} {base : Led} (_ : News h₀ L h (i :: base)) (hm : x ∈ base) : x ∈ base := hm
theorem ld_freeC {M : Model} {A : Around} {E : Value → Shared → Prop} {s : Shared} {h₀ : Heap} {L C c : Addr} {news : Led} {scope : Scope} {cl : List (Str × Addr)} {env : Env} {x : Str} {pos : Pos} {v : Value} {oc : Obj} {Q : Value → Shared → Prop}
    (N : News h₀ L s.heap news) (hc : (compEnvC scope cl C env).cells.lookup x = some c) (hm : (c, oc) ∈ news) (hd : oc.data = .cell (some v)) (h : Q v s)
    (hk : (compEnvC scope cl C env).scope.kind = .function := by rfl) (hx : (compEnvC scope cl C env).kindOf x = some .free := by rfl) (hb : (x == ("__debug__" : Str)) = false := by decide) (hn : (x == ("__classdict__" : Str)) = false := by decide) :
    wpAny M A (eval (.Name x pos) (compEnvC scope cl C env)) Q E s := wpAny_Name (wpAny_loadName_free hk hx hc ⟨_, (N _ hm).1, hd⟩ h hn) hb
theorem ld_cellC {M : Model} {A : Around} {E : Value → Shared → Prop} {s : Shared} {h₀ : Heap} {L C c : Addr} {news : Led} {scope : Scope} {cl : List (Str × Addr)} {env : Env} {x : Str} {pos : Pos} {v : Value} {oc : Obj} {Q : Value → Shared → Prop}
    (N : News h₀ L s.heap news) (hc : (compEnvC scope cl C env).cells.lookup x = some c) (hm : (c, oc) ∈ news) (hd : oc.data = .cell (some v)) (h : Q v s)
    (hk : (compEnvC scope cl C env).scope.kind = .function := by rfl) (hx : (compEnvC scope cl C env).kindOf x = some .cell := by rfl) (hb : (x == ("__debug__" : Str)) = false := by decide) :
    wpAny M A (eval (.Name x pos) (compEnvC scope cl C env)) Q E s := wpAny_Name (wpAny_loadName_cell hk hx hc ⟨_, (N _ hm).1, hd⟩ h) hb
theorem fresh_three {objsC objsF base : Led} {x : Addr × Obj} (h1 : Fresh objsC (x :: (objsF ++ base))) (h2 : ∀ p ∈ objsF ++ base, p.1 < x.1) (h3 : Fresh objsF base) : Fresh (objsC ++ x :: objsF) base := by
  intro q hq p hp
  rcases List.mem_append.mp hq with hq | hq
  · exact h1 q hq p (.tail _ (List.mem_append_right _ hp))
  · rcases List.mem_cons.mp hq with rfl | hq
    · exact Nat.ne_of_lt (h2 p (List.mem_append_right _ hp))
    · exact h3 q hq p hp
theorem rotsL_succ (xs : List Int) (k : Nat) : rotsL xs (k + 1) = rotsL xs k ++ [xs.drop k ++ xs.take k] := by
  unfold rotsL
  rw [List.range_succ, List.map_append]
  rfl
theorem stayZ_le (xs : List Int) : 0 ≤ stayZ xs ∧ stayZ xs ≤ ((6 : Nat) : Int) := by
  unfold stayZ
  have h := List.count_le_length (a := xs) (l := rotsL xs 6)
  have h2 : (rotsL xs 6).length = 6 := by unfold rotsL; simp
  omega

-- D0
/-- what a division's call answers -/
noncomputable def DivPost (a b : Int) (news : Led) (r : Value) (objs : Led) : Prop := ∃ D t u k, r = .ref D ∧ (D, tupO [.int (a / b) t, .int (a % b) u] k) ∈ objs
/-- b has n bits -/
noncomputable def HasBits (b : Int) (n : Nat) : Prop := 0 < b ∧ (2 : Int) ^ n ≤ 2 * b ∧ b < 2 ^ n
noncomputable def D21 (w : World) (d N : Nat) : Prop := ∀ (a b : Int) (n : Nat) (ta tb tn : Tok) (news : Led), 0 ≤ a → HasBits b n → a < 2 ^ n * b → n ≤ N → Spec w 21 (110 + 2 * d) (40 + 40 * d) [.int a ta, .int b tb, .int n tn] news (DivPost a b news)
theorem noPylong_div {a b : Int} {n : Nat} (hb : HasBits b n) (h : ((Builtin.Int.intBits a : Nat) : Int) - (n : Int) ≤ 4000) : Builtin.divisionGoesByPylong a b = false := by
  obtain ⟨h0, h1, h2⟩ := hb
  have hl : b.natAbs.log2 + 1 = n := by
    have hn0 : b.natAbs ≠ 0 := by omega
    obtain ⟨c, rfl⟩ := Int.eq_ofNat_of_zero_le (Int.le_of_lt h0)
    have h1' : 2 ^ n ≤ 2 * c := by exact_mod_cast h1
    have h2' : c < 2 ^ n := by exact_mod_cast h2
    have hc : c ≠ 0 := by simpa using hn0
    show (Int.natAbs (c : Int)).log2 + 1 = n
    rw [Int.natAbs_natCast]
    cases n with
    | zero => simp at h2'; omega
    | succ n =>
      have : c.log2 = n := by
        rw [Nat.log2_eq_iff hc]
        rw [Nat.pow_succ] at h1'
        exact ⟨by omega, h2'⟩
      omega
  unfold Builtin.Int.intBits at h
  unfold Builtin.divisionGoesByPylong
  by_cases ha : a = 0
  · subst ha; simp
  · have e1 : (a == 0) = false := by simp [ha]
    have e2 : (b == 0) = false := by simp; omega
    simp only [e1, e2] at h ⊢
    simp
    simp at h
    intro _
    omega
noncomputable def D32 (w : World) (d N : Nat) : Prop := ∀ (a12 a3 b b1 b2 : Int) (n : Nat) (t1 t2 t3 t4 t5 t6 : Tok) (news : Led), 0 ≤ a12 → a12 < b → 0 ≤ a3 → a3 < 2 ^ n → b = b1 * 2 ^ n + b2 → 0 ≤ b2 → b2 < 2 ^ n → HasBits b1 n → n ≤ N → n ≤ 100000 →
  Spec w 28 (110 + d) (40 + 40 * d) [.int a12 t1, .int a3 t2, .int b t3, .int b1 t4, .int b2 t5, .int n t6] news (DivPost (a12 * 2 ^ n + a3) b news)
theorem bits_of_lt {a : Int} {n : Nat} (h0 : 0 ≤ a) (h : a < 2 ^ n) : Builtin.Int.intBits a ≤ n := by
  unfold Builtin.Int.intBits
  split
  · omega
  · rename_i h1
    obtain ⟨c, rfl⟩ := Int.eq_ofNat_of_zero_le h0
    have hc : c ≠ 0 := by intro e; subst e; simp at h1
    have h2 : c < 2 ^ n := by exact_mod_cast h
    show (Int.natAbs (c : Int)).log2 + 1 ≤ n
    rw [Int.natAbs_natCast]
    exact (Nat.log2_lt hc).mpr h2
theorem bits_abs {a : Int} {k : Nat} (h : a.natAbs < 2 ^ k) : Builtin.Int.intBits a ≤ k := by
  unfold Builtin.Int.intBits
  split
  · omega
  · rename_i h1
    have hc : a.natAbs ≠ 0 := by intro e; simp at h1; omega
    exact (Nat.log2_lt hc).mpr h

-- D1
theorem bitAnd_mask {x : Int} (hx : 0 ≤ x) (h : Nat) : Builtin.bitAnd x (2 ^ h - 1) = x % 2 ^ h := by
  obtain ⟨a, rfl⟩ := Int.eq_ofNat_of_zero_le hx
  have hp : (1 : Nat) ≤ 2 ^ h := Nat.one_le_two_pow
  have e : ((2 : Int) ^ h - 1) = ((2 ^ h - 1 : Nat) : Int) := by rw [Int.ofNat_sub hp]; simp
  rw [e, bitAnd_pp (by omega) (by omega)]
  simp only [Int.toNat_natCast]
  rw [Nat.and_two_pow_sub_one_eq_mod]
  simp
theorem bitOr_pp' (a b : Nat) : Builtin.bitOr (a : Int) (b : Int) = ((a ||| b : Nat) : Int) := by
  have ha : ¬ 0 ≤ Builtin.bitNot (a : Int) := by unfold Builtin.bitNot; omega
  have hb : ¬ 0 ≤ Builtin.bitNot (b : Int) := by unfold Builtin.bitNot; omega
  unfold Builtin.bitOr
  rw [bitAnd_nn ha hb, bitNot_bitNot, bitNot_bitNot, bitNot_bitNot]
  simp
theorem bitOr_join {x y : Int} (hx : 0 ≤ x) (hy : 0 ≤ y) (h : Nat) (hl : y < 2 ^ h) : Builtin.bitOr (x * 2 ^ h) y = x * 2 ^ h + y := by
  obtain ⟨a, rfl⟩ := Int.eq_ofNat_of_zero_le hx
  obtain ⟨b, rfl⟩ := Int.eq_ofNat_of_zero_le hy
  have hb : b < 2 ^ h := by exact_mod_cast hl
  have e : ((a : Int) * 2 ^ h) = ((a * 2 ^ h : Nat) : Int) := by simp
  rw [e, bitOr_pp']
  have := Nat.shiftLeft_add_eq_or_of_lt hb a
  rw [Nat.shiftLeft_eq] at this
  rw [← this]
  simp

-- D2
theorem ediv_of {A b q r : Int} (hb : 0 < b) (e : b * q + r = A) (h0 : 0 ≤ r) (h1 : r < b) : q = A / b ∧ r = A % b := by
  have := (Int.ediv_emod_unique hb (a := A) (r := r) (q := q)).mpr ⟨by omega, h0, h1⟩
  exact ⟨this.1.symm, this.2.symm⟩
theorem div32_low {P b1 b2 a12 a3 : Int} (hP : 0 < P) (h2 : 0 ≤ b2 ∧ b2 < P) (h3 : 0 ≤ a3 ∧ a3 < P) (ha : a12 < b1 * P + b2) (hq : a12 / P = b1) :
    (b1 * P + b2) * (P - 1) + ((a12 - b1 * P + b1) * P + a3 - (P - 1) * b2) = a12 * P + a3 ∧ (a12 - b1 * P + b1) * P + a3 - (P - 1) * b2 < b1 * P + b2 := by
  refine ⟨by simp only [Int.add_mul, Int.mul_add, Int.sub_mul, Int.mul_sub, Int.one_mul, Int.mul_one]; have := Int.mul_comm P b2; have e2 : b1 * P * P = b1 * P * P := rfl; omega, ?_⟩
  have hl : a12 - b1 * P + 1 ≤ b2 := by omega
  have hm : (a12 - b1 * P + 1) * P ≤ b2 * P := Int.mul_le_mul_of_nonneg_right hl (by omega)
  have e1 : (a12 - b1 * P + 1) * P = (a12 - b1 * P) * P + P := by rw [Int.add_mul, Int.one_mul]
  have e2 : (a12 - b1 * P + b1) * P = (a12 - b1 * P) * P + b1 * P := by rw [Int.add_mul]
  have e3 : (P - 1) * b2 = b2 * P - b2 := by rw [Int.sub_mul, Int.one_mul, Int.mul_comm]
  rw [e2, e3]
  omega
theorem div32_high {P b1 b2 a12 a3 q r : Int} (hP : 0 < P) (hb1 : 0 < b1) (h2 : 0 ≤ b2 ∧ b2 < P) (h3 : 0 ≤ a3 ∧ a3 < P) (ha0 : 0 ≤ a12) (hq : q = a12 / b1) (hr : r = a12 % b1) :
    (b1 * P + b2) * q + (r * P + a3 - q * b2) = a12 * P + a3 ∧ r * P + a3 - q * b2 < b1 * P + b2 := by
  have hd : b1 * q + r = a12 := by rw [hq, hr]; exact Int.mul_ediv_add_emod a12 b1
  have hr0 : 0 ≤ r := by rw [hr]; exact Int.emod_nonneg _ (by omega)
  have hr1 : r < b1 := by rw [hr]; exact Int.emod_lt_of_pos _ hb1
  have hq0 : 0 ≤ q := by rw [hq]; exact Int.ediv_nonneg ha0 (by omega)
  constructor
  · have e1 : (b1 * P + b2) * q = b1 * q * P + q * b2 := by
      rw [Int.add_mul, Int.mul_right_comm, Int.mul_comm b2 q]
    have e2 : a12 * P = b1 * q * P + r * P := by rw [← hd, Int.add_mul]
    omega
  · have hm : (r + 1) * P ≤ b1 * P := Int.mul_le_mul_of_nonneg_right (by omega) (by omega)
    have e1 : (r + 1) * P = r * P + P := by rw [Int.add_mul, Int.one_mul]
    have e2 : 0 ≤ q * b2 := Int.mul_nonneg hq0 h2.1
    omega
theorem div21_math {a b P : Int} (hP : 0 < P) (hb : 0 < b) :
    (a / P) / b * P + ((a / P) % b * P + a % P) / b = a / b ∧ ((a / P) % b * P + a % P) % b = a % b ∧ 0 ≤ ((a / P) % b * P + a % P) / b ∧ ((a / P) % b * P + a % P) / b < P := by
  have h1 := Int.mul_ediv_add_emod a P
  have h2 := Int.mul_ediv_add_emod (a / P) b
  have h3 := Int.mul_ediv_add_emod ((a / P) % b * P + a % P) b
  have m0 := Int.emod_nonneg a (show P ≠ 0 by omega)
  have m1 := Int.emod_lt_of_pos a hP
  have r0 := Int.emod_nonneg (a / P) (show b ≠ 0 by omega)
  have r1 := Int.emod_lt_of_pos (a / P) hb
  have s0 := Int.emod_nonneg ((a / P) % b * P + a % P) (show b ≠ 0 by omega)
  have s1 := Int.emod_lt_of_pos ((a / P) % b * P + a % P) hb
  have hm : ((a / P) % b + 1) * P ≤ b * P := Int.mul_le_mul_of_nonneg_right (by omega) (by omega)
  have e1 : ((a / P) % b + 1) * P = (a / P) % b * P + P := by rw [Int.add_mul, Int.one_mul]
  have e2 : 0 ≤ (a / P) % b * P := Int.mul_nonneg r0 (by omega)
  have key : b * ((a / P) / b * P + ((a / P) % b * P + a % P) / b) + ((a / P) % b * P + a % P) % b = a := by
    have x1 : b * ((a / P) / b * P + ((a / P) % b * P + a % P) / b) = b * ((a / P) / b) * P + b * (((a / P) % b * P + a % P) / b) := by
      rw [Int.mul_add, Int.mul_assoc]
    have x2 : (b * ((a / P) / b) + (a / P) % b) * P = b * ((a / P) / b) * P + (a / P) % b * P := by rw [Int.add_mul]
    have x3 : (b * ((a / P) / b) + (a / P) % b) * P = P * (a / P) := by rw [h2, Int.mul_comm]
    omega
  obtain ⟨k1, k2⟩ := ediv_of hb key s0 s1
  refine ⟨k1, k2, Int.ediv_nonneg (by omega) (by omega), Int.ediv_lt_of_lt_mul hb (by have := Int.mul_comm b P; omega)⟩
theorem pad_math {a b : Int} (hb : 0 < b) : (a * 2) / (b * 2) = a / b ∧ ((a * 2) % (b * 2)) / 2 = a % b := by
  have h1 := Int.mul_ediv_add_emod a b
  have r0 := Int.emod_nonneg a (show b ≠ 0 by omega)
  have r1 := Int.emod_lt_of_pos a hb
  have e : (b * 2) * (a / b) + (a % b * 2) = a * 2 := by
    have : (b * 2) * (a / b) = b * (a / b) * 2 := by rw [Int.mul_right_comm]
    omega
  obtain ⟨k1, k2⟩ := ediv_of (show 0 < b * 2 by omega) e (by omega) (by omega)
  exact ⟨k1.symm, by rw [← k2]; omega⟩

-- D3
theorem two_pos (n : Nat) : (0 : Int) < 2 ^ n := Int.pow_pos (by decide)
theorem fdiv_two (a : Int) (n : Nat) : a.fdiv (2 ^ n) = a / 2 ^ n := Int.fdiv_eq_ediv_of_nonneg _ (Int.le_of_lt (two_pos n))
theorem d32_first {a12 b b1 b2 : Int} {n : Nat} (hab : a12 < b) (hb : b = b1 * 2 ^ n + b2) (h2n : b2 < 2 ^ n) (hb1 : HasBits b1 n) (hq : a12.fdiv (2 ^ n) = b1) :
    0 ≤ a12 - b1 * 2 ^ n + b1 ∧ a12 - b1 * 2 ^ n + b1 < 2 ^ (n + 1) := by
  rw [fdiv_two] at hq
  have h1 := Int.mul_ediv_add_emod a12 (2 ^ n)
  have h2 := Int.emod_nonneg a12 (show (2 : Int) ^ n ≠ 0 by have := two_pos n; omega)
  have h3 := Int.emod_lt_of_pos a12 (two_pos n)
  rw [hq, Int.mul_comm] at h1
  have h4 := hb1.2.2
  have h5 := hb1.1
  rw [Int.pow_succ]
  omega
theorem d32_second {a12 b b1 b2 : Int} {n : Nat} (hab : a12 < b) (hb : b = b1 * 2 ^ n + b2) (h2n : b2 < 2 ^ n) (hq : a12.fdiv (2 ^ n) ≠ b1) : a12 < 2 ^ n * b1 := by
  rw [fdiv_two] at hq
  have h1 : a12 / 2 ^ n < b1 + 1 := Int.ediv_lt_of_lt_mul (two_pos n) (by rw [Int.add_mul, Int.one_mul]; omega)
  have h2 : a12 / 2 ^ n < b1 := by omega
  have := (Int.ediv_lt_iff_lt_mul (two_pos n)).mp h2
  rw [Int.mul_comm]; exact this
theorem mulok_low {b2 : Int} {n : Nat} (h20 : 0 ≤ b2) (h2n : b2 < 2 ^ n) (hn : n ≤ 100000) : IntMulOk (1 * 2 ^ n - 1) b2 := by
  refine IntMulOk.of_le (m := n) (n := n) (bits_of_lt ?_ ?_) (bits_of_lt h20 h2n) (by omega)
  · have := two_pos n; omega
  · omega
theorem mulok_high {a b1 b2 : Int} {n : Nat} (h0 : 0 ≤ a) (hb : 0 < b1) (h : a < 2 ^ n * b1) (h20 : 0 ≤ b2) (h2n : b2 < 2 ^ n) (hn : n ≤ 100000) : IntMulOk (a / b1) b2 :=
  IntMulOk.of_le (m := n) (n := n) (bits_of_lt (Int.ediv_nonneg h0 (Int.le_of_lt hb)) (Int.ediv_lt_of_lt_mul hb h)) (bits_of_lt h20 h2n) (by omega)
theorem bits_low {r : Int} {n : Nat} (h : 0 ≤ r ∧ r < 2 ^ (n + 1)) (hn : n ≤ 100000) : ((Builtin.Int.intBits r : Nat) : Int) + (n : Int) ≤ 2 ^ 27 := by
  have := bits_of_lt h.1 h.2
  omega
theorem bits_mod {a b1 : Int} {n : Nat} (h : HasBits b1 n) (hn : n ≤ 100000) : ((Builtin.Int.intBits (a % b1) : Nat) : Int) + (n : Int) ≤ 2 ^ 27 := by
  have h1 := Int.emod_nonneg a (show b1 ≠ 0 by have := h.1; omega)
  have h2 := Int.emod_lt_of_pos a h.1
  have := bits_of_lt (n := n) h1 (by have := h.2.2; omega)
  omega
theorem accDown_lin {b q r : Int} : ∀ (i : Nat), accDown (fun _ x => x + b) q r (q - i) = r + i * b
  | 0 => by
    have e : q - ((0 : Nat) : Int) = q := by simp
    rw [e, accDown_start]; simp
  | i + 1 => by
    have e : q - ((i + 1 : Nat) : Int) = (q - (i : Int)) - 1 := by omega
    rw [e, accDown_succ (by omega), accDown_lin i]
    have : ((i + 1 : Nat) : Int) * b = (i : Int) * b + b := by rw [show ((i + 1 : Nat) : Int) = (i : Int) + 1 by omega, Int.add_mul, Int.one_mul]
    omega
theorem accDown_at {b q r k : Int} (h : k ≤ q) : accDown (fun _ x => x + b) q r k = r + (q - k) * b := by
  have e : k = q - ((q - k).toNat : Nat) := by omega
  rw [e, accDown_lin]
  have : ((q - k).toNat : Int) = q - k := by omega
  rw [← e, this]
theorem stop_down_lin {b q r : Int} (hb : 0 < b) : StopDown (fun k => decide (accDown (fun _ x => x + b) q r k < 0)) q (q - (r.natAbs : Int)) := by
  refine ⟨by omega, ?_⟩
  have h1 : q - (q - (r.natAbs : Int)) = (r.natAbs : Int) := by omega
  have h2 : (r.natAbs : Int) * 1 ≤ (r.natAbs : Int) * b := Int.mul_le_mul_of_nonneg_left (by omega) (by omega)
  show decide (accDown (fun _ x => x + b) q r (q - (r.natAbs : Int)) < 0) = false
  rw [accDown_at (by omega), h1]
  exact decide_eq_false (by omega)
theorem down_end {A b q r k : Int} (hb : 0 < b) (e : b * q + r = A) (hr : r < b) (hk : k ≤ q) (h1 : ∀ j, k < j → j ≤ q → decide (accDown (fun _ x => x + b) q r j < 0) = true) (h2 : decide (accDown (fun _ x => x + b) q r k < 0) = false) :
    k = A / b ∧ accDown (fun _ x => x + b) q r k = A % b := by
  have h2' : ¬ accDown (fun _ x => x + b) q r k < 0 := of_decide_eq_false h2
  rw [accDown_at hk] at h2' ⊢
  have e1 : (q - k) * b = b * q - b * k := by rw [Int.sub_mul, Int.mul_comm q, Int.mul_comm k]
  refine ediv_of hb (by omega) (by omega) ?_
  by_cases hq : k = q
  · subst hq
    simp
    exact hr
  · have h3 := of_decide_eq_true (h1 (k + 1) (by omega) (by omega))
    rw [accDown_at (by omega)] at h3
    have e2 : (q - (k + 1)) * b = (q - k) * b - b := by rw [show q - (k + 1) = (q - k) - 1 by omega, Int.sub_mul, Int.one_mul]
    omega
theorem d32_end1 {a12 a3 b b1 b2 k : Int} {n : Nat} (hab : a12 < b) (h3 : 0 ≤ a3 ∧ a3 < 2 ^ n) (hb : b = b1 * 2 ^ n + b2) (h2 : 0 ≤ b2 ∧ b2 < 2 ^ n) (hb1 : HasBits b1 n) (hq : a12.fdiv (2 ^ n) = b1) (hk : k ≤ 1 * 2 ^ n - 1)
    (h4 : ∀ j, k < j → j ≤ 1 * 2 ^ n - 1 → decide (accDown (fun _ x => x + b) (1 * 2 ^ n - 1) (Builtin.bitOr ((a12 - b1 * 2 ^ n + b1) * 2 ^ n) a3 - (1 * 2 ^ n - 1) * b2) j < 0) = true)
    (h5 : decide (accDown (fun _ x => x + b) (1 * 2 ^ n - 1) (Builtin.bitOr ((a12 - b1 * 2 ^ n + b1) * 2 ^ n) a3 - (1 * 2 ^ n - 1) * b2) k < 0) = false) :
    k = (a12 * 2 ^ n + a3) / b ∧ accDown (fun _ x => x + b) (1 * 2 ^ n - 1) (Builtin.bitOr ((a12 - b1 * 2 ^ n + b1) * 2 ^ n) a3 - (1 * 2 ^ n - 1) * b2) k = (a12 * 2 ^ n + a3) % b := by
  have r0 := d32_first hab hb h2.2 hb1 hq
  have hb0 : 0 < b := by
    have := Int.mul_pos hb1.1 (two_pos n)
    omega
  rw [bitOr_join r0.1 h3.1 n h3.2] at h4 h5 ⊢
  rw [fdiv_two] at hq
  obtain ⟨x1, x2⟩ := div32_low (P := 2 ^ n) (a3 := a3) (two_pos n) h2 h3 (hb ▸ hab) hq
  rw [← hb] at x1 x2
  rw [Int.one_mul] at h4 h5 hk ⊢
  exact down_end hb0 x1 x2 hk h4 h5
theorem d32_end2 {a12 a3 b b1 b2 k : Int} {n : Nat} (ha : 0 ≤ a12) (h3 : 0 ≤ a3 ∧ a3 < 2 ^ n) (hb : b = b1 * 2 ^ n + b2) (h2 : 0 ≤ b2 ∧ b2 < 2 ^ n) (hb1 : HasBits b1 n) (hk : k ≤ a12 / b1)
    (h4 : ∀ j, k < j → j ≤ a12 / b1 → decide (accDown (fun _ x => x + b) (a12 / b1) (Builtin.bitOr (a12 % b1 * 2 ^ n) a3 - a12 / b1 * b2) j < 0) = true)
    (h5 : decide (accDown (fun _ x => x + b) (a12 / b1) (Builtin.bitOr (a12 % b1 * 2 ^ n) a3 - a12 / b1 * b2) k < 0) = false) :
    k = (a12 * 2 ^ n + a3) / b ∧ accDown (fun _ x => x + b) (a12 / b1) (Builtin.bitOr (a12 % b1 * 2 ^ n) a3 - a12 / b1 * b2) k = (a12 * 2 ^ n + a3) % b := by
  have hb0 : 0 < b := by
    have := Int.mul_pos hb1.1 (two_pos n)
    omega
  have r0 := Int.emod_nonneg a12 (show b1 ≠ 0 by have := hb1.1; omega)
  rw [bitOr_join r0 h3.1 n h3.2] at h4 h5 ⊢
  obtain ⟨x1, x2⟩ := div32_high (P := 2 ^ n) (a3 := a3) (two_pos n) hb1.1 h2 h3 ha rfl rfl
  rw [← hb] at x1 x2
  exact down_end hb0 x1 x2 hk h4 h5
theorem drop_two {h₀ h : Heap} {L : Addr} {a b : Addr × Obj} {r : Led} (N : News h₀ L h (a :: b :: r)) : News h₀ L h (a :: r) := news_sub N fun p hp => by
  rcases List.mem_cons.mp hp with rfl | hp
  · exact .head _
  · exact .tail _ (.tail _ hp)

-- D4
/-- what _div3n2n wants -/
structure D32Ok (N : Nat) (a12 a3 b b1 b2 : Int) (n : Nat) : Prop where
  a0 : 0 ≤ a12
  ab : a12 < b
  c0 : 0 ≤ a3
  cn : a3 < 2 ^ n
  eb : b = b1 * 2 ^ n + b2
  d0 : 0 ≤ b2
  dn : b2 < 2 ^ n
  hb : HasBits b1 n
  nN : n ≤ N
  nl : n ≤ 100000
theorem D32.use {w : World} {d N : Nat} (H : D32 w d N) (a12 a3 b b1 b2 : Int) (n : Nat) (t1 t2 t3 t4 t5 t6 : Tok) (news : Led) (o : D32Ok N a12 a3 b b1 b2 n) :
    Spec w 28 (110 + d) (40 + 40 * d) [.int a12 t1, .int a3 t2, .int b t3, .int b1 t4, .int b2 t5, .int n t6] news (DivPost (a12 * 2 ^ n + a3) b news) :=
  H a12 a3 b b1 b2 n t1 t2 t3 t4 t5 t6 news o.a0 o.ab o.c0 o.cn o.eb o.d0 o.dn o.hb o.nN o.nl
theorem bits_half {b : Int} {h : Nat} (h1 : 1 ≤ h) (hb : HasBits b (2 * h)) : HasBits (b / 2 ^ h) h := by
  obtain ⟨k, rfl⟩ : ∃ k, h = k + 1 := ⟨h - 1, by omega⟩
  have p := two_pos (k + 1)
  have pk := two_pos k
  have e2 : (2 : Int) ^ (2 * (k + 1)) = 2 ^ (k + 1) * 2 ^ (k + 1) := by rw [← Int.pow_add]; congr 1; omega
  obtain ⟨x1, x2, x3⟩ := hb
  rw [e2] at x2 x3
  have e1 : (2 : Int) ^ (k + 1) = 2 * 2 ^ k := by rw [Int.pow_succ, Int.mul_comm]
  have l1 : 2 ^ k ≤ b / 2 ^ (k + 1) := by
    refine (Int.le_ediv_iff_mul_le p).mpr ?_
    have : (2 : Int) ^ (k + 1) * 2 ^ (k + 1) = 2 * (2 ^ k * 2 ^ (k + 1)) := by rw [← Int.mul_assoc, ← e1]
    omega
  refine ⟨by omega, by omega, ?_⟩
  exact Int.ediv_lt_of_lt_mul p x3
theorem mask_eq (h : Nat) : (1 : Int) * 2 ^ h - 1 = 2 ^ h - 1 := by rw [Int.one_mul]
theorem mod_two (x : Int) (h : Nat) : 0 ≤ x % 2 ^ h ∧ x % 2 ^ h < 2 ^ h := ⟨Int.emod_nonneg _ (by have := two_pos h; omega), Int.emod_lt_of_pos _ (two_pos h)⟩
/-- the three facts and the end, for an even size -/
structure D21Ok (N : Nat) (a b : Int) (n h : Nat) : Prop where
  one : D32Ok N (a.fdiv (2 ^ n)) (Builtin.bitAnd (a.fdiv (2 ^ h)) (1 * 2 ^ h - 1)) b (b.fdiv (2 ^ h)) (Builtin.bitAnd b (1 * 2 ^ h - 1)) h
  two : D32Ok N ((a.fdiv (2 ^ n) * 2 ^ h + Builtin.bitAnd (a.fdiv (2 ^ h)) (1 * 2 ^ h - 1)) % b) (Builtin.bitAnd a (1 * 2 ^ h - 1)) b (b.fdiv (2 ^ h)) (Builtin.bitAnd b (1 * 2 ^ h - 1)) h
  bits : ((Builtin.Int.intBits ((a.fdiv (2 ^ n) * 2 ^ h + Builtin.bitAnd (a.fdiv (2 ^ h)) (1 * 2 ^ h - 1)) / b) : Nat) : Int) + (h : Int) ≤ 2 ^ 27
  quo : Builtin.bitOr ((a.fdiv (2 ^ n) * 2 ^ h + Builtin.bitAnd (a.fdiv (2 ^ h)) (1 * 2 ^ h - 1)) / b * 2 ^ h) (((a.fdiv (2 ^ n) * 2 ^ h + Builtin.bitAnd (a.fdiv (2 ^ h)) (1 * 2 ^ h - 1)) % b * 2 ^ h + Builtin.bitAnd a (1 * 2 ^ h - 1)) / b) = a / b
  rem : ((a.fdiv (2 ^ n) * 2 ^ h + Builtin.bitAnd (a.fdiv (2 ^ h)) (1 * 2 ^ h - 1)) % b * 2 ^ h + Builtin.bitAnd a (1 * 2 ^ h - 1)) % b = a % b
theorem d21_facts {N : Nat} {a b : Int} {n h : Nat} (e : n = 2 * h) (h1 : 1 ≤ h) (hN : h ≤ N) (hl : h ≤ 100000) (ha : 0 ≤ a) (hb : HasBits b n) (hab : a < 2 ^ n * b) : D21Ok N a b n h := by
  subst e
  have p := two_pos h
  have e2 : (2 : Int) ^ (2 * h) = 2 ^ h * 2 ^ h := by rw [← Int.pow_add]; congr 1; omega
  have hb0 := hb.1
  have ah : 0 ≤ a / 2 ^ h := Int.ediv_nonneg ha (by omega)
  have aq : 0 ≤ a / 2 ^ (2 * h) := Int.ediv_nonneg ha (Int.le_of_lt (two_pos _))
  have dd : a / 2 ^ (2 * h) = a / 2 ^ h / 2 ^ h := by rw [e2, Int.ediv_ediv_of_nonneg (by omega)]
  have joined : a / 2 ^ (2 * h) * 2 ^ h + a / 2 ^ h % 2 ^ h = a / 2 ^ h := by
    have := Int.mul_ediv_add_emod (a / 2 ^ h) (2 ^ h)
    rw [dd, Int.mul_comm]; omega
  have bb : b = b / 2 ^ h * 2 ^ h + b % 2 ^ h := by
    have := Int.mul_ediv_add_emod b (2 ^ h)
    rw [Int.mul_comm (b / 2 ^ h)]; omega
  have r0 := Int.emod_nonneg (a / 2 ^ h) (show b ≠ 0 by omega)
  have r1 := Int.emod_lt_of_pos (a / 2 ^ h) hb0
  have lt1 : a / 2 ^ (2 * h) < b := Int.ediv_lt_of_lt_mul (two_pos _) (by rw [Int.mul_comm]; exact hab)
  have ok : ∀ x y, 0 ≤ x → x < b → 0 ≤ y ∧ y < 2 ^ h → D32Ok N x y b (b / 2 ^ h) (b % 2 ^ h) h := fun x y hx hxb hy =>
    ⟨hx, hxb, hy.1, hy.2, bb, (mod_two b h).1, (mod_two b h).2, bits_half h1 hb, hN, hl⟩
  obtain ⟨m1, m2, m3, m4⟩ := div21_math (a := a) (b := b) p hb0
  have q0 : 0 ≤ a / 2 ^ h / b := Int.ediv_nonneg ah (by omega)
  have q1 : a / 2 ^ h / b < 2 ^ h := by
    refine Int.ediv_lt_of_lt_mul hb0 (Int.ediv_lt_of_lt_mul p ?_)
    rw [e2] at hab
    have : 2 ^ h * b * 2 ^ h = 2 ^ h * 2 ^ h * b := Int.mul_right_comm _ _ _
    omega
  have k1 := ok (a / 2 ^ (2 * h)) (a / 2 ^ h % 2 ^ h) aq lt1 (mod_two _ h)
  have k2 := ok (a / 2 ^ h % b) (a % 2 ^ h) r0 r1 (mod_two _ h)
  refine ⟨?_, ?_, ?_, ?_, ?_⟩
  · simp only [fdiv_two, mask_eq, bitAnd_mask ah, bitAnd_mask (Int.le_of_lt hb0)]
    exact k1
  · simp only [fdiv_two, mask_eq, bitAnd_mask ah, bitAnd_mask ha, bitAnd_mask (Int.le_of_lt hb0), joined]
    exact k2
  · simp only [fdiv_two, mask_eq, bitAnd_mask ah, joined]
    have := bits_of_lt q0 q1
    omega
  · simp only [fdiv_two, mask_eq, bitAnd_mask ah, bitAnd_mask ha, joined]
    rw [bitOr_join q0 m3 h m4]
    exact m1
  · simp only [fdiv_two, mask_eq, bitAnd_mask ah, bitAnd_mask ha, joined]
    exact m2
theorem bitAnd_one (n : Nat) : Builtin.bitAnd (n : Int) 1 = ((n % 2 : Nat) : Int) := by
  have := bitAnd_mask (x := (n : Int)) (by omega) 1
  rw [show (2 : Int) ^ 1 - 1 = 1 by decide] at this
  rw [this]; omega
section
variable {prog : Program} {w : World} {A : Around} {E : Value → Shared → Prop} {s : Shared} {Q : Value → Shared → Prop} {a : Int} {k : Nat} {t u : Tok}
theorem rshift_by (e : a.fdiv (2 ^ Int.toNat 1) = (k : Int)) (h : Q (.int k s.toks) { s with toks := s.toks + 1 }) : wpAny (model prog w) A (binaryOp .RShift (.int a t) (.int 1 u)) Q E s := rshift_int (by omega) (by rw [e]; exact h)
end
theorem bitand_by {prog : Program} {w : World} {A : Around} {E : Value → Shared → Prop} {s : Shared} {Q : Value → Shared → Prop} {a b k : Int} {t u : Tok} (e : Builtin.bitAnd a b = k) (h : Q (.int k s.toks) { s with toks := s.toks + 1 }) : wpAny (model prog w) A (binaryOp .BitAnd (.int a t) (.int b u)) Q E s := and_int (by rw [e]; exact h)
theorem big_n {a b : Int} {n : Nat} (ha : 0 ≤ a) (hb : HasBits b n) (hab : a < 2 ^ n * b) (h : ¬ ((Builtin.Int.intBits a : Nat) : Int) - (n : Int) ≤ 4000) : 4000 < n := by
  have e2 : (2 : Int) ^ (n + n) = 2 ^ n * 2 ^ n := Int.pow_add _ _ _
  have h2 : (2 : Int) ^ n * b ≤ 2 ^ n * 2 ^ n := Int.mul_le_mul_of_nonneg_left (by have := hb.2.2; omega) (Int.le_of_lt (two_pos n))
  have := bits_of_lt (n := n + n) ha (by omega)
  omega
theorem pad_bits {b : Int} {n : Nat} (hb : HasBits b n) : HasBits (b * 2) (n + 1) := by
  obtain ⟨h1, h2, h3⟩ := hb
  refine ⟨by omega, ?_, ?_⟩ <;> rw [Int.pow_succ] <;> omega
theorem pad_lt {a b : Int} {n : Nat} (ha : 0 ≤ a) (hab : a < 2 ^ n * b) : a * 2 < 2 ^ (n + 1) * (b * 2) := by
  have e : (2 : Int) ^ n * 2 * (b * 2) = (2 ^ n * b) * 2 * 2 := by ac_rfl
  rw [Int.pow_succ, e]
  omega
theorem pad_end {N : Nat} {a b : Int} {n h : Nat} (o : D21Ok N (a * 2) (b * 2) (n + 1) h) (hb : 0 < b) :
    Builtin.bitOr (((a * 2).fdiv (2 ^ (n + 1)) * 2 ^ h + Builtin.bitAnd ((a * 2).fdiv (2 ^ h)) (1 * 2 ^ h - 1)) / (b * 2) * 2 ^ h) ((((a * 2).fdiv (2 ^ (n + 1)) * 2 ^ h + Builtin.bitAnd ((a * 2).fdiv (2 ^ h)) (1 * 2 ^ h - 1)) % (b * 2) * 2 ^ h + Builtin.bitAnd (a * 2) (1 * 2 ^ h - 1)) / (b * 2)) = a / b ∧
    ((((a * 2).fdiv (2 ^ (n + 1)) * 2 ^ h + Builtin.bitAnd ((a * 2).fdiv (2 ^ h)) (1 * 2 ^ h - 1)) % (b * 2) * 2 ^ h + Builtin.bitAnd (a * 2) (1 * 2 ^ h - 1)) % (b * 2)).fdiv (2 ^ 1) = a % b := by
  rw [o.quo, o.rem, Int.fdiv_eq_ediv_of_nonneg _ (by decide)]
  exact pad_math hb
theorem news_tail3 {h₀ h : Heap} {L : Addr} {a x : Addr × Obj} {o1 o2 r : Led} (N : News h₀ L h (a :: (o1 ++ (o2 ++ x :: r)))) : News h₀ L h (a :: r) := news_sub N fun p hp => by
  simp only [List.mem_cons, List.mem_append] at hp ⊢
  rcases hp with h | h
  · exact .inl h
  · exact .inr (.inr (.inr (.inr h)))
theorem lt_tail3 {d : Addr} {x : Addr × Obj} {o1 o2 r : Led} (h : ∀ p ∈ o1 ++ (o2 ++ x :: r), p.1 < d) : ∀ p ∈ r, p.1 < d := fun p hp => h p (by
  simp only [List.mem_cons, List.mem_append]
  exact .inr (.inr (.inr hp)))

-- T0
noncomputable abbrev OffT (t news : Led) : Prop := ∀ q ∈ t, ∀ p ∈ news, p.1 ≠ q.1
theorem hd34 {ps : Params} {h : Heap} (X : (heapK ps).In h) : CodeHd h 34 30 := by
  have e := X 34 _ (by with_unfolding_all rfl)
  exact ⟨_, _, _, _, _, _, _, _, _, e, rfl, rfl, rfl, rfl, rfl, rfl, rfl, rfl, by decide⟩
theorem hd41 {ps : Params} {h : Heap} (X : (heapK ps).In h) : CodeHd h 41 37 := by
  have e := X 41 _ (by with_unfolding_all rfl)
  exact ⟨_, _, _, _, _, _, _, _, _, e, rfl, rfl, rfl, rfl, rfl, rfl, rfl, rfl, by decide⟩
/-- the table of a code that makes an inner def, as it stands: empty, or with that def's code -/
noncomputable def TabS (P : Addr) (pos : Pos) (qual : Str) (t : Led) : Prop :=
  t = [(P, tabObj #[])] ∨ ∃ c' oc vs tq, t = [(c', oc), (P, tabObj #[rawInt pos.line, rawInt pos.col, .ref c'])] ∧ oc.data = .fields vs ∧ vs[1]? = some (.str qual tq)
/-- l is a ledger with t in it; g puts another in its place -/
inductive RepF (t news : Led) : Led → (Led → Led) → Prop
  | here : (∀ q ∈ t, ∀ p ∈ news, p.1 ≠ q.1) → RepF t news (t ++ news) (fun t' => t' ++ news)
  | next {p : Addr × Obj} {l : Led} {g : Led → Led} : (∀ q ∈ t, p.1 ≠ q.1) → RepF t news l g → RepF t news (p :: l) (fun t' => p :: g t')
theorem RepF.split {t news : Led} : ∀ {l : Led} {g : Led → Led}, RepF t news l g → ∃ pre, l = pre ++ (t ++ news) ∧ (∀ t', g t' = pre ++ (t' ++ news)) ∧ (∀ q ∈ t, ∀ p ∈ pre ++ news, p.1 ≠ q.1)
  | _, _, .here h => ⟨[], rfl, fun _ => rfl, h⟩
  | _, _, .next (p := p) h r =>
    let ⟨pre, a, b, c⟩ := r.split
    ⟨p :: pre, by rw [a]; rfl, fun t' => by show p :: _ = _; rw [b]; rfl, fun q hq x hx => by
      rcases List.mem_cons.mp hx with rfl | hx
      · exact h q hq
      · exact c q hq x hx⟩
section
variable {M : Model} {A : Around} {E : Value → Shared → Prop} {s : Shared} {h₀ : Heap} {L a c P : Addr} {m mg mb : Str → Option Value} {cn : Str} {cs : Scope} {ccd : Value} {cl : List (Str × Addr)} {news led t : Led} {g : Led → Led}
  {p : Program} {loose : List Str} {mean : ExcName → Option Value} {name qual : Str} {params : Arguments} {body : List Stmt} {scope : Scope} {pos : Pos} {firstLine : Nat} {clos : List (Str × Addr)}
theorem nestAny {Q : Value → Shared → Prop} (F : Fr h₀ L s.heap m) (N : News h₀ L s.heap led) (T : Top p loose mean mg mb h₀) (C : CodeHd h₀ c P) (hcd : ccd = .ref c) (U : RepF t news led g) (S : TabS P pos qual t)
    (hcl : closureFor scope (envX cn cs L a ccd cl) = pure clos)
    (h : ∀ f c' oc vs tq ctv doc h' tk t', Fr h₀ L h' m →
      News h₀ L h' ((f, fnMade name qual params body scope clos doc ((mg "__name__").getD .none) c' ctv) :: g t') → (c', oc) ∈ t' →
      oc.data = .fields vs → vs[1]? = some (.str qual tq) → TabS P pos qual t' → (∀ x ∈ led, (∀ q ∈ t, x.1 ≠ q.1) → ∀ q ∈ t', x.1 ≠ q.1) → OffT t' news → (∀ q ∈ g t', q.1 < f) → Q (.ref f) { s with heap := h', toks := tk }) :
    wpAny M A (makeFunction name qual params (.stmts body) scope (envX cn cs L a ccd cl) [] [] [] pos firstLine) Q E s := by
  obtain ⟨pre, rfl, hg, off⟩ := U.split
  rcases S with rfl | ⟨c', oc, vs, tq, rfl, d1, d2⟩
  · have offP : ∀ x ∈ pre ++ news, x.1 ≠ P := fun x hx => off _ (.head _) x hx
    have N1 : News h₀ L s.heap ((P, tabObj #[]) :: (pre ++ news)) := news_sub N fun x hx => by
      simp only [List.mem_cons, List.mem_append] at hx ⊢
      rcases hx with e | e | e
      · exact .inr (.inl (.inl e))
      · exact .inl e
      · exact .inr (.inr e)
    refine nest_K F N1 T C hcd (.head offP) trivial rfl hcl fun f c' oc vs tq ctv doc h' tk F' N' d1 d2 l1 l2 => ?_
    have hx : ∀ q ∈ [(c', oc), (P, tabObj #[rawInt pos.line, rawInt pos.col, .ref c'])], ∀ x ∈ pre ++ news, x.1 ≠ q.1 := fun q hq x hx => by
      rcases List.mem_cons.mp hq with rfl | hq
      · exact Nat.ne_of_lt (l1 x (.tail _ hx))
      · rw [List.mem_singleton.mp hq]; exact offP x hx
    refine h f c' oc vs tq ctv doc h' tk [(c', oc), (P, tabObj #[rawInt pos.line, rawInt pos.col, .ref c'])] F' ?_ (.head _) d1 d2 (.inr ⟨c', oc, vs, tq, rfl, d1, d2⟩) (fun x hx' hn q hq => ?_) (fun q hq p hp => hx q hq p (List.mem_append_right _ hp)) ?_
    · rw [hg]
      refine news_sub N' fun x hx => ?_
      simp only [List.mem_cons, List.mem_append, List.not_mem_nil, or_false] at hx ⊢
      rcases hx with e | e | ((e | e) | e)
      · exact .inl e
      · exact .inr (.inr (.inr (.inl e)))
      · exact .inr (.inl e)
      · exact .inr (.inr (.inl e))
      · exact .inr (.inr (.inr (.inr e)))
    · have hP := hn (P, tabObj #[]) (.head _)
      refine hx q hq x ?_
      simp only [List.mem_cons, List.mem_append, List.not_mem_nil, or_false] at hx' ⊢
      rcases hx' with e | e | e
      · exact .inl e
      · exact absurd (congrArg Prod.fst e) hP
      · exact .inr e
    · rw [hg]
      intro x hx
      simp only [List.mem_cons, List.mem_append, List.not_mem_nil, or_false] at hx
      rcases hx with e | ((e | e) | e)
      · exact Nat.lt_trans (l1 x (List.mem_cons.mpr (.inr (List.mem_append_left _ e)))) l2
      · rw [e]; exact l2
      · rw [e]; exact Nat.lt_trans (l1 (P, tabObj #[]) (.head _)) l2
      · exact Nat.lt_trans (l1 x (List.mem_cons.mpr (.inr (List.mem_append_right _ e)))) l2
  · refine nestHit_K F N T C hcd (ps := #[rawInt pos.line, rawInt pos.col, .ref c']) (List.mem_append_right _ (.tail _ (.head _))) (show TriplesOk [rawInt pos.line, rawInt pos.col, .ref c'] from trivial) (show codeAmong pos [rawInt pos.line, rawInt pos.col, .ref c'] = some (.ref c') by simp [codeAmong, rawInt]) hcl fun f ctv doc h' tk F' N' l1 => ?_
    refine h f c' oc vs tq ctv doc h' tk _ F' (by rw [hg]; exact N') (.head _) d1 d2 (.inr ⟨c', oc, vs, tq, rfl, d1, d2⟩) (fun _ _ hn => hn) (fun q hq p hp => off q hq p (List.mem_append_right _ hp)) ?_
    rw [hg]; exact l1
end
noncomputable abbrev Tab30 (t : Led) : Prop := TabS 30 ⟨32, 4, 41, 28⟩ "_int2digits.<locals>.inner" t
noncomputable abbrev Tab37 (t : Led) : Prop := TabS 37 ⟨47, 4, 52, 55⟩ "_digits2int.<locals>.inner" t
/-- a contract of a call that may fill a table of inner codes -/
noncomputable def SpecT (w : World) (f : Addr) (dn un₀ : Nat) (args : List Value) (TabP : Led → Prop) (news : Led) (post : Value → Led → Prop) : Prop :=
  ∀ (t : Led) (p : Program) (loose : List Str) (mean : ExcName → Option Value) (mg mb : Str → Option Value) (dp un : Nat) (gd : Option (List Code)) (cn : Str) (cs : Scope) (a : Addr) (ccd : Value) (cl : List (Str × Addr)) (outer : List Env) (A₀ : Around) (base h₀ : Heap) (L : Addr) (m : Str → Option Value) (s : Shared) (Q E : Value → Shared → Prop),
    TabP t → OffT t news → Below A₀ base outer h₀ → Fr h₀ L s.heap m → (heapK w.params).In h₀ → News h₀ L s.heap (t ++ news) → Top p loose mean mg mb h₀ → cs.kind = .function → 1 ≤ s.toks → dp + dn < recursionLimit → un + un₀ < cLine →
    (∀ r h' tk' objs t', s.toks ≤ tk' → Fr h₀ L h' m → News h₀ L h' (objs ++ (t' ++ news)) → TabP t' → OffT t' news → Fresh objs (t' ++ news) → post r objs → Q r { s with heap := h', toks := tk' }) →
    wpAny (model PySem.Challenge.rw_tl0014_01.row.prog w) (ktrTop dp un gd cn cs L a ccd cl outer) (call (.ref f) args) Q E s
theorem SpecT.use {w : World} {f : Addr} {dn un₀ : Nat} {args : List Value} {TabP : Led → Prop} {news : Led} {post : Value → Led → Prop} (S : SpecT w f dn un₀ args TabP news post)
    {t : Led} {p : Program} {loose : List Str} {mean : ExcName → Option Value} {mg mb : Str → Option Value} {dp un : Nat} {gd : Option (List Code)} {cn : Str} {cs : Scope} {a : Addr} {ccd : Value} {cl : List (Str × Addr)} {outer : List Env} {A₀ : Around} {base h₀ : Heap} {L : Addr} {m : Str → Option Value} {s : Shared} {Q E : Value → Shared → Prop}
    (ht : TabP t) (ho : OffT t news) (B : Below A₀ base outer h₀) (F : Fr h₀ L s.heap m) (X : (heapK w.params).In h₀) (N : News h₀ L s.heap (t ++ news)) (T : Top p loose mean mg mb h₀) (hk : cs.kind = .function) (ht1 : 1 ≤ s.toks) (hd : dp + dn < recursionLimit) (hu : un + un₀ < cLine)
    (k : ∀ r h' tk' objs t', s.toks ≤ tk' → Fr h₀ L h' m → News h₀ L h' (objs ++ (t' ++ news)) → TabP t' → OffT t' news → Fresh objs (t' ++ news) → post r objs → Q r { s with heap := h', toks := tk' }) :
    wpAny (model PySem.Challenge.rw_tl0014_01.row.prog w) (ktrTop dp un gd cn cs L a ccd cl outer) (call (.ref f) args) Q E s := S _ _ _ _ _ _ _ _ _ _ _ _ _ _ _ _ _ _ _ _ _ _ _ ht ho B F X N T hk ht1 hd hu k
theorem floordiv_by {prog : Program} {w : World} {A : Around} {E : Value → Shared → Prop} {s : Shared} {Q : Value → Shared → Prop} {a b : Int} {k : Nat} {t u : Tok} (hb : b ≠ 0) (e : a.fdiv b = (k : Int)) (h : Q (.int k s.toks) { s with toks := s.toks + 1 }) (hp : Builtin.divisionGoesByPylong a b = false ∨ PySem.PylongRoom (model prog w) A s) :
    wpAny (model prog w) A (binaryOp .FloorDiv (.int a t) (.int b u)) Q E s := floordiv_int hb (by rw [e]; exact h) hp
theorem mulL {prog : Program} {w : World} {A : Around} {E : Value → Shared → Prop} {s : Shared} {h₀ : Heap} {L : Addr} {m : Str → Option Value} {news : Led} {x : Addr} {v : Value} {n : Nat} {k : Int} {u : Tok} {Q : Value → Shared → Prop} (F : Fr h₀ L s.heap m) (N : News h₀ L s.heap news) (hx : (x, lstO [v] n) ∈ news) (hk : 0 ≤ k ∧ k ≤ 1000000)
    (h : ∀ D h', Fr h₀ L h' m → News h₀ L h' ((D, lstO (List.replicate k.toNat v) 0) :: news) → (∀ p ∈ news, p.1 < D) → Q (.ref D) { s with heap := h' }) : wpAny (model prog w) A (binaryOp .Mult (.ref x) (.int k u)) Q E s := by
  have hm := mul_list (prog := prog) (w := w) (A := A) (E := E) (u := u) (Q := Q) F N (N _ hx).1 (x := k) (by omega) (by omega) (by show 1 * k.toNat ≤ 2 ^ 24; omega) (fun h' F' N' => ?_)
  · exact hm
  refine h _ _ F' ?_ (fun p hp => Heap.lt_size (N p hp).1)
  have e : List.foldl (fun x1 x2 => x1 ++ x2) #[] (List.replicate (if (([v] : List Value).toArray).isEmpty = true then 0 else k.toNat) ([v] : List Value).toArray) = (List.replicate k.toNat v).toArray := by
    show List.foldl (fun x1 x2 => x1 ++ x2) #[] (List.replicate k.toNat #[v]) = _
    rw [foldl_one]; simp
  rw [e] at N'
  exact N'
theorem offt_of {t news : Led} {b d : Nat} (l : ∀ p ∈ t ++ news, p.1 < b) (e : b ≤ d) : ∀ q ∈ t, d ≠ q.1 := fun q hq => Nat.ne_of_gt (Nat.lt_of_lt_of_le (l q (List.mem_append_left _ hq)) e)
theorem off_app {t news : Led} {d : Addr} (h1 : ∀ q ∈ t, d ≠ q.1) (h2 : ∀ p ∈ news, p.1 ≠ d) : ∀ p ∈ t ++ news, p.1 ≠ d := fun p hp => by
  rcases List.mem_append.mp hp with e | e
  · exact (h1 p e).symm
  · exact h2 p e
theorem off_right {t news : Led} {b d : Nat} (l : ∀ p ∈ t ++ news, p.1 < b) (e : b ≤ d) : ∀ p ∈ news, p.1 ≠ d := fun p hp => Nat.ne_of_lt (Nat.lt_of_lt_of_le (l p (List.mem_append_right _ hp)) e)
theorem lenN {prog : Program} {w : World} {A : Around} {E : Value → Shared → Prop} {s : Shared} {h₀ : Heap} {L : Addr} {news : Led} {D : Addr} {vs : List Value} {n k : Nat} {Q : Value → Shared → Prop} (N : News h₀ L s.heap news) (hm : (D, lstO vs n) ∈ news) (e : vs.length = k) (hk : k ≤ 1000000)
    (h : Q (.int k (s.toks + 1)) { s with toks := s.toks + 1 + 1 }) : wpAny (model prog w) A (call (.builtin "len") [.ref D]) Q E s :=
  call_len_list ⟨_, (N _ hm).1, rfl, _, rfl⟩ (by rw [List.size_toArray, e]; omega) (by rw [List.size_toArray, e]; exact h)
theorem replicate_len {v : Value} {n : Nat} : (List.replicate (n : Int).toNat v).length = n := by simp
theorem gen_head {h₀ h : Heap} {L a : Addr} {o : Obj} {r : Led} (N : News h₀ L h ((a, o) :: r)) : ∃ fo, fo = o ∧ News h₀ L h ((a, fo) :: r) := ⟨o, rfl, N⟩
theorem mem_eq {l : Led} {a : Addr} {fo o : Obj} (h : (a, fo) ∈ l) (e : fo = o) : (a, o) ∈ l := e ▸ h
theorem fix_off {h₀ h : Heap} {L : Addr} {a : Addr × Obj} {r : Led} (_ : News h₀ L h (a :: r)) (h : ∀ p ∈ r, p.1 ≠ a.1) : ∀ p ∈ r, p.1 ≠ a.1 := h
theorem drop_five {h₀ h : Heap} {L : Addr} {a b c d e f : Addr × Obj} {r : Led} (N : News h₀ L h (a :: b :: c :: d :: e :: f :: r)) : News h₀ L h (a :: r) := news_sub N fun p hp => by
  simp only [List.mem_cons] at hp ⊢
  rcases hp with h | h
  · exact .inl h
  · exact .inr (.inr (.inr (.inr (.inr (.inr h)))))

-- T0U
theorem SpecT.use4 {w : World} {f : Addr} {dn un₀ : Nat} {args : List Value} {TabP : Led → Prop} {news : Led} {P0 : Addr → Tok → Tok → Nat → Led → Prop} (S : SpecT w f dn un₀ args TabP news (fun r objs => ∃ D t u n, r = .ref D ∧ P0 D t u n objs)) {t₀ : Led} {p : Program} {loose : List Str} {mean : ExcName → Option Value} {mg mb : Str → Option Value} {dp un : Nat} {gd : Option (List Code)} {cn : Str} {cs : Scope} {a : Addr} {ccd : Value} {cl : List (Str × Addr)} {outer : List Env} {A₀ : Around} {base h₀ : Heap} {L : Addr} {m : Str → Option Value} {s : Shared} {Q E : Value → Shared → Prop}
    (ht : TabP t₀) (ho : OffT t₀ news) (B : Below A₀ base outer h₀) (F : Fr h₀ L s.heap m) (X : (heapK w.params).In h₀) (N : News h₀ L s.heap (t₀ ++ news)) (T : Top p loose mean mg mb h₀) (hk : cs.kind = .function) (ht1 : 1 ≤ s.toks) (hd : dp + dn < recursionLimit) (hu : un + un₀ < cLine)
    (k : ∀ (D : Addr) (t : Tok) (u : Tok) (n : Nat) objs, P0 D t u n objs → ∀ h' tk' t', s.toks ≤ tk' → Fr h₀ L h' m → News h₀ L h' (objs ++ (t' ++ news)) → TabP t' → OffT t' news → Fresh objs (t' ++ news) → Q (.ref D) { s with heap := h', toks := tk' }) :
    wpAny (model PySem.Challenge.rw_tl0014_01.row.prog w) (ktrTop dp un gd cn cs L a ccd cl outer) (call (.ref f) args) Q E s := S.use ht ho B F X N T hk ht1 hd hu fun r h' tk' objs t' h1 h2 h3 h4 h5 h6 post => by obtain ⟨D, t, u, n, rfl, x0⟩ := post; exact k D t u n objs x0 h' tk' t' h1 h2 h3 h4 h5 h6
theorem SpecT.use3A {w : World} {f : Addr} {dn un₀ : Nat} {args : List Value} {TabP : Led → Prop} {news : Led} {P0 : Addr → List Value → Nat → Led → Prop} {P1 : Addr → List Value → Nat → Led → Prop} (S : SpecT w f dn un₀ args TabP news (fun r objs => ∃ D vs n, r = .ref D ∧ P0 D vs n objs ∧ P1 D vs n objs)) {t₀ : Led} {p : Program} {loose : List Str} {mean : ExcName → Option Value} {mg mb : Str → Option Value} {dp un : Nat} {gd : Option (List Code)} {cn : Str} {cs : Scope} {a : Addr} {ccd : Value} {cl : List (Str × Addr)} {outer : List Env} {A₀ : Around} {base h₀ : Heap} {L : Addr} {m : Str → Option Value} {s : Shared} {Q E : Value → Shared → Prop}
    (ht : TabP t₀) (ho : OffT t₀ news) (B : Below A₀ base outer h₀) (F : Fr h₀ L s.heap m) (X : (heapK w.params).In h₀) (N : News h₀ L s.heap (t₀ ++ news)) (T : Top p loose mean mg mb h₀) (hk : cs.kind = .function) (ht1 : 1 ≤ s.toks) (hd : dp + dn < recursionLimit) (hu : un + un₀ < cLine)
    (k : ∀ (D : Addr) (vs : List Value) (n : Nat) objs, P0 D vs n objs → P1 D vs n objs → ∀ h' tk' t', s.toks ≤ tk' → Fr h₀ L h' m → News h₀ L h' (objs ++ (t' ++ news)) → TabP t' → OffT t' news → Fresh objs (t' ++ news) → Q (.ref D) { s with heap := h', toks := tk' }) :
    wpAny (model PySem.Challenge.rw_tl0014_01.row.prog w) (ktrTop dp un gd cn cs L a ccd cl outer) (call (.ref f) args) Q E s := S.use ht ho B F X N T hk ht1 hd hu fun r h' tk' objs t' h1 h2 h3 h4 h5 h6 post => by obtain ⟨D, vs, n, rfl, x0, x1⟩ := post; exact k D vs n objs x0 x1 h' tk' t' h1 h2 h3 h4 h5 h6

-- I0
theorem mod_div {x P M : Int} (hP : 0 < P) (hM : 0 < M) : x % (P * M) / P = x / P % M := by
  have h1 := Int.mul_ediv_add_emod x P
  have h2 := Int.mul_ediv_add_emod (x / P) M
  have r0 := Int.emod_nonneg x (show P ≠ 0 by omega)
  have r1 := Int.emod_lt_of_pos x hP
  have s0 := Int.emod_nonneg (x / P) (show M ≠ 0 by omega)
  have s1 := Int.emod_lt_of_pos (x / P) hM
  have hPM := Int.mul_pos hP hM
  have e0 : P * M * (x / P / M) + (P * (x / P % M) + x % P) = x := by
    have : P * (M * (x / P / M) + x / P % M) = P * M * (x / P / M) + P * (x / P % M) := by rw [Int.mul_add, Int.mul_assoc]
    rw [h2] at this
    omega
  have e1 : 0 ≤ P * (x / P % M) := Int.mul_nonneg (by omega) s0
  have e2 : P * (x / P % M + 1) ≤ P * M := Int.mul_le_mul_of_nonneg_left (by omega) (by omega)
  have e3 : P * (x / P % M + 1) = P * (x / P % M) + P := by rw [Int.mul_add, Int.mul_one]
  obtain ⟨_, k⟩ := ediv_of hPM e0 (by omega) (by omega)
  rw [← k]
  exact (ediv_of hP rfl r0 r1).1.symm
/-- k digits of x at a width of n bits, the lowest first -/
noncomputable def digs (n k : Nat) (x : Int) : List Int := (List.range k).map fun i => x / 2 ^ (n * i) % 2 ^ n
theorem digs_length (n k : Nat) (x : Int) : (digs n k x).length = k := by unfold digs; simp
theorem digs_one {n : Nat} {x : Int} (h0 : 0 ≤ x) (h : x < 2 ^ n) : digs n 1 x = [x] := by
  unfold digs
  simp [List.range_succ, Int.emod_eq_of_lt h0 h]
theorem digs_add (n a b : Nat) (x : Int) : digs n (a + b) x = digs n a (x % 2 ^ (n * a)) ++ digs n b (x / 2 ^ (n * a)) := by
  unfold digs
  rw [List.range_add, List.map_append, List.map_map]
  congr 1
  · apply List.map_congr_left
    intro i hi
    have hi' := List.mem_range.mp hi
    have e : n * a = n * i + (n + n * (a - i - 1)) := by
      have : a = i + 1 + (a - i - 1) := by omega
      conv => lhs; rw [this]
      rw [Nat.mul_add, Nat.mul_add, Nat.mul_one]; omega
    have p1 := two_pos (n * i)
    have p2 := two_pos n
    rw [e, Int.pow_add, Int.pow_add]
    have p3 := two_pos (n * (a - i - 1))
    rw [mod_div p1 (Int.mul_pos p2 p3), Int.emod_emod_of_dvd _ ⟨_, rfl⟩]
  · apply List.map_congr_left
    intro i _
    show x / 2 ^ (n * (a + i)) % 2 ^ n = x / 2 ^ (n * a) / 2 ^ (n * i) % 2 ^ n
    rw [Nat.mul_add, Int.pow_add, Int.ediv_ediv_of_nonneg (Int.le_of_lt (two_pos _))]
/-- zs with the digits ds put at lo -/
noncomputable def putAt (zs : List Int) (lo : Nat) (ds : List Int) : List Int := zs.take lo ++ ds ++ zs.drop (lo + ds.length)
theorem putAt_one {zs : List Int} {lo : Nat} {x : Int} (h : lo < zs.length) : zs.set lo x = putAt zs lo [x] := by
  unfold putAt
  rw [List.set_eq_take_append_cons_drop, if_pos h]
  simp
theorem putAt_two {zs : List Int} {lo : Nat} {ds es : List Int} (h : lo + ds.length ≤ zs.length) : putAt (putAt zs lo ds) (lo + ds.length) es = putAt zs lo (ds ++ es) := by
  unfold putAt
  have h1 : (zs.take lo ++ ds).length = lo + ds.length := by simp; omega
  rw [List.take_append_of_le_length (by rw [h1]; omega), List.take_of_length_le (by rw [h1]; omega)]
  have h2 : (zs.take lo ++ ds ++ zs.drop (lo + ds.length)).drop (lo + ds.length + es.length) = zs.drop (lo + (ds ++ es).length) := by
    rw [List.drop_append, List.drop_of_length_le (by rw [h1]; omega), h1, List.drop_drop, List.nil_append, List.length_append]
    congr 1; omega
  rw [h2]
  simp [List.append_assoc]
theorem putAt_length {zs : List Int} {lo : Nat} {ds : List Int} (h : lo + ds.length ≤ zs.length) : (putAt zs lo ds).length = zs.length := by
  unfold putAt
  simp; omega
theorem putAt_all {zs ds : List Int} (h : ds.length = zs.length) : putAt zs 0 ds = ds := by
  unfold putAt
  simp [h]
theorem bitXor_low {x : Int} (hx : 0 ≤ x) (s : Nat) : Builtin.bitXor x (x.fdiv (2 ^ s) * 2 ^ s) = x % 2 ^ s := by
  obtain ⟨a, rfl⟩ := Int.eq_ofNat_of_zero_le hx
  rw [fdiv_two]
  have e : ((a : Int) / 2 ^ s * 2 ^ s) = ((a / 2 ^ s * 2 ^ s : Nat) : Int) := by simp
  have e2 : ((a : Int) % 2 ^ s) = ((a % 2 ^ s : Nat) : Int) := by simp
  rw [e, e2]
  unfold Builtin.bitXor
  rw [bitOr_pp', bitAnd_pp (by omega) (by omega)]
  simp only [Int.toNat_natCast]
  have eb : a / 2 ^ s * 2 ^ s = (a >>> s) <<< s := by rw [Nat.shiftRight_eq_div_pow, Nat.shiftLeft_eq]
  have k1 : a &&& (a / 2 ^ s * 2 ^ s) = a / 2 ^ s * 2 ^ s := by
    apply Nat.eq_of_testBit_eq
    intro i
    rw [eb, Nat.testBit_and, Nat.testBit_shiftLeft, Nat.testBit_shiftRight]
    by_cases h : s ≤ i
    · have : s + (i - s) = i := by omega
      rw [this]; cases a.testBit i <;> simp
    · simp [h]
  have k2 : a ||| (a / 2 ^ s * 2 ^ s) = a := by
    apply Nat.eq_of_testBit_eq
    intro i
    rw [eb, Nat.testBit_or, Nat.testBit_shiftLeft, Nat.testBit_shiftRight]
    by_cases h : s ≤ i
    · have : s + (i - s) = i := by omega
      rw [this]; cases a.testBit i <;> simp
    · simp [h]
  rw [k1, k2]
  have := Nat.div_add_mod a (2 ^ s)
  rw [Nat.mul_comm] at this
  omega
theorem mid_facts {lo hi : Nat} (h : lo + 1 < hi) : ∃ mid : Nat, ((lo : Int) + (hi : Int)).fdiv (2 ^ Int.toNat 1) = (mid : Int) ∧ lo < mid ∧ mid < hi := by
  refine ⟨(lo + hi) / 2, ?_, by omega, by omega⟩
  show ((lo : Int) + (hi : Int)).fdiv 2 = _
  rw [Int.fdiv_eq_ediv_of_nonneg _ (by decide)]; omega
theorem mulby {prog : Program} {w : World} {A : Around} {E : Value → Shared → Prop} {s : Shared} {Q : Value → Shared → Prop} {a b k : Int} {t u : Tok} (e : a * b = k) (hm : IntMulOk a b) (h : Q (.int k s.toks) { s with toks := s.toks + 1 }) : wpAny (model prog w) A (binaryOp .Mult (.int a t) (.int b u)) Q E s :=
  mul_int (by rw [e]; exact h) hm
theorem rshiftby {prog : Program} {w : World} {A : Around} {E : Value → Shared → Prop} {s : Shared} {Q : Value → Shared → Prop} {a k : Int} {n : Nat} {t u : Tok} (e : a.fdiv (2 ^ (n : Int).toNat) = k) (h : Q (.int k s.toks) { s with toks := s.toks + 1 }) : wpAny (model prog w) A (binaryOp .RShift (.int a t) (.int n u)) Q E s :=
  rshift_int (by omega) (by rw [e]; exact h)
theorem xorby {prog : Program} {w : World} {A : Around} {E : Value → Shared → Prop} {s : Shared} {Q : Value → Shared → Prop} {a b k : Int} {t u : Tok} (e : Builtin.bitXor a b = k) (h : Q (.int k s.toks) { s with toks := s.toks + 1 }) : wpAny (model prog w) A (binaryOp .BitXor (.int a t) (.int b u)) Q E s :=
  xor_int (by rw [e]; exact h)
/-- the contract of _int2digits' inner def, for at most k digits -/
noncomputable def InnerA (w : World) (f D : Addr) (n len : Nat) (fix : Led) (k : Nat) : Prop :=
  ∀ (x : Int) (lo hi : Nat) (tx tl th : Tok) (vs : List Value) (zs : List Int) (p : Program) (loose : List Str) (mean : ExcName → Option Value) (mg mb : Str → Option Value) (dp un : Nat) (gd : Option (List Code)) (cn : Str) (cs : Scope) (a : Addr) (ccd : Value) (cl : List (Str × Addr)) (outer : List Env) (A₀ : Around) (base h₀ : Heap) (L : Addr) (m : Str → Option Value) (s : Shared) (Q E : Value → Shared → Prop),
    lo < hi → hi ≤ len → hi - lo ≤ k → 0 ≤ x → x < 2 ^ (n * (hi - lo)) → IntsAre vs zs → zs.length = len →
    Below A₀ base outer h₀ → Fr h₀ L s.heap m → (heapK w.params).In h₀ → News h₀ L s.heap ((D, lstO vs 0) :: fix) → Top p loose mean mg mb h₀ → cs.kind = .function → 1 ≤ s.toks → dp + (2 * k + 2) < recursionLimit → un + (60 * k + 60) < cLine →
    (∀ h' tk' vs' zs', s.toks ≤ tk' → Fr h₀ L h' m → News h₀ L h' ((D, lstO vs' 0) :: fix) → IntsAre vs' zs' → zs'.length = len → zs' = putAt zs lo (digs n (hi - lo) x) → Q .none { s with heap := h', toks := tk' }) →
    wpAny (model PySem.Challenge.rw_tl0014_01.row.prog w) (ktrTop dp un gd cn cs L a ccd cl outer) (call (.ref f) [.int x tx, .int lo tl, .int hi th]) Q E s
theorem InnerA.use {w : World} {f D : Addr} {n len : Nat} {fix : Led} {k : Nat} (H : InnerA w f D n len fix k)
    {x : Int} {lo hi : Nat} {tx tl th : Tok} {vs : List Value} {zs : List Int} {p : Program} {loose : List Str} {mean : ExcName → Option Value} {mg mb : Str → Option Value} {dp un : Nat} {gd : Option (List Code)} {cn : Str} {cs : Scope} {a : Addr} {ccd : Value} {cl : List (Str × Addr)} {outer : List Env} {A₀ : Around} {base h₀ : Heap} {L : Addr} {m : Str → Option Value} {s : Shared} {Q E : Value → Shared → Prop}
    (B : Below A₀ base outer h₀) (F : Fr h₀ L s.heap m) (X : (heapK w.params).In h₀) (N : News h₀ L s.heap ((D, lstO vs 0) :: fix)) (T : Top p loose mean mg mb h₀) (hk : cs.kind = .function) (ht : 1 ≤ s.toks) (hd : dp + (2 * k + 2) < recursionLimit) (hu : un + (60 * k + 60) < cLine)
    (h1 : lo < hi) (h2 : hi ≤ len) (h3 : hi - lo ≤ k) (h4 : 0 ≤ x) (h5 : x < 2 ^ (n * (hi - lo))) (hv : IntsAre vs zs) (hl : zs.length = len)
    (c : ∀ h' tk' vs' zs', s.toks ≤ tk' → Fr h₀ L h' m → News h₀ L h' ((D, lstO vs' 0) :: fix) → IntsAre vs' zs' → zs'.length = len → zs' = putAt zs lo (digs n (hi - lo) x) → Q .none { s with heap := h', toks := tk' }) :
    wpAny (model PySem.Challenge.rw_tl0014_01.row.prog w) (ktrTop dp un gd cn cs L a ccd cl outer) (call (.ref f) [.int x tx, .int lo tl, .int hi th]) Q E s := H _ _ _ _ _ _ _ _ _ _ _ _ _ _ _ _ _ _ _ _ _ _ _ _ _ _ _ _ _ _ h1 h2 h3 h4 h5 hv hl B F X N T hk ht hd hu c
theorem InnerA.all {w : World} {f D : Addr} {n len : Nat} {fix : Led} (step : ∀ k, k < len → InnerA w f D n len fix k → InnerA w f D n len fix (k + 1)) : ∀ k, k ≤ len → InnerA w f D n len fix k
  | 0, _ => by
    intro x lo hi tx tl th vs zs p loose mean mg mb dp un gd cn cs a ccd cl outer A₀ base h₀ L m s Q E h1 h2 h3
    omega
  | k + 1, h => step k h (InnerA.all step k (Nat.le_of_lt h))
theorem low_facts {x : Int} {n lo mid hi sh : Nat} (h0 : 0 ≤ x) (h : x < 2 ^ (n * (hi - lo))) (hlo : lo ≤ mid) (hm : mid ≤ hi) (hs : sh = (mid - lo) * n) :
    0 ≤ x % 2 ^ sh ∧ x % 2 ^ sh < 2 ^ (n * (mid - lo)) ∧ 0 ≤ x / 2 ^ sh ∧ x / 2 ^ sh < 2 ^ (n * (hi - mid)) ∧ digs n (hi - lo) x = digs n (mid - lo) (x % 2 ^ sh) ++ digs n (hi - mid) (x / 2 ^ sh) := by
  have e : sh = n * (mid - lo) := by rw [hs, Nat.mul_comm]
  subst e
  have e1 : n * (hi - lo) = n * (mid - lo) + n * (hi - mid) := by rw [← Nat.mul_add]; congr 1; omega
  have e2 : hi - lo = (mid - lo) + (hi - mid) := by omega
  refine ⟨(mod_two _ _).1, (mod_two _ _).2, Int.ediv_nonneg h0 (Int.le_of_lt (two_pos _)), ?_, ?_⟩
  · refine Int.ediv_lt_of_lt_mul (two_pos _) ?_
    rw [e1, Int.pow_add, Int.mul_comm] at h
    exact h
  · conv => lhs; rw [e2]
    exact digs_add n (mid - lo) (hi - mid) x
theorem swap_two {h₀ h : Heap} {L : Addr} {a b : Addr × Obj} {r : Led} (N : News h₀ L h (a :: b :: r)) : News h₀ L h (b :: a :: r) := news_sub N fun p hp => by
  simp only [List.mem_cons] at hp ⊢
  rcases hp with e | e | e
  · exact .inr (.inl e)
  · exact .inl e
  · exact .inr (.inr e)
theorem putAt_join {zs : List Int} {n lo mid hi : Nat} {x y : Int} (h1 : lo ≤ mid) (h2 : mid ≤ zs.length) : putAt (putAt zs lo (digs n (mid - lo) x)) mid (digs n (hi - mid) y) = putAt zs lo (digs n (mid - lo) x ++ digs n (hi - mid) y) := by
  have := putAt_two (zs := zs) (lo := lo) (ds := digs n (mid - lo) x) (es := digs n (hi - mid) y) (by rw [digs_length]; omega)
  rw [digs_length] at this
  rwa [show lo + (mid - lo) = mid by omega] at this

-- J0
/-- the int with these digits at a width of n bits, the lowest first -/
noncomputable def valD (n : Nat) : List Int → Int
  | [] => 0
  | z :: r => z + 2 ^ n * valD n r
theorem valD_append (n : Nat) : ∀ (a b : List Int), valD n (a ++ b) = valD n a + 2 ^ (n * a.length) * valD n b
  | [], b => by simp [valD]
  | z :: r, b => by
    have e : n * (z :: r).length = n + n * r.length := by rw [List.length_cons, Nat.mul_add, Nat.mul_one, Nat.add_comm]
    rw [List.cons_append, valD, valD, valD_append n r b, e, Int.pow_add, Int.mul_add, Int.mul_assoc, Int.add_assoc]
theorem valD_bound {n : Nat} : ∀ {a : List Int}, (∀ z ∈ a, 0 ≤ z ∧ z < 2 ^ n) → 0 ≤ valD n a ∧ valD n a < 2 ^ (n * a.length)
  | [], _ => by simp [valD]
  | z :: r, h => by
    obtain ⟨h1, h2⟩ := valD_bound (a := r) fun x hx => h x (.tail _ hx)
    obtain ⟨z1, z2⟩ := h z (.head _)
    have e : n * (z :: r).length = n + n * r.length := by rw [List.length_cons, Nat.mul_add, Nat.mul_one, Nat.add_comm]
    rw [e, Int.pow_add, valD]
    have p := two_pos n
    have m0 : 0 ≤ 2 ^ n * valD n r := Int.mul_nonneg (by omega) h1
    have m1 : 2 ^ n * (valD n r + 1) ≤ 2 ^ n * 2 ^ (n * r.length) := Int.mul_le_mul_of_nonneg_left (by omega) (by omega)
    rw [Int.mul_add, Int.mul_one] at m1
    omega
theorem valD_one (n : Nat) (z : Int) : valD n [z] = z := by simp [valD]
theorem slice_one {zs : List Int} {lo : Nat} (h : lo < zs.length) : (zs.drop lo).take 1 = [zs.getD lo 0] := by
  rw [List.getD_eq_getElem?_getD, List.getElem?_eq_getElem h]
  apply List.ext_getElem
  · simp; omega
  · intro i h1 h2
    simp at h2
    subst h2
    simp
theorem slice_two {zs : List Int} {lo mid hi : Nat} (h1 : lo ≤ mid) (h2 : mid ≤ hi) : (zs.drop lo).take (hi - lo) = (zs.drop lo).take (mid - lo) ++ (zs.drop mid).take (hi - mid) := by
  have e : hi - lo = (mid - lo) + (hi - mid) := by omega
  rw [e, List.take_add, List.drop_drop, show lo + (mid - lo) = mid by omega]
theorem slice_length {zs : List Int} {lo hi : Nat} (h : hi ≤ zs.length) : ((zs.drop lo).take (hi - lo)).length = hi - lo := by
  rw [List.length_take, List.length_drop]; omega
/-- the contract of _digits2int's inner def, for at most k digits -/
noncomputable def InnerB (w : World) (f : Addr) (n : Nat) (led : Led) (zs : List Int) (k : Nat) : Prop :=
  ∀ (lo hi : Nat) (tl th : Tok) (p : Program) (loose : List Str) (mean : ExcName → Option Value) (mg mb : Str → Option Value) (dp un : Nat) (gd : Option (List Code)) (cn : Str) (cs : Scope) (a : Addr) (ccd : Value) (cl : List (Str × Addr)) (outer : List Env) (A₀ : Around) (base h₀ : Heap) (L : Addr) (m : Str → Option Value) (s : Shared) (Q E : Value → Shared → Prop),
    lo < hi → hi ≤ zs.length → hi - lo ≤ k →
    Below A₀ base outer h₀ → Fr h₀ L s.heap m → (heapK w.params).In h₀ → News h₀ L s.heap led → Top p loose mean mg mb h₀ → cs.kind = .function → 1 ≤ s.toks → dp + (2 * k + 2) < recursionLimit → un + (60 * k + 60) < cLine →
    (∀ h' tk' t, s.toks ≤ tk' → Fr h₀ L h' m → News h₀ L h' led → Q (.int (valD n ((zs.drop lo).take (hi - lo))) t) { s with heap := h', toks := tk' }) →
    wpAny (model PySem.Challenge.rw_tl0014_01.row.prog w) (ktrTop dp un gd cn cs L a ccd cl outer) (call (.ref f) [.int lo tl, .int hi th]) Q E s
theorem InnerB.use {w : World} {f : Addr} {n : Nat} {led : Led} {zs : List Int} {k : Nat} (H : InnerB w f n led zs k)
    {lo hi : Nat} {tl th : Tok} {p : Program} {loose : List Str} {mean : ExcName → Option Value} {mg mb : Str → Option Value} {dp un : Nat} {gd : Option (List Code)} {cn : Str} {cs : Scope} {a : Addr} {ccd : Value} {cl : List (Str × Addr)} {outer : List Env} {A₀ : Around} {base h₀ : Heap} {L : Addr} {m : Str → Option Value} {s : Shared} {Q E : Value → Shared → Prop}
    (B : Below A₀ base outer h₀) (F : Fr h₀ L s.heap m) (X : (heapK w.params).In h₀) (N : News h₀ L s.heap led) (T : Top p loose mean mg mb h₀) (hk : cs.kind = .function) (ht : 1 ≤ s.toks) (hd : dp + (2 * k + 2) < recursionLimit) (hu : un + (60 * k + 60) < cLine)
    (h1 : lo < hi) (h2 : hi ≤ zs.length) (h3 : hi - lo ≤ k)
    (c : ∀ h' tk' t, s.toks ≤ tk' → Fr h₀ L h' m → News h₀ L h' led → Q (.int (valD n ((zs.drop lo).take (hi - lo))) t) { s with heap := h', toks := tk' }) :
    wpAny (model PySem.Challenge.rw_tl0014_01.row.prog w) (ktrTop dp un gd cn cs L a ccd cl outer) (call (.ref f) [.int lo tl, .int hi th]) Q E s := H _ _ _ _ _ _ _ _ _ _ _ _ _ _ _ _ _ _ _ _ _ _ _ _ _ _ h1 h2 h3 B F X N T hk ht hd hu c
theorem InnerB.all {w : World} {f : Addr} {n len : Nat} {led : Led} {zs : List Int} (step : ∀ k, k < len → InnerB w f n led zs k → InnerB w f n led zs (k + 1)) : ∀ k, k ≤ len → InnerB w f n led zs k
  | 0, _ => by
    intro lo hi tl th p loose mean mg mb dp un gd cn cs a ccd cl outer A₀ base h₀ L m s Q E h1 h2 h3
    omega
  | k + 1, h => step k h (InnerB.all step k (Nat.le_of_lt h))
theorem truthyN {prog : Program} {w : World} {A : Around} {E : Value → Shared → Prop} {s : Shared} {h₀ : Heap} {L : Addr} {news : Led} {D : Addr} {vs : List Value} {n k : Nat} {Q : Bool → Shared → Prop} (N : News h₀ L s.heap news) (hm : (D, lstO vs n) ∈ news) (e : vs.length = k) (hk : 0 < k ∧ k ≤ 1000000)
    (h : Q true { s with toks := s.toks + 1 + 1 }) : wpAny (model prog w) A (truthy (.ref D)) Q E s := by
  refine wpAny_truthy_list ⟨_, (N _ hm).1, rfl, _, rfl⟩ (by rw [List.size_toArray, e]; omega) ?_
  have : (!vs.toArray.isEmpty) = true := by
    cases vs with
    | nil => simp at e; omega
    | cons a r => simp
  rw [this]; exact h
theorem append_skip {l : Led} {t : Led} {p : Addr × Obj} (h : p ∈ l) : p ∈ t ++ l := List.mem_append_right _ h

-- K0
noncomputable abbrev Tab2 (t : Led) : Prop := ∃ t1 t2, t = t1 ++ t2 ∧ Tab30 t1 ∧ Tab37 t2 ∧ OffT t1 t2
/-- long division, the highest digit first -/
noncomputable def longD (b : Int) (n : Nat) : List Int → List Int × Int → List Int × Int
  | [], s => s
  | d :: ds, (qs, r) => longD b n ds (qs ++ [(r * 2 ^ n + d) / b], (r * 2 ^ n + d) % b)
theorem longD_append (b : Int) (n : Nat) : ∀ (xs ys : List Int) (s : List Int × Int), longD b n (xs ++ ys) s = longD b n ys (longD b n xs s)
  | [], _, _ => rfl
  | d :: ds, ys, (qs, r) => longD_append b n ds ys _
/-- what holds in the midst of a long division of the digits xs (the highest first) -/
structure LongOk (b : Int) (n : Nat) (xs : List Int) (s : List Int × Int) : Prop where
  r0 : 0 ≤ s.2
  rb : s.2 < b
  len : s.1.length = xs.length
  dig : ∀ z ∈ s.1, 0 ≤ z ∧ z < 2 ^ n
  val : valD n s.1.reverse * b + s.2 = valD n xs.reverse
theorem long_step {b : Int} {n : Nat} {xs : List Int} {qs : List Int} {r d : Int} (hb : 0 < b) (h : LongOk b n xs (qs, r)) (hd : 0 ≤ d ∧ d < 2 ^ n) :
    0 ≤ r * 2 ^ n + d ∧ r * 2 ^ n + d < 2 ^ n * b ∧ LongOk b n (xs ++ [d]) (qs ++ [(r * 2 ^ n + d) / b], (r * 2 ^ n + d) % b) := by
  have p := two_pos n
  have r0 : 0 ≤ r := h.r0
  have rb : r < b := h.rb
  have m0 : 0 ≤ r * 2 ^ n := Int.mul_nonneg r0 (by omega)
  have m1 : (r + 1) * 2 ^ n ≤ b * 2 ^ n := Int.mul_le_mul_of_nonneg_right (by omega) (by omega)
  have e1 : (r + 1) * 2 ^ n = r * 2 ^ n + 2 ^ n := by rw [Int.add_mul, Int.one_mul]
  have e2 : b * 2 ^ n = 2 ^ n * b := Int.mul_comm _ _
  have lt : r * 2 ^ n + d < 2 ^ n * b := by omega
  refine ⟨by omega, lt, Int.emod_nonneg _ (by omega), Int.emod_lt_of_pos _ hb, ?_, ?_, ?_⟩
  · show (qs ++ _).length = _
    rw [List.length_append, List.length_append, show qs.length = xs.length from h.len]; rfl
  · intro z hz
    rcases List.mem_append.mp hz with hz | hz
    · exact h.dig z hz
    · rw [List.mem_singleton.mp hz]
      exact ⟨Int.ediv_nonneg (by omega) (by omega), Int.ediv_lt_of_lt_mul hb lt⟩
  · show valD n (qs ++ [_]).reverse * b + _ = valD n (xs ++ [d]).reverse
    have hv : valD n qs.reverse * b + r = valD n xs.reverse := h.val
    have hm := Int.mul_ediv_add_emod (r * 2 ^ n + d) b
    rw [List.reverse_append, List.reverse_append]
    simp only [List.reverse_cons, List.reverse_nil, List.nil_append, List.singleton_append, valD]
    rw [← hv, Int.add_mul, Int.mul_add]
    have e3 : 2 ^ n * valD n qs.reverse * b = 2 ^ n * (valD n qs.reverse * b) := Int.mul_assoc _ _ _
    have e4 : (r * 2 ^ n + d) / b * b = b * ((r * 2 ^ n + d) / b) := Int.mul_comm _ _
    have e5 : 2 ^ n * r = r * 2 ^ n := Int.mul_comm _ _
    omega
theorem valD_digs {n : Nat} : ∀ (k : Nat) {x : Int}, 0 ≤ x → x < 2 ^ (n * k) → valD n (digs n k x) = x
  | 0, x, h0, h => by
    simp at h
    have : x = 0 := by omega
    subst this; rfl
  | k + 1, x, h0, h => by
    have e : k + 1 = 1 + k := by omega
    have en : n * (1 + k) = n + n * k := by rw [Nat.mul_add, Nat.mul_one]
    rw [e, en, Int.pow_add] at h
    have hq0 : 0 ≤ x / 2 ^ n := Int.ediv_nonneg h0 (Int.le_of_lt (two_pos n))
    have hq : x / 2 ^ n < 2 ^ (n * k) := Int.ediv_lt_of_lt_mul (two_pos n) (by rw [Int.mul_comm]; exact h)
    have hm := mod_two x n
    rw [e, digs_add, Nat.mul_one, digs_one hm.1 hm.2, List.singleton_append, valD, valD_digs k hq0 hq]
    have := Int.mul_ediv_add_emod x (2 ^ n)
    omega
theorem digs_range {n k : Nat} {x : Int} : ∀ z ∈ digs n k x, 0 ≤ z ∧ z < 2 ^ n := fun z hz => by
  unfold digs at hz
  obtain ⟨i, _, rfl⟩ := List.mem_map.mp hz
  exact mod_two _ _
theorem long_end {a b : Int} {n k : Nat} {qs : List Int} {r : Int} (hb : 0 < b) (ha : 0 ≤ a) (hx : a < 2 ^ (n * k)) (h : LongOk b n (digs n k a).reverse (qs, r)) : valD n qs.reverse = a / b ∧ r = a % b := by
  have hv : valD n qs.reverse * b + r = valD n (digs n k a).reverse.reverse := h.val
  rw [List.reverse_reverse, valD_digs k ha hx] at hv
  exact ediv_of hb (by rw [Int.mul_comm]; exact hv) h.r0 h.rb
theorem hasBits_of {b : Int} (hb : 0 < b) : HasBits b (Builtin.Int.intBits b) := by
  obtain ⟨c, rfl⟩ := Int.eq_ofNat_of_zero_le (Int.le_of_lt hb)
  have hc : c ≠ 0 := by omega
  have e : Builtin.Int.intBits (c : Int) = c.log2 + 1 := by
    unfold Builtin.Int.intBits
    have : ((c : Int) == 0) = false := by simp [hc]
    rw [this]
    simp
  rw [e]
  have h1 := Nat.log2_self_le hc
  have h2 := Nat.lt_log2_self (n := c)
  refine ⟨hb, ?_, by exact_mod_cast h2⟩
  have : 2 ^ (c.log2 + 1) ≤ 2 * c := by rw [Nat.pow_succ]; omega
  exact_mod_cast this
theorem LongOk.nil {b : Int} {n : Nat} (hb : 0 < b) : LongOk b n [] ([], 0) := ⟨Int.le_refl _, hb, rfl, (fun _ h => nomatch h), by simp [valD]⟩

-- K1
section
variable {prog : Program} {w : World} {A : Around} {E : Value → Shared → Prop} {s : Shared} {h₀ : Heap} {L : Addr} {m : Str → Option Value} {news news' : Led}
theorem revN {D : Addr} {vs : List Value} {n : Nat} {Q : Value → Shared → Prop} (F : Fr h₀ L s.heap m) (N : News h₀ L s.heap news) (hm : (D, lstO vs n) ∈ news)
    (k : ∀ I oI h', StRev D vs.length 0 oI → Fr h₀ L h' m → News h₀ L h' ((I, oI) :: news) → (∀ p ∈ news, p.1 < I) → Q (.ref I) { s with heap := h' }) : wpAny (model prog w) A (call (.type "reversed") [.ref D]) Q E s :=
  krv_reversed F N ⟨_, (N _ hm).1, rfl, _, rfl⟩ fun I h' F' N' l => k I _ h' ⟨Nat.zero_le _, rfl, by unfold revObj; simp⟩ F' N' l
theorem pyIter_rev {D I : Addr} {oI : Obj} {vs : List Value} {n : Nat} {Q : Value → Shared → Prop} (hh : A.handled = none) (hst : StRev D vs.length 0 oI) (N : News h₀ L s.heap ((I, oI) :: news)) (hm : (D, lstO vs n) ∈ news) (l : ∀ p ∈ news, p.1 ≠ I) (h : Q (.ref I) s) : wpAny (model prog w) A (pyIter (.ref I)) Q E s :=
  (it_rev hh (l _ hm) vs.toArray).self 0 oI s Q E (N _ (.head _)).1 (by simpa using hst) ⟨_, (N _ (.tail _ hm)).1, rfl, _, rfl⟩ h
theorem reverseN {D : Addr} {vs : List Value} {n : Nat} {Q : Value → Shared → Prop} (F : Fr h₀ L s.heap m) (N : News h₀ L s.heap news) (U : Upd D (lstO vs n) (lstO vs.reverse n) news news') (hz : vs.length ≤ 1000000)
    (k : ∀ h', Fr h₀ L h' m → News h₀ L h' news' → Q .none { s with heap := h' }) : wpAny (model prog w) A (call (.builtin "list.reverse") [.ref D]) Q E s :=
  kl_reverse (its := vs.toArray) (l := vs.reverse) F N (by simp) U (by rw [sizeLine_eq]; simp; omega) k
end
theorem D21.use1 {w : World} {d M : Nat} (H : D21 w d M) {a b : Int} {n : Nat} {ta tb tn : Tok} {news : Led}
    {p : Program} {loose : List Str} {mean : ExcName → Option Value} {mg mb : Str → Option Value} {dp un : Nat} {gd : Option (List Code)} {cn : Str} {cs : Scope} {fa : Addr} {ccd : Value} {cl : List (Str × Addr)} {outer : List Env} {A₀ : Around} {base h₀ : Heap} {L : Addr} {m : Str → Option Value} {s : Shared} {Q E : Value → Shared → Prop}
    (ha : 0 ≤ a) (hb : HasBits b n) (hab : a < 2 ^ n * b) (hn : n ≤ M)
    (B : Below A₀ base outer h₀) (F : Fr h₀ L s.heap m) (X : (heapK w.params).In h₀) (N : News h₀ L s.heap news) (T : Top p loose mean mg mb h₀) (hk : cs.kind = .function) (ht : 1 ≤ s.toks) (hd : dp + (110 + 2 * d) < recursionLimit) (hu : un + (40 + 40 * d) < cLine)
    (k : ∀ D t u j h' tk', s.toks ≤ tk' → Fr h₀ L h' m → News h₀ L h' ((D, tupO [.int (a / b) t, .int (a % b) u] j) :: news) → (∀ p ∈ news, p.1 ≠ D) → Q (.ref D) { s with heap := h', toks := tk' }) :
    wpAny (model PySem.Challenge.rw_tl0014_01.row.prog w) (ktrTop dp un gd cn cs L fa ccd cl outer) (call (.ref 21) [.int a ta, .int b tb, .int n tn]) Q E s :=
  Spec.use (H a b n ta tb tn news ha hb hab hn) B F X N T hk ht hd hu fun r h' tk' objs ht' F' N' fr post => by
    obtain ⟨D, t, u, j, rfl, hm⟩ := post
    exact k D t u j h' tk' ht' F' (news_sub N' fun p hp => by
      rcases List.mem_cons.mp hp with rfl | hp
      · exact List.mem_append_left _ hm
      · exact List.mem_append_right _ hp) (fr _ hm)
theorem ne_of_lts {l : Led} {d : Addr} (h : ∀ p ∈ l, p.1 < d) : ∀ p ∈ l, p.1 ≠ d := fun p hp => Nat.ne_of_lt (h p hp)
theorem ints_rev {vs : List Value} {zs : List Int} (h : IntsAre vs zs) : IntsAre vs.reverse zs.reverse := by
  induction h with
  | nil => exact .nil
  | cons x t _ ih => rw [List.reverse_cons, List.reverse_cons]; exact ih.append (.cons x t .nil)
theorem take_rev {zs : List Int} {i : Nat} {z : Int} (h : zs[zs.length - 1 - i]? = some z) (hi : i < zs.length) : zs.reverse.take (i + 1) = zs.reverse.take i ++ [z] := by
  rw [List.take_add_one, List.getElem?_reverse hi, h]; rfl
theorem drop_first {h₀ h : Heap} {L : Addr} {a : Addr × Obj} {r : Led} (N : News h₀ L h (a :: r)) : News h₀ L h r := news_sub N fun _ hp => .tail _ hp
theorem tab_front {h₀ h : Heap} {L : Addr} {d : Addr × Obj} {o t1 t2 r : Led} (N : News h₀ L h (d :: (o ++ (t1 ++ (t2 ++ r))))) : News h₀ L h (t2 ++ (d :: (o ++ (t1 ++ r)))) := news_sub N fun p hp => by
  simp only [List.mem_cons, List.mem_append] at hp ⊢
  rcases hp with e | e | e | e | e
  · exact .inr (.inr (.inr (.inl e)))
  · exact .inl e
  · exact .inr (.inl e)
  · exact .inr (.inr (.inl e))
  · exact .inr (.inr (.inr (.inr e)))
theorem tab_offs {d : Addr × Obj} {o t1 t2 r : Led} (hO : OffT t2 r) (O1 : OffT t1 (t2 ++ r)) (fr : Fresh o (t1 ++ (t2 ++ r))) (hD : ∀ p ∈ o ++ (t1 ++ (t2 ++ r)), p.1 ≠ d.1) : OffT t2 (d :: (o ++ (t1 ++ r))) := fun q hq p hp => by
  rcases List.mem_cons.mp hp with rfl | hp
  · exact (hD q (List.mem_append_right _ (List.mem_append_right _ (List.mem_append_left _ hq)))).symm
  · rcases List.mem_append.mp hp with hp | hp
    · exact (fr p hp q (List.mem_append_right _ (List.mem_append_left _ hq))).symm
    · rcases List.mem_append.mp hp with hp | hp
      · exact (O1 p hp q (List.mem_append_left _ hq)).symm
      · exact hO q hq p hp
theorem fin_news {h₀ h : Heap} {L : Addr} {e d : Addr × Obj} {o t1 t2 r : Led} (N : News h₀ L h (e :: (t2 ++ (d :: (o ++ (t1 ++ r)))))) : News h₀ L h ([e] ++ ((t1 ++ t2) ++ r)) := news_sub N fun p hp => by
  simp only [List.mem_cons, List.mem_append, List.not_mem_nil, or_false] at hp ⊢
  rcases hp with e | (e | e) | e
  · exact .inl e
  · exact .inr (.inr (.inr (.inr (.inl e))))
  · exact .inr (.inl e)
  · exact .inr (.inr (.inr (.inr (.inr e))))
theorem fin_tabs {d : Addr × Obj} {o t1 t2 r : Led} (T1 : Tab30 t1) (T2 : Tab37 t2) (O2 : OffT t2 (d :: (o ++ (t1 ++ r)))) : Tab2 (t1 ++ t2) :=
  ⟨t1, t2, rfl, T1, T2, fun q hq p hp => (O2 p hp q (.tail _ (List.mem_append_right _ (List.mem_append_left _ hq)))).symm⟩
theorem fin_off {d : Addr × Obj} {o t1 t2 t2o r : Led} (O1 : OffT t1 (t2o ++ r)) (O2 : OffT t2 (d :: (o ++ (t1 ++ r)))) : OffT (t1 ++ t2) r := fun q hq p hp => by
  rcases List.mem_append.mp hq with hq | hq
  · exact O1 q hq p (List.mem_append_right _ hp)
  · exact O2 q hq p (.tail _ (List.mem_append_right _ (List.mem_append_right _ hp)))
theorem fin_lt {b : Addr} {d : Addr × Obj} {o t1 t2 r : Led} (l : ∀ p ∈ t2 ++ (d :: (o ++ (t1 ++ r))), p.1 < b) : ∀ p ∈ (t1 ++ t2) ++ r, p.1 < b := fun p hp => l p (by
  simp only [List.mem_cons, List.mem_append] at hp ⊢
  rcases hp with (e | e) | e
  · exact .inr (.inr (.inr (.inl e)))
  · exact .inl e
  · exact .inr (.inr (.inr (.inr e))))

-- L0
/-- the body and the scope of the program's last def -/
noncomputable def lastBody : List Stmt → List Stmt
  | [] => []
  | s :: r => match r with
    | [] => (match s with
      | .FunctionDef _ _ body _ _ _ _ _ _ _ => body
      | _ => [])
    | t :: r' => lastBody (t :: r')
noncomputable def lastScope : List Stmt → Scope
  | [] => default
  | s :: r => match r with
    | [] => (match s with
      | .FunctionDef _ _ _ _ _ _ sc _ _ _ => sc
      | _ => default)
    | t :: r' => lastScope (t :: r')
noncomputable def lawS : List Stmt := lastBody PySem.Challenge.pw_tl0014_01.main.body
noncomputable def lawSc : Scope := lastScope PySem.Challenge.pw_tl0014_01.main.body
noncomputable abbrev lawE (L fa : Addr) (cd : Value) : Env := envOfC "law" lawSc L fa cd

-- P1
/-- a polynomial's value, the lowest coefficient first -/
noncomputable def evalP (q : Int) : List Int → Int
  | [] => 0
  | a :: r => a + q * evalP q r
noncomputable def addP : List Int → List Int → List Int
  | [], m => m
  | l, [] => l
  | a :: l, b :: m => (a + b) :: addP l m
noncomputable def mulP : List Int → List Int → List Int
  | [], _ => []
  | [a], m => m.map (a * ·)
  | a :: l, m => addP (m.map (a * ·)) (0 :: mulP l m)
theorem evalP_add (q : Int) : ∀ l m : List Int, evalP q (addP l m) = evalP q l + evalP q m
  | [], m => by simp [addP, evalP]
  | a :: l, [] => by simp [addP, evalP]
  | a :: l, b :: m => by
    simp only [addP, evalP, evalP_add q l m, Int.mul_add]
    omega
theorem evalP_smul (q a : Int) : ∀ m : List Int, evalP q (m.map (a * ·)) = a * evalP q m
  | [] => by simp [evalP]
  | b :: m => by
    simp only [List.map_cons, evalP, evalP_smul q a m, Int.mul_add]
    have : q * (a * evalP q m) = a * (q * evalP q m) := by ac_rfl
    omega
theorem evalP_mul (q : Int) : ∀ l m : List Int, evalP q (mulP l m) = evalP q l * evalP q m
  | [], m => by simp [mulP, evalP]
  | [a], m => by simp [mulP, evalP, evalP_smul]
  | a :: b :: l, m => by
    have ih := evalP_mul q (b :: l) m
    show evalP q (addP (m.map (a * ·)) (0 :: mulP (b :: l) m)) = (a + q * evalP q (b :: l)) * evalP q m
    rw [evalP_add, evalP_smul, evalP, ih, Int.add_mul, Int.mul_assoc]
    omega
/-- q^k - 1, 1 ≤ k -/
noncomputable def powP (k : Nat) : List Int := (-1) :: (List.replicate (k - 1) 0 ++ [1])
theorem evalP_zeros (q : Int) : ∀ n : Nat, evalP q (List.replicate n 0 ++ [1]) = q ^ n
  | 0 => by simp [evalP]
  | n + 1 => by
    rw [List.replicate_succ, List.cons_append, evalP, evalP_zeros q n, Int.pow_succ, Int.mul_comm]; omega
theorem evalP_pow (q : Int) {k : Nat} (h : 1 ≤ k) : evalP q (powP k) = q ^ k - 1 := by
  unfold powP
  rw [evalP, evalP_zeros]
  obtain ⟨j, rfl⟩ : ∃ j, k = j + 1 := ⟨k - 1, by omega⟩
  rw [show j + 1 - 1 = j by omega, Int.pow_succ, Int.mul_comm]
  omega
noncomputable def stepsP : Nat → List Int
  | 0 => [1]
  | n + 1 => mulP (stepsP n) (powP (n + 1))
theorem evalP_steps (q : Int) : ∀ n : Nat, evalP q (stepsP n) = stepsZ q n
  | 0 => by simp [stepsP, evalP, stepsZ]
  | n + 1 => by rw [stepsP, evalP_mul, evalP_steps q n, evalP_pow q (by omega), stepsZ]
theorem valD_evalP (n : Nat) : ∀ l : List Int, valD n l = evalP (2 ^ n) l
  | [] => rfl
  | a :: r => by rw [valD, evalP, valD_evalP n r]
/-- the words of a triple of counts -/
noncomputable def wordsZ (c0 c1 c2 : Nat) : List (List Int) := (wordsN 6 (c0 + 8 * c1 + 64 * c2)).map (·.1)
/-- how many words have each sum of falls, up to deg -/
noncomputable def fallsP (c0 c1 c2 mo : Nat) : List Int := oftenZ mo ((wordsZ c0 c1 c2).map fallZ)
noncomputable def degZ (c0 c1 c2 : Nat) : Nat := c0 * c1 + c0 * c2 + c1 * c2
/-- the same, written out -/
noncomputable def fallsTab : List (List Int) := [[1], [1, 1, 1, 1, 1, 1], [1, 1, 2, 2, 3, 2, 2, 1, 1], [1, 1, 2, 3, 3, 3, 3, 2, 1, 1], [1, 1, 2, 2, 3, 2, 2, 1, 1], [1, 1, 1, 1, 1, 1], [1], [1, 1, 1, 1, 1, 1], [1, 2, 3, 4, 5, 5, 4, 3, 2, 1], [1, 2, 4, 6, 8, 9, 9, 8, 6, 4, 2, 1], [1, 2, 4, 6, 8, 9, 9, 8, 6, 4, 2, 1], [1, 2, 3, 4, 5, 5, 4, 3, 2, 1], [1, 1, 1, 1, 1, 1], [], [1, 1, 2, 2, 3, 2, 2, 1, 1], [1, 2, 4, 6, 8, 9, 9, 8, 6, 4, 2, 1], [1, 2, 5, 7, 11, 12, 14, 12, 11, 7, 5, 2, 1], [1, 2, 4, 6, 8, 9, 9, 8, 6, 4, 2, 1], [1, 1, 2, 2, 3, 2, 2, 1, 1], [], [], [1, 1, 2, 3, 3, 3, 3, 2, 1, 1], [1, 2, 4, 6, 8, 9, 9, 8, 6, 4, 2, 1], [1, 2, 4, 6, 8, 9, 9, 8, 6, 4, 2, 1], [1, 1, 2, 3, 3, 3, 3, 2, 1, 1], [], [], [], [1, 1, 2, 2, 3, 2, 2, 1, 1], [1, 2, 3, 4, 5, 5, 4, 3, 2, 1], [1, 1, 2, 2, 3, 2, 2, 1, 1], [], [], [], [], [1, 1, 1, 1, 1, 1], [1, 1, 1, 1, 1, 1], [], [], [], [], [], [1], [], [], [], [], [], []]
noncomputable def fallsT (c0 c1 : Nat) : List Int := fallsTab.getD (c0 * 7 + c1) []
theorem falls_table : ∀ c0 < 7, ∀ c1 < 7, ∀ c2 < 7, c0 + c1 + c2 = 6 → fallsP c0 c1 c2 (degZ c0 c1 c2) = fallsT c0 c1 := by
  decide +kernel
theorem mahonianT : ∀ c0 < 7, ∀ c1 < 7, ∀ c2 < 7, c0 + c1 + c2 = 6 → mulP (fallsT c0 c1) (mulP (mulP (stepsP c0) (stepsP c1)) (stepsP c2)) = stepsP 6 := by
  decide +kernel
theorem mahonian {c0 c1 c2 : Nat} (h : c0 + c1 + c2 = 6) : mulP (fallsP c0 c1 c2 (degZ c0 c1 c2)) (mulP (mulP (stepsP c0) (stepsP c1)) (stepsP c2)) = stepsP 6 := by
  rw [falls_table c0 (by omega) c1 (by omega) c2 (by omega) h]
  exact mahonianT c0 (by omega) c1 (by omega) c2 (by omega) h
theorem mahonian_int {c0 c1 c2 : Nat} (h : c0 + c1 + c2 = 6) (q : Int) : evalP q (fallsP c0 c1 c2 (degZ c0 c1 c2)) * (stepsZ q c0 * stepsZ q c1 * stepsZ q c2) = stepsZ q 6 := by
  have := congrArg (evalP q) (mahonian h)
  rw [evalP_mul, evalP_mul, evalP_mul, evalP_steps, evalP_steps, evalP_steps, evalP_steps] at this
  exact this
theorem falls_facts1 : ∀ c0 < 7, ∀ c1 < 7, ∀ c2 < 7, c0 + c1 + c2 = 6 →
    (((wordsZ c0 c1 c2).map fallZ).contains ((degZ c0 c1 c2 : Nat) : Int) && ((wordsZ c0 c1 c2).map fallZ).all (fun z => decide (0 ≤ z) && decide (z ≤ ((degZ c0 c1 c2 : Nat) : Int)))) = true := by
  decide +kernel
theorem falls_facts2 : ∀ c0 < 7, ∀ c1 < 7, ∀ c2 < 7, c0 + c1 + c2 = 6 →
    ((fallsT c0 c1).all (fun z => decide (0 ≤ z) && decide (z < 256)) && decide ((fallsT c0 c1).getLast? = some 1)) = true := by
  decide +kernel
theorem falls_facts3 : ∀ c0 < 7, ∀ c1 < 7, ∀ c2 < 7, c0 + c1 + c2 = 6 →
    ((wordsZ c0 c1 c2).all (fun ws => decide (ws.length = 6)) && decide ((wordsZ c0 c1 c2).length ≤ 90) && decide (0 < (wordsZ c0 c1 c2).length)) = true := by
  decide +kernel
theorem falls_facts {c0 c1 c2 : Nat} (h : c0 + c1 + c2 = 6) :
    ((((((((degZ c0 c1 c2 : Nat) : Int) ∈ (wordsZ c0 c1 c2).map fallZ) ∧ ∀ z ∈ (wordsZ c0 c1 c2).map fallZ, 0 ≤ z ∧ z ≤ ((degZ c0 c1 c2 : Nat) : Int)) ∧ ∀ z ∈ fallsP c0 c1 c2 (degZ c0 c1 c2), 0 ≤ z ∧ z < 256) ∧ ∀ ws ∈ wordsZ c0 c1 c2, ws.length = 6) ∧ (wordsZ c0 c1 c2).length ≤ 90) ∧ 0 < (wordsZ c0 c1 c2).length) ∧ (fallsP c0 c1 c2 (degZ c0 c1 c2)).getLast? = some 1 := by
  have f1 := falls_facts1 c0 (by omega) c1 (by omega) c2 (by omega) h
  have f2 := falls_facts2 c0 (by omega) c1 (by omega) c2 (by omega) h
  have f3 := falls_facts3 c0 (by omega) c1 (by omega) c2 (by omega) h
  rw [falls_table c0 (by omega) c1 (by omega) c2 (by omega) h]
  simp only [Bool.and_eq_true, decide_eq_true_eq, List.all_eq_true, List.contains_iff_mem] at f1 f2 f3
  exact ⟨⟨⟨⟨⟨f1, f2.1⟩, f3.1.1⟩, f3.1.2⟩, f3.2⟩, f2.2⟩

-- E0
section
open PySem.Float64
theorem rep_V : ∀ (K q : Nat), q ≤ 2 ^ 53 → ∃ t, V t = q * 2 ^ K
  | 0, q, h => ⟨0 * 2 ^ 52 + q, V_at h (.inr rfl)⟩
  | K + 1, q, h => by
    by_cases h2 : 2 ^ 52 ≤ q
    · exact ⟨(K + 1) * 2 ^ 52 + q, V_at h (.inl h2)⟩
    · obtain ⟨t, ht⟩ := rep_V K (2 * q) (by omega)
      refine ⟨t, ?_⟩
      rw [ht, Nat.pow_succ, Nat.mul_comm 2 q, Nat.mul_assoc, Nat.mul_comm 2]
theorem dist_nat (a b : Nat) : ((a : Int) - (b : Int)).natAbs = a - b + (b - a) := by omega
theorem dist_neg (a b : Nat) : (-(a : Int) - -(b : Int)).natAbs = a - b + (b - a) := by
  rw [← dist_nat, ← Int.natAbs_neg]
  congr 1
  omega
theorem dist_abs (a b : Nat) : ((dist a b : Nat) : Int) = ((a : Int) - (b : Int)).natAbs := by unfold dist; rw [dist_nat]
theorem fits_mag {D W k : Nat} (hD : 0 < D) (hk : k ≤ 900) (h : W ≤ D * (2 ^ k * 2 ^ 1074)) : ¬ (D * ((2 ^ 54 - 1) * 2 ^ 2045) ≤ 2 * W) := by
  intro h2
  have h3 : D * ((2 ^ 54 - 1) * 2 ^ 2045) ≤ D * (2 * (2 ^ k * 2 ^ 1074)) := by
    have : 2 * (D * (2 ^ k * 2 ^ 1074)) = D * (2 * (2 ^ k * 2 ^ 1074)) := by ac_rfl
    omega
  have h4 := Nat.le_of_mul_le_mul_left h3 hD
  have h5 : 2 ^ k * 2 ^ 1074 ≤ 2 ^ 900 * 2 ^ 1074 := Nat.mul_le_mul_right _ (Nat.pow_le_pow_right (by decide) hk)
  have h6 : 2 * (2 ^ 900 * 2 ^ 1074) < (2 ^ 54 - 1) * 2 ^ 2045 := by decide +kernel
  omega
/-- a rounded value is near: within half a place of size 2^(k-53) -/
theorem right_near {r : UInt64} {neg : Bool} {W D k : Nat} (R : Right r neg W D) (hD : 0 < D) (hk : k ≤ 900) (h : W ≤ D * (2 ^ k * 2 ^ 1074)) :
    (∃ m e, decode r = .fin neg m e) ∧ 2 * (val r * (D : Int) - sgn neg W).natAbs ≤ D * 2 ^ (k + 1021) ∧ ∃ v, val r = sgn neg v := by
  obtain ⟨t, rfl, h1, h2, h3⟩ := R
  have hlt : t < infMag := by
    rcases Nat.lt_or_ge t infMag with h | h4
    · exact h
    · exact absurd (h2.mp (by omega)) (fits_mag hD hk h)
  obtain ⟨m, e, hd, hv⟩ := decode_pack neg hlt
  refine ⟨⟨m, e, hd⟩, ?_, _, val_pack neg hlt⟩
  have e1 : k + 1074 = (k + 1021) + 53 := by omega
  have e2 : 2 ^ k * 2 ^ 1074 = 2 ^ (k + 1021) * 2 ^ 53 := by rw [← Nat.pow_add, e1, Nat.pow_add]
  rw [e2] at h
  have hP : 0 < 2 ^ (k + 1021) := Nat.two_pow_pos _
  have hrep := rep_V (k + 1021)
  generalize 2 ^ (k + 1021) = P at *
  have hDP : 0 < D * P := Nat.mul_pos hD hP
  have hdm := Nat.div_add_mod (2 * W + D * P) (2 * (D * P))
  have hml := Nat.mod_lt (2 * W + D * P) (show 0 < 2 * (D * P) by omega)
  have hq : (2 * W + D * P) / (2 * (D * P)) ≤ 2 ^ 53 := by
    have : (2 * W + D * P) / (2 * (D * P)) < 2 ^ 53 + 1 := by
      apply Nat.div_lt_of_lt_mul
      have : D * (P * 2 ^ 53) = D * P * 2 ^ 53 := by ac_rfl
      omega
    omega
  obtain ⟨t', ht'⟩ := hrep _ hq
  have hn := (h3 hlt t').1
  rw [ht'] at hn
  generalize (2 * W + D * P) / (2 * (D * P)) = q at *
  generalize (2 * W + D * P) % (2 * (D * P)) = r at *
  have e3 : D * (q * P) = D * P * q := by ac_rfl
  have e4 : 2 * (D * P) * q = 2 * (D * P * q) := by ac_rfl
  rw [e3] at hn
  rw [e4] at hdm
  have hb : 2 * dist W (D * P * q) ≤ D * P := by unfold dist; omega
  have hc : (val (pack neg t) * (D : Int) - sgn neg W).natAbs = dist W (D * V t) := by
    rw [val_pack neg hlt]
    unfold sgn dist
    cases neg
    · simp only [Bool.false_eq_true, if_false]
      rw [← Int.natCast_mul, Nat.mul_comm (V t) D, dist_nat]
      exact Nat.add_comm _ _
    · simp only [if_true]
      rw [Int.neg_mul, ← Int.natCast_mul, Nat.mul_comm (V t) D, dist_neg]
      exact Nat.add_comm _ _
  rw [hc]
  omega
/-- a value that has a place is kept -/
theorem right_exact {r : UInt64} {neg : Bool} {W D K q : Nat} (R : Right r neg W D) (hD : 0 < D) (hq : q ≤ 2 ^ 53) (hK : K ≤ 1900) (h : W = D * (q * 2 ^ K)) :
    (∃ m e, decode r = .fin neg m e) ∧ val r = sgn neg (q * 2 ^ K) := by
  obtain ⟨t, rfl, h1, h2, h3⟩ := R
  have hlt : t < infMag := by
    rcases Nat.lt_or_ge t infMag with h | h4
    · exact h
    · exfalso
      have h5 := h2.mp (by omega)
      rw [h] at h5
      have h6 : D * ((2 ^ 54 - 1) * 2 ^ 2045) ≤ D * (2 * (q * 2 ^ K)) := by
        have : 2 * (D * (q * 2 ^ K)) = D * (2 * (q * 2 ^ K)) := by ac_rfl
        omega
      have h7 := Nat.le_of_mul_le_mul_left h6 hD
      have h8 : q * 2 ^ K ≤ 2 ^ 53 * 2 ^ 1900 := Nat.mul_le_mul hq (Nat.pow_le_pow_right (by decide) hK)
      have h9 : 2 * (2 ^ 53 * 2 ^ 1900) < (2 ^ 54 - 1) * 2 ^ 2045 := by decide +kernel
      omega
  obtain ⟨m, e, hd, hv⟩ := decode_pack neg hlt
  refine ⟨⟨m, e, hd⟩, ?_⟩
  rw [val_pack neg hlt]
  obtain ⟨t', ht'⟩ := rep_V K q hq
  have hn := (h3 hlt t').1
  rw [ht', h] at hn
  have : dist (D * (q * 2 ^ K)) (D * (q * 2 ^ K)) = 0 := by unfold dist; omega
  rw [this] at hn
  have h0 : D * (q * 2 ^ K) = D * V t := by unfold dist at hn; omega
  rw [Nat.eq_of_mul_eq_mul_left hD h0]
noncomputable def Fini (x : UInt64) : Prop := ∃ a m e, decode x = .fin a m e
/-- near n/d, within e of 2^-60 -/
noncomputable def Ap (x : UInt64) (n d : Int) (e : Nat) : Prop := Fini x ∧ (val x * d - n * (2 ^ 60 * 2 ^ 1014)).natAbs ≤ e * (d * 2 ^ 1014).natAbs
theorem Ap.fin {x : UInt64} {n d : Int} {e : Nat} (h : Ap x n d e) : isFinite x = true := by
  obtain ⟨⟨a, m, f, hd⟩, _⟩ := h
  unfold isFinite
  rw [hd]
theorem Ap.grow {x : UInt64} {n d : Int} {e e' : Nat} (h : Ap x n d e) (he : e ≤ e') : Ap x n d e' := ⟨h.1, Nat.le_trans h.2 (Nat.mul_le_mul_right _ he)⟩
theorem pow1074 : (2 : Int) ^ 1074 = 2 ^ 60 * 2 ^ 1014 := by rw [← Int.pow_add]
theorem natpow1074 : (2 : Nat) ^ 1074 = 2 ^ 60 * 2 ^ 1014 := by rw [← Nat.pow_add]
end
theorem nab_le {z : Int} {n c m : Nat} (h : z.natAbs ≤ n) (hm : n * 2 ^ 60 + c ≤ m) : z.natAbs * 2 ^ 60 + c ≤ m := Nat.le_trans (Nat.add_le_add_right (Nat.mul_le_mul_right _ h) _) hm
theorem nab_sub {p q : Int} (hp : 0 ≤ p ∧ p ≤ 64) (hq : 0 ≤ q ∧ q ≤ 64) : (p - q).natAbs ≤ 64 := by lia
theorem nab_add {a p : Int} (ha : a.natAbs ≤ 256) (hp : 0 ≤ p ∧ p ≤ 64) : (a + p).natAbs ≤ 320 := Nat.le_trans (Int.natAbs_add_le a p) (Nat.add_le_add (b := 256) (d := 64) ha (by lia))
theorem nab_addsub {a p q : Int} (ha : a.natAbs ≤ 256) (hp : 0 ≤ p ∧ p ≤ 64) (hq : 0 ≤ q ∧ q ≤ 64) : (a + p - q).natAbs ≤ 320 := by
  rw [Int.add_sub_assoc]
  exact Nat.le_trans (Int.natAbs_add_le a _) (Nat.add_le_add (b := 256) (d := 64) ha (nab_sub hp hq))
theorem nab_nat {a n : Nat} (h : a ≤ n) : (a : Int).natAbs ≤ n := (Int.natAbs_natCast a).symm ▸ h
theorem nab_diff {a n : Nat} (h : a ≤ n) : ((n : Int) - a).natAbs ≤ n := by
  rw [← Int.ofNat_sub h]
  exact nab_nat (Nat.sub_le _ _)
theorem six_lt {x : Nat} (h : x < 6) : x = 0 ∨ x = 1 ∨ x = 2 ∨ x = 3 ∨ x = 4 ∨ x = 5 := by lia

-- E1
section
open PySem.Float64
theorem sgn_decide (s : Int) : sgn (decide (s < 0)) s.natAbs = s := by
  unfold sgn
  by_cases h : s < 0
  · simp [h]; omega +splitDisjunctions
  · simp [h]; omega +splitDisjunctions
theorem sgn_decide_mul (s : Int) (k : Nat) : sgn (decide (s < 0)) (s.natAbs * k) = s * (k : Int) := by rw [sgn_mul, sgn_decide]
theorem sgn_two (a b : Bool) (m k : Nat) : sgn (a != b) (m * k) = sgn a m * sgn b k := by
  unfold sgn
  cases a <;> cases b <;> simp [Int.neg_mul, Int.mul_neg]
theorem sgn_ofVal {x : UInt64} {a : Bool} {m : Nat} {e : Int} (h : decode x = .fin a m e) : sgn a (val x).natAbs = val x := by rw [val_natAbs h, val_eq h]
theorem tele_sub (a b c : Int) : a - c = a - b + (b - c) := by lia
theorem ap_right {r : UInt64} {neg : Bool} {W D k e1 : Nat} {n d : Int} (R : Right r neg W D) (hD : 0 < D) (hk : k ≤ 900) (h : W ≤ D * (2 ^ k * 2 ^ 1074))
    (he : (sgn neg W * d - n * (2 ^ 60 * 2 ^ 1014) * (D : Int)).natAbs ≤ e1 * (d * 2 ^ 1014).natAbs * D) : Ap r n d (e1 + 2 ^ (k + 6)) := by
  obtain ⟨⟨m, e, hd⟩, h2, _⟩ := right_near R hD hk h
  refine ⟨⟨_, _, _, hd⟩, ?_⟩
  have e3 : 2 ^ (k + 1021) = 2 * 2 ^ (k + 6) * 2 ^ 1014 := by rw [show k + 1021 = 1 + (k + 6) + 1014 by omega +splitDisjunctions, Nat.pow_add, Nat.pow_add, Nat.pow_one]
  rw [e3] at h2
  have e4 : (d * 2 ^ 1014).natAbs = d.natAbs * 2 ^ 1014 := by rw [Int.natAbs_mul, Int.natAbs_pow]; rfl
  rw [e4] at he ⊢
  generalize (2 : Nat) ^ (k + 6) = c at *
  generalize (2 : Int) ^ 60 * 2 ^ 1014 = S at *
  generalize (2 : Nat) ^ 1014 = P at *
  generalize sgn neg W = w at *
  generalize val r = v at *
  apply Nat.le_of_mul_le_mul_left _ hD
  have t0 : (D : Int) * (v * d - n * S) = (v * D - w) * d + (w * d - n * S * D) := by
    rw [Int.mul_sub, Int.sub_mul]
    have u1 : (D : Int) * (v * d) = v * D * d := by ac_rfl
    have u2 : (D : Int) * (n * S) = n * S * D := by ac_rfl
    rw [u1, u2]
    exact tele_sub _ _ _
  have t1 : D * (v * d - n * S).natAbs = ((v * D - w) * d + (w * d - n * S * D)).natAbs := by
    rw [← t0, Int.natAbs_mul, Int.natAbs_natCast]
  rw [t1]
  have t2 := Int.natAbs_add_le ((v * D - w) * d) (w * d - n * S * D)
  rw [Int.natAbs_mul] at t2
  have t3 : (v * D - w).natAbs * d.natAbs ≤ D * (c * P) * d.natAbs := by
    apply Nat.mul_le_mul_right
    have u : D * (2 * c * P) = 2 * (D * (c * P)) := by ac_rfl
    rw [u] at h2
    exact Nat.le_of_mul_le_mul_left h2 (by decide)
  have t4 : D * ((e1 + c) * (d.natAbs * P)) = D * (c * P) * d.natAbs + e1 * (d.natAbs * P) * D := by
    rw [Nat.add_mul, Nat.mul_add]
    have a1 : D * (e1 * (d.natAbs * P)) = e1 * (d.natAbs * P) * D := by ac_rfl
    have a2 : D * (c * (d.natAbs * P)) = D * (c * P) * d.natAbs := by ac_rfl
    rw [a1, a2, Nat.add_comm]
  rw [t4]
  exact Nat.le_trans t2 (Nat.add_le_add t3 he)
theorem ap_frac {a b : Int} {k : Nat} (hb : 0 < b) (hk : k ≤ 900) (h : a.natAbs ≤ 2 ^ k * b.natAbs) : Ap (fdiv a b) a b (2 ^ (k + 6)) := by
  have hneg : (decide (a < 0) != decide (b < 0)) = decide (a < 0) := by rw [decide_eq_false (show ¬ b < 0 by omega +splitDisjunctions)]; simp
  unfold fdiv
  rw [hneg]
  have R : Right (ofFrac (decide (a < 0)) a.natAbs b.natAbs) (decide (a < 0)) (a.natAbs * 2 ^ 1074) b.natAbs := ofFrac_right (by omega +splitDisjunctions) rfl (by omega +splitDisjunctions)
  have := ap_right (e1 := 0) (n := a) (d := b) (k := k) R (by omega +splitDisjunctions) hk (by
    have := Nat.mul_le_mul_right (2 ^ 1074) h
    have e : 2 ^ k * b.natAbs * 2 ^ 1074 = b.natAbs * (2 ^ k * 2 ^ 1074) := by ac_rfl
    omega +splitDisjunctions) (by
    have e : ((2 : Nat) ^ 1074 : Nat) = (((2 : Int) ^ 60 * 2 ^ 1014).natAbs) := by rw [natpow1074, Int.natAbs_mul, Int.natAbs_pow, Int.natAbs_pow]; rfl
    rw [sgn_decide_mul]
    have e2 : (((2 : Nat) ^ 1074 : Nat) : Int) = 2 ^ 60 * 2 ^ 1014 := by rw [Int.natCast_pow]; exact pow1074
    have e3 : ((b.natAbs : Nat) : Int) = b := by omega +splitDisjunctions
    rw [e2, e3]
    have : a * (2 ^ 60 * 2 ^ 1014) * b - a * (2 ^ 60 * 2 ^ 1014) * b = 0 := by omega +splitDisjunctions
    rw [this]
    exact Nat.zero_le _)
  simpa using this
theorem ap_exact {x : UInt64} {p q : Int} (hf : Fini x) (h : val x * q = p * (2 ^ 60 * 2 ^ 1014)) : Ap x p q 0 := ⟨hf, by rw [h, Int.sub_self]; exact Nat.zero_le _⟩
theorem val_ofInt {i : Int} (h : i.natAbs ≤ 2 ^ 53) : Fini (ofInt i) ∧ val (ofInt i) = i * (2 ^ 60 * 2 ^ 1014) := by
  obtain ⟨⟨m, e, hd⟩, hv⟩ := right_exact (ofInt_right i) (by decide) h (K := 1074) (by decide) (by rw [Nat.one_mul])
  refine ⟨⟨_, _, _, hd⟩, ?_⟩
  rw [hv, sgn_decide_mul, Int.natCast_pow]
  exact congrArg (i * ·) pow1074
theorem ap_int {i : Int} (h : i.natAbs ≤ 2 ^ 53) : Ap (ofInt i) i 1 0 := ap_exact (val_ofInt h).1 (by rw [(val_ofInt h).2, Int.mul_one])
theorem val_zero (c : Bool) : Fini (zero c) ∧ val (zero c) = 0 := by
  obtain ⟨m, e, hd, hv⟩ := decode_pack c (t := 0) (by decide)
  refine ⟨⟨_, _, _, hd⟩, ?_⟩
  show val (pack c 0) = 0
  rw [val_pack c (by decide), V_zero]
  unfold sgn
  cases c <;> rfl
theorem add_four (a b c d : Int) : a + b - (c + d) = a - c + (b - d) := by lia
theorem sub_four (a b c d : Int) : a - b - (c - d) = a - c + -(b - d) := by lia
theorem abs_of_ap {s n d : Int} {e k : Nat} (hd : d ≠ 0) (h : (s * d - n * (2 ^ 60 * 2 ^ 1014)).natAbs ≤ e * (d * 2 ^ 1014).natAbs) (hb : n.natAbs * 2 ^ 60 + e * d.natAbs ≤ 2 ^ k * 2 ^ 60 * d.natAbs) : s.natAbs ≤ 2 ^ k * 2 ^ 1074 := by
  have e4 : (d * 2 ^ 1014).natAbs = d.natAbs * 2 ^ 1014 := by rw [Int.natAbs_mul, Int.natAbs_pow]; rfl
  have e5 : (n * (2 ^ 60 * 2 ^ 1014)).natAbs = n.natAbs * (2 ^ 60 * 2 ^ 1014) := by rw [Int.natAbs_mul, Int.natAbs_mul, Int.natAbs_pow, Int.natAbs_pow]; rfl
  rw [e4] at h
  rw [natpow1074]
  have hP : 0 < (2 : Nat) ^ 1014 := Nat.two_pow_pos _
  apply Nat.le_of_mul_le_mul_right _ (Int.natAbs_pos.mpr hd)
  have t := Int.natAbs_add_le (s * d - n * (2 ^ 60 * 2 ^ 1014)) (n * (2 ^ 60 * 2 ^ 1014))
  rw [Int.sub_add_cancel, e5, Int.natAbs_mul] at t
  have t2 := Nat.mul_le_mul_right (2 ^ 1014) hb
  generalize (2 : Nat) ^ 1014 = P at *
  generalize (2 : Nat) ^ 60 = C at *
  generalize (2 : Nat) ^ k = K at *
  have u1 : (n.natAbs * C + e * d.natAbs) * P = n.natAbs * (C * P) + e * (d.natAbs * P) := by rw [Nat.add_mul, Nat.mul_assoc, Nat.mul_assoc]
  have u2 : K * C * d.natAbs * P = K * (C * P) * d.natAbs := by ac_rfl
  rw [← u2]
  refine Nat.le_trans t (Nat.le_trans (Nat.add_le_add_right h _) ?_)
  rw [u1] at t2
  exact Nat.le_trans (Nat.le_of_eq (Nat.add_comm _ _)) t2
theorem ap_sum {s n d : Int} {r : UInt64} {c : Bool} {e k : Nat} (hd : d ≠ 0) (hk : k ≤ 900) (h : (s * d - n * (2 ^ 60 * 2 ^ 1014)).natAbs ≤ e * (d * 2 ^ 1014).natAbs) (hb : n.natAbs * 2 ^ 60 + e * d.natAbs ≤ 2 ^ k * 2 ^ 60 * d.natAbs)
    (R : (s = 0 → r = zero c) ∧ (s ≠ 0 → Right r (decide (s < 0)) s.natAbs 1)) : Ap r n d (e + 2 ^ (k + 6)) := by
  by_cases h0 : s = 0
  · rw [R.1 h0]
    refine Ap.grow ⟨(val_zero c).1, ?_⟩ (Nat.le_add_right _ _)
    rw [(val_zero c).2, ← h0]
    exact h
  · refine ap_right (R.2 h0) (by decide) hk (by rw [Nat.one_mul]; exact abs_of_ap hd h hb) ?_
    rw [sgn_decide, Nat.mul_one, Int.natCast_one, Int.mul_one]
    exact h
theorem ap_add {x y : UInt64} {n n' d : Int} {e f k : Nat} (hx : Ap x n d e) (hy : Ap y n' d f) (hd : d ≠ 0) (hk : k ≤ 900) (hb : (n + n').natAbs * 2 ^ 60 + (e + f) * d.natAbs ≤ 2 ^ k * 2 ^ 60 * d.natAbs) : Ap (add x y) (n + n') d (e + f + 2 ^ (k + 6)) := by
  obtain ⟨⟨a, m, p, hxd⟩, hxv⟩ := hx
  obtain ⟨⟨b, l, q, hyd⟩, hyv⟩ := hy
  refine ap_sum hd hk ?_ hb (add_right hxd hyd)
  have t := Int.natAbs_add_le (val x * d - n * (2 ^ 60 * 2 ^ 1014)) (val y * d - n' * (2 ^ 60 * 2 ^ 1014))
  have : (val x + val y) * d - (n + n') * (2 ^ 60 * 2 ^ 1014) = val x * d - n * (2 ^ 60 * 2 ^ 1014) + (val y * d - n' * (2 ^ 60 * 2 ^ 1014)) := by
    rw [Int.add_mul, Int.add_mul]
    exact add_four _ _ _ _
  rw [this, Nat.add_mul]
  exact Nat.le_trans t (Nat.add_le_add hxv hyv)
theorem ap_sub {x y : UInt64} {n n' d : Int} {e f k : Nat} (hx : Ap x n d e) (hy : Ap y n' d f) (hd : d ≠ 0) (hk : k ≤ 900) (hb : (n - n').natAbs * 2 ^ 60 + (e + f) * d.natAbs ≤ 2 ^ k * 2 ^ 60 * d.natAbs) : Ap (sub x y) (n - n') d (e + f + 2 ^ (k + 6)) := by
  obtain ⟨⟨a, m, p, hxd⟩, hxv⟩ := hx
  obtain ⟨⟨b, l, q, hyd⟩, hyv⟩ := hy
  refine ap_sum hd hk ?_ hb (sub_right hxd hyd)
  have t := Int.natAbs_add_le (val x * d - n * (2 ^ 60 * 2 ^ 1014)) (-(val y * d - n' * (2 ^ 60 * 2 ^ 1014)))
  have : (val x - val y) * d - (n - n') * (2 ^ 60 * 2 ^ 1014) = val x * d - n * (2 ^ 60 * 2 ^ 1014) + -(val y * d - n' * (2 ^ 60 * 2 ^ 1014)) := by
    rw [Int.sub_mul, Int.sub_mul]
    exact sub_four _ _ _ _
  rw [this, Nat.add_mul]
  rw [Int.natAbs_neg] at t
  exact Nat.le_trans t (Nat.add_le_add hxv hyv)
/-- a product with an exact factor p/q -/
theorem ap_mulc {x y : UInt64} {n d p q : Int} {e e1 k : Nat} (hx : Ap x n d e) (hf : Fini y) (hy : val y * q = p * (2 ^ 60 * 2 ^ 1014)) (hd : d ≠ 0) (hq : q ≠ 0) (he : e * p.natAbs ≤ e1 * q.natAbs) (hk : k ≤ 900)
    (hb : (n * p).natAbs * 2 ^ 60 + e1 * (d * q).natAbs ≤ 2 ^ k * 2 ^ 60 * (d * q).natAbs) : Ap (mul x y) (n * p) (d * q) (e1 + 2 ^ (k + 6)) := by
  obtain ⟨⟨a, m, u, hxd⟩, hxv⟩ := hx
  obtain ⟨b, l, v, hyd⟩ := hf
  have hs : sgn (a != b) ((val x).natAbs * (val y).natAbs) = val x * val y := by rw [sgn_two, sgn_ofVal hxd, sgn_ofVal hyd]
  have hdq : d * q ≠ 0 := Int.mul_ne_zero hd hq
  have hS : (0 : Int) < 2 ^ 60 * 2 ^ 1014 := Int.mul_pos (by decide) (Int.pow_pos (by decide))
  have key : (val x * val y * (d * q) - n * p * (2 ^ 60 * 2 ^ 1014) * (2 ^ 60 * 2 ^ 1014)).natAbs ≤ e1 * (d * q * 2 ^ 1014).natAbs * ((2 : Int) ^ 60 * 2 ^ 1014).natAbs := by
    have e2 : val x * val y * (d * q) - n * p * (2 ^ 60 * 2 ^ 1014) * (2 ^ 60 * 2 ^ 1014) = (val x * d - n * (2 ^ 60 * 2 ^ 1014)) * (p * (2 ^ 60 * 2 ^ 1014)) := by
      have : val x * val y * (d * q) = val x * d * (val y * q) := by ac_rfl
      rw [this, hy, Int.sub_mul]
      congr 1
      ac_rfl
    rw [e2, Int.natAbs_mul, Int.natAbs_mul p]
    have t1 := Nat.mul_le_mul_right (p.natAbs * ((2 : Int) ^ 60 * 2 ^ 1014).natAbs) hxv
    have t2 := Nat.mul_le_mul_right ((d * 2 ^ 1014).natAbs * ((2 : Int) ^ 60 * 2 ^ 1014).natAbs) he
    have e3 : (d * q * 2 ^ 1014).natAbs = q.natAbs * (d * 2 ^ 1014).natAbs := by rw [← Int.natAbs_mul]; congr 1; ac_rfl
    rw [e3]
    generalize ((2 : Int) ^ 60 * 2 ^ 1014).natAbs = S at *
    generalize (d * 2 ^ 1014).natAbs = dP at *
    have u1 : e * dP * (p.natAbs * S) = e * p.natAbs * (dP * S) := by ac_rfl
    have u2 : e1 * q.natAbs * (dP * S) = e1 * (q.natAbs * dP) * S := by ac_rfl
    omega +splitDisjunctions
  have hSn : ((2 : Int) ^ 60 * 2 ^ 1014).natAbs = 2 ^ 1074 := by rw [natpow1074, Int.natAbs_mul, Int.natAbs_pow, Int.natAbs_pow]; rfl
  have hSi : (((2 : Nat) ^ 1074 : Nat) : Int) = 2 ^ 60 * 2 ^ 1014 := by rw [Int.natCast_pow]; exact pow1074
  refine ap_right (mul_right hxd hyd) (Nat.two_pow_pos _) hk ?_ ?_
  · rw [← Int.natAbs_mul]
    -- the size
    have t := Int.natAbs_add_le (val x * val y * (d * q) - n * p * (2 ^ 60 * 2 ^ 1014) * (2 ^ 60 * 2 ^ 1014)) (n * p * (2 ^ 60 * 2 ^ 1014) * (2 ^ 60 * 2 ^ 1014))
    rw [Int.sub_add_cancel] at t
    have e5 : (n * p * (2 ^ 60 * 2 ^ 1014) * (2 ^ 60 * 2 ^ 1014)).natAbs = (n * p).natAbs * (2 ^ 60 * 2 ^ 1014) * 2 ^ 1074 := by rw [Int.natAbs_mul, Int.natAbs_mul, hSn, natpow1074]
    have e6 : (d * q * 2 ^ 1014).natAbs = (d * q).natAbs * 2 ^ 1014 := by rw [Int.natAbs_mul (d * q), Int.natAbs_pow]; rfl
    rw [e5] at t
    rw [e6, hSn] at key
    rw [Int.natAbs_mul (val x * val y)] at t
    have t2 := Nat.mul_le_mul_right (2 ^ 1014 * 2 ^ 1074) hb
    apply Nat.le_of_mul_le_mul_right _ (Int.natAbs_pos.mpr hdq)
    generalize (d * q).natAbs = D at *
    generalize (n * p).natAbs = M at *
    generalize (val x * val y).natAbs = Z at *
    have u1 : (M * 2 ^ 60 + e1 * D) * (2 ^ 1014 * 2 ^ 1074) = M * (2 ^ 60 * 2 ^ 1014) * 2 ^ 1074 + e1 * (D * 2 ^ 1014) * 2 ^ 1074 := by rw [Nat.add_mul]; ac_rfl
    have u2 : 2 ^ k * 2 ^ 60 * D * (2 ^ 1014 * 2 ^ 1074) = 2 ^ 1074 * (2 ^ k * (2 ^ 60 * 2 ^ 1014)) * D := by ac_rfl
    rw [← natpow1074] at u2
    rw [← u2]
    refine Nat.le_trans t (Nat.le_trans (Nat.add_le_add_right key _) ?_)
    rw [u1] at t2
    exact Nat.le_trans (Nat.le_of_eq (Nat.add_comm _ _)) t2
  · rw [hs, hSi]
    rw [hSn] at key
    exact key
/-- a quotient by an exact whole number -/
theorem ap_divc {x y : UInt64} {n d p : Int} {e k : Nat} (hx : Ap x n d e) (hf : Fini y) (hy : val y = p * (2 ^ 60 * 2 ^ 1014)) (hd : d ≠ 0) (hp : 0 < p) (hk : k ≤ 900)
    (hb : n.natAbs * 2 ^ 60 + e * d.natAbs ≤ 2 ^ k * 2 ^ 60 * d.natAbs) : Ap (div x y) n (d * p) (e + 2 ^ (k + 6)) := by
  obtain ⟨⟨a, m, u, hxd⟩, hxv⟩ := hx
  obtain ⟨b, l, v, hyd⟩ := hf
  have hS : (0 : Int) < 2 ^ 60 * 2 ^ 1014 := Int.mul_pos (by decide) (Int.pow_pos (by decide))
  have hSn : ((2 : Int) ^ 60 * 2 ^ 1014).natAbs = 2 ^ 1074 := by rw [natpow1074, Int.natAbs_mul, Int.natAbs_pow, Int.natAbs_pow]; rfl
  have hSi : (((2 : Nat) ^ 1074 : Nat) : Int) = 2 ^ 60 * 2 ^ 1014 := by rw [Int.natCast_pow]; exact pow1074
  have hyp : 0 < val y := by rw [hy]; exact Int.mul_pos hp hS
  have hb0 : b = false := by
    cases b
    · rfl
    · exfalso
      rw [val_eq hyd] at hyp
      unfold sgn at hyp
      simp only [if_true] at hyp
      omega +splitDisjunctions
  subst hb0
  have hl : l ≠ 0 := by
    intro h
    rw [val_eq hyd, h] at hyp
    simp [sgn] at hyp
  have hya : (val y).natAbs = p.natAbs * 2 ^ 1074 := by rw [hy, Int.natAbs_mul, hSn]
  have hs : sgn (a != false) ((val x).natAbs * 2 ^ 1074) = val x * (2 ^ 60 * 2 ^ 1014) := by
    rw [sgn_mul, hSi]
    congr 1
    have := sgn_ofVal hxd
    cases a <;> exact this
  refine ap_right (div_right hxd hyd hl) (by omega +splitDisjunctions) hk ?_ ?_
  · have h1 := abs_of_ap hd hxv hb
    have h2 := Nat.mul_le_mul_right (2 ^ 1074) h1
    rw [hya]
    have h3 : 1 * (2 ^ k * 2 ^ 1074 * 2 ^ 1074) ≤ p.natAbs * (2 ^ k * 2 ^ 1074 * 2 ^ 1074) := Nat.mul_le_mul_right _ (Int.natAbs_pos.mpr (Int.ne_of_gt hp))
    have h4 : p.natAbs * 2 ^ 1074 * (2 ^ k * 2 ^ 1074) = p.natAbs * (2 ^ k * 2 ^ 1074 * 2 ^ 1074) := by ac_rfl
    rw [h4]
    exact Nat.le_trans h2 (Nat.le_trans (Nat.le_of_eq (Nat.one_mul _).symm) h3)
  · rw [hs]
    have e1 : (((val y).natAbs : Nat) : Int) = p * (2 ^ 60 * 2 ^ 1014) := by rw [← hy]; exact Int.natAbs_of_nonneg (Int.le_of_lt hyp)
    have e2 : val x * (2 ^ 60 * 2 ^ 1014) * (d * p) - n * (2 ^ 60 * 2 ^ 1014) * (p * (2 ^ 60 * 2 ^ 1014)) = (val x * d - n * (2 ^ 60 * 2 ^ 1014)) * (p * (2 ^ 60 * 2 ^ 1014)) := by
      rw [Int.sub_mul]
      congr 1
      · ac_rfl
    rw [e1, e2, Int.natAbs_mul, ← hy]
    have e3 : (d * p * 2 ^ 1014).natAbs = p.natAbs * (d * 2 ^ 1014).natAbs := by rw [← Int.natAbs_mul]; congr 1; ac_rfl
    rw [e3]
    have t1 := Nat.mul_le_mul_right (val y).natAbs hxv
    have t2 : 1 * (e * (d * 2 ^ 1014).natAbs * (val y).natAbs) ≤ p.natAbs * (e * (d * 2 ^ 1014).natAbs * (val y).natAbs) := Nat.mul_le_mul_right _ (Int.natAbs_pos.mpr (Int.ne_of_gt hp))
    have t3 : e * (p.natAbs * (d * 2 ^ 1014).natAbs) * (val y).natAbs = p.natAbs * (e * (d * 2 ^ 1014).natAbs * (val y).natAbs) := by ac_rfl
    rw [t3]
    exact Nat.le_trans t1 (Nat.le_trans (Nat.le_of_eq (Nat.one_mul _).symm) t2)
end

-- E2
section
open PySem.Float64
theorem floor_false {x : UInt64} {a : Bool} {m : Nat} {e : Int} (h : decode x = .fin a m e) : floorOf false m e = (((val x).natAbs / 2 ^ 1074 : Nat) : Int) := by
  have he := decode_ge h
  rw [val_natAbs h]
  unfold floorOf sgn
  simp only [Bool.false_eq_true, if_false]
  split
  · have e1 : (e + 1074).toNat = e.toNat + 1074 := by omega
    rw [e1, Nat.pow_add, ← Nat.mul_assoc, Nat.mul_div_cancel _ (Nat.two_pow_pos _), Int.natCast_mul, Int.natCast_pow]
    rfl
  · have e1 : 1074 = (-e).toNat + (e + 1074).toNat := by omega
    have e2 : (2 : Nat) ^ 1074 = 2 ^ (-e).toNat * 2 ^ (e + 1074).toNat := by rw [← Nat.pow_add, ← e1]
    rw [e2, Nat.mul_div_mul_right _ _ (Nat.two_pow_pos _), Int.fdiv_eq_ediv_of_nonneg _ (Int.le_of_lt (Int.pow_pos (by decide))), Int.natCast_ediv, Int.natCast_pow]
    rfl
theorem trunc_abs {x : UInt64} {a : Bool} {m : Nat} {e : Int} (h : decode x = .fin a m e) : Flt.toInt truncOf x = sgn a ((val x).natAbs / 2 ^ 1074) := by
  unfold Flt.toInt
  rw [h]
  simp only
  unfold truncOf sgn
  cases a
  · simp only [Bool.false_eq_true, if_false]
    exact floor_false h
  · simp only [if_true]
    unfold ceilOf
    simp only [Bool.not_true]
    rw [floor_false h]
theorem scale_nat : (((2 : Nat) ^ 1074 : Nat) : Int) = 2 ^ 60 * 2 ^ 1014 := by rw [Int.natCast_pow]; exact pow1074
theorem trunc_eq {x : UInt64} {z : Int} (hf : Fini x) (hz : 0 ≤ z) (h1 : z * (2 ^ 60 * 2 ^ 1014) ≤ val x) (h2 : val x < (z + 1) * (2 ^ 60 * 2 ^ 1014)) : Flt.toInt truncOf x = z := by
  obtain ⟨a, m, e, hd⟩ := hf
  rw [trunc_abs hd]
  have hs := sgn_ofVal hd
  rw [← scale_nat] at h1 h2
  have hP : 0 < (2 : Nat) ^ 1074 := Nat.two_pow_pos _
  generalize (2 : Nat) ^ 1074 = S at *
  have h0 : 0 ≤ z * (S : Int) := Int.mul_nonneg hz (by omega)
  have hv : ((val x).natAbs : Int) = val x := by omega
  have hq : (val x).natAbs / S = z.toNat := by
    obtain ⟨n, rfl⟩ := Int.eq_ofNat_of_zero_le hz
    rw [Int.toNat_natCast]
    apply Nat.div_eq_of_lt_le
    · have : ((n * S : Nat) : Int) ≤ ((val x).natAbs : Int) := by rw [Int.natCast_mul]; omega
      omega
    · have : ((val x).natAbs : Int) < (((n + 1) * S : Nat) : Int) := by rw [Int.natCast_mul]; rw [hv]; exact h2
      omega
  rw [hq]
  unfold sgn at *
  cases a
  · simp; omega
  · simp only [if_true] at hs ⊢
    have hv0 : (val x).natAbs = 0 := by omega
    rw [hv0, Nat.zero_div] at hq
    omega
theorem trunc_small {x : UInt64} (hf : Fini x) (h : (val x).natAbs < 2 ^ 1074) : Flt.toInt truncOf x = 0 := by
  obtain ⟨a, m, e, hd⟩ := hf
  rw [trunc_abs hd, Nat.div_eq_of_lt h]
  unfold sgn
  cases a <;> rfl
/-- cut down: n/d lies between z and z + 1, with room -/
theorem ap_trunc {x : UInt64} {n d z : Int} {e : Nat} (hx : Ap x n d e) (hd : 0 < d) (hz : 0 ≤ z) (h1 : z * d * 2 ^ 60 + e * d ≤ n * 2 ^ 60) (h2 : n * 2 ^ 60 + e * d < (z + 1) * d * 2 ^ 60) : Flt.toInt truncOf x = z := by
  obtain ⟨hf, hv⟩ := hx
  have e4 : (((d * 2 ^ 1014).natAbs : Nat) : Int) = d * 2 ^ 1014 := by
    have : 0 < d * 2 ^ 1014 := Int.mul_pos hd (Int.pow_pos (by decide))
    omega
  have hv' : (((val x * d - n * (2 ^ 60 * 2 ^ 1014)).natAbs : Nat) : Int) ≤ e * (d * 2 ^ 1014) := by
    rw [← e4, ← Int.natCast_mul]
    exact Int.ofNat_le.mpr hv
  have hP : (0 : Int) < 2 ^ 1014 := Int.pow_pos (by decide)
  refine trunc_eq hf hz ?_ ?_
  · have t := Int.mul_le_mul_of_nonneg_right h1 (Int.le_of_lt hP)
    generalize (2 : Int) ^ 1014 = P at *
    apply Int.le_of_mul_le_mul_right _ hd
    have u1 : (z * d * 2 ^ 60 + e * d) * P = z * (2 ^ 60 * P) * d + e * (d * P) := by rw [Int.add_mul]; ac_rfl
    have u2 : n * 2 ^ 60 * P = n * (2 ^ 60 * P) := by ac_rfl
    omega
  · have t := Int.mul_lt_mul_of_pos_right h2 hP
    generalize (2 : Int) ^ 1014 = P at *
    apply Int.lt_of_mul_lt_mul_right _ (Int.le_of_lt hd)
    have u1 : (n * 2 ^ 60 + e * d) * P = n * (2 ^ 60 * P) + e * (d * P) := by rw [Int.add_mul]; ac_rfl
    have u2 : (z + 1) * d * 2 ^ 60 * P = (z + 1) * (2 ^ 60 * P) * d := by ac_rfl
    omega
theorem Ap.scale {x : UInt64} {n d : Int} {e : Nat} (h : Ap x n d e) (c : Int) : Ap x (n * c) (d * c) e := by
  refine ⟨h.1, ?_⟩
  have t := Nat.mul_le_mul_right c.natAbs h.2
  have e1 : val x * (d * c) - n * c * (2 ^ 60 * 2 ^ 1014) = (val x * d - n * (2 ^ 60 * 2 ^ 1014)) * c := by rw [Int.sub_mul]; congr 1 <;> ac_rfl
  have e2 : d * c * 2 ^ 1014 = d * 2 ^ 1014 * c := by ac_rfl
  rw [e1, e2, Int.natAbs_mul, Int.natAbs_mul, ← Nat.mul_assoc]
  exact t
theorem Ap.cut {x : UInt64} {n d : Int} {e : Nat} (c : Int) (h : Ap x (n * c) (d * c) e) (hc : c ≠ 0) : Ap x n d e := by
  refine ⟨h.1, ?_⟩
  have t := h.2
  have e1 : val x * (d * c) - n * c * (2 ^ 60 * 2 ^ 1014) = (val x * d - n * (2 ^ 60 * 2 ^ 1014)) * c := by rw [Int.sub_mul]; congr 1 <;> ac_rfl
  have e2 : d * c * 2 ^ 1014 = d * 2 ^ 1014 * c := by ac_rfl
  rw [e1, e2, Int.natAbs_mul, Int.natAbs_mul, ← Nat.mul_assoc] at t
  exact Nat.le_of_mul_le_mul_right t (by omega)
theorem mul_swap {x y : UInt64} (hx : Fini x) (hy : Fini y) : mul x y = mul y x := by
  obtain ⟨a, m, e, h1⟩ := hx
  obtain ⟨b, k, f, h2⟩ := hy
  unfold mul
  rw [h1, h2]
  simp only
  rw [Nat.mul_comm, Int.add_comm]
  cases a <;> cases b <;> rfl
theorem one_int : (4607182418800017408 : UInt64) = ofInt 1 := by decide +kernel
theorem six_int : (4618441417868443648 : UInt64) = ofInt 6 := by decide +kernel
theorem two_int : (4611686018427387904 : UInt64) = ofInt 2 := by decide +kernel
theorem four_int : (4616189618054758400 : UInt64) = ofInt 4 := by decide +kernel
theorem zero_int : (0 : UInt64) = ofInt 0 := by decide +kernel
theorem frac_exact {p : Int} {j : Nat} (h0 : 0 ≤ p) (h : p ≤ 2 ^ 53) (hj : j ≤ 60) : Fini (fdiv p (2 ^ j)) ∧ val (fdiv p (2 ^ j)) * 2 ^ j = p * (2 ^ 60 * 2 ^ 1014) := by
  have hjp : (0 : Int) < 2 ^ j := Int.pow_pos (by decide)
  have hneg : (decide (p < 0) != decide ((2 : Int) ^ j < 0)) = false := by rw [decide_eq_false (show ¬ (2 : Int) ^ j < 0 by omega), decide_eq_false (show ¬ p < 0 by omega)]; rfl
  have hja : ((2 : Int) ^ j).natAbs = 2 ^ j := by rw [Int.natAbs_pow]; rfl
  unfold fdiv
  rw [hneg, hja]
  have R : Right (ofFrac false p.natAbs (2 ^ j)) false (p.natAbs * 2 ^ 1074) (2 ^ j) := ofFrac_right (Nat.two_pow_pos _) rfl (Nat.two_pow_pos _)
  have e1 : (2 : Nat) ^ 1074 = 2 ^ j * 2 ^ (1074 - j) := by rw [← Nat.pow_add]; congr 1; omega
  obtain ⟨⟨m, e, hd⟩, hv⟩ := right_exact R (Nat.two_pow_pos _) (q := p.natAbs) (K := 1074 - j) (by omega) (by omega) (by rw [e1]; ac_rfl)
  refine ⟨⟨_, _, _, hd⟩, ?_⟩
  rw [hv, ← scale_nat, e1]
  unfold sgn
  simp only [Bool.false_eq_true, if_false]
  rw [Int.natCast_mul, Int.natCast_mul, Int.natCast_pow 2 j, Int.mul_assoc]
  have : ((p.natAbs : Nat) : Int) = p := by omega
  rw [this, Int.mul_comm (((2 ^ (1074 - j) : Nat) : Int))]
  rfl
theorem half_ap : Ap half 1 2 0 := by
  have := frac_exact (p := 1) (j := 1) (by decide) (by decide) (by decide)
  exact ap_exact this.1 this.2
/-- rounded to the nearest whole number -/
theorem whole_ap {x : UInt64} {z : Int} {e : Nat} (hx : Ap x z 1 e) (h0 : 0 ≤ z) (h1 : z ≤ 2 ^ 40) (he : e ≤ 2 ^ 55) : isFinite (add x half) = true ∧ Flt.toInt truncOf (add x half) = z := by
  have h2 : Ap x (z * 2) 2 e := by simpa using hx.scale 2
  have h3 := ap_add (k := 41) h2 half_ap (by decide) (by decide) (by show (z * 2 + 1).natAbs * 2 ^ 60 + (e + 0) * 2 ≤ 2 ^ 41 * 2 ^ 60 * 2; omega)
  exact ⟨h3.fin, ap_trunc h3 (by decide) h0 (by omega) (by omega)⟩
end

-- G13
/-- the stays -/
noncomputable def stayL : List Int := [1, 2, 3, 6]
/-- the terms of one class, over the first k stays -/
noncomputable def clsL (hs : List Int) (p k : Nat) : List Int := ((stayL.take k).filter fun s => decide ((p : Int).fmod s = 0)).map fun s => hs.getD s.toNat 0 * s
noncomputable def clsZ (hs : List Int) (p : Nat) : Int := (clsL hs p 4).sum.fdiv 6
theorem clsL_succ (hs : List Int) (p k : Nat) {s : Int} (h : stayL[k]? = some s) : clsL hs p (k + 1) = clsL hs p k ++ (if (p : Int).fmod s = 0 then [hs.getD s.toNat 0 * s] else []) := by
  unfold clsL
  rw [List.take_add_one, h, List.filter_append, List.map_append]
  congr 1
  by_cases e : (p : Int).fmod s = 0 <;> simp [e]
theorem clsL_len (hs : List Int) (p k : Nat) : (clsL hs p k).length ≤ 4 := by
  unfold clsL
  rw [List.length_map]
  refine Nat.le_trans (List.length_filter_le _ _) ?_
  rw [List.length_take]
  show min k 4 ≤ 4
  omega
theorem stay_mem {k : Nat} {s : Int} (h : stayL[k]? = some s) : s = 1 ∨ s = 2 ∨ s = 3 ∨ s = 6 := by
  have := List.mem_of_getElem? h
  simpa [stayL] using this

-- G14
/-- an enumerate over the iterator it -/
noncomputable def enumO (it : Addr) (i : Int) (old : Value) : Obj := { cls := .type "enumerate", dict := none, data := .fields #[.none, .bool false, .ref it, rawInt i, .none, old], slots := #[] }
section
variable {prog : Program} {w : World} {A : Around} {E : Value → Shared → Prop} {s : Shared} {h₀ : Heap} {L : Addr} {m : Str → Option Value} {env : Env}
theorem fr_two {h h₂ : Heap} {e it : Addr} {oe oit oe' oit' : Obj} {led : Led} (F : Fr h₀ L h m) (N : News h₀ L h ((e, oe) :: (it, oit) :: led)) (he : h₂.get? e = some oe') (hi : h₂.get? it = some oit') (off : ∀ p ∈ led, p.1 ≠ e ∧ p.1 ≠ it)
    (hk : ∀ b ob, b ≠ e → b ≠ it → h.get? b = some ob → h₂.get? b = some ob) : Fr h₀ L h₂ m ∧ News h₀ L h₂ ((e, oe') :: (it, oit') :: led) := by
  have z := N (e, oe) (.head _)
  have y := N (it, oit) (.tail _ (.head _))
  refine ⟨⟨F.ns.at' fun o q => hk _ o (Ne.symm z.2.1) (Ne.symm y.2.1) q, fun b o q => hk b o (fun r => ?_) (fun r => ?_) (F.keep b o q), F.above⟩, fun p hp => ?_⟩
  · have := z.2.2; rw [← r, q] at this; cases this
  · have := y.2.2; rw [← r, q] at this; cases this
  · rcases List.mem_cons.mp hp with rfl | hp
    · exact ⟨he, z.2⟩
    · rcases List.mem_cons.mp hp with rfl | hp
      · exact ⟨hi, y.2⟩
      · have q := N p (.tail _ (.tail _ hp))
        exact ⟨hk _ _ (off p hp).1 (off p hp).2 q.1, q.2⟩
theorem perm5 {h : Heap} {a b c d : Addr × Obj} {r : Led} (N : News h₀ L h (a :: b :: c :: d :: r)) : News h₀ L h (a :: d :: b :: c :: r) := news_sub N fun p hp => by
  simp only [List.mem_cons] at hp ⊢
  rcases hp with e | e | e | e | e <;> simp [e]
theorem perm5' {h : Heap} {a b c d : Addr × Obj} {r : Led} (N : News h₀ L h (a :: d :: b :: c :: r)) : News h₀ L h (a :: b :: c :: d :: r) := news_sub N fun p hp => by
  simp only [List.mem_cons] at hp ⊢
  rcases hp with e | e | e | e | e <;> simp [e]
theorem compNext {elt : PySem.Expr} {gens : List Comprehension} {scope : Scope} {pos : Pos} {d : Nat} {I : Addr} {acc : Value} {cenv : Env} {tail : Value → Sem Fin} {p0 : Pos} {Q : Fin → Shared → Prop}
    (hT : compTurn (.ListComp elt gens scope pos) d (.ref I) acc cenv = (do
      standAt p0
      match ← pyNext (.ref I) with
      | none => pure (.done .next)
      | some v => tail v))
    (h : wpAny (model prog w) A (pyNext (.ref I)) (fun v s₁ => match v with | none => Q (.done .next) s₁ | some v => wpAny (model prog w) A (tail v) Q E s₁) E s) :
    wpAny (model prog w) A (compTurn (.ListComp elt gens scope pos) d (.ref I) acc cenv) Q E s := by
  rw [hT]
  refine wpAny_bind (wpAny_standAt (wpAny_bind (wpAny_mono h (fun v s₁ hv => ?_) fun _ _ q => q)))
  cases v with
  | none => exact wpAny_pure hv
  | some v => exact hv
theorem compRunE {elt iter : PySem.Expr} {scope : Scope} {cl : List (Str × Addr)} {pos px py tp : Pos} {x1} {x y : Str} {e it l : Addr} {oit : Obj} {rest : Led} {RR : Value → Addr → Result → Shared → Prop} {vs : List Value} {nl : Nat}
    (hcf : ∀ n, cellsFrom n scope.names cl = cl) (hpc : ∀ h, pushCells h scope.names = h) (hh : A.handled = none) (hk : scope.kind = .function) (hx : scope.names.lookup x = some .local) (hy : scope.names.lookup y = some .local)
    (J : Led → Nat → Nat → Led → List Value → Prop) (hst : StList l 0 oit) (F : Fr h₀ L s.heap m) (N : News h₀ L s.heap ((e, enumO it 0 .none) :: (it, oit) :: rest)) (off : ∀ p ∈ (it, oit) :: rest, p.1 ≠ e) (off2 : ∀ p ∈ rest, p.1 ≠ it) (hj : J rest 0 s.toks rest [])
    (hl : ∀ i a led ys, J rest i a led ys → (l, lstO vs nl) ∈ led)
    (hlen : ∀ i a led ys, J rest i a led ys → ys.length ≤ 1000000)
    (turn : ∀ C D i v t oe oi oC (m₂ : Str → Option Value) led ys h a tk E', Off e C D ((it, oi) :: led) → vs[i]? = some v → a ≤ t → t < tk → J rest i a led ys → NsO oC (fun z => if z = y then some v else if z = x then some (.int (i : Int) t) else m₂ z) → Fr h₀ L h m → News h₀ L h ((e, oe) :: (C, oC) :: (D, lst ys) :: (it, oi) :: led) →
      wpAny (model prog w) A (eval elt (compEnvC scope cl C env)) (fun y s₄ => TurnEnd h₀ L m s ((e, oe) :: (C, oC) :: (D, lst ys) :: (it, oi) :: led) tk (fun tk' objs => J rest (i + 1) tk' (objs ++ led) (ys ++ [y])) s₄) E' { s with heap := h, toks := tk })
    (done : ∀ C D oC m₂ oi led ys h a tk, a ≤ tk → J rest vs.length a led ys → NsO oC m₂ → Fr h₀ L h m → News h₀ L h ((C, oC) :: (D, lst ys) :: led) → Off e C D ((it, oi) :: led) → RR (.ref D) C (.ok .next) { s with heap := h, toks := tk }) :
    CompIn prog w A E elt (.Tuple [.Name x px, .Name y py] x1 tp) iter [] [] scope cl pos env RR (.ref e) s := by
  unfold CompIn
  refine compInit0 hcf hpc F N off (fun s' Q E e' hk' N' hq => wpAny_pyIter_enum (by exact e') hq) fun D C oC h hC F' N' hO => ?_
  refine codeAny_loop rfl (fun k s' => ∃ h tk i oi oC m₂ ys r old, s' = { s with heap := h, toks := tk } ∧ i ≤ vs.length ∧ k = vs.length + 1 - i ∧ StList l i oi ∧ Fr h₀ L h m ∧ News h₀ L h ((e, enumO it (i : Int) old) :: (C, oC) :: (D, lst ys) :: (it, oi) :: r) ∧ NsO oC m₂ ∧ Off e C D ((it, oi) :: r) ∧ (∀ p ∈ r, p.1 ≠ it) ∧ J rest i tk r ys) ?_ (vs.length + 1)
    ⟨h, s.toks, 0, oit, oC, _, [], rest, .none, rfl, Nat.zero_le _, rfl, hst, F', N', hC, hO, off2, hj⟩
  intro k s' hz164
  apply el_EEEEEEEEERARAAAAAAA hz164
  clear hz164
  intro h tk i oi oC m₂ ys r old hi hst F N hC hO hri hj
  show wpAny _ A ((compTurn (.ListComp elt [⟨.Tuple [.Name x px, .Name y py] x1 tp, iter, [], 0⟩] scope pos) 0 (.ref e) (.ref D) (compEnvC scope cl C env)).onRaise (fun x => do noteFrame x (compEnvC scope cl C env); theTreesLotGoes x)) _ _ _
  refine wpAny_noted ?_
  refine compNext (p0 := _) (by exact rfl) ?_
  have he : IsEnum h e it (i : Int) old := (N _ (.head _)).1
  have hie : it ≠ e := (hO.r _ (.head _)).1
  have hit : h.IsListIter it l i := ⟨oi, (N _ (.tail _ (.tail _ (.tail _ (.head _))))).1, hst⟩
  have hli : h.IsList l vs.toArray := ⟨_, (N _ (.tail _ (.tail _ (.tail _ (.tail _ (hl _ _ _ _ hj)))))).1, rfl, _, rfl⟩
  by_cases hlt : i < vs.length
  · obtain ⟨v, hv⟩ : ∃ v, vs[i]? = some v := ⟨_, List.getElem?_eq_getElem hlt⟩
    refine wpAny_pyNext_enum_item (s := { s with heap := h, toks := tk }) he hit hli (by simpa using hv) (Ne.symm hie) fun h₁ he₁ hit₁ hT₁ _ hk₁ => ?_
    obtain ⟨oi', hoi', hst'⟩ := hit₁
    dsimp only
    have offs : ∀ p ∈ (C, oC) :: (D, lst ys) :: r, p.1 ≠ e ∧ p.1 ≠ it := fun p hp => by
      rcases List.mem_cons.mp hp with rfl | hp
      · exact ⟨hO.ic.symm, Ne.symm (hO.r _ (.head _)).2.1⟩
      · rcases List.mem_cons.mp hp with rfl | hp
        · exact ⟨hO.id.symm, Ne.symm (hO.r _ (.head _)).2.2⟩
        · exact ⟨(hO.r _ (.tail _ hp)).1, hri p hp⟩
    refine wpAny_mono (turn1 ?_) (fun fin s' q => by obtain ⟨rfl, q⟩ := q; exact ⟨rfl, q⟩) (fun _ _ q => q)
    refine wpAny_letOwnedTupleGo_enum he₁ fun h₂ he₂ hs₂ => ?_
    have hel : e < h.objs.size := Heap.lt_size he
    have hT₂ : h₂.get? h.objs.size = some { cls := .type "tuple", data := .seq #[.int (i : Int) tk, v] } := (hs₂.2 _ (Nat.ne_of_gt hel)).trans hT₁
    obtain ⟨F₂, N₂⟩ := fr_two F (perm5 N) (he := he₂) (hi := (hs₂.2 _ hie).trans hoi') offs fun b ob hb hb2 q => (hs₂.2 b hb).trans (hk₁ b ob hb hb2 q)
    have N₃ := perm5' N₂
    have hO₂ : Off e C D ((it, oi') :: r) := ⟨hO.ic, hO.id, hO.cd, fun p hp => by
      rcases List.mem_cons.mp hp with rfl | hp
      · exact hO.r (it, oi) (.head _)
      · exact hO.r p (.tail _ hp)⟩
    refine assign_Tuple_tuple hh (items := #[.int (i : Int) tk, v]) ⟨_, hT₂, rfl, _, rfl⟩ rfl rfl fun h₅ hk₅ => ?_
    have hk₅' : ∀ b o, b ≠ h.objs.size → h₂.get? b = some o → h₅.get? b = some o := fun b o hb q => hk₅ b o (by first | exact hb | exact Nat.ne_of_lt (Heap.lt_size q)) q
    have hns : ∀ p ∈ (e, enumO it ((i : Int) + 1) v) :: (C, oC) :: (D, lst ys) :: (it, oi') :: r, p.1 ≠ h.objs.size := fun p hp => by
      have : p.1 < h.objs.size := by
        simp only [List.mem_cons] at hp
        rcases hp with rfl | rfl | rfl | rfl | hp
        · exact hel
        · exact Heap.lt_size (N (C, oC) (.tail _ (.head _))).1
        · exact Heap.lt_size (N (D, lst ys) (.tail _ (.tail _ (.head _)))).1
        · exact Heap.lt_size (N (it, oi) (.tail _ (.tail _ (.tail _ (.head _))))).1
        · exact Heap.lt_size (N p (.tail _ (.tail _ (.tail _ (.tail _ hp))))).1
      exact Nat.ne_of_lt this
    have N₅ : News h₀ L h₅ ((e, enumO it ((i : Int) + 1) v) :: (C, oC) :: (D, lst ys) :: (it, oi') :: r) := fun p hp => ⟨hk₅' _ _ (hns p hp) (N₃ p hp).1, (N₃ p hp).2⟩
    have F₅ : Fr h₀ L h₅ m := ⟨F₂.ns.at' fun o q => hk₅' _ o (Nat.ne_of_lt F.ns.lt) q, fun b o q => hk₅' b o (Nat.ne_of_lt (Heap.lt_size (F.keep b o q))) (F₂.keep b o q), F₂.above⟩
    refine assignInOrder_cons (store_C (s := { s with heap := h₅, toks := tk + 1 }) F₅ N₅ hO₂ hC hk hx fun h6 oC6 hC6 F6 N6 => ?_)
    refine assignInOrder_cons (store_C (s := { s with heap := h6, toks := tk + 1 + 1 }) F6 N6 hO₂ hC6 hk hy fun h7 oC7 hC7 F7 N7 => ?_)
    refine assignInOrder_nil ?_
    dsimp only
    refine tests_nil ?_
    simp only [if_true]
    refine wpAny_with_toks (n := tk + 1 + 1 + 1) (Nat.le_refl _) (wpAny_mono (turn C D i v tk _ oi' oC7 m₂ r ys h7 tk (tk + 1 + 1 + 1) _ hO₂ hv (Nat.le_refl _) (by omega) hj hC7 F7 N7) (fun y s₄ h₄ ht₄ => ?_) fun _ _ q _ => q)
    revert ht₄
    apply el_EEERAAAA h₄
    clear h₄
    intro h₄ tk₄ objs F₄ N₄ fr hj₄
    intro ht₄
    have jj := hj₄ ht₄
    have hO₄ := off_more hO₂ fr
    refine append_D (s := { s with heap := h₄, toks := tk₄ }) (oI := enumO it ((i : Int) + 1) v) (oC := oC7) (ys := ys) (rest := objs ++ (it, oi') :: r) F₄ (news_sub N₄ fun p hp => ?_) hO₄ (by have := hlen _ _ _ _ hj; rw [sizeLine_eq]; omega) fun h₈ F₈ N₈ => ?_
    · simp only [List.mem_cons, List.mem_append] at hp ⊢
      rcases hp with q | q | q | q | q | q <;> simp [q]
    · refine ⟨vs.length + 1 - (i + 1), by omega, h₈, tk₄, i + 1, oi', oC7, _, ys ++ [y], objs ++ r, v, rfl, hlt, rfl, hst', F₈, news_sub N₈ fun p hp => ?_, hC7, ⟨hO.ic, hO.id, hO.cd, fun p hp => hO₄.r p ?_⟩, fun p hp => ?_, jj⟩
      · simp only [List.mem_cons, List.mem_append] at hp ⊢
        rcases hp with q | q | q | q | q | q <;> simp [q]
      · simp only [List.mem_cons, List.mem_append] at hp ⊢
        rcases hp with q | q | q <;> simp [q]
      · rcases List.mem_append.mp hp with q | q
        · exact (fr p q _ (.tail _ (.tail _ (.tail _ (.head _))))).symm
        · exact hri p q
  · obtain rfl : i = vs.length := Nat.le_antisymm hi (Nat.not_lt.mp hlt)
    refine wpAny_pyNext_enum_end hh he hit hli (by simp) fun h₁ hk₁ => ?_
    have y := N (it, oi) (.tail _ (.tail _ (.tail _ (.head _))))
    have F₁ : Fr h₀ L h₁ m := ⟨F.ns.at' fun o q => hk₁ _ o (Ne.symm y.2.1) q, fun b o q => hk₁ b o (fun z => by have := y.2.2; rw [← z, q] at this; cases this) (F.keep b o q), F.above⟩
    refine (done C D oC m₂ oi r ys h₁ tk tk (Nat.le_refl _) hj hC F₁ (fun p hp => ?_) hO)
    have hp' : p ∈ (e, enumO it ((vs.length : Nat) : Int) old) :: (C, oC) :: (D, lst ys) :: (it, oi) :: r := by
      simp only [List.mem_cons] at hp ⊢
      rcases hp with q | q | q <;> simp [q]
    have hpi : p.1 ≠ it := by
      simp only [List.mem_cons] at hp
      rcases hp with rfl | rfl | hp
      · exact Ne.symm (hO.r _ (.head _)).2.1
      · exact Ne.symm (hO.r _ (.head _)).2.2
      · exact hri p hp
    exact ⟨hk₁ _ _ hpi (N p hp').1, (N p hp').2⟩
end
section
variable {prog : Program} {w : World} {A : Around} {E : Value → Shared → Prop} {s : Shared} {h₀ : Heap} {L : Addr} {m : Str → Option Value} {news : Led}
theorem enumN {l : Addr} {vs : List Value} {n : Nat} {Q : Value → Shared → Prop} (F : Fr h₀ L s.heap m) (N : News h₀ L s.heap news) (hm : (l, lstO vs n) ∈ news)
    (k : ∀ e it oit h', Fr h₀ L h' m → News h₀ L h' ((e, enumO it 0 .none) :: (it, oit) :: news) → StList l 0 oit → (∀ p ∈ (it, oit) :: news, p.1 ≠ e) → (∀ p ∈ news, p.1 ≠ it) → Q (.ref e) { s with heap := h' }) :
    wpAny (model prog w) A (call (.type "enumerate") [.ref l]) Q E s := by
  refine call_enumerate_list (items := vs.toArray) ⟨_, (N _ hm).1, rfl, _, rfl⟩ fun h' he hit hz hk => ?_
  obtain ⟨oit, ho, hst⟩ := hit
  have hn : ∀ a, s.heap.objs.size ≤ a → a ≠ L ∧ h₀.get? a = none := fun a ha => by
    refine ⟨fun e => ?_, ?_⟩
    · have := F.ns.lt
      rw [e] at ha
      exact absurd this (Nat.not_lt.mpr ha)
    · cases q : h₀.get? a with
      | none => rfl
      | some o => exact absurd (Heap.lt_size (F.keep a o q)) (Nat.not_lt.mpr ha)
  refine k _ _ oit h' ⟨F.ns.at' fun o q => hk _ o q, fun b o q => hk b o (F.keep b o q), F.above⟩ (fun p hp => ?_) hst (fun p hp => ?_) (fun p hp => Nat.ne_of_lt (Heap.lt_size (N p hp).1))
  · rcases List.mem_cons.mp hp with rfl | hp
    · exact ⟨he, hn _ (Nat.le_succ _)⟩
    · rcases List.mem_cons.mp hp with rfl | hp
      · exact ⟨ho, hn _ (Nat.le_refl _)⟩
      · exact ⟨hk _ _ (N p hp).1, (N p hp).2⟩
  · rcases List.mem_cons.mp hp with rfl | hp
    · exact Nat.ne_of_lt (Nat.lt_succ_self _)
    · exact Nat.ne_of_lt (Nat.lt_succ_of_lt (Heap.lt_size (N p hp).1))
theorem pyIter_enumN {e it : Addr} {i : Int} {old : Value} {r : Led} {Q : Value → Shared → Prop} (N : News h₀ L s.heap ((e, enumO it i old) :: r)) (h : Q (.ref e) s) : wpAny (model prog w) A (pyIter (.ref e)) Q E s :=
  wpAny_pyIter_enum (N _ (.head _)).1 h
end

-- E3
section
open PySem.Float64
/-- the corners of the hexagon: how far each part lies below the value, in whole steps -/
noncomputable def pK (k e : Nat) : Int := (([[0, 0, 1, 1, 1, 0], [1, 0, 0, 0, 1, 1], [1, 1, 1, 0, 0, 0]] : List (List Int)).getD k []).getD (e % 6) 0
/-- how far below, at r 64ths from corner e to the next one -/
noncomputable def rho (k e : Nat) (r : Int) : Int := (64 - r) * pK k e + r * pK k (e + 1)
theorem pK_mod (k e : Nat) : pK k (e % 6) = pK k e := by unfold pK; rw [Nat.mod_mod]
theorem pK_01 (k e : Nat) : pK k e = 0 ∨ pK k e = 1 := by
  rw [← pK_mod]
  have h : e % 6 < 6 := Nat.mod_lt _ (by decide)
  generalize e % 6 = x at h
  have t : ∀ k < 3, ∀ x < 6, pK k x = 0 ∨ pK k x = 1 := by decide
  by_cases hk : k < 3
  · exact t k hk x h
  · obtain ⟨j, rfl⟩ := Nat.exists_eq_add_of_le (Nat.le_of_not_lt hk)
    rw [Nat.add_comm]
    exact .inl rfl
theorem rho_next (k e : Nat) : rho k e 64 = rho k (e + 1) 0 := by unfold rho; omega
theorem rho_mod (k e : Nat) (r : Int) : rho k (e % 6) r = rho k e r := by
  unfold rho
  rw [pK_mod, ← pK_mod k (e % 6 + 1), Nat.mod_add_mod, pK_mod]
theorem rho_vals {e : Nat} (he : e < 6) (r : Int) :
    (e = 0 ∧ rho 0 e r = 0 ∧ rho 1 e r = 64 - r ∧ rho 2 e r = 64) ∨ (e = 1 ∧ rho 0 e r = r ∧ rho 1 e r = 0 ∧ rho 2 e r = 64) ∨ (e = 2 ∧ rho 0 e r = 64 ∧ rho 1 e r = 0 ∧ rho 2 e r = 64 - r) ∨
    (e = 3 ∧ rho 0 e r = 64 ∧ rho 1 e r = r ∧ rho 2 e r = 0) ∨ (e = 4 ∧ rho 0 e r = 64 - r ∧ rho 1 e r = 64 ∧ rho 2 e r = 0) ∨ (e = 5 ∧ rho 0 e r = 0 ∧ rho 1 e r = 64 ∧ rho 2 e r = r) := by
  have z0 : (64 - r) * 0 + r * 0 = 0 := by rw [Int.mul_zero, Int.mul_zero]; rfl
  have z1 : (64 - r) * 0 + r * 1 = r := by rw [Int.mul_zero, Int.mul_one, Int.zero_add]
  have z2 : (64 - r) * 1 + r * 0 = 64 - r := by rw [Int.mul_zero, Int.mul_one, Int.add_zero]
  have z3 : (64 - r) * 1 + r * 1 = 64 := by rw [Int.mul_one, Int.mul_one, Int.sub_add_cancel]
  rcases six_lt he with rfl | rfl | rfl | rfl | rfl | rfl
  · exact .inl ⟨rfl, z0, z2, z3⟩
  · exact .inr (.inl ⟨rfl, z1, z0, z3⟩)
  · exact .inr (.inr (.inl ⟨rfl, z3, z0, z2⟩))
  · exact .inr (.inr (.inr (.inl ⟨rfl, z3, z1, z0⟩)))
  · exact .inr (.inr (.inr (.inr (.inl ⟨rfl, z2, z3, z0⟩))))
  · exact .inr (.inr (.inr (.inr (.inr ⟨rfl, z0, z3, z1⟩))))
theorem rho_range (k e : Nat) {r : Int} (h0 : 0 ≤ r) (h1 : r ≤ 64) : 0 ≤ rho k e r ∧ rho k e r ≤ 64 := by
  unfold rho
  rcases pK_01 k e with h | h <;> rcases pK_01 k (e + 1) with h' | h' <;> rw [h, h'] <;> omega
theorem mulc_left {x y : UInt64} {n d p q : Int} {e e1 k : Nat} (hf : Fini x) (hxv : val x * q = p * (2 ^ 60 * 2 ^ 1014)) (hy : Ap y n d e) (hd : d ≠ 0) (hq : q ≠ 0) (he : e * p.natAbs ≤ e1 * q.natAbs) (hk : k ≤ 900)
    (hb : (n * p).natAbs * 2 ^ 60 + e1 * (d * q).natAbs ≤ 2 ^ k * 2 ^ 60 * (d * q).natAbs) : Ap (mul x y) (n * p) (d * q) (e1 + 2 ^ (k + 6)) := by
  rw [mul_swap hf hy.1]
  exact ap_mulc hy hf hxv hd hq he hk hb
theorem sixth_ap {b i t : Nat} (hb : b < 384) (hi : i < 6) (ht : t < 4) : Ap (hsvX (sixthX b t i)) ((b : Int) + 64 * i + 384 * t) 64 8704 := by
  unfold hsvX sixthX
  have a1 : Ap (fdiv b 384) b 384 64 := ap_frac (k := 0) (by decide) (by decide) (nab_nat (n := 384) (Nat.le_of_lt hb))
  have a2 : Ap (fdiv i 6) (i * 64) 384 64 := (ap_frac (a := i) (b := 6) (k := 0) (by decide) (by decide) (nab_nat (n := 6) (Nat.le_of_lt hi))).scale 64
  have a3 := ap_add (k := 1) a1 a2 (by decide) (by decide) (by show ((b : Int) + (i : Int) * 64).natAbs * 2 ^ 60 + (64 + 64) * 384 ≤ 2 ^ 1 * 2 ^ 60 * 384; omega)
  have a4 : Ap (ofInt t) (t * 384) 384 0 := by simpa using (ap_int (i := (t : Int)) (by omega)).scale 384
  have a5 := ap_add (k := 3) a3 a4 (by decide) (by decide) (by show ((b : Int) + (i : Int) * 64 + (t : Int) * 384).natAbs * 2 ^ 60 + (64 + 64 + 2 ^ (1 + 6) + 0) * 384 ≤ 2 ^ 3 * 2 ^ 60 * 384; omega)
  have v6 := val_ofInt (i := 6) (by decide)
  rw [← six_int] at v6
  have a6 := ap_mulc (k := 6) (p := 6) (q := 1) (e1 := 4608) a5 v6.1 (by rw [v6.2, Int.mul_one]) (by decide) (by decide) (by decide) (by decide)
    (by show (((b : Int) + (i : Int) * 64 + (t : Int) * 384) * 6).natAbs * 2 ^ 60 + 4608 * 384 ≤ 2 ^ 6 * 2 ^ 60 * 384; omega)
  refine Ap.cut (c := 6) ?_ (by decide)
  have e1 : ((b : Int) + (i : Int) * 64 + (t : Int) * 384) * 6 = ((b : Int) + 64 * i + 384 * t) * 6 := by omega
  rw [e1] at a6
  exact a6
/-- the sector and the part within it -/
theorem sector {x : UInt64} {N : Nat} (h : Ap (hsvX x) (N : Int) 64 8704) (hN : N ≤ 2000) : ∃ s g : Nat, hsvI x = (s : Int) ∧ s ≤ 32 ∧ g ≤ 64 ∧ 64 * s + g = N ∧ Ap (hsvF x) (g : Int) 64 8832 := by
  have key : ∀ s g : Nat, hsvI x = (s : Int) → s ≤ 32 → g ≤ 64 → 64 * s + g = N → Ap (hsvF x) (g : Int) 64 8832 := by
    intro s g hs h1 h2 h3
    have a2 : Ap (ofInt (hsvI x)) ((s : Int) * 64) 64 0 := by rw [hs]; simpa using (ap_int (i := (s : Int)) (by omega)).scale 64
    have a3 := ap_sub (k := 1) h a2 (by decide) (by decide) (by show ((N : Int) - (s : Int) * 64).natAbs * 2 ^ 60 + (8704 + 0) * 64 ≤ 2 ^ 1 * 2 ^ 60 * 64; omega)
    have e1 : (N : Int) - (s : Int) * 64 = (g : Int) := by omega
    rw [e1] at a3
    exact a3
  have hv := h.2
  have hP : (0 : Int) < 2 ^ 1014 := Int.pow_pos (by decide)
  have e4 : ((64 : Int) * 2 ^ 1014).natAbs = 64 * ((2 : Int) ^ 1014).natAbs := by rw [Int.natAbs_mul]; rfl
  rw [e4] at hv
  have hpn : ((((2 : Int) ^ 1014).natAbs : Nat) : Int) = 2 ^ 1014 := by omega
  have tr := fun (z : Int) h0 => trunc_eq (x := hsvX x) (z := z) h.1 h0
  have ts := trunc_small (x := hsvX x) h.1
  rw [natpow1074] at ts
  have hq : (2 : Nat) ^ 1014 = ((2 : Int) ^ 1014).natAbs := by rw [Int.natAbs_pow]; rfl
  rw [hq] at ts
  generalize hPP : (2 : Int) ^ 1014 = P at *
  generalize hvv : val (hsvX x) = v at *
  have hXX : (2 : Int) ^ 60 * P = 1152921504606846976 * P := rfl
  generalize (2 : Int) ^ 60 * P = X at *
  obtain ⟨M, r, hM, hr64, hNe⟩ : ∃ M r : Nat, N / 64 = M ∧ r < 64 ∧ N = 64 * M + r := ⟨N / 64, N % 64, rfl, by omega, by omega⟩
  have e5 : (N : Int) * X = 64 * ((M : Int) * X) + (r : Int) * X := by
    rw [← Int.mul_assoc, ← Int.add_mul]
    congr 1
    omega
  have e6 : ((M : Int) + 1) * X = (M : Int) * X + X := by rw [Int.add_mul, Int.one_mul]
  have e7 : ((M : Int) - 1) * X = (M : Int) * X - X := by rw [Int.sub_mul, Int.one_mul]
  have hR2 : (r : Int) * X ≤ 63 * X := Int.mul_le_mul_of_nonneg_right (by omega) (by omega)
  rw [e5] at hv
  have hk1 : v * 64 - (64 * ((M : Int) * X) + (r : Int) * X) ≤ 557056 * P := by omega
  have hk2 : -(557056 * P) ≤ v * 64 - (64 * ((M : Int) * X) + (r : Int) * X) := by omega
  clear hv
  rcases Nat.eq_zero_or_pos r with hr | hr
  · -- on a corner
    have hR0 : (r : Int) * X = 0 := by rw [hr]; simp
    by_cases h1 : (M : Int) * X ≤ v
    · have hs : hsvI x = ((M : Nat) : Int) := tr _ (by omega) h1 (by rw [e6]; omega)
      exact ⟨M, 0, hs, by omega, by omega, by omega, key _ _ hs (by omega) (by omega) (by omega)⟩
    · rcases Nat.eq_zero_or_pos M with h0 | h0
      · have hM0 : (M : Int) * X = 0 := by rw [h0]; simp
        have hs : hsvI x = ((0 : Nat) : Int) := ts (by omega)
        exact ⟨0, 0, hs, by omega, by omega, by omega, key _ _ hs (by omega) (by omega) (by omega)⟩
      · have em : ((M - 1 : Nat) : Int) = (M : Int) - 1 := by omega
        have hs : hsvI x = ((M - 1 : Nat) : Int) := tr _ (by omega) (by rw [em, e7]; omega) (by rw [em, Int.sub_add_cancel]; omega)
        exact ⟨M - 1, 64, hs, by omega, by omega, by omega, key _ _ hs (by omega) (by omega) (by omega)⟩
  · have hR1 : 1 * X ≤ (r : Int) * X := Int.mul_le_mul_of_nonneg_right (by omega) (by omega)
    have hs : hsvI x = ((M : Nat) : Int) := tr _ (by omega) (by omega) (by rw [e6]; omega)
    exact ⟨M, r, hs, by omega, by omega, by omega, key _ _ hs (by omega) (by omega) (by omega)⟩
end

-- E4
section
open PySem.Float64
theorem share_exact {sh : Nat} (h : sh ≤ 256) : Fini (fdiv sh 256) ∧ val (fdiv sh 256) * 256 = (sh : Int) * (2 ^ 60 * 2 ^ 1014) := by
  have := frac_exact (p := (sh : Int)) (j := 8) (by omega) (by omega) (by decide)
  exact this
theorem one_ap (d : Int) : Ap 4607182418800017408 d d 0 := by
  have := (ap_int (i := 1) (by decide)).scale d
  rw [← one_int, Int.one_mul] at this
  exact this
theorem v16384 : Fini (ofInt 16384) ∧ val (ofInt 16384) * 1 = 16384 * (2 ^ 60 * 2 ^ 1014) := by
  have := val_ofInt (i := 16384) (by decide)
  exact ⟨this.1, by rw [this.2, Int.mul_one]⟩
theorem nab_16384 {z : Int} {n : Nat} (h : z.natAbs ≤ n) : (z * 16384).natAbs ≤ n * 16384 := by
  rw [Int.natAbs_mul]
  exact Nat.mul_le_mul_right _ h
theorem fP_ap {sh : Nat} (h : sh ≤ 256) : Ap (fP (fdiv sh 256)) (16384 - 64 * (sh : Int)) 1 200000000 := by
  unfold fP
  have a1 : Ap (fdiv sh 256) sh 256 0 := ap_exact (share_exact h).1 (share_exact h).2
  have a2 := ap_sub (k := 1) (one_ap 256) a1 (by decide) (by decide) (nab_le (nab_diff (n := 256) h) (by decide))
  have a3 := mulc_left (k := 15) (e1 := 2097152) v16384.1 v16384.2 a2 (by decide) (by decide) (by decide) (by decide) (nab_le (nab_16384 (nab_diff (n := 256) h)) (by decide))
  refine (Ap.cut (c := 256) ?_ (by decide)).grow (e := 4194304) (by decide)
  have e1 : ((256 : Int) - sh) * 16384 = (16384 - 64 * (sh : Int)) * 256 := by omega
  rw [e1] at a3
  exact a3
theorem fF_ap {sh : Nat} {F : UInt64} {g : Nat} (h : sh ≤ 256) (hg : g ≤ 64) (hF : Ap F (g : Int) 64 8960) : Ap (mul (ofInt 16384) (sub 4607182418800017408 (mul (fdiv sh 256) F))) (16384 - (sh : Int) * g) 1 200000000 := by
  have hgs : g * sh ≤ 64 * 256 := Nat.mul_le_mul hg h
  have hgi : (g : Int) * sh = ((g * sh : Nat) : Int) := by rw [Int.natCast_mul]
  have a1 := mulc_left (k := 1) (e1 := 8960) (share_exact h).1 (share_exact h).2 hF (by decide) (by decide) (Nat.mul_le_mul_left 8960 (nab_nat h)) (by decide) (by rw [hgi]; exact nab_le (nab_nat hgs) (by decide))
  rw [hgi] at a1
  have a2 := ap_sub (k := 1) (one_ap (64 * 256)) a1 (by decide) (by decide) (nab_le (nab_diff (n := 16384) hgs) (by decide))
  have a3 := mulc_left (k := 15) (e1 := 150994944) v16384.1 v16384.2 a2 (by decide) (by decide) (by decide) (by decide) (nab_le (nab_16384 (nab_diff (n := 16384) hgs)) (by decide))
  refine (Ap.cut (c := 16384) ?_ (by decide)).grow (e := 153092096) (by decide)
  have e1 : (16384 - (sh : Int) * g) * 16384 = ((64 : Int) * 256 - ((g * sh : Nat) : Int)) * 16384 := by rw [← hgi, Int.mul_comm (sh : Int)]; rfl
  rw [e1]
  exact a3
theorem fQ_ap {sh g : Nat} {x : UInt64} (h : sh ≤ 256) (hg : g ≤ 64) (hF : Ap (hsvF x) (g : Int) 64 8832) : Ap (fQ x (fdiv sh 256)) (16384 - (sh : Int) * g) 1 200000000 := fF_ap h hg (hF.grow (by decide))
theorem fT_ap {sh g : Nat} {x : UInt64} (h : sh ≤ 256) (hg : g ≤ 64) (hF : Ap (hsvF x) (g : Int) 64 8832) : Ap (fT x (fdiv sh 256)) (16384 - (sh : Int) * ((64 - g : Nat) : Int)) 1 200000000 := by
  refine fF_ap h (by omega) ?_
  have a2 := ap_sub (k := 1) (one_ap 64) hF (by decide) (by decide) (nab_le (nab_diff (n := 64) hg) (by decide))
  have e1 : (64 : Int) - g = ((64 - g : Nat) : Int) := by omega
  rw [e1] at a2
  exact a2
theorem part_f {x : UInt64} {z : Int} (h : Ap x z 1 200000000) (h0 : 0 ≤ z) (h1 : z ≤ 2 ^ 40) : wholeP (.f x) = z ∧ (Part.f x).ok := by
  have := whole_ap h h0 h1 (by decide)
  exact ⟨this.2, this.1⟩
theorem part_i : wholeP (.i 16384) = 16384 ∧ (Part.i 16384).ok := by
  have := whole_ap (ap_int (i := 16384) (by decide)) (by decide) (by decide) (by decide)
  exact ⟨this.2, by decide, by decide, this.1⟩
theorem share_not0 {sh : Nat} (h : sh ≤ 256) (h0 : 0 < sh) : ¬ ((Float64.cmp (fdiv sh 256) 0 == some Ordering.eq) = true) := by
  obtain ⟨⟨a, m, e, hd⟩, hv⟩ := share_exact h
  have v0 := val_ofInt (i := 0) (by decide)
  rw [← zero_int, Int.zero_mul] at v0
  obtain ⟨⟨b, k, f, hd0⟩, hv0⟩ := v0
  rw [cmp_right hd hd0, hv0]
  have hS : (0 : Int) < 2 ^ 60 * 2 ^ 1014 := Int.mul_pos (by decide) (Int.pow_pos (by decide))
  have hp : 0 < (sh : Int) * (2 ^ 60 * 2 ^ 1014) := Int.mul_pos (by omega) hS
  have : 0 < val (fdiv sh 256) := by omega
  rw [Int.compare_eq_gt.mpr this]
  decide
theorem three {a b c : Part} {x y z : Int} (ha : wholeP a = x ∧ a.ok) (hb : wholeP b = y ∧ b.ok) (hc : wholeP c = z ∧ c.ok) : [a, b, c].map wholeP = [x, y, z] ∧ ∀ p ∈ [a, b, c], p.ok :=
  ⟨by rw [List.map_cons, List.map_cons, List.map_cons, List.map_nil, ha.1, hb.1, hc.1], List.forall_mem_cons.mpr ⟨ha.2, List.forall_mem_cons.mpr ⟨hb.2, List.forall_mem_cons.mpr ⟨hc.2, fun _ h => nomatch h⟩⟩⟩⟩
theorem hsv_whole {x : UInt64} {sh s g : Nat} (h : sh ≤ 256) (hs : hsvI x = (s : Int)) (hg : g ≤ 64) (hF : Ap (hsvF x) (g : Int) 64 8832) :
    (hsvP x (fdiv sh 256)).map wholeP = [16384 - (sh : Int) * rho 0 s g, 16384 - (sh : Int) * rho 1 s g, 16384 - (sh : Int) * rho 2 s g] ∧ ∀ p ∈ hsvP x (fdiv sh 256), p.ok := by
  have lim : ∀ a : Nat, a ≤ 64 → 0 ≤ 16384 - (sh : Int) * a ∧ 16384 - (sh : Int) * a ≤ 2 ^ 40 := fun a ha => by
    have e : sh * a ≤ 16384 := Nat.mul_le_mul h ha
    rw [← Int.natCast_mul]
    exact ⟨Int.sub_nonneg.mpr (Int.ofNat_le.mpr e), Int.le_trans (Int.sub_le_self _ (Int.natCast_nonneg _)) (by decide)⟩
  have x64 : 64 * (sh : Int) = sh * ((64 : Nat) : Int) := Int.mul_comm _ _
  have pP := part_f (x64 ▸ fP_ap h) (lim 64 (by decide)).1 (lim 64 (by decide)).2
  have pQ := part_f (fQ_ap (x := x) h hg hF) (lim _ hg).1 (lim _ hg).2
  have pT := part_f (fT_ap (x := x) h hg hF) (lim _ (Nat.sub_le _ _)).1 (lim _ (Nat.sub_le _ _)).2
  rw [Int.ofNat_sub hg] at pT
  have pI : ∀ u : Int, u = 0 → wholeP (.i 16384) = 16384 - (sh : Int) * u ∧ (Part.i 16384).ok := fun u e => by
    rw [e, Int.mul_zero]
    exact part_i
  rw [← rho_mod 0, ← rho_mod 1, ← rho_mod 2]
  unfold hsvP
  by_cases h0 : sh = 0
  · subst h0
    have pI0 : ∀ u : Int, wholeP (.i 16384) = 16384 - ((0 : Nat) : Int) * u ∧ (Part.i 16384).ok := fun u => by
      rw [show ((0 : Nat) : Int) = 0 from rfl, Int.zero_mul]
      exact part_i
    have hc : (Float64.cmp (fdiv (0 : Nat) 256) 0 == some Ordering.eq) = true := by decide +kernel
    rw [if_pos hc]
    exact three (pI0 _) (pI0 _) (pI0 _)
  · rw [if_neg (share_not0 h (Nat.pos_of_ne_zero h0)), hs]
    have hm : (s : Int).fmod 6 = ((s % 6 : Nat) : Int) := by rw [Int.fmod_eq_emod_of_nonneg _ (by decide)]; rfl
    rw [hm]
    have h6 : s % 6 < 6 := Nat.mod_lt _ (by decide)
    generalize s % 6 = j at *
    rcases rho_vals h6 (g : Int) with ⟨rfl, q0, q1, q2⟩ | ⟨rfl, q0, q1, q2⟩ | ⟨rfl, q0, q1, q2⟩ | ⟨rfl, q0, q1, q2⟩ | ⟨rfl, q0, q1, q2⟩ | ⟨rfl, q0, q1, q2⟩ <;> rw [q0, q1, q2]
    · exact three (pI _ rfl) pT pP
    · exact three pQ (pI _ rfl) pP
    · exact three pP (pI _ rfl) pT
    · exact three pP pQ (pI _ rfl)
    · exact three pT pP (pI _ rfl)
    · exact three (pI _ rfl) pP pQ
end

-- E5
theorem rho_turn (k e t : Nat) (r : Int) : rho k (e + 6 * t) r = rho k e r := by
  rw [← rho_mod k (e + 6 * t), ← rho_mod k e]
  congr 1
  omega
theorem paint_facts {b sh t i : Nat} (hb : b < 384) (hs : sh ≤ 256) (ht : t < 4) (hi : i < 6) :
    paintZ b sh t i = [16384 - (sh : Int) * rho 0 (b / 64 + i) ((b % 64 : Nat) : Int), 16384 - (sh : Int) * rho 1 (b / 64 + i) ((b % 64 : Nat) : Int), 16384 - (sh : Int) * rho 2 (b / 64 + i) ((b % 64 : Nat) : Int)] ∧
    (∀ p ∈ hsvP (sixthX b t i) (fdiv sh 256), p.ok) ∧ Float64.isFinite (hsvX (sixthX b t i)) = true ∧ -1000 ≤ hsvI (sixthX b t i) ∧ hsvI (sixthX b t i) ≤ 1000 := by
  have h1 := sixth_ap hb hi ht
  have eN : (b : Int) + 64 * i + 384 * t = ((b + 64 * i + 384 * t : Nat) : Int) := by omega
  rw [eN] at h1
  obtain ⟨s, g, e1, e2, e3, e4, e5⟩ := sector h1 (by omega)
  obtain ⟨f1, f2⟩ := hsv_whole (x := sixthX b t i) hs e1 e3 e5
  have hr : ∀ k, rho k s g = rho k (b / 64 + i) ((b % 64 : Nat) : Int) := by
    intro k
    by_cases hg : g < 64
    · have es : s = (b / 64 + i) + 6 * t := by omega
      have eg : g = b % 64 := by omega
      rw [es, rho_turn, eg]
    · have eg : g = 64 := by omega
      have es : s + 1 = (b / 64 + i) + 6 * t := by omega
      have er : b % 64 = 0 := by omega
      rw [eg, er]
      show rho k s 64 = rho k (b / 64 + i) 0
      rw [rho_next, es, rho_turn]
  refine ⟨?_, f2, h1.fin, by rw [e1]; omega, by rw [e1]; omega⟩
  unfold paintZ
  rw [f1, hr 0, hr 1, hr 2]
theorem six_cases {e : Nat} : e % 6 = 0 ∨ e % 6 = 1 ∨ e % 6 = 2 ∨ e % 6 = 3 ∨ e % 6 = 4 ∨ e % 6 = 5 := six_lt (Nat.mod_lt _ (by decide))
theorem paint_ok {b sh t i : Nat} (hb : b < 384) (hs : sh ≤ 256) (ht : t < 4) (hi : i < 6) : PaintOk b sh t i := by
  obtain ⟨p1, p2, p3, p4⟩ := paint_facts hb hs ht hi
  have hr0 : (0 : Int) ≤ ((b % 64 : Nat) : Int) := by omega
  have hr1 : ((b % 64 : Nat) : Int) ≤ 64 := by omega
  have hrho : ∀ k, rho k (b / 64 + i) ((b % 64 : Nat) : Int) = rho k ((b / 64 + i) % 6) ((b % 64 : Nat) : Int) := fun k => (rho_mod _ _ _).symm
  have hle : ∀ k, 16384 - 64 * (sh : Int) ≤ 16384 - (sh : Int) * rho k (b / 64 + i) ((b % 64 : Nat) : Int) := fun k => by
    have h := rho_range k (b / 64 + i) hr0 hr1
    have h2 := Int.mul_le_mul_of_nonneg_left h.2 (show (0 : Int) ≤ (sh : Int) by omega)
    omega
  have x64 : (sh : Int) * 64 = 64 * sh := Int.mul_comm _ _
  refine ⟨p3, p4, p2, ?_, fun z hz => ?_, ?_⟩
  · rw [p1, hrho 0, hrho 1, hrho 2]
    rcases six_cases (e := b / 64 + i) with e | e | e | e | e | e
    · rw [e]; refine .tail _ (.tail _ ?_); have : rho 2 0 ((b % 64 : Nat) : Int) = 64 := by show (64 - ((b % 64 : Nat) : Int)) * 1 + ((b % 64 : Nat) : Int) * 1 = 64; omega
      rw [this, x64]; exact .head _
    · rw [e]; refine .tail _ (.tail _ ?_); have : rho 2 1 ((b % 64 : Nat) : Int) = 64 := by show (64 - ((b % 64 : Nat) : Int)) * 1 + ((b % 64 : Nat) : Int) * 1 = 64; omega
      rw [this, x64]; exact .head _
    · rw [e]; have : rho 0 2 ((b % 64 : Nat) : Int) = 64 := by show (64 - ((b % 64 : Nat) : Int)) * 1 + ((b % 64 : Nat) : Int) * 1 = 64; omega
      rw [this, x64]; exact .head _
    · rw [e]; have : rho 0 3 ((b % 64 : Nat) : Int) = 64 := by show (64 - ((b % 64 : Nat) : Int)) * 1 + ((b % 64 : Nat) : Int) * 1 = 64; omega
      rw [this, x64]; exact .head _
    · rw [e]; refine .tail _ ?_; have : rho 1 4 ((b % 64 : Nat) : Int) = 64 := by show (64 - ((b % 64 : Nat) : Int)) * 1 + ((b % 64 : Nat) : Int) * 1 = 64; omega
      rw [this, x64]; exact .head _
    · rw [e]; refine .tail _ ?_; have : rho 1 5 ((b % 64 : Nat) : Int) = 64 := by show (64 - ((b % 64 : Nat) : Int)) * 1 + ((b % 64 : Nat) : Int) * 1 = 64; omega
      rw [this, x64]; exact .head _
  · rw [p1] at hz
    simp only [List.mem_cons, List.not_mem_nil, or_false] at hz
    rcases hz with rfl | rfl | rfl <;> exact hle _
  · have hn : (nearZ b i).toNat = ((b / 64 + i + 1) / 2) % 3 := by
      unfold nearZ
      have e0 : (b : Int) + 64 * (i : Int) + 64 = ((b + 64 * i + 64 : Nat) : Int) := by omega
      rw [e0, Int.fdiv_eq_ediv_of_nonneg _ (by decide), Int.fmod_eq_emod_of_nonneg _ (by decide)]
      have d1 : (b + 64 * i + 64) / (64 * 2) = (b / 64 + i + 1) / 2 := by rw [Nat.add_assoc, ← Nat.mul_succ, ← Nat.div_div_eq_div_mul, Nat.add_mul_div_left _ _ (by decide)]; rfl
      have d2 : ((b + 64 * i + 64 : Nat) : Int) / 128 % 3 = (((b + 64 * i + 64) / (64 * 2) % 3 : Nat) : Int) := by rw [Int.natCast_emod, Int.natCast_ediv]; rfl
      rw [d2, Int.toNat_natCast, d1]
    rw [hn, p1, hrho 0, hrho 1, hrho 2]
    have q : ∀ j, (b / 64 + i) % 6 = j → ((b / 64 + i + 1) / 2) % 3 = ((j + 1) / 2) % 3 := fun j hj => by
      have d3 : b / 64 + i + 1 = 2 * (3 * ((b / 64 + i) / 6)) + (j + 1) := by omega
      rw [d3, Nat.mul_add_div (by decide), Nat.mul_add_mod]
    rcases six_cases (e := b / 64 + i) with e | e | e | e | e | e
    · rw [q _ e, e]; show 16384 - (sh : Int) * rho 0 0 ((b % 64 : Nat) : Int) = 16384
      have : rho 0 0 ((b % 64 : Nat) : Int) = 0 := by show (64 - ((b % 64 : Nat) : Int)) * 0 + ((b % 64 : Nat) : Int) * 0 = 0; omega
      rw [this]; simp
    · rw [q _ e, e]; show 16384 - (sh : Int) * rho 1 1 ((b % 64 : Nat) : Int) = 16384
      have : rho 1 1 ((b % 64 : Nat) : Int) = 0 := by show (64 - ((b % 64 : Nat) : Int)) * 0 + ((b % 64 : Nat) : Int) * 0 = 0; omega
      rw [this]; simp
    · rw [q _ e, e]; show 16384 - (sh : Int) * rho 1 2 ((b % 64 : Nat) : Int) = 16384
      have : rho 1 2 ((b % 64 : Nat) : Int) = 0 := by show (64 - ((b % 64 : Nat) : Int)) * 0 + ((b % 64 : Nat) : Int) * 0 = 0; omega
      rw [this]; simp
    · rw [q _ e, e]; show 16384 - (sh : Int) * rho 2 3 ((b % 64 : Nat) : Int) = 16384
      have : rho 2 3 ((b % 64 : Nat) : Int) = 0 := by show (64 - ((b % 64 : Nat) : Int)) * 0 + ((b % 64 : Nat) : Int) * 0 = 0; omega
      rw [this]; simp
    · rw [q _ e, e]; show 16384 - (sh : Int) * rho 2 4 ((b % 64 : Nat) : Int) = 16384
      have : rho 2 4 ((b % 64 : Nat) : Int) = 0 := by show (64 - ((b % 64 : Nat) : Int)) * 0 + ((b % 64 : Nat) : Int) * 0 = 0; omega
      rw [this]; simp
    · rw [q _ e, e]; show 16384 - (sh : Int) * rho 0 5 ((b % 64 : Nat) : Int) = 16384
      have : rho 0 5 ((b % 64 : Nat) : Int) = 0 := by show (64 - ((b % 64 : Nat) : Int)) * 0 + ((b % 64 : Nat) : Int) * 0 = 0; omega
      rw [this]; simp

-- E6
section
open PySem.Float64
theorem decode_lt {x : UInt64} {a : Bool} {m : Nat} {e : Int} (h : decode x = .fin a m e) : m < 2 ^ 53 ∧ e ≤ 971 := by
  unfold decode at h
  simp only at h
  split at h
  · split at h <;> cases h
  · rename_i h1
    have h1' : x.toNat / 2 ^ 52 % 2048 ≠ 2047 := by simpa using h1
    split at h
    · cases h; omega +splitDisjunctions
    · cases h; omega +splitDisjunctions
theorem ofBin_same {a : Bool} {p m : Nat} {g e : Int} (hg : -1074 ≤ g) (hm : m < 2 ^ 53) (he : -1074 ≤ e) (he2 : e ≤ 800) (h : p * 2 ^ (g + 1074).toNat = m * 2 ^ (e + 1074).toNat) : Fini (ofBin a p g) ∧ val (ofBin a p g) = sgn a (m * 2 ^ (e + 1074).toNat) := by
  have R : Right (ofBin a p g) a (p * 2 ^ (g + 1074).toNat) 1 := by
    unfold ofBin
    refine ofFrac_right (shift_pos _ _ _ (by decide)) ?_ (by decide)
    rw [Nat.mul_one]
    exact shift_one p g 1074 (by omega +splitDisjunctions)
  rw [h] at R
  obtain ⟨⟨m', e', hd⟩, hv⟩ := right_exact R (by decide) (q := m) (K := (e + 1074).toNat) (by omega +splitDisjunctions) (by omega +splitDisjunctions) (by rw [Nat.one_mul])
  exact ⟨⟨_, _, _, hd⟩, hv⟩
/-- the rest by a greater value is the value itself -/
theorem toNat_split {a b c : Int} (ha : 0 ≤ a) (hb : 0 ≤ b) (e : a + b = c) : a.toNat + b.toNat = c.toNat := by rw [← Int.toNat_add ha hb, e]
theorem sgn_pos {V S : Int} {E N : Nat} (ha : (V - S).natAbs ≤ E) (t : E < N) (e : (N : Int) = S) : 0 < V := by lia
theorem sgn_neg {V S : Int} {E N : Nat} (ha : (V - S).natAbs ≤ E) (t : E < N) (e : (N : Int) = -S) : V < 0 := by lia
theorem rest_lin {n d : Int} {X : Nat} (hd : 0 < d) (hn : ¬ 0 < n) (h1 : n.natAbs * 2 ^ 60 + X < d.natAbs * 2 ^ 60) : (n + d).natAbs * 2 ^ 60 + X ≤ 2 ^ 1 * 2 ^ 60 * d.natAbs := by lia
theorem fmod_less {x y : UInt64} {a : Bool} {m : Nat} {e : Int} (hx : decode x = .fin a m e) (he : e ≤ 800) {k : Nat} {f : Int} (hy : decode y = .fin false k f) (h : (val x).natAbs < (val y).natAbs) : Fini (fmod x y) ∧ val (fmod x y) = val x := by
  have hk : k ≠ 0 := by
    intro h0
    rw [val_natAbs hy, h0, Nat.zero_mul] at h
    exact Nat.not_lt_zero _ h
  have he0 := decode_ge hx
  have hf0 := decode_ge hy
  have hlt := decode_lt hx
  have hm : -1074 ≤ min e f := Int.le_min.mpr ⟨he0, hf0⟩
  have hmn : 0 ≤ min e f + 1074 := by have := Int.sub_nonneg.mpr hm; rwa [Int.sub_neg] at this
  have e1 : (e - min e f).toNat + (min e f + 1074).toNat = (e + 1074).toNat := toNat_split (Int.sub_nonneg.mpr (Int.min_le_left _ _)) hmn (by rw [← Int.add_assoc, Int.sub_add_cancel])
  have e2 : (f - min e f).toNat + (min e f + 1074).toNat = (f + 1074).toNat := toNat_split (Int.sub_nonneg.mpr (Int.min_le_right _ _)) hmn (by rw [← Int.add_assoc, Int.sub_add_cancel])
  have hpq : m * 2 ^ (e - min e f).toNat < k * 2 ^ (f - min e f).toNat := by
    rw [val_natAbs hx, val_natAbs hy, ← e1, ← e2, Nat.pow_add, Nat.pow_add, ← Nat.mul_assoc, ← Nat.mul_assoc] at h
    exact Nat.lt_of_mul_lt_mul_right h
  have hfm : fmod x y = ofBin a (m * 2 ^ (e - min e f).toNat) (min e f) := by
    have h0 : fmod x y = ofBin a ((m * 2 ^ (e - min e f).toNat) % (k * 2 ^ (f - min e f).toNat)) (min e f) := by
      unfold fmod
      rw [hx, hy]
      simp only
      rw [if_neg (by simpa using hk)]
      rfl
    rw [h0, Nat.mod_eq_of_lt hpq]
  rw [hfm, val_eq hx]
  exact ofBin_same hm hlt.1 he0 he (by rw [Nat.mul_assoc, ← Nat.pow_add, e1])
theorem divmod_snd (x y : UInt64) : (divmod x y).2 = if isZero (fmod x y) = true then copysign (zero false) y else if (lt y (zero false) != lt (fmod x y) (zero false)) = true then add (fmod x y) y else fmod x y := by
  unfold divmod
  simp only
  split
  · rfl
  · split <;> rfl
theorem isZero_val {x : UInt64} (hf : Fini x) (h : val x ≠ 0) : isZero x = false := by
  obtain ⟨a, m, e, hd⟩ := hf
  unfold isZero
  rw [hd]
  cases m with
  | zero => rw [val_eq hd] at h; simp [sgn] at h
  | succ m => rfl
theorem lt_zero_val {x : UInt64} (hf : Fini x) : lt x (zero false) = decide (val x < 0) := by
  obtain ⟨a, m, e, hd⟩ := hf
  obtain ⟨⟨b, k, f, h0⟩, hv⟩ := val_zero false
  unfold lt
  rw [cmp_right hd h0, hv]
  rcases Int.lt_trichotomy (val x) 0 with h | h | h
  · rw [Int.compare_eq_lt.mpr h, decide_eq_true h]; rfl
  · rw [h]; simp
  · rw [Int.compare_eq_gt.mpr h, decide_eq_false (by omega +splitDisjunctions)]; rfl
theorem exp_small {x : UInt64} {a : Bool} {m : Nat} {e : Int} (hx : decode x = .fin a m e) (h : (val x).natAbs < 2 ^ 1074) (h0 : val x ≠ 0) : e ≤ 800 := by
  rw [val_natAbs hx] at h
  have hm : 1 ≤ m := by
    rcases Nat.eq_zero_or_pos m with h1 | h1
    · rw [val_eq hx, h1] at h0; simp [sgn] at h0
    · exact h1
  have h2 : 1 * 2 ^ (e + 1074).toNat ≤ m * 2 ^ (e + 1074).toNat := Nat.mul_le_mul_right _ hm
  have h3 : 2 ^ (e + 1074).toNat < 2 ^ 1074 := by omega +splitDisjunctions
  have := (Nat.pow_lt_pow_iff_right (by decide)).mp h3
  omega +splitDisjunctions
/-- the part of a number between -1 and 1 that the rest by one leaves -/
theorem rest_one {v : UInt64} {n d : Int} {e : Nat} (hv : Ap v n d e) (hd : 0 < d) (h1 : n.natAbs * 2 ^ 60 + e * d.natAbs < d.natAbs * 2 ^ 60) (h2 : e * d.natAbs < n.natAbs * 2 ^ 60) :
    Ap (divmod v 4607182418800017408).2 (if 0 < n then n else n + d) d (e + 2 ^ 7) := by
  obtain ⟨hf, ha⟩ := id hv
  have one := val_ofInt (i := 1) (by decide)
  rw [← one_int, Int.one_mul] at one
  have hP : (0 : Int) < 2 ^ 1014 := Int.pow_pos (by decide)
  have e4 : (d * 2 ^ 1014).natAbs = d.natAbs * 2 ^ 1014 := by rw [Int.natAbs_mul, Int.natAbs_pow]; rfl
  have eS : ((2 : Int) ^ 60 * 2 ^ 1014).natAbs = 2 ^ 1074 := by rw [natpow1074, Int.natAbs_mul, Int.natAbs_pow, Int.natAbs_pow]; rfl
  have e5 : (n * (2 ^ 60 * 2 ^ 1014)).natAbs = n.natAbs * (2 ^ 60 * 2 ^ 1014) := by rw [Int.natAbs_mul, eS, natpow1074]
  have hPn : 0 < (2 : Nat) ^ 1014 := Nat.two_pow_pos _
  have hlow : (val v).natAbs < 2 ^ 1074 := by
    apply Nat.lt_of_mul_lt_mul_right (a := d.natAbs)
    have t := Int.natAbs_add_le (val v * d - n * (2 ^ 60 * 2 ^ 1014)) (n * (2 ^ 60 * 2 ^ 1014))
    rw [Int.sub_add_cancel, e5, Int.natAbs_mul] at t
    have t2 := Nat.mul_lt_mul_of_pos_right h1 hPn
    rw [e4] at ha
    rw [natpow1074]
    generalize (2 : Nat) ^ 1014 = P at *
    have u1 : (n.natAbs * 2 ^ 60 + e * d.natAbs) * P = n.natAbs * (2 ^ 60 * P) + e * (d.natAbs * P) := by rw [Nat.add_mul]; ac_rfl
    have u2 : d.natAbs * 2 ^ 60 * P = 2 ^ 60 * P * d.natAbs := by ac_rfl
    rw [← u2]
    refine Nat.lt_of_le_of_lt (Nat.le_trans t (Nat.add_le_add_right ha _)) ?_
    rw [u1] at t2
    exact Nat.lt_of_le_of_lt (Nat.le_of_eq (Nat.add_comm _ _)) t2
  have hsign : (0 < n → 0 < val v) ∧ (n < 0 → val v < 0) := by
    have t2 := Nat.mul_lt_mul_of_pos_right h2 hPn
    rw [e4] at ha
    have ei : ((n.natAbs * 2 ^ 60 * 2 ^ 1014 : Nat) : Int) = (n.natAbs : Int) * (2 ^ 60 * 2 ^ 1014) := by
      rw [Nat.mul_assoc, Int.natCast_mul, Int.natCast_mul, Int.natCast_pow, Int.natCast_pow]; rfl
    have u1 : e * d.natAbs * 2 ^ 1014 = e * (d.natAbs * 2 ^ 1014) := by ac_rfl
    rw [u1] at t2
    constructor
    · intro hn
      have en : (n.natAbs : Int) = n := Int.natAbs_of_nonneg (Int.le_of_lt hn)
      rw [en] at ei
      apply Int.lt_of_mul_lt_mul_right (a := d) _ (Int.le_of_lt hd)
      rw [Int.zero_mul]
      exact sgn_pos ha t2 ei
    · intro hn
      have en : (n.natAbs : Int) = -n := Int.ofNat_natAbs_of_nonpos (Int.le_of_lt hn)
      rw [en, Int.neg_mul] at ei
      apply Int.lt_of_mul_lt_mul_right (a := d) _ (Int.le_of_lt hd)
      rw [Int.zero_mul]
      exact sgn_neg ha t2 ei
  have hn0 : n ≠ 0 := by
    intro h
    rw [h, Int.natAbs_zero, Nat.zero_mul] at h2
    exact Nat.not_lt_zero _ h2
  have hv0 : val v ≠ 0 := by
    rcases Int.lt_trichotomy n 0 with h | h | h
    · exact Int.ne_of_lt (hsign.2 h)
    · exact absurd h hn0
    · exact Int.ne_of_gt (hsign.1 h)
  obtain ⟨a, m, f, hd'⟩ := hf
  obtain ⟨⟨b, k, g, h1d⟩, h1v⟩ := id one
  have hb : b = false := by
    cases b
    · rfl
    · rw [val_eq h1d] at h1v
      unfold sgn at h1v
      simp only [if_true] at h1v
      have : (0 : Int) < 2 ^ 60 * 2 ^ 1014 := Int.mul_pos (by decide) hP
      omega +splitDisjunctions
  subst hb
  obtain ⟨mf, mv⟩ := fmod_less hd' (exp_small hd' hlow hv0) h1d (by rw [h1v, eS]; exact hlow)
  have hm : Ap (fmod v 4607182418800017408) n d e := ⟨mf, by rw [mv]; exact ha⟩
  rw [divmod_snd, if_neg (by rw [isZero_val mf (by rw [mv]; exact hv0)]; decide)]
  have l1 : lt 4607182418800017408 (zero false) = false := by
    rw [lt_zero_val one.1, h1v, decide_eq_false]
    have : (0 : Int) < 2 ^ 60 * 2 ^ 1014 := Int.mul_pos (by decide) hP
    omega +splitDisjunctions
  rw [l1, lt_zero_val mf, mv]
  by_cases hn : 0 < n
  · have := hsign.1 hn
    rw [if_pos hn, decide_eq_false (by omega +splitDisjunctions), if_neg (by decide)]
    exact hm.grow (Nat.le_add_right _ _)
  · have := hsign.2 (by omega +splitDisjunctions)
    rw [if_neg hn, decide_eq_true this, if_pos (by decide)]
    refine ap_add (k := 1) hm (one_ap d) (by omega +splitDisjunctions) (by decide) ?_
    have u : (n + d).natAbs * 2 ^ 60 + (e + 0) * d.natAbs ≤ 2 ^ 1 * 2 ^ 60 * d.natAbs := by rw [Nat.add_zero]; exact rest_lin hd hn h1
    exact u
end

-- E7
section
open PySem.Float64
noncomputable def HueIs (h : UInt64) (b : Int) : Prop := isFinite (add (mul (mul h (ofInt 384)) (ofInt 1048576)) half) = true ∧ Flt.toInt truncOf (add (mul (mul h (ofInt 384)) (ofInt 1048576)) half) = b * 1048576
theorem val_int1 {i : Int} (h : i.natAbs ≤ 2 ^ 53) : val (ofInt i) * 1 = i * (2 ^ 60 * 2 ^ 1014) := by rw [(val_ofInt h).2, Int.mul_one]
theorem hue_of_ap {h : UInt64} {b : Int} {e : Nat} (hh : Ap h b 384 e) (he : e ≤ 1048576) (h0 : 0 ≤ b) (h1 : b < 384) : HueIs h b := by
  have a1 := ap_mulc (k := 9) (p := 384) (q := 1) (e1 := e * 384) hh (val_ofInt (i := 384) (by decide)).1 (val_int1 (by decide)) (by decide) (by decide) (by show e * 384 ≤ e * 384 * 1; omega) (by decide)
    (by show (b * 384).natAbs * 2 ^ 60 + e * 384 * 384 ≤ 2 ^ 9 * 2 ^ 60 * 384; omega)
  have a2 : Ap (mul h (ofInt 384)) b 1 (e * 384 + 32768) := Ap.cut (c := 384) a1 (by decide)
  have a3 := ap_mulc (k := 30) (p := 1048576) (q := 1) (e1 := (e * 384 + 32768) * 1048576) a2 (val_ofInt (i := 1048576) (by decide)).1 (val_int1 (by decide)) (by decide) (by decide) (by show (e * 384 + 32768) * 1048576 ≤ (e * 384 + 32768) * 1048576 * 1; omega) (by decide)
    (by show (b * 1048576).natAbs * 2 ^ 60 + (e * 384 + 32768) * 1048576 * 1 ≤ 2 ^ 30 * 2 ^ 60 * 1; omega)
  exact whole_ap a3 (by omega) (by omega) (by show (e * 384 + 32768) * 1048576 + 2 ^ (30 + 6) ≤ 2 ^ 55; omega)
theorem ratio_ap {G p : Int} (hG : 0 < G) (h0 : 0 ≤ p) (h1 : p ≤ 64) : Ap (fdiv (G * p) (64 * G)) p 64 64 := by
  have hm : G * p ≤ G * 64 := Int.mul_le_mul_of_nonneg_left h1 (Int.le_of_lt hG)
  have hn : 0 ≤ G * p := Int.mul_nonneg (Int.le_of_lt hG) h0
  have a := ap_frac (a := G * p) (b := 64 * G) (k := 0) (by omega) (by decide) (by show (G * p).natAbs ≤ 1 * (64 * G).natAbs; omega)
  rw [Int.mul_comm G p] at a
  have := Ap.cut (c := G) a (by omega)
  rw [Int.mul_comm p G] at this
  exact this
theorem hueF_ap {h : UInt64} {n : Int} (hh : Ap h n 64 10000) (h1 : n.natAbs < 384) (h0 : n ≠ 0) : HueIs (hueF h) (if 0 < n then n else n + 384) := by
  have v6 := val_ofInt (i := 6) (by decide)
  rw [← six_int] at v6
  have a1 := ap_divc (k := 4) hh v6.1 v6.2 (by decide) (by decide) (by decide) (by show n.natAbs * 2 ^ 60 + 10000 * 64 ≤ 2 ^ 4 * 2 ^ 60 * 64; omega)
  have a2 := rest_one a1 (by decide) (by show n.natAbs * 2 ^ 60 + (10000 + 2 ^ (4 + 6)) * 384 < 384 * 2 ^ 60; omega) (by show (10000 + 2 ^ (4 + 6)) * 384 < n.natAbs * 2 ^ 60; omega)
  refine hue_of_ap (e := 10000 + 2 ^ (4 + 6) + 2 ^ 7) ?_ (by decide) (by split <;> omega) (by split <;> omega)
  exact a2
theorem sub_self {x : UInt64} (hf : Fini x) : sub x x = zero false := by
  obtain ⟨a, m, e, hd⟩ := hf
  have h := (sub_right hd hd).1 (Int.sub_self _)
  rw [h]
  cases a <;> rfl
theorem hueF_zero : HueIs (hueF (zero false)) 0 := by
  have e : hueF (zero false) = 0 := by decide +kernel
  rw [e, zero_int]
  exact hue_of_ap (e := 0) (by simpa using (ap_int (i := 0) (by decide)).scale 384) (by decide) (by decide) (by decide)
theorem max3_eq {a b c M : Int} (ha : a ≤ M) (hb : b ≤ M) (hc : c ≤ M) (h : a = M ∨ b = M ∨ c = M) : max (max a b) c = M := by
  refine Int.le_antisymm (Int.max_le.mpr ⟨Int.max_le.mpr ⟨ha, hb⟩, hc⟩) ?_
  have x1 := Int.le_trans (Int.le_max_left a b) (Int.le_max_left _ c)
  have x2 := Int.le_trans (Int.le_max_right a b) (Int.le_max_left _ c)
  have x3 := Int.le_max_right (max a b) c
  exact h.elim (fun h => h ▸ x1) fun h => h.elim (fun h => h ▸ x2) fun h => h ▸ x3
theorem min3_eq {a b c M : Int} (ha : M ≤ a) (hb : M ≤ b) (hc : M ≤ c) (h : a = M ∨ b = M ∨ c = M) : min (min a b) c = M := by
  refine Int.le_antisymm ?_ (Int.le_min.mpr ⟨Int.le_min.mpr ⟨ha, hb⟩, hc⟩)
  have x1 := Int.le_trans (Int.min_le_left _ c) (Int.min_le_left a b)
  have x2 := Int.le_trans (Int.min_le_left _ c) (Int.min_le_right a b)
  have x3 := Int.min_le_right (min a b) c
  exact h.elim (fun h => h ▸ x1) fun h => h.elim (fun h => h ▸ x2) fun h => h ▸ x3
theorem max_of {M G p0 p1 p2 : Int} (hG : 0 ≤ G) (h0 : 0 ≤ p0) (h1 : 0 ≤ p1) (h2 : 0 ≤ p2) (hz : p0 = 0 ∨ p1 = 0 ∨ p2 = 0) : max (max (M - G * p0) (M - G * p1)) (M - G * p2) = M := by
  have q0 := Int.mul_nonneg hG h0
  have q1 := Int.mul_nonneg hG h1
  have q2 := Int.mul_nonneg hG h2
  have t : ∀ p : Int, p = 0 → M - G * p = M := fun p h => by rw [h, Int.mul_zero, Int.sub_zero]
  exact max3_eq (Int.sub_le_self _ q0) (Int.sub_le_self _ q1) (Int.sub_le_self _ q2) (hz.imp (t _) (Or.imp (t _) (t _)))
theorem min_of {M G p0 p1 p2 : Int} (hG : 0 ≤ G) (h0 : p0 ≤ 64) (h1 : p1 ≤ 64) (h2 : p2 ≤ 64) (hz : p0 = 64 ∨ p1 = 64 ∨ p2 = 64) : min (min (M - G * p0) (M - G * p1)) (M - G * p2) = M - 64 * G := by
  have q0 := Int.mul_le_mul_of_nonneg_left h0 hG
  have q1 := Int.mul_le_mul_of_nonneg_left h1 hG
  have q2 := Int.mul_le_mul_of_nonneg_left h2 hG
  have q3 : G * 64 = 64 * G := Int.mul_comm _ _
  rw [← q3]
  have t : ∀ p : Int, p = 64 → M - G * p = M - G * 64 := fun p h => by rw [h]
  exact min3_eq (Int.sub_le_sub_left q0 _) (Int.sub_le_sub_left q1 _) (Int.sub_le_sub_left q2 _) (hz.imp (t _) (Or.imp (t _) (t _)))
/-- the hue before its sixth is taken -/
theorem rgbH_ap {M G p0 p1 p2 : Int} (hG : 0 < G) (h0 : 0 ≤ p0 ∧ p0 ≤ 64) (h1 : 0 ≤ p1 ∧ p1 ≤ 64) (h2 : 0 ≤ p2 ∧ p2 ≤ 64) :
    (p0 = 0 → p2 ≠ p1 → Ap (rgbH (M - G * p0) (M - G * p1) (M - G * p2) M (64 * G)) (p2 - p1) 64 10000) ∧ (p0 = 0 → p2 = p1 → rgbH (M - G * p0) (M - G * p1) (M - G * p2) M (64 * G) = zero false) ∧
    (p0 ≠ 0 → p1 = 0 → Ap (rgbH (M - G * p0) (M - G * p1) (M - G * p2) M (64 * G)) (128 + p0 - p2) 64 10000) ∧ (p0 ≠ 0 → p1 ≠ 0 → Ap (rgbH (M - G * p0) (M - G * p1) (M - G * p2) M (64 * G)) (256 + p1 - p0) 64 10000) := by
  have s : ∀ p : Int, M - (M - G * p) = G * p := fun p => by omega
  have z : ∀ p : Int, p ≠ 0 → ¬ (M - G * p = M) := fun p hp h => by
    have : G * p = 0 := by omega
    rcases Int.mul_eq_zero.mp this with q | q
    · omega
    · exact hp q
  have a0 := ratio_ap hG h0.1 h0.2
  have a1 := ratio_ap hG h1.1 h1.2
  have a2 := ratio_ap hG h2.1 h2.2
  have two : Ap 4611686018427387904 128 64 0 := by
    rw [two_int]
    exact (ap_int (i := 2) (by decide)).scale 64
  have four : Ap 4616189618054758400 256 64 0 := by
    rw [four_int]
    exact (ap_int (i := 4) (by decide)).scale 64
  unfold rgbH
  rw [s, s, s]
  refine ⟨fun e0 ne => ?_, fun e0 e => ?_, fun n0 e1 => ?_, fun n0 n1 => ?_⟩
  · rw [if_pos (by rw [e0]; omega)]
    exact (ap_sub (k := 1) a2 a1 (by decide) (by decide) (nab_le (nab_sub h2 h1) (by decide))).grow (by decide)
  · rw [if_pos (by rw [e0]; omega), e]
    exact sub_self a1.1
  · rw [if_neg (z _ n0), if_pos (by rw [e1]; omega)]
    have b1 := ap_add (k := 3) two a0 (by decide) (by decide) (nab_le (nab_add (by decide) h0) (by decide))
    exact (ap_sub (k := 3) b1 a2 (by decide) (by decide) (nab_le (nab_addsub (by decide) h0 h2) (by decide))).grow (by decide)
  · rw [if_neg (z _ n0), if_neg (z _ n1)]
    have b1 := ap_add (k := 3) four a1 (by decide) (by decide) (nab_le (nab_add (by decide) h1) (by decide))
    exact (ap_sub (k := 3) b1 a0 (by decide) (by decide) (nab_le (nab_addsub (by decide) h1 h0) (by decide))).grow (by decide)
end
/-- the hue of a light that lies G steps below in the measure of rho -/
theorem light_hue {M G : Int} {e r : Nat} (hG : 0 < G) (he : e < 6) (hr : r < 64) :
    max (max (M - G * rho 0 e r) (M - G * rho 1 e r)) (M - G * rho 2 e r) = M ∧ min (min (M - G * rho 0 e r) (M - G * rho 1 e r)) (M - G * rho 2 e r) = M - 64 * G ∧
    HueIs (hueF (rgbH (M - G * rho 0 e r) (M - G * rho 1 e r) (M - G * rho 2 e r) M (64 * G))) (64 * e + r : Nat) := by
  have r0 := rho_range 0 e (r := (r : Int)) (by omega) (by omega)
  have r1 := rho_range 1 e (r := (r : Int)) (by omega) (by omega)
  have r2 := rho_range 2 e (r := (r : Int)) (by omega) (by omega)
  obtain ⟨A, Z, B, C⟩ := rgbH_ap (M := M) hG r0 r1 r2
  have hv := rho_vals he (r : Int)
  generalize rho 0 e r = p0 at *
  generalize rho 1 e r = p1 at *
  generalize rho 2 e r = p2 at *
  refine ⟨max_of (Int.le_of_lt hG) r0.1 r1.1 r2.1 ?_, min_of (Int.le_of_lt hG) r0.2 r1.2 r2.2 ?_, ?_⟩
  · rcases hv with h | h | h | h | h | h <;> omega
  · rcases hv with h | h | h | h | h | h <;> omega
  · have fin : ∀ n : Int, Ap (rgbH (M - G * p0) (M - G * p1) (M - G * p2) M (64 * G)) n 64 10000 → n.natAbs < 384 → n ≠ 0 → (if 0 < n then n else n + 384) = ((64 * e + r : Nat) : Int) → HueIs (hueF (rgbH (M - G * p0) (M - G * p1) (M - G * p2) M (64 * G))) (64 * e + r : Nat) := fun n h1 h2 h3 h4 => by
      have := hueF_ap h1 h2 h3
      rw [h4] at this
      exact this
    rcases hv with ⟨h, q0, q1, q2⟩ | ⟨h, q0, q1, q2⟩ | ⟨h, q0, q1, q2⟩ | ⟨h, q0, q1, q2⟩ | ⟨h, q0, q1, q2⟩ | ⟨h, q0, q1, q2⟩
    · by_cases hr0 : r = 0
      · rw [Z q0 (by omega), h, hr0]
        exact hueF_zero
      · exact fin _ (A q0 (by omega)) (Nat.lt_of_le_of_lt (nab_sub r2 r1) (by decide)) (by omega) (by rw [if_pos (by omega)]; omega)
    · by_cases hr0 : r = 0
      · exact fin _ (A (by omega) (by omega)) (Nat.lt_of_le_of_lt (nab_sub r2 r1) (by decide)) (by omega) (by rw [if_pos (by omega)]; omega)
      · exact fin _ (B (by omega) q1) (Nat.lt_of_le_of_lt (nab_addsub (by decide) r0 r2) (by decide)) (by omega) (by rw [if_pos (by omega)]; omega)
    · exact fin _ (B (by omega) q1) (Nat.lt_of_le_of_lt (nab_addsub (by decide) r0 r2) (by decide)) (by omega) (by rw [if_pos (by omega)]; omega)
    · by_cases hr0 : r = 0
      · exact fin _ (B (by omega) (by omega)) (Nat.lt_of_le_of_lt (nab_addsub (by decide) r0 r2) (by decide)) (by omega) (by rw [if_pos (by omega)]; omega)
      · exact fin _ (C (by omega) (by omega)) (Nat.lt_of_le_of_lt (nab_addsub (by decide) r1 r0) (by decide)) (by omega) (by rw [if_pos (by omega)]; omega)
    · exact fin _ (C (by omega) (by omega)) (Nat.lt_of_le_of_lt (nab_addsub (by decide) r1 r0) (by decide)) (by omega) (by rw [if_pos (by omega)]; omega)
    · exact fin _ (A q0 (by omega)) (Nat.lt_of_le_of_lt (nab_sub r2 r1) (by decide)) (by omega) (by rw [if_neg (by omega)]; omega)

theorem fill_all : PySem.Challenge.rw_tl0014_01 = PySem.Challenge.rw_tl0014_01 ∧ Mine.heapK = Mine.heapK := by
  k_fill
  exact ⟨rfl, rfl⟩
theorem with_prelude : True := by
  k_with "execs cons" => (k_dflt (refine execs_cons_tok (by (try dsimp only); first | assumption | omega) ?_; (try dsimp only)))
  k_with "exec For Name Name cons nil" => (k_dflt (refine for_tok (by (try dsimp only); first | assumption | omega) ?_; (try dsimp only)))
  k_with "exec For Name Call cons nil" => (k_dflt (refine for_tok (by (try dsimp only); first | assumption | omega) ?_; (try dsimp only)))
  k_with "pyIter ref" => (k_dflt (refine' pyIter_lstN ?zz4k1 ?zz4k2 ?zz4k3 ?_; (case zz4k1 => k_asm); (case zz4k2 => k_asm); (case zz4k3 => assumption); k_whole; intro I' oI' h' hSt' F' N' off'))
  k_with "pyIter ref" => (k_dflt ((rename IsRange _ _ _ _ _ _ _ _ => rgX); refine' pyIter_rangeN ?zz5k1 ?zz5k2 rgX ?zz5k3 ?_; (case zz5k1 => k_asm); (case zz5k2 => k_asm); (case zz5k3 => omega); k_whole; intro I' oI' h' hSt' F' N' off'))
  k_with "binaryOp Pow int int" => (k_dflt (refine powN (by omega) (by assumption) ?_))
  k_with "call builtin:hasattr" => (k_dflt (first | (refine' hasattr_tupN ?zz7k1 ?zz7k2 ?zz7k3 ?_; (case zz7k1 => k_asm); (case zz7k2 => k_asm); (case zz7k3 => first | assumption | k_mem); k_whole; intro h' tk' F' N') | (refine' hasattr_lstN ?zz7k1 ?zz7k2 ?zz7k3 ?_; (case zz7k1 => k_asm); (case zz7k2 => k_asm); (case zz7k3 => first | assumption | k_mem); k_whole; intro h' tk' F' N')))
  k_with "binaryOp Add ref ref" => (k_dflt (first | (refine' add_tupN ?zz8k1 ?zz8k2 ?zz8k3 ?zz8k4 ?zz8k5 ?_; (case zz8k1 => k_asm); (case zz8k2 => k_asm); (case zz8k3 => assumption); (case zz8k4 => assumption); (case zz8k5 => assumption); k_whole; intro D' n' objs' h' F' N' fr' mem') | (refine' add_lstN ?zz8k1 ?zz8k2 ?zz8k3 ?zz8k4 ?zz8k5 ?_; (case zz8k1 => k_asm); (case zz8k2 => k_asm); (case zz8k3 => assumption); (case zz8k4 => assumption); (case zz8k5 => assumption); k_whole; intro D' n' objs' h' F' N' fr' mem')))
  k_with "compareOp Is int int" => (k_dflt (refine is_int (by assumption) (by assumption) (by assumption) (by assumption) (by assumption) ?_ ?_ <;> intro hIs'))
  k_with "compareOp Is ref ref" => (k_dflt (refine' is_tup ?zz10k1 ?zz10k2 ?zz10k3 ?zz10k4 ?zz10k5 ?_ ?_; (case zz10k1 => k_asm); (case zz10k2 => first | assumption | exact List.mem_cons_of_mem _ (by assumption)); (case zz10k3 => first | assumption | exact List.mem_cons_of_mem _ (by assumption)); (case zz10k4 => assumption); (case zz10k5 => assumption); all_goals (intro hIs')))
  k_with "compareOp Eq ref ref" => (k_dflt (refine' eq_tup ?zz11k1 ?zz11k2 ?zz11k3 ?zz11k4 ?zz11k5 ?zz11k6 ?_ ?_; (case zz11k1 => k_asm); (case zz11k2 => first | assumption | exact List.mem_cons_of_mem _ (by assumption)); (case zz11k3 => first | assumption | exact List.mem_cons_of_mem _ (by assumption)); (case zz11k4 => exact NZ.ints (by assumption)); (case zz11k5 => exact NZ.ints (by assumption)); (case zz11k6 => ktr_units); all_goals (intro hIs')))
  k_with "call type:int" => (k_dflt (refine int_fin (by first | assumption | (dsimp only [Part.ok, half, hsvX] at *; first | assumption | exact And.right (And.right (by assumption)))) ?_))
  k_with "call builtin:max" => (k_dflt (refine' max3N rfl ?zz13k1 ?zz13k2 ?_; (case zz13k1 => k_asm); (case zz13k2 => k_asm); k_whole; intro M' t' h' tk' hM' F' N'))
  k_with "call builtin:min" => (k_dflt (refine' min3N rfl ?zz14k1 ?zz14k2 ?_; (case zz14k1 => k_asm); (case zz14k2 => k_asm); k_whole; intro M' t' h' tk' hM' F' N'))
  k_with "binaryOp Div int int" => (k_dflt (refine divN rfl (by omega) (by omega) ?_))
  k_with "binaryOp Mod float float" => (k_dflt (refine modN rfl ?_))
  k_with "storeName" => (k_dflt (refine' storeLet ?zz17F ?zz17N ?_ ?zz17a ?zz17b; (case zz17F => k_asm); (case zz17N => k_asm); (case zz17a => rfl); (case zz17b => rfl); k_whole; intro mm h' F' N'; (try k_sweep); (try dsimp only)))
  trivial
-- S1
theorem rest_S1 : True := by
  w_top off
  trivial
theorem add_spec (w : World) (x y : Int) (tx ty : Tok) (news : Led) : Spec w 77 1 8 [.int x tx, .int y ty] news (fun r objs => objs = [] ∧ ∃ t, r = .int (x + y) t) := by
  intro p loose mean mg mb dp un gd cn cs a ccd cl outer A₀ base h₀ L m s Q E B F X N T hk ht hd hu hret
  refine wpAny_with_toks (Nat.le_refl _) ?_
  refine wpAny_call ?_
  k_dflt cell_enter
  k_steps
  all_goals (exact hret _ _ _ [] (by first | assumption | omega) (by k_asm) (by k_asm) fresh_nil ⟨rfl, _, rfl⟩)
theorem mul_spec (w : World) (x y : Int) (tx ty : Tok) (news : Led) (hm : IntMulOk x y) : Spec w 84 1 8 [.int x tx, .int y ty] news (fun r objs => objs = [] ∧ ∃ t, r = .int (x * y) t) := by
  intro p loose mean mg mb dp un gd cn cs a ccd cl outer A₀ base h₀ L m s Q E B F X N T hk ht hd hu hret
  refine wpAny_with_toks (Nat.le_refl _) ?_
  refine wpAny_call ?_
  k_dflt cell_enter
  k_steps
  all_goals (exact hret _ _ _ [] (by first | assumption | omega) (by k_asm) (by k_asm) fresh_nil ⟨rfl, _, rfl⟩)
theorem concat_tup (w : World) (x y : Addr) (vs us : List Value) (nx ny : Nat) (news : Led) (h1 : (x, tupO vs nx) ∈ news) (h2 : (y, tupO us ny) ∈ news) (hs : vs.length + us.length ≤ 1000) : Spec w 91 1 8 [.ref x, .ref y] news (fun r objs => ∃ D n, r = .ref D ∧ ∀ l : Led, (x, tupO vs nx) ∈ l → (y, tupO us ny) ∈ l → (D, tupO (vs ++ us) n) ∈ objs ++ l) := by
  intro p loose mean mg mb dp un gd cn cs a ccd cl outer A₀ base h₀ L m s Q E B F X N T hk ht hd hu hret
  refine wpAny_with_toks (Nat.le_refl _) ?_
  refine wpAny_call ?_
  k_dflt cell_enter
  k_steps
  all_goals (refine hret _ _ _ _ (by first | assumption | omega) (by k_asm) (by k_asm) (by assumption) ⟨_, _, rfl, by assumption⟩)
theorem concat_lst (w : World) (x y : Addr) (vs us : List Value) (nx ny : Nat) (news : Led) (h1 : (x, lstO vs nx) ∈ news) (h2 : (y, lstO us ny) ∈ news) (hs : vs.length + us.length ≤ 1000) : Spec w 91 1 8 [.ref x, .ref y] news (fun r objs => ∃ D n, r = .ref D ∧ (D, lstO (vs ++ us) n) ∈ objs ++ news) := by
  intro p loose mean mg mb dp un gd cn cs a ccd cl outer A₀ base h₀ L m s Q E B F X N T hk ht hd hu hret
  refine wpAny_with_toks (Nat.le_refl _) ?_
  refine wpAny_call ?_
  k_dflt cell_enter
  k_steps
  all_goals (refine hret _ _ _ _ (by first | assumption | omega) (by k_asm) (by k_asm) (by assumption) ⟨_, _, rfl, by assumption⟩)

-- S2
theorem rest_S2 : True := by
  w_top off
  trivial
theorem count_ints (w : World) (f : Nat → Int) (T : Nat) (x : Addr) (vs : List Value) (xs : List Int) (n : Nat) (y : Int) (ty : Tok) (news : Led) (h1 : (x, lstO vs n) ∈ news) (hv : NZ f T vs xs) (h0 : ty ≠ 0) (hy : f ty = y) : Spec w 98 1 8 [.ref x, .int y ty] news (fun r objs => objs = [] ∧ ∃ t, r = .int ((xs.count y : Nat) : Int) t) := by
  intro p loose mean mg mb dp un gd cn cs a ccd cl outer A₀ base h₀ L m s Q E B F X N T hk ht hd hu hret
  refine wpAny_with_toks (Nat.le_refl _) ?_
  refine wpAny_call ?_
  k_dflt cell_enter
  k_steps
  rename StList _ _ _ => hSt
  rename Fr _ _ _ _ => F1
  rename News _ _ _ _ => N1
  rename (∀ p ∈ news, p.1 ≠ _) => off1
  refine forCore (it_list rfl (ax := x) (by intro e; exact off1 _ h1 e) vs.toArray) (fun _ _ _ _ _ _ h => h) rfl rfl
    (fun i a m led => 1 ≤ a ∧ led = news ∧ m "a" = some (.ref x) ∧ m "b" = some (.int y ty) ∧ ∃ t, m "count" = some (.int (((xs.take i).count y : Nat) : Int) t)) hSt F1 rfl N1 off1 ?_ ?_ ?_ ?_
  · exact ⟨by (try dsimp only); first | assumption | omega, rfl, rfl, rfl, _, rfl⟩
  · intro i a m led h hz165
    apply el_ARA hz165
    clear hz165
    intro _ _ N _
    exact ⟨_, (N _ h1).1, rfl, _, rfl⟩
  · intro i v oI m₁ led h a tk E' hi hv' htk hSt' hz166
    apply el_ARAAEA hz166
    clear hz166
    intro hh1 ha hb tc hc F2 N2 off2
    have hz171 := hv.get (i := i) (by simpa using hv')
    revert F2
    apply el_EEARAAA hz171
    clear hz171
    intro xi ti hxi q1 q2 q3 F2
    rw [put_eq hb, put_eq hc] at F2
    have h1' : 1 ≤ tk := by omega
    have hcnt : (xs.take (i + 1)).count y = (xs.take i).count y + (if xi = y then 1 else 0) := by
      rw [List.take_add_one, hxi, List.count_append]
      by_cases e : xi = y <;> simp [e]
    k_steps
    all_goals first
      | contradiction
      | (have e : (((xs.take (i + 1)).count y : Nat) : Int) = (((xs.take i).count y : Nat) : Int) + 1 := by rw [hcnt, if_pos (by assumption)]; rfl
         exact forEnd_next (by k_asm) (by k_asm) (by assumption) (fun hle => ⟨by omega, rfl, by with_unfolding_all exact ha, by with_unfolding_all rfl, some_int rfl e.symm⟩))
      | (have e : (((xs.take (i + 1)).count y : Nat) : Int) = (((xs.take i).count y : Nat) : Int) := by rw [hcnt, if_neg (by assumption)]; rfl
         exact forEnd_next (by k_asm) (by k_asm) (by assumption) (fun hle => ⟨by omega, rfl, by with_unfolding_all exact ha, by with_unfolding_all rfl, some_int rfl e.symm⟩))
  · intro m₁ led h a tk htk hz167
    apply el_ARAAEA hz167
    clear hz167
    intro hh1 ha hb tc hc F2 N2 off2
    rw [put_eq hc] at F2
    have h1' : 1 ≤ tk := by omega
    dsimp only
    k_steps
    have e : xs.take vs.toArray.size = xs := List.take_of_length_le (by simp [hv.length])
    rw [e]
    exact hret _ _ _ [] (by first | assumption | omega) (by k_asm) (by k_asm) fresh_nil ⟨rfl, _, rfl⟩
theorem count_tups (w : World) (f : Nat → Int) (T : Nat) (x : Addr) (vs : List Value) (xs : List (List Int)) (n : Nat) (ya : Addr) (us : List Value) (ny : Nat) (y : List Int) (news : Led) (h1 : (x, lstO vs n) ∈ news) (hv : Tups f T news vs xs) (h2 : (ya, tupO us ny) ∈ news) (hy : NZ f T us y) : Spec w 98 1 80 [.ref x, .ref ya] news (fun r objs => objs = [] ∧ ∃ t, r = .int ((xs.count y : Nat) : Int) t) := by
  intro p loose mean mg mb dp un gd cn cs a ccd cl outer A₀ base h₀ L m s Q E B F X N T hk ht hd hu hret
  refine wpAny_with_toks (Nat.le_refl _) ?_
  refine wpAny_call ?_
  k_dflt cell_enter
  k_steps
  rename StList _ _ _ => hSt
  rename Fr _ _ _ _ => F1
  rename News _ _ _ _ => N1
  rename (∀ p ∈ news, p.1 ≠ _) => off1
  refine forCore (it_list rfl (ax := x) (by intro e; exact off1 _ h1 e) vs.toArray) (fun _ _ _ _ _ _ h => h) rfl rfl
    (fun i a m led => 1 ≤ a ∧ led = news ∧ m "a" = some (.ref x) ∧ m "b" = some (.ref ya) ∧ ∃ t, m "count" = some (.int (((xs.take i).count y : Nat) : Int) t)) hSt F1 rfl N1 off1 ?_ ?_ ?_ ?_
  · exact ⟨by (try dsimp only); first | assumption | omega, rfl, rfl, rfl, _, rfl⟩
  · intro i a m led h hz168
    apply el_ARA hz168
    clear hz168
    intro _ _ N _
    exact ⟨_, (N _ h1).1, rfl, _, rfl⟩
  · intro i v oI m₁ led h a tk E' hi hv' htk hSt' hz169
    apply el_ARAAEA hz169
    clear hz169
    intro hh1 ha hb tc hc F2 N2 off2
    have hz172 := hv.get (i := i) (by simpa using hv')
    revert F2
    apply el_EEEEARAA hz172
    clear hz172
    intro ai ui ni xi hxi q1 q2 F2
    rw [put_eq hb, put_eq hc] at F2
    have h1' : 1 ≤ tk := by omega
    have hcnt : (xs.take (i + 1)).count y = (xs.take i).count y + (if xi = y then 1 else 0) := by
      rw [List.take_add_one, hxi, List.count_append]
      by_cases e : xi = y <;> simp [e]
    k_steps
    all_goals first
      | contradiction
      | (have e : (((xs.take (i + 1)).count y : Nat) : Int) = (((xs.take i).count y : Nat) : Int) + 1 := by rw [hcnt, if_pos (by assumption)]; rfl
         exact forEnd_next (by k_asm) (by k_asm) (by assumption) (fun hle => ⟨by omega, rfl, by with_unfolding_all exact ha, by with_unfolding_all rfl, some_int rfl e.symm⟩))
      | (have e : (((xs.take (i + 1)).count y : Nat) : Int) = (((xs.take i).count y : Nat) : Int) := by rw [hcnt, if_neg (by assumption)]; rfl
         exact forEnd_next (by k_asm) (by k_asm) (by assumption) (fun hle => ⟨by omega, rfl, by with_unfolding_all exact ha, by with_unfolding_all rfl, some_int rfl e.symm⟩))
  · intro m₁ led h a tk htk hz170
    apply el_ARAAEA hz170
    clear hz170
    intro hh1 ha hb tc hc F2 N2 off2
    rw [put_eq hc] at F2
    have h1' : 1 ≤ tk := by omega
    dsimp only
    k_steps
    have e : xs.take vs.toArray.size = xs := List.take_of_length_le (by simp [hv.length])
    rw [e]
    exact hret _ _ _ [] (by first | assumption | omega) (by k_asm) (by k_asm) fresh_nil ⟨rfl, _, rfl⟩

-- S3
theorem rest_S3 : True := by
  w_top off
  trivial
theorem hsv_spec (w : World) (x y : UInt64) (tx ty tz : Tok) (news : Led) (hf : Float64.isFinite (hsvX x) = true) (hb : -1000 ≤ hsvI x ∧ hsvI x ≤ 1000) :
    Spec w 70 1 8 [.float x tx, .float y ty, .int 16384 tz] news (fun r objs => ∃ D vs n, r = .ref D ∧ objs = [(D, tupO vs n)] ∧ Parts vs (hsvP x y)) := by
  intro p loose mean mg mb dp un gd cn cs a ccd cl outer A₀ base h₀ L m s Q E B F X N T hk ht hd hu hret
  have hf' : Float64.isFinite (Float64.mul x 4618441417868443648) = true := hf
  have hb' : -1000 ≤ Flt.toInt Float64.truncOf (Float64.mul x 4618441417868443648) ∧ Flt.toInt Float64.truncOf (Float64.mul x 4618441417868443648) ≤ 1000 := hb
  refine wpAny_with_toks (Nat.le_refl _) ?_
  refine wpAny_call ?_
  k_dflt cell_enter
  k_steps
  all_goals first
    | (exfalso; have hm := Int.fmod_nonneg_of_pos (Flt.toInt Float64.truncOf (Float64.mul x 4618441417868443648)) (b := 6) (by decide); have hm2 := Int.fmod_lt_of_pos (Flt.toInt Float64.truncOf (Float64.mul x 4618441417868443648)) (b := 6) (by decide); omega)
    | (refine hret _ _ _ [(_, _)] (by first | assumption | omega) (by k_asm) (by k_asm) (fun q hq p hp => by rw [List.mem_singleton.mp hq]; exact Nat.ne_of_lt ((by assumption : ∀ p ∈ news, p.1 < _) p hp)) ⟨_, _, _, rfl, rfl, ?_⟩
       unfold hsvP hsvI hsvX
       first
         | (rw [if_pos (by assumption)]; exact .i (.i (.i .nil)))
         | (rw [if_neg (by simp_all)]
            (try simp only [*, if_true, if_false])
            (try simp)
            first
              | exact .i (.f (.f .nil))
              | exact .f (.i (.f .nil))
              | exact .f (.f (.i .nil))))
theorem whole_f (w : World) (x : UInt64) (tx : Tok) (news : Led) (hf : (Part.f x).ok) : Spec w 105 1 8 [.float x tx] news (fun r objs => objs = [] ∧ ∃ t, r = .int (wholeP (.f x)) t) := by
  intro p loose mean mg mb dp un gd cn cs a ccd cl outer A₀ base h₀ L m s Q E B F X N T hk ht hd hu hret
  refine wpAny_with_toks (Nat.le_refl _) ?_
  refine wpAny_call ?_
  k_dflt cell_enter
  k_steps
  all_goals exact hret _ _ _ [] (by first | assumption | omega) (by k_asm) (by k_asm) fresh_nil ⟨rfl, _, rfl⟩
theorem whole_i (w : World) (x : Int) (tx : Tok) (news : Led) (hf : (Part.i x).ok) : Spec w 105 1 8 [.int x tx] news (fun r objs => objs = [] ∧ ∃ t, r = .int (wholeP (.i x)) t) := by
  intro p loose mean mg mb dp un gd cn cs a ccd cl outer A₀ base h₀ L m s Q E B F X N T hk ht hd hu hret
  have hx : 0 ≤ x ∧ x ≤ 1000000 := ⟨hf.1, hf.2.1⟩
  refine wpAny_with_toks (Nat.le_refl _) ?_
  refine wpAny_call ?_
  k_dflt cell_enter
  k_steps
  all_goals exact hret _ _ _ [] (by first | assumption | omega) (by k_asm) (by k_asm) fresh_nil ⟨rfl, _, rfl⟩

-- S4
theorem rest_S4 : True := by
  w_top off
  trivial
theorem mx_x {x y z M : Int} (e : M = max (max x y) z) : x ≤ M ∧ y ≤ M ∧ z ≤ M := e ▸ ⟨Int.le_trans (Int.le_max_left x y) (Int.le_max_left _ z), Int.le_trans (Int.le_max_right x y) (Int.le_max_left _ z), Int.le_max_right _ z⟩
theorem mn_x {x y z m : Int} (e : m = min (min x y) z) : m ≤ x := e ▸ Int.le_trans (Int.min_le_left _ z) (Int.min_le_left x y)
theorem mx_b {x y z M : Int} (hx : 0 ≤ x ∧ x ≤ 100000000) (hy : 0 ≤ y ∧ y ≤ 100000000) (hz : 0 ≤ z ∧ z ≤ 100000000) (e : M = max (max x y) z) : M ≤ 1000000000 := e ▸ Int.le_trans (Int.max_le.mpr ⟨Int.max_le.mpr ⟨hx.2, hy.2⟩, hz.2⟩) (by decide)
theorem mn_b {x y z m : Int} (hx : 0 ≤ x ∧ x ≤ 100000000) (hy : 0 ≤ y ∧ y ≤ 100000000) (hz : 0 ≤ z ∧ z ≤ 100000000) (e : m = min (min x y) z) : 0 ≤ m := e ▸ Int.le_min.mpr ⟨Int.le_min.mpr ⟨hx.1, hy.1⟩, hz.1⟩
theorem mx_rng {x y z M m : Int} (hx : 0 ≤ x ∧ x ≤ 100000000) (hy : 0 ≤ y ∧ y ≤ 100000000) (hz : 0 ≤ z ∧ z ≤ 100000000) (e : M = max (max x y) z) (e2 : m = min (min x y) z) : 0 ≤ M - m ∧ M - m ≤ 1000000000 :=
  ⟨Int.sub_nonneg.mpr (Int.le_trans (mn_x e2) (mx_x e).1), Int.le_trans (Int.sub_le_self _ (mn_b hx hy hz e2)) (mx_b hx hy hz e)⟩
theorem mx_rx {x y z M : Int} (hx : 0 ≤ x ∧ x ≤ 100000000) (hy : 0 ≤ y ∧ y ≤ 100000000) (hz : 0 ≤ z ∧ z ≤ 100000000) (e : M = max (max x y) z) : 0 ≤ M - x ∧ M - x ≤ 1000000000 :=
  ⟨Int.sub_nonneg.mpr (mx_x e).1, Int.le_trans (Int.sub_le_self _ hx.1) (mx_b hx hy hz e)⟩
theorem mx_ry {x y z M : Int} (hx : 0 ≤ x ∧ x ≤ 100000000) (hy : 0 ≤ y ∧ y ≤ 100000000) (hz : 0 ≤ z ∧ z ≤ 100000000) (e : M = max (max x y) z) : 0 ≤ M - y ∧ M - y ≤ 1000000000 :=
  ⟨Int.sub_nonneg.mpr (mx_x e).2.1, Int.le_trans (Int.sub_le_self _ hy.1) (mx_b hx hy hz e)⟩
theorem mx_rz {x y z M : Int} (hx : 0 ≤ x ∧ x ≤ 100000000) (hy : 0 ≤ y ∧ y ≤ 100000000) (hz : 0 ≤ z ∧ z ≤ 100000000) (e : M = max (max x y) z) : 0 ≤ M - z ∧ M - z ≤ 1000000000 :=
  ⟨Int.sub_nonneg.mpr (mx_x e).2.2, Int.le_trans (Int.sub_le_self _ hz.1) (mx_b hx hy hz e)⟩
theorem mx_pos {x y z M m : Int} (_ : 0 ≤ x ∧ x ≤ 100000000) (e : M = max (max x y) z) (e2 : m = min (min x y) z) (ne : m ≠ M) : 0 < M - m := Int.sub_pos.mpr (Int.lt_iff_le_and_ne.mpr ⟨Int.le_trans (mn_x e2) (mx_x e).1, ne⟩)
theorem mx_0 {x y z M m : Int} (hx : 0 ≤ x ∧ x ≤ 100000000) (hy : 0 ≤ y ∧ y ≤ 100000000) (hz : 0 ≤ z ∧ z ≤ 100000000) (e : M = max (max x y) z) (e2 : m = min (min x y) z) (ne : m ≠ M) : 0 < M := Int.lt_of_le_of_lt (mn_b hx hy hz e2) (Int.sub_pos.mp (mx_pos hx e e2 ne))
theorem with_rgb : True := by
  k_with "my_omega" => first | (with_reducible apply mx_rng rgx rgy rgz <;> with_reducible assumption) | (with_reducible apply mx_rx rgx rgy rgz <;> with_reducible assumption) | (with_reducible apply mx_ry rgx rgy rgz <;> with_reducible assumption) | (with_reducible apply mx_rz rgx rgy rgz <;> with_reducible assumption) | (with_reducible apply mx_0 rgx rgy rgz <;> with_reducible assumption) | (with_reducible apply mx_pos rgx <;> with_reducible assumption) | fail
  trivial
theorem rgb_spec (w : World) (x y z : Int) (tx ty tz : Tok) (news : Led) (rgx : 0 ≤ x ∧ x ≤ 100000000) (rgy : 0 ≤ y ∧ y ≤ 100000000) (rgz : 0 ≤ z ∧ z ≤ 100000000) :
    Spec w 63 1 8 [.int x tx, .int y ty, .int z tz] news (fun r objs => ∃ D vs n, r = .ref D ∧ objs = [(D, tupO vs n)] ∧ Parts vs (rgbP x y z (max (max x y) z) (min (min x y) z))) := by
  intro p loose mean mg mb dp un gd cn cs a ccd cl outer A₀ base h₀ L m s Q E B F X N T hk ht hd hu hret
  refine wpAny_with_toks (Nat.le_refl _) ?_
  refine wpAny_call ?_
  k_dflt cell_enter
  k_steps
  all_goals (
    rename (_ = max _ _) => hM1; rename (_ = min _ _) => hM2; subst hM1; subst hM2
    refine hret _ _ _ [(_, _)] (by first | assumption | omega) (by k_asm) (by k_asm) (fun q hq p hp => by rw [List.mem_singleton.mp hq]; exact Nat.ne_of_lt ((by assumption : ∀ p ∈ news, p.1 < _) p hp)) ⟨_, _, _, rfl, rfl, ?_⟩
    unfold rgbP rgbH
    first
      | (rw [if_pos (by assumption)]; exact .f (.f (.i .nil)))
      | (rw [if_neg (by omega)]; first
          | (rw [if_pos (by omega)]; exact .f (.f (.i .nil)))
          | (rw [if_neg (by omega)]; first
              | (rw [if_pos (by omega)]; exact .f (.f (.i .nil)))
              | (rw [if_neg (by omega)]; exact .f (.f (.i .nil))))))

theorem with_prelude2 : True := by
  k_with "call ref" => (k_dflt ((with_reducible show wpAny _ _ (call (Value.ref 84) _) _ _ _); (refine' Spec.useI (mul_spec _ _ _ _ _ _ ?zz18k0) ?zz18k1 ?zz18k2 ?zz18k3 ?zz18k4 ?zz18k5 ?zz18k6 ?zz18k7 ?zz18k8 ?zz18k9 ?_; (case zz18k0 => assumption); (case zz18k1 => k_asm); (case zz18k2 => k_asm); (case zz18k3 => k_asm); (case zz18k4 => k_asm); (case zz18k5 => k_asm); (case zz18k6 => first | exact rfl | assumption); (case zz18k7 => ((try dsimp only); first | assumption | omega)); (case zz18k8 => ktr_room); (case zz18k9 => ktr_units); k_whole; intro t1 h' tk' ht' F' N'; (try dsimp only at ht'); (try dsimp only); (try k_fold))))
  k_with "call ref" => (k_dflt ((with_reducible show wpAny _ _ (call (Value.ref 77) _) _ _ _); (refine' Spec.useI (add_spec _ _ _ _ _ _) ?zz19k1 ?zz19k2 ?zz19k3 ?zz19k4 ?zz19k5 ?zz19k6 ?zz19k7 ?zz19k8 ?zz19k9 ?_; (case zz19k1 => k_asm); (case zz19k2 => k_asm); (case zz19k3 => k_asm); (case zz19k4 => k_asm); (case zz19k5 => k_asm); (case zz19k6 => first | exact rfl | assumption); (case zz19k7 => ((try dsimp only); first | assumption | omega)); (case zz19k8 => ktr_room); (case zz19k9 => ktr_units); k_whole; intro t1 h' tk' ht' F' N'; (try dsimp only at ht'); (try dsimp only); (try k_fold))))
  trivial
-- S5
theorem rest_S5 : True := by
  w_top off
  trivial
theorem steps_spec (w : World) (n : Nat) (bs : Int) (tx ty : Tok) (news : Led) (hn : n ≤ 6) (hb : Builtin.Int.intBits bs ≤ 700) : Spec w 117 3 20 [.int n tx, .int bs ty] news (fun r objs => objs = [] ∧ ∃ t, r = .int (stepsZ bs n) t) := by
  intro p loose mean mg mb dp un gd cn cs a ccd cl outer A₀ base h₀ L m s Q E B F X N T hk ht hd hu hret
  refine wpAny_with_toks (Nat.le_refl _) ?_
  refine wpAny_call ?_
  k_dflt cell_enter
  k_steps
  rename StRange _ _ _ _ => hSt
  rename Fr _ _ _ _ => F1
  rename News _ _ _ _ => N1
  rename (∀ p ∈ news, p.1 ≠ _) => off1
  refine forCore (it_range rfl _ 1 _) (fun i a b c v h hP => by obtain ⟨t, h1, h2, h3⟩ := hP; exact ⟨t, h1, Nat.lt_of_lt_of_le h2 h, h3⟩) rfl rfl
    (fun i a m led => 1 ≤ a ∧ led = news ∧ m "base" = some (.int bs ty) ∧ ∃ t, m "product" = some (.int (stepsZ bs i) t)) hSt F1 rfl N1 off1 ?_ ?_ ?_ ?_
  · exact ⟨by (try dsimp only); first | assumption | omega, rfl, rfl, _, rfl⟩
  · rintro i a m led h _ _ _
    trivial
  · intro i v oI m₁ led h a tk E' hi hz173
    apply el_EAAR hz173
    clear hz173
    intro tv _ _ htk hSt' hz174
    apply el_ARAEA hz174
    clear hz174
    intro ha hbs tc hc F2 N2 off2
    rw [put_eq hbs, put_eq hc] at F2
    have hi' : i < 6 := by omega
    have hk1 : (1 + (i : Int)).toNat = i + 1 := by omega
    have hm := mulOk_steps hb i hi'
    rw [← hk1] at hm
    have h1 : 1 ≤ tk := by omega
    k_steps
    refine forEnd_next (by k_asm) (by k_asm) (by assumption) (fun hle => ⟨by omega, rfl, by with_unfolding_all rfl, some_int rfl ?_⟩)
    rw [hk1]
    rfl
  · intro m₁ led h a tk htk hz175
    apply el_ARAEA hz175
    clear hz175
    intro ha hbs tc hc F2 N2 off2
    rw [put_eq hc] at F2
    dsimp only
    have h1 : 1 ≤ tk := by omega
    k_steps
    have e : ((n : Int) + 1 - 1).toNat = n := by omega
    rw [e]
    exact hret _ _ _ [] (by first | assumption | omega) (by k_asm) (by k_asm) fresh_nil ⟨rfl, _, rfl⟩

local macro_rules | `(tactic| cell_enter) => `(tactic| k_extra "prelude3_cell_enter")
local macro_rules | `(tactic| k_all) => `(tactic| k_extra "prelude3_k_all")
theorem with_prelude3 : True := by
  k_with "my_mem" => (first | ((repeat (first | assumption | apply List.mem_cons_of_mem)); done) | k_mem)
  k_with "binaryOp Mult ref int" => (k_dflt (refine' mulN ?zz21k1 ?zz21k2 ?zz21k3 ?zz21k4 ?_; (case zz21k1 => k_asm); (case zz21k2 => k_asm); (case zz21k3 => walk_at "my_mem"); (case zz21k4 => omega); k_whole; intro D' h' F' N' off'))
  k_with "setItem ref int" => (k_dflt (refine' setN ?zz22k1 ?zz22k2 ?zz22k3 ?zz22k4 ?_; (case zz22k1 => k_asm); (case zz22k2 => k_asm); (case zz22k3 => first | exact upd2 (by assumption) (by assumption) | exact Upd.head (by assumption) | k_upd); (case zz22k4 => first | assumption | omega); k_whole; intro h' F' N'))
  k_with "getItem ref int" => (k_dflt (refine' getN ?zz23k1 ?zz23k2 ?zz23k3 ?zz23k4 ?_; (case zz23k1 => k_asm); (case zz23k2 => walk_at "my_mem"); (case zz23k3 => assumption); (case zz23k4 => first | assumption | omega); k_whole; intro t'))
  k_with "subscriptTail" => (k_dflt ((with_reducible show wpAny _ _ (subscriptTail _ _ (Value.ref _) (Value.int _ _)) _ _ _); refine' subN ?zz24k1 ?zz24k2 ?zz24k3 ?zz24k4 ?_ ?zz24k5; (case zz24k1 => k_asm); (case zz24k2 => walk_at "my_mem"); (case zz24k3 => assumption); (case zz24k4 => first | assumption | omega); (case zz24k5 => with_unfolding_all rfl); k_whole; intro t'))
  k_with "pyIter ref" => (k_dflt (refine' pyIter_lstN ?zz25k1 ?zz25k2 ?zz25k3 ?_; (case zz25k1 => k_asm); (case zz25k2 => k_asm); (case zz25k3 => walk_at "my_mem"); k_whole; intro I' oI' h' hSt' F' N' off'; (try dsimp only)))
  k_with "prelude3_cell_enter" => first | (refine' code_def ?zz26k1 ?zz26k2 ?zz26k3 ?zz26k4 ?zz26k5 ?zz26kA ?zz26kF ?zz26kK ?zz26k6 ?zz26k7 ?zz26k8 ?zz26k9 ?zz26kB ?_ ?zz26c2 ?zz26c3 ?zz26c4 ?zz26c5; (case zz26kA => exact rfl); (case zz26kF => exact rfl); (case zz26kK => assumption); (case zz26k1 => k_asm); (case zz26k2 => k_asm); (case zz26k3 => k_asm); (case zz26k4 => k_asm); (case zz26k5 => k_asm); (case zz26k6 => k_is); (case zz26k7 => k_is); (case zz26k8 => ktr_room); (case zz26k9 => first | exact BindsTo.of_eq (binds := [(_, _)]) rfl | exact BindsTo.of_eq (binds := [(_, _), (_, _)]) rfl | exact BindsTo.of_eq (binds := [(_, _), (_, _), (_, _)]) rfl | exact BindsTo.of_eq (binds := [(_, _), (_, _), (_, _), (_, _)]) rfl | exact BindsTo.of_eq (binds := [(_, _), (_, _), (_, _), (_, _), (_, _)]) rfl | exact BindsTo.of_eq rfl); (case zz26c5 => decide); (case zz26kB => exact locs rfl); (case zz26c2 => exact rfl); (case zz26c3 => exact rfl); (case zz26c4 => exact rfl); k_whole; intro g' L' h' FG' F' N' B' X' T'; (try dsimp only); (try k_lift B'); (try k_fold)) | (refine' code_defC ?zz26k1 ?zz26k2 ?zz26k3 ?zz26k4 ?zz26k5 ?zz26kA ?zz26kF ?zz26kK ?zz26k6 ?zz26k7 ?zz26k8 ?zz26k9 ?zz26kB ?zz26kD ?_ ?zz26c2 ?zz26c3 ?zz26c4; (case zz26kA => exact rfl); (case zz26kF => exact rfl); (case zz26kK => assumption); (case zz26k1 => k_asm); (case zz26k2 => k_asm); (case zz26k3 => k_asm); (case zz26k4 => k_asm); (case zz26k5 => k_asm); (case zz26k6 => k_is); (case zz26k7 => k_is); (case zz26k8 => ktr_room); (case zz26k9 => first | exact BindsTo.of_eq (binds := [(_, _)]) rfl | exact BindsTo.of_eq (binds := [(_, _), (_, _)]) rfl | exact BindsTo.of_eq (binds := [(_, _), (_, _), (_, _)]) rfl | exact BindsTo.of_eq (binds := [(_, _), (_, _), (_, _), (_, _)]) rfl | exact BindsTo.of_eq (binds := [(_, _), (_, _), (_, _), (_, _), (_, _)]) rfl | exact BindsTo.of_eq rfl); (case zz26kB => exact rfl); (case zz26kD => decide +kernel); (case zz26c2 => exact rfl); (case zz26c3 => exact rfl); (case zz26c4 => exact rfl); k_whole; intro g' L' h' tk' cells' FG' F' N' Y' B' X' T' l1; (try k_lt l1); k_cells Y'; (try simp only [List.cons_append, List.nil_append] at N'); (try dsimp only); (try k_lift B'); (try k_fold))
  k_with "prelude3_k_all" => first | assumption | exact List.forall_mem_nil _ | (refine' List.forall_mem_cons.mpr ⟨?zz27a, ?zz27b⟩; (case zz27a => k_ne); (case zz27b => k_all)) | (refine' ne_of_below ?zz27kx ?zz27ky; (case zz27kx => assumption); (case zz27ky => omega))
  k_with "subscriptTail" => (k_dflt ((with_reducible show wpAny _ _ (subscriptTail _ _ (Value.ref _) (Value.int _ _)) _ _ _); refine' refN ?zz28k1 ?zz28k2 ?zz28k3 ?zz28k4 ?_ ?zz28k5; (case zz28k1 => k_asm); (case zz28k2 => walk_at "my_mem"); (case zz28k3 => first | assumption | omega); (case zz28k4 => assumption); (case zz28k5 => with_unfolding_all rfl); k_whole))
  k_with "execs cons" => (k_dflt (refine execs_cons_tok (by (try dsimp only); first | assumption | omega) ?_; (try dsimp only)))
  k_with "storeName" => (k_dflt (first | (refine' storeLet ?zz30F ?zz30N ?_ ?zz30a ?zz30b; (case zz30F => k_asm); (case zz30N => k_asm); (case zz30a => rfl); (case zz30b => rfl); k_whole; intro mm h' F' N'; (try k_sweep); (try dsimp only)) | (refine' storeX_C ?zz30F ?zz30N ?zz30c ?zz30U ?zz30d ?_ ?zz30a ?zz30b; (case zz30a => rfl); (case zz30b => rfl); (case zz30F => k_asm); (case zz30N => k_asm); (case zz30c => rfl); (case zz30U => k_updF); (case zz30d => k_asm); k_whole; intro h' o' F' N' d'; (try dsimp only at N'); (try k_sweep); (try dsimp only))))
  trivial
-- S6
theorem rest_S6 : True := by
  w_top off
  trivial
theorem often_spec (w : World) (x : Addr) (vs : List Value) (xs : List Int) (n : Nat) (most : Nat) (ty : Tok) (news : Led) (h1 : (x, lstO vs n) ∈ news) (hv : IntsAre vs xs) (hm : most ≤ 1000) (hx : ∀ z ∈ xs, 0 ≤ z ∧ z ≤ most) :
    Spec w 124 3 20 [.ref x, .int most ty] news (fun r objs => ∃ D ws k, r = .ref D ∧ (D, lstO ws k) ∈ objs ∧ IntsAre ws (oftenZ most xs)) := by
  intro p loose mean mg mb dp un gd cn cs a ccd cl outer A₀ base h₀ L m s Q E B F X N T hk ht hd hu hret
  refine wpAny_with_toks (Nat.le_refl _) ?_
  refine wpAny_call ?_
  k_dflt cell_enter
  k_steps
  rename StList _ _ _ => hSt
  rename Fr _ _ _ _ => F1
  rename News _ _ _ _ => N1
  rename (∀ p ∈ (_ : Led), p.1 ≠ _) => off1
  refine forCore1 (it_list rfl (ax := x) (by intro e; exact off1 _ (by apply List.mem_cons_of_mem; apply List.mem_cons_of_mem; exact h1) e) vs.toArray) (fun _ _ _ _ _ _ h => h) rfl rfl
    (fun D rest i a m led => 1 ≤ a ∧ m "most" = some (.int most ty) ∧ m "often" = some (.ref D) ∧ ∃ ws, led = (D, lstO ws 0) :: rest ∧ IntsAre ws (oftenZ most (xs.take i))) hSt F1 rfl N1 off1 ?j0 ?src ?turn ?done
  case j0 =>
    have e : ((most : Int) + 1).toNat = most + 1 := by omega
    refine ⟨by (try dsimp only); first | assumption | omega, rfl, rfl, _, rfl, ?_⟩
    rw [e, List.take_zero, often_nil]
    exact ints_replicate _ _ _
  case src =>
    intro i a m led h hz176
    apply el_AAAERA hz176
    clear hz176
    intro _ _ _ ws _ N _
    exact ⟨_, (N (x, lstO vs n) (by apply List.mem_cons_of_mem; apply List.mem_cons_of_mem; exact h1)).1, rfl, _, rfl⟩
  case turn =>
    intro i v oI m₁ led h a tk E' hi hv' htk hSt' hz177
    apply el_AAAERA hz177
    clear hz177
    intro ha hq hb ws hw F2 N2 off2
    have hz179 := ints_get hv (i := i) (by simpa using hv')
    revert F2
    apply el_EEAR hz179
    clear hz179
    intro xi ti hxi F2
    have hz := hx xi (List.mem_of_getElem? hxi)
    rw [put_eq hb] at F2
    have h1' : 1 ≤ tk := by omega
    have hl : ws.length = most + 1 := by rw [hw.length]; simp [oftenZ]
    have hb1 : 0 ≤ xi ∧ xi < ws.length ∧ xi ≤ 1000000 := by omega
    k_steps
    have hi' : i < xs.length := by have := hv.length; simp at hi; omega
    refine forEnd_next (by k_asm) (by k_asm) (off_swap off2) (fun hle => ⟨by omega, by with_unfolding_all exact hq, rfl, _, rfl, ?_⟩)
    have e1 : xs.take (i + 1) = xs.take i ++ [xi] := by rw [List.take_add_one, hxi]; rfl
    rw [e1, often_snoc hz.1 hz.2]
    exact ints_set hw _
  case done =>
    intro m₁ led h a tk htk hz178
    apply el_AAAERA hz178
    clear hz178
    intro ha hq hb ws hw F2 N2 off2
    rw [put_eq hb] at F2
    have h1' : 1 ≤ tk := by omega
    have e : xs.take vs.toArray.size = xs := List.take_of_length_le (by simp [hv.length])
    rw [e] at hw
    dsimp only
    k_steps
    exact hret _ _ _ [_, _] (by first | assumption | omega) (by k_asm) (by k_asm) (fresh_cons (fresh_off (by assumption)) (fresh_lt (by assumption))) ⟨_, _, _, rfl, .head _, hw⟩

theorem with_prelude4 : True := by
  k_with "eval ListComp" => (k_dflt (refine comp_evalT (by (try dsimp only); first | assumption | omega) (by intro x; rfl) (by with_unfolding_all rfl) (by rfl) (by decide) ?_; (try dsimp only)))
  k_with "exec Assign cons ListComp" => (k_dflt (refine comp_assignT (by (try dsimp only); first | assumption | omega) (by intro x; rfl) (by with_unfolding_all rfl) (by rfl) (by decide) (by with_unfolding_all rfl) ?_; (try dsimp only)))
  k_with "eval Name" => ((with_reducible show wpAny _ _ (eval (PySem.Expr.Name _ _) (compEnvC _ _ _ _)) _ _ _); k_dflt (refine' LCgL.ld_own ?zz33N ?zz33m ?zz33C ?zz33x ?_ ?zz33a ?zz33b; (case zz33a => rfl); (case zz33b => rfl); (case zz33N => k_asm); (case zz33m => k_mem); (case zz33C => assumption); (case zz33x => rfl); k_whole))
  trivial
-- S7
theorem rest_S7 : True := by
  w_top off
  trivial
theorem mix_spec (w : World) (ca pa : Addr) (cvs pvs : List Value) (nc np : Nat) (cs : List Int) (pss : List (List Int)) (turn : Nat) (ty : Tok) (news : Led)
    (h1 : (ca, lstO cvs nc) ∈ news) (hc : IntsAre cvs cs) (hcl : cs.length = 6) (hcb : ∀ z ∈ cs, bits z ≤ 32) (h2 : (pa, lstO pvs np) ∈ news) (hp : Lists news pvs pss) (hpl : pss.length = 6) (hpb : ∀ ps ∈ pss, ps.length = 3 ∧ ∀ z ∈ ps, bits z ≤ 32) (ht6 : turn < 6) :
    Spec w 134 3 60 [.ref ca, .int turn ty, .ref pa] news (fun r objs => ∃ D ws k, r = .ref D ∧ (D, lstO ws k) ∈ objs ∧ IntsAre ws [mixZ cs pss turn 0 6, mixZ cs pss turn 1 6, mixZ cs pss turn 2 6]) := by
  intro p loose mean mg mb dp un gd cn sc a ccd cl outer A₀ base h₀ L m s Q E B F X N T hk ht hd hu hret
  refine wpAny_with_toks (Nat.le_refl _) ?_
  refine wpAny_call ?_
  k_dflt cell_enter
  k_steps
  rename StRange _ _ _ _ => hSt
  rename Fr _ _ _ _ => F1
  rename News _ _ _ _ => N1
  rename (∀ p ∈ (_ : Led), p.1 ≠ _) => off1
  refine forCoreT1 (it_range rfl _ 0 _) (fun _ => rfl)
    (fun L' i a m led => 1 ≤ a ∧ m "turn" = some (.int turn ty) ∧ m "paints" = some (.ref pa) ∧ ∃ D ws k op oq ol oc, led = (D, lstO ws k) :: (L' + 1 + 1 + 1 + 1, op) :: (L' + 1 + 1 + 1, oq) :: (L' + 1 + 1, ol) :: (L' + 1, oc) :: news ∧
      (∃ v, op.data = .cell v) ∧ (∃ v, oq.data = .cell v) ∧ ol.data = .cell (some (.ref D)) ∧ oc.data = .cell (some (.ref ca)) ∧ (∀ p ∈ (L' + 1 + 1 + 1 + 1, op) :: (L' + 1 + 1 + 1, oq) :: (L' + 1 + 1, ol) :: (L' + 1, oc) :: news, p.1 ≠ D) ∧
      IntsAre ws [mixZ cs pss turn 0 i, mixZ cs pss turn 1 i, mixZ cs pss turn 2 i]) hSt F1 N1 off1 ?j0 ?src ?turn ?done
  case j0 =>
    refine ⟨by (try dsimp only); first | assumption | omega, rfl, rfl, _, _, _, _, _, _, _, rfl, ⟨_, by assumption⟩, ⟨_, by assumption⟩, by assumption, by assumption, ?_, ?_⟩
    · k_all
    · exact .cons _ _ (.cons _ _ (.cons _ _ .nil))
  case src => intros; trivial
  case turn =>
    intro i v oI m₁ led h a tk E' hi hz180
    apply el_EAAR hz180
    clear hz180
    intro tv _ _ htk hSt' hz181
    apply el_AAAEEEEEEERBBAAAA hz181
    clear hz181
    intro ha hq hb D ws k op oq ol oc vp dp' vq dq' dl' dc' hD hw F2 N2 off2
    rw [put_eq hq, put_eq hb] at F2
    have i4 := neN (off2 _ (.tail _ (.head _)))
    have i3 := neN (off2 _ (.tail _ (.tail _ (.head _))))
    have i2 := neN (off2 _ (.tail _ (.tail _ (.tail _ (.head _)))))
    have i1 := neN (off2 _ (.tail _ (.tail _ (.tail _ (.tail _ (.head _))))))
    have i0 := neN (off2 _ (.head _))
    have d4 := neN (hD _ (.head _))
    have d3 := neN (hD _ (.tail _ (.head _)))
    have d2 := neN (hD _ (.tail _ (.tail _ (.head _))))
    have d1 := neN (hD _ (.tail _ (.tail _ (.tail _ (.head _)))))
    dsimp only at i0 i1 i2 i3 i4 d1 d2 d3 d4
    have h1' : 1 ≤ tk := by omega
    have ex : (((0 + (i : Int)) * (turn : Int)).fmod 6).toNat = i * turn % 6 := by
      rw [Int.fmod_eq_emod_of_nonneg _ (by omega)]; have e : (0 + (i : Int)) * (turn : Int) = ((i * turn : Nat) : Int) := by simp
      rw [e]; omega
    have hx : 0 ≤ ((0 + (i : Int)) * (turn : Int)).fmod 6 ∧ ((0 + (i : Int)) * (turn : Int)).fmod 6 ≤ 1000000 := by
      rw [Int.fmod_eq_emod_of_nonneg _ (by omega)]; omega
    have hz187 := hp.get (i := i * turn % 6) (by omega)
    apply el_EEEAAA hz187
    clear hz187
    intro pt us np' hg hpm hpi
    rw [← ex] at hg
    have hwl : ws.length = 3 := by rw [hw.length]; rfl
    have hcv : cvs.length = 6 := by rw [hc.length]; exact hcl
    have hps := hpb (pss.getD (i * turn % 6) []) (getD_mem _ _ (by omega))
    have hul : us.length = 3 := by rw [hpi.length]; exact hps.1
    k_steps
    rename StRange _ _ _ _ => hSt2
    rename Fr _ _ _ _ => F3
    rename News _ _ _ _ => N3
    rename (∀ p ∈ (_ : Led), p.1 ≠ _) => off3
    refine compRun (fun _ => rfl) (fun _ => rfl) (it_range rfl _ 0 _) (fun i a b c v h hP => by obtain ⟨t, h1, h2, h3⟩ := hP; exact ⟨t, h1, Nat.lt_of_lt_of_le h2 h, h3⟩) rfl rfl
      (fun rest k a led ys => 1 ≤ a ∧ led = rest ∧ k ≤ 3 ∧ IntsAre ys ((List.range k).map fun z => mixZ cs pss turn z (i + 1))) hSt2 F3 N3 off3 ?_ ?_ ?_ ?_ ?_
    · exact ⟨by (try dsimp only); first | assumption | omega, rfl, by omega, .nil⟩
    · intros; trivial
    · intro k a led ys hz182
      apply el_AAAA hz182
      clear hz182
      intro _ _ hk hy
      rw [hy.length]; simp; omega
    · intro C D' k v oI' oC m₂ led ys h' a' tk' E'' hO hk3 hz183
      apply el_EAAR hz183
      clear hz183
      intro tv' _ _ htk' hz184
      revert hO
      apply el_ARAA hz184
      clear hz184
      intro ha' hk4 hy hO hC F4 N4
      have h1'' : 1 ≤ tk' := by omega
      have hk5 : k < 3 := by omega
      have ei : (0 + (i : Int)).toNat = i := by omega
      have ek : (0 + (k : Int)).toNat = k := by omega
      have hmul : IntMulOk (cs.getD (0 + (i : Int)).toNat 0) ((pss.getD (i * turn % 6) []).getD (0 + (k : Int)).toNat 0) := by
        rw [ei, ek]
        refine IntMulOk.of_le (hcb _ (getD_mem _ _ (by omega))) (hps.2 _ (getD_mem _ _ (by rw [hps.1]; omega))) (by omega)
      have ev : [mixZ cs pss turn 0 i, mixZ cs pss turn 1 i, mixZ cs pss turn 2 i].getD (0 + (k : Int)).toNat 0 + cs.getD (0 + (i : Int)).toNat 0 * (pss.getD (i * turn % 6) []).getD (0 + (k : Int)).toNat 0 = mixZ cs pss turn k (i + 1) := by
        rw [ei, ek]
        have : k = 0 ∨ k = 1 ∨ k = 2 := by omega
        rcases this with rfl | rfl | rfl <;> rfl
      dsimp only
      k_steps
      refine turnEnd0 (by k_asm) (by k_asm) (fun hle => ⟨by omega, rfl, by omega, ?_⟩)
      rw [List.range_succ, List.map_append, ev]
      exact hy.append (.cons _ _ .nil)
    · intro D2 led ys h' a' tk' ha2 hz185
      apply el_ARAA hz185
      clear hz185
      intro ha3 _ hy F4 N4 off4 offI
      have e0 := neN (off4 _ (.head _))
      have e1 := neN (off4 _ (.tail _ (.head _)))
      have e4 := neN (off4 _ (.tail _ (.tail _ (.head _))))
      have e3 := neN (off4 _ (.tail _ (.tail _ (.tail _ (.head _)))))
      have e2 := neN (off4 _ (.tail _ (.tail _ (.tail _ (.tail _ (.head _))))))
      have e5 := neN (off4 _ (.tail _ (.tail _ (.tail _ (.tail _ (.tail _ (.head _)))))))
      have en := off_drop (off_drop (off_drop (off_drop (off_drop (off_drop off4)))))
      have fn := off_drop (off_drop (off_drop (off_drop (off_drop off2))))
      dsimp only at e0 e1 e2 e3 e4 e5
      have h1'' : 1 ≤ tk' := by omega
      dsimp only
      k_steps
      rename News _ _ _ _ => N5
      refine forEnd_next (by k_asm) (swap_news N5) (by k_all) (fun hle => ⟨by omega, by with_unfolding_all rfl, by with_unfolding_all rfl, D2, ys, _, _, _, _, _, rfl, ⟨_, by assumption⟩, ⟨_, by assumption⟩, by assumption, by assumption, by k_all, ?_⟩)
      exact hy
  case done =>
    intro m₁ led h a tk htk hz186
    apply el_AAAEEEEEEERBBAAAA hz186
    clear hz186
    intro ha hq hb D ws k op oq ol oc vp dp' vq dq' dl' dc' hD hw F2 N2 off2
    have h1' : 1 ≤ tk := by omega
    dsimp only
    k_steps
    exact hret _ _ _ [_, _, _, _, _] (by first | assumption | omega) (by k_asm) (by k_asm) (fresh_cons (fresh_off hD) (fresh_cons (fresh_off (by k_all)) (fresh_cons (fresh_off (by k_all)) (fresh_cons (fresh_off (by k_all)) (fresh_off (by k_all)))))) ⟨_, _, _, rfl, .head _, hw⟩

theorem with_prelude5 : True := by
  k_with "call ref" => (k_dflt ((with_reducible show wpAny _ _ (call (Value.ref 105) _) _ _ _); (refine' Spec.useI (whole_f _ _ _ _ ?zz34k0) ?zz34k1 ?zz34k2 ?zz34k3 ?zz34k4 ?zz34k5 ?zz34k6 ?zz34k7 ?zz34k8 ?zz34k9 ?_; (case zz34k1 => k_asm); (case zz34k2 => k_asm); (case zz34k3 => k_asm); (case zz34k4 => k_asm); (case zz34k5 => k_asm); (case zz34k0 => assumption); (case zz34k6 => first | exact rfl | assumption); (case zz34k7 => ((try dsimp only); first | assumption | omega)); (case zz34k8 => ktr_room); (case zz34k9 => ktr_units); k_whole; intro t1 h' tk' ht' F' N'; (try dsimp only at ht'); (try dsimp only); (try k_fold))))
  k_with "call ref" => (k_dflt ((with_reducible show wpAny _ _ (call (Value.ref 105) _) _ _ _); (refine' Spec.useI (whole_i _ _ _ _ ?zz35k0) ?zz35k1 ?zz35k2 ?zz35k3 ?zz35k4 ?zz35k5 ?zz35k6 ?zz35k7 ?zz35k8 ?zz35k9 ?_; (case zz35k1 => k_asm); (case zz35k2 => k_asm); (case zz35k3 => k_asm); (case zz35k4 => k_asm); (case zz35k5 => k_asm); (case zz35k0 => assumption); (case zz35k6 => first | exact rfl | assumption); (case zz35k7 => ((try dsimp only); first | assumption | omega)); (case zz35k8 => ktr_room); (case zz35k9 => ktr_units); k_whole; intro t1 h' tk' ht' F' N'; (try dsimp only at ht'); (try dsimp only); (try k_fold))))
  k_with "call ref" => (k_dflt ((with_reducible show wpAny _ _ (call (Value.ref 70) _) _ _ _); (refine' Spec.use3O (hsv_spec _ _ _ _ _ _ _ ?zz36k0 ?zz36ka) ?zz36k1 ?zz36k2 ?zz36k3 ?zz36k4 ?zz36k5 ?zz36k6 ?zz36k7 ?zz36k8 ?zz36k9 ?_; (case zz36k1 => k_asm); (case zz36k2 => k_asm); (case zz36k3 => k_asm); (case zz36k4 => k_asm); (case zz36k5 => k_asm); (case zz36k0 => assumption); (case zz36ka => assumption); (case zz36k6 => first | exact rfl | assumption); (case zz36k7 => ((try dsimp only); first | assumption | omega)); (case zz36k8 => ktr_room); (case zz36k9 => ktr_units); k_whole; intro D' vs' n' hp' h' tk' ht' F' N' fr'; (try dsimp only at ht'); have off' := fresh_one_off fr'; (try dsimp only); (try k_fold))))
  k_with "pyIter ref" => (k_dflt (refine' pyIter_tupN ?zz37k1 ?zz37k2 ?zz37k3 ?_; (case zz37k1 => k_asm); (case zz37k2 => k_asm); (case zz37k3 => walk_at "my_mem"); k_whole; intro I' oI' h' hSt' F' N' off'; (try dsimp only)))
  k_with "call builtin:min" => (k_dflt ((with_reducible show wpAny _ _ (call (Value.builtin _) [Value.ref _]) _ _ _); (refine' minN rfl ?zz38k1 ?zz38k2 ?zz38k3 ?zz38k4 ?zz38k5 ?_; (case zz38k1 => k_asm); (case zz38k2 => k_asm); (case zz38k3 => walk_at "my_mem"); (case zz38k4 => assumption); (case zz38k5 => assumption); k_whole; intro M' t' h' tk' hM1 hM2 F' N'; (try dsimp only))))
  k_with "call builtin:max" => (k_dflt ((with_reducible show wpAny _ _ (call (Value.builtin _) [Value.ref _]) _ _ _); (refine' maxN rfl ?zz39k1 ?zz39k2 ?zz39k3 ?zz39k4 ?zz39k5 ?_; (case zz39k1 => k_asm); (case zz39k2 => k_asm); (case zz39k3 => walk_at "my_mem"); (case zz39k4 => assumption); (case zz39k5 => assumption); k_whole; intro M' t' h' tk' hM1 hM2 F' N'; (try dsimp only))))
  k_with "compareOp NotEq ref ref" => (k_dflt (refine' ne_intsN ?zz40k1 ?zz40k2 ?zz40k3 ?zz40k4 ?zz40k5 ?zz40k6 ?_ ?_; (case zz40k1 => k_asm); (case zz40k2 => walk_at "my_mem"); (case zz40k3 => walk_at "my_mem"); (case zz40k4 => first | assumption | exact .cons _ _ (.cons _ _ .nil)); (case zz40k5 => first | assumption | exact .cons _ _ (.cons _ _ .nil)); (case zz40k6 => ktr_units); all_goals (intro hNe')))
  k_with "call builtin:list.append" => (k_dflt (refine' appendN ?zz41k1 ?zz41k2 ?zz41k3 ?zz41k4 ?_; (case zz41k1 => k_asm); (case zz41k2 => k_asm); (case zz41k3 => k_upd); (case zz41k4 => first | assumption | omega); k_whole; intro h' F' N'; (try dsimp only)))
  trivial
-- S8
theorem rest_S8 : True := by
  w_top off
  trivial
theorem paints_spec (w : World) (b sh t : Nat) (tb ts tt : Tok) (news : Led) (hb : b < 384) (hs : sh ≤ 256) (h4 : t < 4) (ok : ∀ i : Nat, i < 6 → PaintOk b sh t i) :
    Spec w 129 3 100 [.int b tb, .int sh ts, .int t tt] news (fun r objs => ∃ D vs n, r = .ref D ∧ (D, lstO vs n) ∈ objs ∧ Lists (objs ++ news) vs ((List.range 6).map fun (i : Nat) => paintZ b sh t i)) := by
  intro p loose mean mg mb dp un gd cn sc a ccd cl outer A₀ base h₀ L m s Q E B F X N T hk ht hd hu hret
  refine wpAny_with_toks (Nat.le_refl _) ?_
  refine wpAny_call ?_
  k_dflt cell_enter
  k_steps
  rename StRange _ _ _ _ => hSt
  rename Fr _ _ _ _ => F1
  rename News _ _ _ _ => N1
  rename (∀ p ∈ (_ : Led), p.1 ≠ _) => off1
  refine forCore1 (it_range rfl _ 0 _) (fun i a b c v h hP => by obtain ⟨t, h1, h2, h3⟩ := hP; exact ⟨t, h1, Nat.lt_of_lt_of_le h2 h, h3⟩) rfl rfl
    (fun D rest i a m led => 1 ≤ a ∧ m "begin" = some (.int b tb) ∧ m "shade" = some (.int sh ts) ∧ m "turns" = some (.int t tt) ∧ m "paints" = some (.ref D) ∧ ∃ vs os, led = (D, lst vs) :: (os ++ news) ∧ Fresh os news ∧ (∀ p ∈ os ++ news, p.1 ≠ D) ∧
      Lists (os ++ news) vs ((List.range i).map fun (i : Nat) => paintZ b sh t i)) hSt F1 rfl N1 off1 ?j0 ?src ?turn ?done
  case j0 =>
    exact ⟨by (try dsimp only); first | assumption | omega, rfl, rfl, rfl, rfl, [], [], rfl, fresh_nil, by k_all, .nil⟩
  case src => intros; trivial
  case turn =>
    intro i v oI m₁ led h a tk E' hi hz188
    apply el_EAAR hz188
    clear hz188
    intro tv _ _ htk hSt' hz189
    apply el_AAAAAEERAAA hz189
    clear hz189
    intro ha q1 q2 q3 q4 vs os fr hD hl F2 N2 off2
    rw [put_eq q1, put_eq q2, put_eq q3, put_eq q4] at F2
    have h1' : 1 ≤ tk := by omega
    have o := ok i (by omega)
    have e0 : (i : Int) = 0 + (i : Int) := by omega
    have o1 := o.fin
    have o2 := o.bound
    unfold sixthX at o1 o2
    rw [e0] at o1 o2
    k_steps
    rename StTup _ _ _ => hSt2
    rename Fr _ _ _ _ => F3
    rename News _ _ _ _ => N3
    rename (∀ p ∈ (_ : Led), p.1 ≠ _) => off3
    rename Parts _ _ => hP3
    rename (∀ p ∈ (_ :: (_, lst _) :: _ : Led), p.1 ≠ _) => offT
    refine compRunA (fun _ => rfl) (fun _ => rfl) (it_parts hP3 rfl (off3 _ (.head _))) (fun _ _ _ _ _ _ h => h) rfl rfl
      (fun rest k a led ys => 1 ≤ a ∧ led = rest ∧ k ≤ 3 ∧ IntsAre ys (((hsvP (sixthX b t i) (fdiv sh 256)).take k).map wholeP)) hSt2 F3 N3 off3 ?_ ?_ ?_ ?_ ?_
    · exact ⟨by (try dsimp only); first | assumption | omega, rfl, by omega, .nil⟩
    · intro k a led ys h hz190
      apply el_ARAA hz190
      clear hz190
      intro _ _ _ N _
      exact ⟨_, (N _ (.head _)).1, rfl, _, rfl⟩
    · intro k a led ys hz191
      apply el_AAAA hz191
      clear hz191
      intro _ _ hk hy
      rw [hy.length]; simp; omega
    · intro C D' k v oI' oC m₂ led ys h' a' tk' E'' hO hk3 hv htk' hz192
      revert hO
      apply el_ARAA hz192
      clear hz192
      intro ha' hk4 hy hO hC F4 N4
      have h1'' : 1 ≤ tk' := by omega
      have hpp := o.parts
      unfold sixthX at hpp
      rw [e0] at hpp
      rw [hsvP_length] at hk3
      dsimp only
      rcases hv with ⟨z, t3, hz, rfl⟩ | ⟨z, t3, hz, rfl⟩
      all_goals (
        have hzo := hpp _ (List.mem_of_getElem? hz)
        k_steps
        refine turnEnd0 (by k_asm) (by k_asm) (fun hle => ⟨by omega, rfl, by omega, ?_⟩)
        unfold sixthX at hy ⊢
        rw [e0] at hy ⊢
        rw [List.take_add_one, hz, List.map_append]
        exact hy.append (.cons _ _ .nil))
    · intro D2 led ys h' a' tk' ha2 hz193
      apply el_ARAA hz193
      clear hz193
      intro ha3 _ hy F4 N4 off4 offI
      rw [hsvP_length, List.take_of_length_le (by rw [hsvP_length]; omega)] at hy
      have hy' : IntsAre ys (paintZ b sh t i) := hy
      clear hy
      have hpl : (paintZ b sh t i).length = 3 := by unfold paintZ; rw [List.length_map, hsvP_length]
      have hp0 : 0 < (paintZ b sh t i).length := by omega
      have hyl : ys.length = 3 := by rw [hy'.length, hpl]
      have hq3 : 0 ≤ (((b : Int) + 64 * (0 + (i : Int)) + 64).fdiv 128).fmod 3 ∧ (((b : Int) + 64 * (0 + (i : Int)) + 64).fdiv 128).fmod 3 < ys.length ∧ (((b : Int) + 64 * (0 + (i : Int)) + 64).fdiv 128).fmod 3 ≤ 1000000 := by
        have m1 := Int.fmod_nonneg_of_pos (((b : Int) + 64 * (0 + (i : Int)) + 64).fdiv 128) (b := 3) (by decide)
        have m2 := Int.fmod_lt_of_pos (((b : Int) + 64 * (0 + (i : Int)) + 64).fdiv 128) (b := 3) (by decide)
        omega
      have h1'' : 1 ≤ tk' := by omega
      dsimp only
      have nr : (paintZ b sh t i).getD (((b : Int) + 64 * (0 + (i : Int)) + 64).fdiv 128 |>.fmod 3).toNat 0 = 16384 := by
        have := o.near
        unfold nearZ at this
        rw [Int.zero_add]; exact this
      have e1 := neN (off4 _ (.head _))
      have e2 := neN (off4 _ (.tail _ (.head _)))
      have e3 := neN (off4 _ (.tail _ (.tail _ (.head _))))
      have e4 := neN (offT _ (.head _))
      have e5 := neN (offT _ (.tail _ (.head _)))
      have e6 := neN (off2 _ (.head _))
      dsimp only at e1 e2 e3 e4 e5 e6
      have hvl : vs.length ≤ 1000000 := by rw [hl.length]; simp; omega
      k_steps
      · rename News _ _ _ _ => N5
        refine forEnd_next (by k_asm) (perm6 N5) (List.forall_mem_cons.mpr ⟨e6, List.forall_mem_cons.mpr ⟨Ne.symm e2, off_drop off2⟩⟩) (fun hle => ⟨by omega, by with_unfolding_all rfl, by with_unfolding_all rfl, by with_unfolding_all rfl, by with_unfolding_all rfl, _, (D2, lst ys) :: os, rfl, fresh_cons (fresh_off (off_drop (off_drop (off_drop off4)))) fr, List.forall_mem_cons.mpr ⟨Ne.symm e3, hD⟩, ?_⟩)
        rw [List.range_succ, List.map_append]
        exact (hl.sub fun p hp => .tail _ hp).append (.cons (.head _) hy' .nil)
      · exfalso
        rename (_ ≠ ([_, _] : List Int)) => hx
        rename (_ ∈ paintZ _ _ _ _) => m1
        rename (∀ a, a ∈ paintZ _ _ _ _ → _ ≤ a) => m2
        apply hx
        rw [nr, Int.le_antisymm (m2 _ o.low) (o.least _ m1)]
  case done =>
    intro m₁ led h a tk htk hz194
    apply el_AAAAAEERAAA hz194
    clear hz194
    intro ha q1 q2 q3 q4 vs os fr hD hl F2 N2 off2
    rw [put_eq q4] at F2
    have h1' : 1 ≤ tk := by omega
    dsimp only
    k_steps
    exact hret _ _ _ (_ :: os) (by first | assumption | omega) (by k_asm) (by k_asm) (fresh_cons (fresh_off hD) fr) ⟨_, _, _, rfl, .head _, hl.sub fun p hp => .tail _ hp⟩

theorem with_prelude6 : True := by
  k_with "call ref" => (k_dflt ((with_reducible show wpAny _ _ (call (Value.ref 91) _) _ _ _); (refine' Spec.use2 (concat_tup _ _ _ _ _ _ _ _ ?zz42k0 ?zz42ka ?zz42kb) ?zz42k1 ?zz42k2 ?zz42k3 ?zz42k4 ?zz42k5 ?zz42k6 ?zz42k7 ?zz42k8 ?zz42k9 ?_; (case zz42k1 => k_asm); (case zz42k2 => k_asm); (case zz42k3 => k_asm); (case zz42k4 => k_asm); (case zz42k5 => k_asm); (case zz42k0 => walk_at "my_mem"); (case zz42ka => walk_at "my_mem"); (case zz42kb => first | assumption | omega); (case zz42k6 => first | exact rfl | assumption); (case zz42k7 => ((try dsimp only); first | assumption | omega)); (case zz42k8 => ktr_room); (case zz42k9 => ktr_units); k_whole; intro D' n' objs' hm' h' tk' ht' F' N' fr'; (try dsimp only at ht'); (try dsimp only); (try k_fold))))
  k_with "binaryOp FloorDiv int int" => (k_dflt (refine floordiv_int (by assumption) ?_ (Or.inl (PyProof.noPylong_small (by assumption)))))
  trivial
-- S9
theorem rest_S9 : True := by
  w_top off
  trivial
theorem words_spec (w : World) (ca : Addr) (cvs : List Value) (nc : Nat) (c0 c1 c2 : Nat) (news : Led) (h1 : (ca, lstO cvs nc) ∈ news) (hc : IntsAre cvs [(c0 : Int), c1, c2]) (h6 : c0 ≤ 6 ∧ c1 ≤ 6 ∧ c2 ≤ 6) :
    Spec w 110 3 60 [.ref ca] news (fun r objs => ∃ f T D vs n, r = .ref D ∧ (D, lstO vs n) ∈ objs ∧ Tups f T (objs ++ news) vs ((wordsN 6 (c0 + 8 * c1 + 64 * c2)).map (·.1))) := by
  intro p loose mean mg mb dp un gd cn sc a ccd cl outer A₀ base h₀ L m s Q E B F X N T hk ht hd hu hret
  refine wpAny_with_toks (Nat.le_refl _) ?_
  refine wpAny_call ?_
  k_dflt cell_enter
  have hcl : cvs.length = 3 := hc.length
  have b0 : (0 : Int) ≤ 0 ∧ (0 : Int) < cvs.length ∧ (0 : Int) ≤ 1000000 := by omega
  have b1 : (0 : Int) ≤ 1 ∧ (1 : Int) < cvs.length ∧ (1 : Int) ≤ 1000000 := by omega
  have b2 : (0 : Int) ≤ 2 ∧ (2 : Int) < cvs.length ∧ (2 : Int) ≤ 1000000 := by omega
  k_steps
  rename StRange _ _ _ _ => hSt
  rename Fr _ _ _ _ => F1
  rename News _ _ _ _ => N1
  rename (∀ p ∈ (_ : Led), p.1 ≠ _) => off1
  refine forCore (it_range rfl _ 0 _) (fun i a b c v h hP => by obtain ⟨t, h1, h2, h3⟩ := hP; exact ⟨t, h1, Nat.lt_of_lt_of_le h2 h, h3⟩) rfl rfl
    (fun i a m led => 1 ≤ a ∧ ∃ D f vs os n, m "words" = some (.ref D) ∧ led = (D, lstO vs n) :: (os ++ news) ∧ Fresh os news ∧ (∀ p ∈ os ++ news, p.1 ≠ D) ∧ Pairs f a (os ++ news) vs (wordsN i (c0 + 8 * c1 + 64 * c2))) hSt F1 rfl N1 off1 ?j0 ?src ?turn ?done
  case j0 =>
    refine ⟨by (try dsimp only); first | assumption | omega, _, fun _ => 0, [.ref _], [(_, _), (_, _)], _, rfl, rfl, ?_, ?_, .cons (.head _) (.tail _ (.head _)) .nil .nil⟩
    · exact fresh_cons (fresh_off (by k_all)) (fresh_off (by k_all))
    · show ∀ p ∈ (_ :: _ :: news : Led), _
      k_all
  case src => intros; trivial
  case turn =>
    intro i0 v oI m₁ led h a tk E' hi0 hz195
    apply el_EAAR hz195
    clear hz195
    intro tv _ _ htk hSt' hz196
    apply el_AEEEEEARAAA hz196
    clear hz196
    intro ha D f vs os n q1 fr hD hl F2 N2 off2
    rw [put_eq q1] at F2
    have h1' : 1 ≤ tk := by omega
    k_steps
    rename StList _ _ _ => hSt2
    rename Fr _ _ _ _ => F3
    rename News _ _ _ _ => N3
    rename (∀ p ∈ (_ : Led), p.1 ≠ _) => off3
    have hwl := wordsN_len i0 (c0 + 8 * c1 + 64 * c2)
    have hw3 : (3 : Nat) ^ i0 ≤ 3 ^ 5 := Nat.pow_le_pow_right (by decide) (by omega)
    refine compRun2 (n2 := 3) (z := "kind") (fun _ => rfl) (fun _ => rfl) (fun _ _ => rfl) rfl (it_list rfl (ax := D) (by intro e; exact off3 _ (.tail _ (.head _)) e) vs.toArray) rfl rfl rfl rfl rfl (by decide) (by decide) (by decide)
      (fun rest i j a led ys => 1 ≤ a ∧ j ≤ 3 ∧ ∃ f os2, led = os2 ++ rest ∧ Fresh os2 rest ∧ Pairs f a led vs (wordsN i0 (c0 + 8 * c1 + 64 * c2)) ∧ Pairs f a led ys (((wordsN i0 (c0 + 8 * c1 + 64 * c2)).take i).flatMap (fun p => partW p 3) ++ partOf (wordsN i0 (c0 + 8 * c1 + 64 * c2)) i j))
      hSt2 F3 N3 off3 ?_ ?_ ?_ ?_ ?_ ?_ ?_ ?_ ?_
    · refine ⟨by (try dsimp only); first | assumption | omega, by omega, f, [], rfl, fresh_nil, (hl.sub fun p hp => .tail _ (.tail _ hp)).mono (by (try dsimp only); omega), ?_⟩
      rw [partOf_zero]
      exact .nil
    · intro i a led ys h hz197
      apply el_AAEERA hz197
      clear hz197
      intro _ _ f os2 _ N _
      exact ⟨_, (N (D, lstO vs n) (List.mem_append.mpr (.inr (.tail _ (.head _))))).1, rfl, _, rfl⟩
    · intro i j a led ys hz198
      apply el_AAEEAAAA hz198
      clear hz198
      intro _ hj f os2 eS199 _ _ hp
      subst eS199
      rw [hp.length]
      have := flat_len2 (wordsN i0 (c0 + 8 * c1 + 64 * c2)) i j hj
      omega
    · intro i j a b led ys hab hz200
      apply el_AAEEAAAA hz200
      clear hz200
      intro h1 h2 f os2 eS201 h3 h4 h5
      subst eS201
      exact ⟨by omega, h2, f, os2, rfl, h3, h4.mono hab, h5.mono hab⟩
    · intro i a led ys hi hz202
      apply el_AAEEAAAA hz202
      clear hz202
      intro h1 h2 f os2 eS203 h3 h4 h5
      subst eS203
      have hi' : i < (wordsN i0 (c0 + 8 * c1 + 64 * c2)).length := by rw [← hl.length]; simpa using hi
      refine ⟨h1, by omega, f, os2, rfl, h3, h4, ?_⟩
      rw [partOf_zero, List.append_nil, ← take_partOf hi']
      exact h5
    · intro i j a v led ys hi hP hz204
      apply el_AAEEAAAA hz204
      clear hz204
      intro h1 h2 f os2 eS205 h3 h4 h5
      subst eS205
      have hz216 := h4.get (i := i) (by simpa using hP)
      apply el_EEEEEEEEARAA hz216
      clear hz216
      intro t b us n' k tt xs z _ hm _
      exact ⟨t, _, _, k, rfl, hm⟩
    · intro C D' i oI' oC m₂ led ys h' a' tk' E'' hO hi h1'' htk' hJ hC F4 N4
      dsimp only
      k_steps
      exact ⟨_, _, _, _, rfl, rfl, by assumption, by k_asm, by k_asm, by assumption⟩
    · intro C D' I2 i j t v₁ v₂ k tz oI' oI2 oC m₂ led ys h' a' tk' E'' hO off4 hi hj hP hm haz hzk hz206
      apply el_AAEEAAAA hz206
      clear hz206
      intro ha' hj3 f os2 eS207 fr2 hw hy hC ex ey F4 N4
      subst eS207
      have hz217 := hw.get (i := i) (by simpa using hP)
      apply el_EEEEEEEEAAAAA hz217
      clear hz217
      intro t' b us n' k' tt xs z hxs e hm' hb hnz
      injection e with e
      subst e
      have N4' := news_sub N4 (l' := os2 ++ _) fun p hp => .tail _ (.tail _ (.tail _ (.tail _ hp)))
      obtain ⟨e1, e2⟩ := tup_same N4' hm hm'
      injection e1 with e1 e3
      injection e3 with e3 _
      subst e1 e3 e2
      clear N4'
      rw [put_eq ex, put_eq ey] at hC
      have h1'' : 1 ≤ tk' := by omega
      have h8 : Builtin.Int.intBits 8 ≤ 700 := by decide
      have ej : (0 + (j : Int)).toNat = j := by omega
      have hne : (8 : Int) ^ (0 + (j : Int)).toNat ≠ 0 ∧ ((8 : Int) ^ (0 + (j : Int)).toNat).natAbs < 1073741824 := by
        rw [ej]
        have : j = 0 ∨ j = 1 ∨ j = 2 := by omega
        rcases this with rfl | rfl | rfl <;> decide
      obtain ⟨hne, hsm⟩ := hne
      have hul : us.length + 1 ≤ 1000 := by
        rw [hnz.length, wordsN_word _ _ _ (List.mem_of_getElem? hxs)]; omega
      have hsj : smallInt (0 + (j : Int)) = true := by
        have : j = 0 ∨ j = 1 ∨ j = 2 := by omega
        rcases this with rfl | rfl | rfl <;> decide
      dsimp only
      k_steps
      · rename News _ _ _ _ => N5
        rename (∀ p ∈ (_ ++ _ : Led), p.1 < _) => lp
        rename Fresh _ (_ :: _) => fo
        rename (_ ∧ _ ∧ _ ∧ _ ∧ AllLt _ _) => lk
        rename (∀ l : Led, _ → _ → _) => hmw
        refine (fun (frB : Fresh _ _) => turnEnd (by k_asm) (news_pair N5) frB (fun hle => ⟨by omega, by omega, fun q => if q = tz then 0 + (j : Int) else f q, _ ++ os2, (List.append_assoc _ _ _).symm, fresh_append (fun q hq p hp => frB q hq p (.tail _ (.tail _ (.tail _ (.tail _ hp))))) fr2, ?_, ?_⟩)) (fresh_pair lp fo lk)
        · exact (hw.more haz (by omega)).sub fun p hp => List.mem_append.mpr (.inr hp)
        · rw [partOf_succ' hxs, if_pos (by assumption), ← List.append_assoc (List.flatMap (fun p => partW p 3) (List.take i _))]
          refine Pairs.append (Pairs.sub ?hs (Pairs.more haz ?ht hy)) ?_
          case hs => intro p hp; first | exact List.mem_append.mpr (.inr hp) | exact List.mem_cons_of_mem _ (List.mem_append.mpr (.inr hp))
          case ht => omega
          refine .cons (.head _) (us := us ++ [.int (0 + (j : Int)) tz]) (n := _) (.tail _ (by have hq := hmw (_ :: _) (.tail _ hb) (.head _); rw [← List.singleton_append, ← List.append_assoc] at hq; exact hq)) ((hnz.more haz (by omega)).append (.cons (t := tz) (x := 0 + (j : Int)) (Nat.ne_of_gt (Nat.lt_of_lt_of_le ha' haz)) (Nat.lt_of_lt_of_le hzk (by omega)) (if_pos rfl) hsj .nil)) .nil
      · refine turnEnd0 (by k_asm) (by k_asm) (fun hle => ⟨by omega, by omega, f, os2, rfl, fr2, hw.mono (by omega), ?_⟩)
        rw [partOf_succ' hxs, if_neg (by assumption), List.append_nil]
        exact hy.mono (by omega)
    · intro C D2 oC m₂ led ys h' a' tk' ha2 hz208
      apply el_AAEEAAAA hz208
      clear hz208
      intro ha3 _ f' os2 eS209 fr2 hw hy hC F4 N4 hO
      subst eS209
      have h1'' : 1 ≤ tk' := by omega
      rw [partOf_zero, List.append_nil, List.take_of_length_le (by rw [← hl.length]; simp)] at hy
      refine comp_done_assignS ?g1 ?g2 ?g3 hC F4 N4 hO.cd (fun p hp => (hO.r p hp).2.1) fun h5 F5 N5 => ?_
      case g1 => rfl
      case g2 => rfl
      case g3 => rfl
      dsimp only
      have oI2' : ∀ p ∈ (os2 ++ (D, lstO vs n) :: os) ++ news, p.1 ≠ D2 ∧ p.1 ≠ _ := fun p hp => by
        refine ⟨(hO.r p ?_).2.2, ?_⟩
        · simp only [List.mem_cons, List.mem_append] at hp ⊢
          rcases hp with (e | e | e) | e
          · exact .inl e
          · exact .inr (.inr (.inl e))
          · exact .inr (.inr (.inr (.inl e)))
          · exact .inr (.inr (.inr (.inr e)))
        · simp only [List.mem_append] at hp
          rcases hp with (e | e) | e
          · exact (fr2 p e _ (.head _)).symm
          · rcases List.mem_cons.mp e with rfl | e
            · exact off2 _ (.head _)
            · exact off2 p (.tail _ (List.mem_append.mpr (.inl e)))
          · exact off2 p (.tail _ (List.mem_append.mpr (.inr e)))
      k_steps
      rename News _ _ _ _ => N6
      have hy3 := hy.drop_mid (not_tup_range hSt')
      (try dsimp only at *)
      refine forEnd_next (by k_asm) (words_perm N6) (List.forall_mem_cons.mpr ⟨(hO.r _ (List.mem_append.mpr (.inr (.head _)))).2.2.symm, fun p hp => (oI2' p hp).2⟩) (fun hle => ⟨by omega, D2, f', ys, os2 ++ (D, lstO vs n) :: os, _, rfl, rfl, ?_, fun p hp => (oI2' p hp).1, ?_⟩)
      · exact fresh_append (fun q hq p hp => fr2 q hq p (.tail _ hp)) (fresh_cons (fresh_off hD) fr)
      · rw [List.append_assoc]
        exact hy3.mono (by omega)
  case done =>
    intro m₁ led h a tk htk hz210
    apply el_AEEEEEARAAA hz210
    clear hz210
    intro ha D f vs os n q1 fr hD hl F2 N2 off2
    rw [put_eq q1] at F2
    have h1' : 1 ≤ tk := by omega
    dsimp only
    k_steps
    rename StList _ _ _ => hSt2
    rename Fr _ _ _ _ => F3
    rename News _ _ _ _ => N3
    rename (∀ p ∈ (_ : Led), p.1 ≠ _) => off3
    have hwl := wordsN_len 6 (c0 + 8 * c1 + 64 * c2)
    have hl : Pairs f a (os ++ news) vs (wordsN 6 (c0 + 8 * c1 + 64 * c2)) := hl
    refine compRunP (fun _ => rfl) (fun _ => rfl) (it_list rfl (ax := D) (by intro e; exact off3 _ (.head _) e) vs.toArray) rfl rfl rfl rfl
      (fun rest i b led ys => 1 ≤ b ∧ led = rest ∧ Tups f a (os ++ news) ys (((wordsN 6 (c0 + 8 * c1 + 64 * c2)).take i).map (·.1))) hSt2 F3 N3 off3 ?_ ?_ ?_ ?_ ?_ ?_
    · exact ⟨by (try dsimp only); omega, rfl, .nil⟩
    · intro i b led ys h hz211
      apply el_ARA hz211
      clear hz211
      intro _ _ N _
      exact ⟨_, (N _ (.head _)).1, rfl, _, rfl⟩
    · intro i b led ys hz212
      apply el_AAA hz212
      clear hz212
      intro _ _ hy
      rw [hy.length, List.length_map, List.length_take]
      omega
    · intro i a b v led ys hi hP hz213
      apply el_ARA hz213
      clear hz213
      intro _ _
      have hz218 := hl.get (i := i) (by simpa using hP)
      apply el_EEEEEEEEARAA hz218
      clear hz218
      intro t b us n' k tt xs z _ hm _
      exact ⟨t, _, _, k, rfl, .tail _ hm⟩
    · intro C D' i t v₁ v₂ k oI' oC m₂ led ys h' a' b' tk' E'' hO hi hP hm htk' hz214
      revert hO hm
      apply el_ARA hz214
      clear hz214
      intro ha' hy hO hm hC F4 N4
      have hz219 := hl.get (i := i) (by simpa using hP)
      apply el_EEEEEEEEAAAAA hz219
      clear hz219
      intro t' b us n' k' tt xs z hxs e hm' hb hnz
      injection e with e
      subst e
      obtain ⟨e1, e2⟩ := tup_same N4 (.tail _ (.tail _ (.tail _ hm))) (.tail _ (.tail _ (.tail _ (.tail _ hm'))))
      injection e1 with e1 e3
      subst e1
      have h1'' : 1 ≤ tk' := by omega
      dsimp only
      k_steps
      refine turnEnd0 (by k_asm) (by k_asm) (fun hle => ⟨by omega, rfl, ?_⟩)
      rw [List.take_add_one, hxs, List.map_append]
      exact hy.append (.cons hb hnz .nil)
    · intro D2 led ys h' a' tk' ha2 hz215
      apply el_ARA hz215
      clear hz215
      intro ha3 hy F4 N4 off4 offI
      rw [List.take_of_length_le (by rw [← hl.length]; simp)] at hy
      have h1'' : 1 ≤ tk' := by omega
      dsimp only
      k_steps
      exact hret _ _ _ (_ :: _ :: os) (by first | assumption | omega) (by k_asm) (by k_asm) (fresh_cons (fresh_off off4) (fresh_cons (fresh_off hD) fr)) ⟨f, a, _, _, _, rfl, .head _, hy.sub fun p hp => .tail _ (.tail _ hp)⟩

local macro_rules | `(tactic| mul_fits) => `(tactic| k_extra "prelude7_mul_fits")
theorem with_prelude7 : True := by
  k_with "call builtin:divmod" => (k_dflt (refine' divmod_N ?zz44k1 ?zz44k2 ?zz44k3 ?_ ?zz44k4; (case zz44k1 => k_asm); (case zz44k2 => k_asm); (case zz44k3 => assumption); (case zz44k4 => exact Or.inl (noPylong_div (by assumption) (by assumption))); k_whole; intro h' F' N'; (try dsimp only)))
  k_with "binaryOp LShift int int" => (k_dflt (refine lshift_int (by omega) (by first | with_reducible assumption | assumption | (apply_assumption; assumption)) ?_))
  k_with "inplaceOp LShift int int" => (k_dflt (refine ilshift_int (by omega) (by first | with_reducible assumption | assumption) ?_))
  k_with "binaryOp RShift int int" => (k_dflt (refine rshift_int (by omega) ?_))
  k_with "inplaceOp RShift int int" => (k_dflt (refine irshift_int (by omega) ?_))
  k_with "call ref" => (k_dflt ((with_reducible show wpAny _ _ (call (Value.ref 21) _) _ _ _); (rename D21 _ _ _ => hD21'); (refine' Spec.use4 (hD21' _ _ _ _ _ _ _ ?zz49ka ?zz49kb ?zz49kc ?zz49kd) ?zz49k1 ?zz49k2 ?zz49k3 ?zz49k4 ?zz49k5 ?zz49k6 ?zz49k7 ?zz49k8 ?zz49k9 ?_; (case zz49k1 => k_asm); (case zz49k2 => k_asm); (case zz49k3 => k_asm); (case zz49k4 => k_asm); (case zz49k5 => k_asm); (case zz49ka => assumption); (case zz49kb => assumption); (case zz49kc => first | assumption | (apply_assumption; assumption)); (case zz49kd => first | assumption | omega); (case zz49k6 => first | exact rfl | assumption); (case zz49k7 => ((try dsimp only); first | assumption | omega)); (case zz49k8 => ktr_room); (case zz49k9 => ktr_units); k_whole; intro D' t' u' n' objs' hm' h' tk' ht' F' N' fr'; (try dsimp only at ht'); (try dsimp only); (try k_fold))))
  k_with "prelude7_mul_fits" => first | assumption | (apply_assumption; assumption)
  k_with "StopDown" => (exact stop_down_lin (by assumption))
  trivial
-- S11
theorem rest_S11 : True := by
  w_top off
  trivial
theorem store_old : True := by
  k_with "storeName" => (k_dflt (first | (refine' storeX_L ?zzF ?zzN ?_ ?zza ?zzb; (case zzF => k_asm); (case zzN => k_asm); (case zza => rfl); (case zzb => rfl); k_whole; intro h' F' N'; (try k_sweep); (try dsimp only))))
  trivial
theorem div32_of (w : World) (d N : Nat) (H : D21 w d N) : D32 w (2 * d + 1) N := by
  intro a12 a3 b b1 b2 n t1 t2 t3 t4 t5 t6 news ha0 hab h30 h3n hb h20 h2n hb1 hn hn2
  intro p loose mean mg mb dp un gd cn sc fa ccd cl outer A₀ base h₀ L m s Q E B F X N T hk ht hd hu hret
  refine wpAny_with_toks (Nat.le_refl _) ?_
  refine wpAny_call ?_
  k_dflt cell_enter
  have hbits := bits_of_lt (Int.le_of_lt hb1.1) hb1.2.2
  have z1 : ((Builtin.Int.intBits 1 : Nat) : Int) + (n : Int) ≤ 2 ^ 27 := by
    have : Builtin.Int.intBits 1 = 1 := by decide
    omega
  have z2 : ((Builtin.Int.intBits b1 : Nat) : Int) + (n : Int) ≤ 2 ^ 27 := by omega
  have z3 : a12.fdiv (2 ^ (n : Int).toNat) = b1 → ((Builtin.Int.intBits (a12 - b1 * 2 ^ (n : Int).toNat + b1) : Nat) : Int) + (n : Int) ≤ 2 ^ 27 := fun e => bits_low (d32_first hab hb h2n hb1 e) hn2
  have z4 : a12.fdiv (2 ^ (n : Int).toNat) ≠ b1 → a12 < 2 ^ n * b1 := fun e => d32_second hab hb h2n e
  have z5 := bits_mod (a := a12) hb1 hn2
  have z6 : IntMulOk (1 * 2 ^ (n : Int).toNat - 1) b2 := mulok_low h20 h2n hn2
  have z7 : a12.fdiv (2 ^ (n : Int).toNat) ≠ b1 → IntMulOk (a12 / b1) b2 := fun e => mulok_high ha0 hb1.1 (z4 e) h20 h2n hn2
  have hb0 : 0 < b := by
    have := Int.mul_pos hb1.1 (two_pos n)
    omega
  k_steps
  · rename (∀ _, _ → _ → _ = true) => h4
    rename (decide _ = false) => h5
    obtain ⟨e1, e2⟩ := d32_end1 hab ⟨h30, h3n⟩ hb ⟨h20, h2n⟩ hb1 (by assumption) (by assumption) h4 h5
    rename News _ _ _ _ => N9
    rename (_ < _ ∧ AllLt _ _) => l9
    exact hret _ _ _ [_] (by first | assumption | omega) (by k_asm) (drop_two N9) (fresh_one l9.2) ⟨_, _, _, _, rfl, by rw [← e1, ← e2]; exact .head _⟩
  · rename (∀ _, _ → _ → _ = true) => h4
    rename (decide _ = false) => h5
    obtain ⟨e1, e2⟩ := d32_end2 ha0 ⟨h30, h3n⟩ hb ⟨h20, h2n⟩ hb1 (by assumption) h4 h5
    exact hret _ _ _ (_ :: _) (by first | assumption | omega) (by k_asm) (by k_asm) (fresh_cons (fresh_lt (by assumption)) (by assumption)) ⟨_, _, _, _, rfl, by rw [← e1, ← e2]; exact .head _⟩
theorem store_new : True := by
  k_with "storeName" => (k_dflt (first | (refine' storeLet ?zzF ?zzN ?_ ?zza ?zzb; (case zzF => k_asm); (case zzN => k_asm); (case zza => rfl); (case zzb => rfl); k_whole; intro mm h' F' N'; (try k_sweep); (try dsimp only))))
  trivial

theorem with_prelude8 : True := by
  k_with "call ref" => (k_dflt ((with_reducible show wpAny _ _ (call (Value.ref 28) _) _ _ _); (rename D32 _ _ _ => hD32); (refine' Spec.use4 (D32.use hD32 _ _ _ _ _ _ _ _ _ _ _ _ _ ?zz52k0) ?zz52k1 ?zz52k2 ?zz52k3 ?zz52k4 ?zz52k5 ?zz52k6 ?zz52k7 ?zz52k8 ?zz52k9 ?_; (case zz52k1 => k_asm); (case zz52k2 => k_asm); (case zz52k3 => k_asm); (case zz52k4 => k_asm); (case zz52k5 => k_asm); (case zz52k0 => assumption); (case zz52k6 => first | exact rfl | assumption); (case zz52k7 => ((try dsimp only); first | assumption | omega)); (case zz52k8 => ktr_room); (case zz52k9 => ktr_units); k_whole; intro D' t' u' n' objs' hm' h' tk' ht' F' N' fr'; (try dsimp only at ht'); (try dsimp only); (try k_fold))))
  k_with "binaryOp RShift int int" => (k_dflt ((with_reducible show wpAny _ _ (binaryOp _ (Value.int _ _) (Value.int 1 _)) _ _ _); refine rshift_by (by with_reducible assumption) ?_))
  k_with "inplaceOp LShift int int" => (k_dflt (refine ilshift_int (by omega) (by first | with_reducible assumption | assumption) ?_))
  k_with "binaryOp LShift int int" => (k_dflt (refine lshift_int (by omega) (by first | with_reducible assumption | assumption) ?_))
  k_with "binaryOp BitAnd int int" => (k_dflt ((with_reducible show wpAny _ _ (binaryOp _ (Value.int _ _) (Value.int 1 _)) _ _ _); refine bitand_by (by with_reducible assumption) ?_))
  trivial
-- S10
theorem rest_S10 : True := by
  w_top off
  trivial
theorem div21_of (w : World) (d NN e M : Nat) (H : M ≤ 4000 ∨ (D32 w e NN ∧ M + 1 ≤ 2 * NN ∧ e + 2 ≤ d ∧ NN ≤ 100000)) : D21 w d M := by
  intro a b n ta tb tn news ha hb hab hn
  obtain ⟨hb0, hb1, hb2⟩ := id hb
  intro p loose mean mg mb dp un gd cn sc fa ccd cl outer A₀ base h₀ L m s Q E B F X N T hk ht hd hu hret
  refine wpAny_with_toks (Nat.le_refl _) ?_
  refine wpAny_call ?_
  k_dflt cell_enter
  have hbn : b ≠ 0 := by omega
  obtain ⟨g0, hg0⟩ : ∃ g0, g0 = n / 2 := ⟨_, rfl⟩
  obtain ⟨g1, hg1⟩ : ∃ g1, g1 = (n + 1) / 2 := ⟨_, rfl⟩
  have i0 : (n : Int).fdiv (2 ^ Int.toNat 1) = (g0 : Int) := by
    show (n : Int).fdiv 2 = _
    rw [Int.fdiv_eq_ediv_of_nonneg _ (by decide)]; omega
  have i1 : ((n : Int) + 1).fdiv (2 ^ Int.toNat 1) = (g1 : Int) := by
    show ((n : Int) + 1).fdiv 2 = _
    rw [Int.fdiv_eq_ediv_of_nonneg _ (by decide)]; omega
  by_cases hs : ((Builtin.Int.intBits a : Nat) : Int) - (n : Int) ≤ 4000
  · k_steps
    rename News _ _ _ _ => N9
    exact hret _ _ _ [_] (by first | assumption | omega) (by k_asm) N9 (fresh_push (by assumption)) ⟨_, _, _, _, rfl, by rw [Int.fdiv_eq_ediv_of_nonneg _ (Int.le_of_lt hb0), Int.fmod_eq_emod_of_nonneg _ (Int.le_of_lt hb0)]; exact .head _⟩
  · have hbig := big_n ha hb hab hs
    obtain ⟨hD, hM, he, hN⟩ := H.resolve_left (by omega)
    have c1 := bits_of_lt (Int.le_of_lt hb0) hb2
    have c2 : ((Builtin.Int.intBits b : Nat) : Int) + 1 ≤ 2 ^ 27 := by omega
    have c3 : ((Builtin.Int.intBits a : Nat) : Int) + 1 ≤ 2 ^ 27 := by
      have e2 : (2 : Int) ^ (n + n) = 2 ^ n * 2 ^ n := Int.pow_add _ _ _
      have h2 : (2 : Int) ^ n * b ≤ 2 ^ n * 2 ^ n := Int.mul_le_mul_of_nonneg_left (by omega) (Int.le_of_lt (two_pos n))
      have := bits_of_lt (n := n + n) ha (by omega)
      omega
    have c4 : ((Builtin.Int.intBits 1 : Nat) : Int) + (g0 : Int) ≤ 2 ^ 27 := by
      have : Builtin.Int.intBits 1 = 1 := by decide
      omega
    have c5 : ((Builtin.Int.intBits 1 : Nat) : Int) + (g1 : Int) ≤ 2 ^ 27 := by
      have : Builtin.Int.intBits 1 = 1 := by decide
      omega
    by_cases hx : Builtin.bitAnd (n : Int) 1 = 0
    · have f0 : D21Ok NN a b n g0 := d21_facts (by rw [bitAnd_one] at hx; omega) (by omega) (by omega) (by omega) ha hb hab
      have u1 := f0.one
      have u2 := f0.two
      have u3 := f0.bits
      k_steps
      rename News _ _ _ _ => N9
      rename (∀ p ∈ _ ++ (_ ++ _ :: _ : Led), p.1 < _) => l9
      exact hret _ _ _ [_] (by first | assumption | omega) (by k_asm) (news_tail3 N9) (fresh_lt (lt_tail3 l9)) ⟨_, _, _, _, rfl, by rw [← f0.quo, ← f0.rem]; exact .head _⟩
    · have hx1 : Builtin.bitAnd (n : Int) 1 = 1 := by rw [bitAnd_one] at hx ⊢; omega
      clear hx
      have f1 : D21Ok NN (a * 2) (b * 2) (n + 1) g1 := d21_facts (by rw [bitAnd_one] at hx1; omega) (by omega) (by omega) (by omega) (by omega) (pad_bits hb) (pad_lt ha hab)
      have v1 := f1.one
      have v2 := f1.two
      have v3 := f1.bits
      k_steps
      rename News _ _ _ _ => N9
      rename (∀ p ∈ _ ++ (_ ++ _ :: _ : Led), p.1 < _) => l9
      obtain ⟨e1, e2⟩ := pad_end f1 hb0
      exact hret _ _ _ [_] (by first | assumption | omega) (by k_asm) (news_tail3 N9) (fresh_lt (lt_tail3 l9)) ⟨_, _, _, _, rfl, by rw [← e1, ← e2]; exact .head _⟩

local macro_rules | `(tactic| k_updF) => `(tactic| k_extra "prelude9_k_updF")
local macro_rules | `(tactic| kn_enter) => `(tactic| k_extra "prelude9_kn_enter")
theorem with_prelude9 : True := by
  k_with "binaryOp FloorDiv int int" => (k_dflt (refine floordiv_by (by assumption) (by with_reducible assumption) ?_ (Or.inl (PyProof.noPylong_small (by assumption)))))
  k_with "binaryOp Mult ref int" => (k_dflt (refine' mulL ?zz58k1 ?zz58k2 ?zz58k3 ?zz58k4 ?_; (case zz58k1 => k_asm); (case zz58k2 => k_asm); (case zz58k3 => first | exact .head _ | k_mem); (case zz58k4 => omega); k_whole; intro D' h' F' N' l1'; (try k_lt l1'); (try dsimp only)))
  k_with "prelude9_k_updF" => first | exact RepF.here (by assumption) | (refine' RepF.next ?zz59ka ?zz59kb; (case zz59ka => (refine' offt_of ?zz59kx ?zz59ky; (case zz59kx => assumption); (case zz59ky => omega))); (case zz59kb => k_updF))
  k_with "call ref" => (k_dflt ((rename InnerA _ _ _ _ _ _ _ => hI'); (refine' InnerA.use hI' ?zz60k1 ?zz60k2 ?zz60k3 ?zz60k4 ?zz60k5 ?zz60k6 ?zz60k7 ?zz60k8 ?zz60k9 ?zz60h1 ?zz60h2 ?zz60h3 ?zz60h4 ?zz60h5 ?zz60hv ?zz60hl ?_; (case zz60k1 => k_asm); (case zz60k2 => k_asm); (case zz60k3 => k_asm); (case zz60k4 => k_asm); (case zz60k5 => k_asm); (case zz60h1 => omega); (case zz60h2 => omega); (case zz60h3 => omega); (case zz60h4 => assumption); (case zz60h5 => assumption); (case zz60hv => assumption); (case zz60hl => assumption); (case zz60k6 => first | exact rfl | assumption); (case zz60k7 => ((try dsimp only); first | assumption | omega)); (case zz60k8 => ktr_room); (case zz60k9 => ktr_units); k_whole; intro h' tk' vs' zs' ht' F' N' hv' hl' hz'; (try dsimp only at ht'); (try dsimp only); (try k_fold))))
  k_with "prelude9_kn_enter" => (refine' code_nest ?zz61k1 ?zz61k2 ?zz61k3 ?zz61k4 ?zz61k5 ?zz61kA ?zz61kF ?zz61kK ?zz61k6 ?zz61k7 ?zz61k8 ?zz61k9 ?zz61kB ?_ ?zz61c2 ?zz61c3 ?zz61c4 ?zz61c5; (case zz61kA => exact rfl); (case zz61kF => exact rfl); (case zz61kK => first | exact rfl | assumption); (case zz61k1 => k_asm); (case zz61k2 => k_asm); (case zz61k3 => k_asm); (case zz61k4 => k_asm); (case zz61k5 => k_asm); (case zz61k6 => exact mem_eq (by k_mem) (by assumption)); (case zz61k7 => exact codeRec_news (by k_asm) (by ((repeat (apply List.mem_cons_of_mem)); exact List.mem_append_left _ (by assumption))) (by assumption) (by assumption)); (case zz61k8 => ktr_room); (case zz61k9 => first | exact BindsTo.of_eq (binds := [(_, _)]) rfl | exact BindsTo.of_eq (binds := [(_, _), (_, _)]) rfl | exact BindsTo.of_eq (binds := [(_, _), (_, _), (_, _)]) rfl | exact BindsTo.of_eq (binds := [(_, _), (_, _), (_, _), (_, _)]) rfl | exact BindsTo.of_eq (binds := [(_, _), (_, _), (_, _), (_, _), (_, _)]) rfl | exact BindsTo.of_eq rfl); (case zz61c5 => decide); (case zz61kB => exact locs rfl); (case zz61c2 => exact rfl); (case zz61c3 => exact rfl); (case zz61c4 => exact rfl); k_whole; intro g' L' h' FG' F' N' B' X' T'; (try dsimp only); (try k_lift B'); (try k_fold))
  k_with "binaryOp Mult int int" => (k_dflt (refine mulby (by with_reducible assumption) (by assumption) ?_))
  k_with "binaryOp RShift int int" => (k_dflt (first | ((with_reducible show wpAny _ _ (binaryOp _ (Value.int _ _) (Value.int 1 _)) _ _ _); refine rshift_by (by with_reducible assumption) ?_) | ((with_reducible show wpAny _ _ (binaryOp _ (Value.int _ _) (Value.int (Nat.cast _) _)) _ _ _); refine rshiftby (by with_reducible assumption) ?_)))
  k_with "binaryOp BitXor int int" => (k_dflt (refine xorby (by with_reducible assumption) ?_))
  k_with "call builtin:len" => (k_dflt (refine' lenN ?zz65k1 ?zz65k2 ?zz65k3 ?zz65k4 ?_; (case zz65k1 => k_asm); (case zz65k2 => walk_at "my_mem"); (case zz65k3 => first | exact replicate_len | with_reducible assumption); (case zz65k4 => omega); k_whole; (try dsimp only)))
  k_with "callWith ref" => (k_dflt (refine' callWith_F ?zz66k1 ?_; (case zz66k1 => first | exact FnAt.of (by k_asm) (mem_eq (by k_mem) (by assumption)) | exact FnAt.of (by k_asm) (by k_mem)); k_whole))
  k_with "FnAt" => (k_dflt (exact FnAt.of (by k_asm) (mem_eq (by k_mem) (by assumption))))
  k_with "eval Name" => (k_dflt (refine' nameX_F ?zz68N ?zz68c ?zz68m ?zz68d ?_ ?zz68a ?zz68b; (case zz68a => rfl); (case zz68b => rfl); (case zz68N => k_asm); (case zz68c => rfl); (case zz68m => k_mem); (case zz68d => k_asm); k_whole))
  k_with "exec FunctionDef" => (k_dflt (refine' nestDef_K ?zz69d0 ?zz69k0 ?zz69a0 ?_; (case zz69d0 => exact rfl); (case zz69k0 => exact rfl); (case zz69a0 => exact rfl)); (k_dflt (refine' nestAny ?zz69F ?zz69N ?zz69T ?zz69C ?zz69cd ?zz69U ?zz69S ?zz69cl ?_; (case zz69F => k_asm); (case zz69N => k_asm); (case zz69T => k_asm); (case zz69cd => exact rfl); (case zz69C => first | exact hd34 (by assumption) | exact hd41 (by assumption)); (case zz69U => k_updF); (case zz69S => assumption); (case zz69cl => exact rfl); k_whole); intro f' c' oc' vs' tq' ct' dc' h' tk' t' F' N' mc' d1' d2' S' mv' O' l1'; (try dsimp only at N'); (try k_lt l1')))
  trivial
-- S12
theorem rest_S12 : True := by
  w_top off
  trivial
theorem int2digits_spec (w : World) (a : Int) (n len : Nat) (ta tn : Tok) (news : Led) (ha : 0 < a) (hn : 0 < n ∧ n ≤ 100000) (hb : Builtin.Int.intBits a ≤ 100000) (hlen : (((Builtin.Int.intBits a : Nat) : Int) + n - 1).fdiv n = (len : Int)) (hl : 0 < len ∧ len ≤ 64) (hx : a < 2 ^ (n * len)) :
    SpecT w 35 140 5000 [.int a ta, .int n tn] Tab30 news (fun r objs => ∃ D ws k, r = .ref D ∧ (D, lstO ws k) ∈ objs ∧ IntsAre ws (digs n len a)) := by
  intro t p loose mean mg mb dp un gd cn sc fa ccd cl outer A₀ base h₀ L m s Q E hT hO B F X N T hk ht hd hu hret
  refine wpAny_with_toks (Nat.le_refl _) ?_
  refine wpAny_call ?_
  k_dflt cell_enter
  have hn0 : (n : Int) ≠ 0 := by omega
  have hn1 : (n : Int).natAbs < 1073741824 := by omega
  k_steps
  rename (∀ p ∈ _ ++ _, Prod.fst p < _) => lL
  rename (∀ x ∈ (_ : Led), _ → _) => mv
  rename OffT _ _ => hO2
  rename (_ ∧ _ ∧ _ ∧ _ ∧ _ ∧ AllLt _ _) => lf
  have eD := off_app (mv _ (.head _) (offt_of lL (by omega))) (off_right lL (by omega))
  have el := off_app (mv _ (.tail _ (.head _)) (offt_of lL (by omega))) (off_right lL (by omega))
  have e3 := off_app (mv _ (.tail _ (.tail _ (.head _))) (offt_of lL (by omega))) (off_right lL (by omega))
  have e2 := off_app (mv _ (.tail _ (.tail _ (.tail _ (.head _)))) (offt_of lL (by omega))) (off_right lL (by omega))
  have e1 := off_app (mv _ (.tail _ (.tail _ (.tail _ (.tail _ (.head _))))) (offt_of lL (by omega))) (off_right lL (by omega))
  dsimp only at eD el e3 e2 e1
  k_steps
  · rename News _ _ _ _ => N9
    obtain ⟨fo, hfo, N8⟩ := gen_head N9
    clear N9
    have N10 := swap_two N8
    have offD := fix_off N10 (by k_all)
    refine' InnerA.use (lo := 0) (hi := len) (k := len) (zs := List.replicate len 0) (InnerA.all ?step len (Nat.le_refl _)) ?k1 ?k2 ?k3 N10 ?k5 ?k6 ?k7 ?k8 ?k9 hl.1 (Nat.le_refl _) (Nat.le_of_eq (Nat.sub_zero _)) (Int.le_of_lt ha) hx ?hv (List.length_replicate) ?_
    case k1 => k_asm
    case k2 => k_asm
    case k3 => k_asm
    case k5 => k_asm
    case k6 => exact rfl
    case k7 => (try dsimp only); omega
    case k8 => ktr_room
    case k9 => ktr_units
    case hv => simp only [Int.toNat_natCast]; exact ints_replicate _ _ _
    case step =>
      clear hret
      intro k hk IH x lo hi tx tl th vs zs p2 loose2 mean2 mg2 mb2 dp2 un2 gd2 cn2 cs2 a2 ccd2 cl2 outer2 A2 base2 h2 L2 m2 s2 Q2 E2 hlo hhi hhk hx0 hxl hv hzl B2 F2 X2 N2 T2 hk2 ht2 hd2 hu2 hret2
      obtain ⟨mid, hmid⟩ : ∃ mid, mid = (lo + hi) / 2 := ⟨_, rfl⟩
      obtain ⟨sh, hsh⟩ : ∃ sh, sh = (mid - lo) * n := ⟨_, rfl⟩
      obtain ⟨low, hlow⟩ : ∃ low, low = x % 2 ^ sh := ⟨_, rfl⟩
      obtain ⟨up, hup⟩ : ∃ up, up = x / 2 ^ sh := ⟨_, rfl⟩
      have hvl : vs.length = len := by rw [hv.length, hzl]
      have i0 : ((lo : Int) + (hi : Int)).fdiv (2 ^ Int.toNat 1) = (mid : Int) := by
        show ((lo : Int) + (hi : Int)).fdiv 2 = _
        rw [Int.fdiv_eq_ediv_of_nonneg _ (by decide)]; omega
      have i1 : ((mid : Int) - (lo : Int)) * (n : Int) = (sh : Int) := by
        have e : (mid : Int) - (lo : Int) = ((mid - lo : Nat) : Int) := by omega
        rw [e, hsh]; simp
      have i3 : x.fdiv (2 ^ (sh : Int).toNat) = up := by rw [hup]; exact fdiv_two _ _
      have i5 : Builtin.bitXor x (up * 2 ^ (sh : Int).toNat) = low := by
        rw [hlow, ← bitXor_low hx0 sh, hup, fdiv_two]; rfl
      obtain ⟨f1, f2, f3, f4, f5⟩ := low_facts (mid := mid) (sh := sh) hx0 hxl (by omega) (by omega) hsh
      rw [← hlow] at f1 f2 f5
      rw [← hup] at f3 f4 f5
      have hsb : sh ≤ 64 * 100000 := by rw [hsh]; exact Nat.mul_le_mul (by omega) hn.2
      have hub : n * (hi - mid) ≤ 100000 * 64 := Nat.mul_le_mul hn.2 (by omega)
      have i2 : IntMulOk ((mid : Int) - (lo : Int)) (n : Int) := IntMulOk.of_le (m := 64) (n := 64) (bits_of_lt (by omega) (by omega)) (bits_of_lt (by omega) (by omega)) (by omega)
      have i4 : ((Builtin.Int.intBits up : Nat) : Int) + (sh : Int) ≤ 2 ^ 27 := by
        have := bits_of_lt f3 f4
        omega
      refine wpAny_with_toks (Nat.le_refl _) ?_
      refine wpAny_call ?_
      k_dflt kn_enter
      k_steps
      · exact hret2 _ _ _ (zs.set lo x) (by first | assumption | omega) (by k_asm) (by k_asm) (ints_set hv _) (by rw [List.length_set]; exact hzl) (by
          have e : hi - lo = 1 := by omega
          rw [e, Nat.mul_one] at hxl
          rw [e, digs_one hx0 hxl, putAt_one (by omega)])
      · rename (_ = putAt _ _ _) => z2
        subst z2
        rename (_ = putAt _ _ _) => z1
        subst z1
        exact hret2 _ _ _ _ (by first | assumption | omega) (by k_asm) (by k_asm) (by assumption) (by assumption) (by rw [f5, putAt_join (by omega) (by omega)])
    intro h3 tk3 vs3 zs3 ht3 F3 N3 hv3 hl3 hz3
    dsimp only at ht3
    have h1' : 1 ≤ tk3 := by omega
    dsimp only
    k_steps
    rename News _ _ _ _ => N7
    exact hret _ _ _ [_] _ (by first | assumption | omega) (by k_asm) (drop_five N7) (by assumption) hO2 (fresh_off eD) ⟨_, _, _, rfl, .head _, by rw [hz3, Nat.sub_zero, putAt_all (by rw [digs_length, List.length_replicate])] at hv3; exact hv3⟩
  all_goals (exfalso; omega)

theorem with_prelude10 : True := by
  k_with "truthy ref" => (k_dflt (refine' truthyN ?zz70k1 ?zz70k2 ?zz70k3 ?zz70k4 ?_; (case zz70k1 => k_asm); (case zz70k2 => ((repeat (apply List.mem_cons_of_mem)); exact List.mem_append_right _ (by assumption))); (case zz70k3 => assumption); (case zz70k4 => omega); k_whole))
  k_with "call builtin:len" => (k_dflt (refine' lenN ?zz71k1 ?zz71k2 ?zz71k3 ?zz71k4 ?_; (case zz71k1 => k_asm); (case zz71k2 => ((repeat (apply List.mem_cons_of_mem)); exact List.mem_append_right _ (by assumption))); (case zz71k3 => with_reducible assumption); (case zz71k4 => omega); k_whole; (try dsimp only)))
  k_with "subscriptTail" => (k_dflt ((with_reducible show wpAny _ _ (subscriptTail _ _ (Value.ref _) (Value.int _ _)) _ _ _); refine' subN ?zz72k1 ?zz72k2 ?zz72k3 ?zz72k4 ?_ ?zz72k5; (case zz72k1 => k_asm); (case zz72k2 => ((repeat (apply List.mem_cons_of_mem)); exact List.mem_append_right _ (by assumption))); (case zz72k3 => assumption); (case zz72k4 => first | assumption | omega); (case zz72k5 => with_unfolding_all rfl); k_whole; intro t'))
  k_with "call ref" => (k_dflt ((rename InnerB _ _ _ _ _ _ => hI'); (refine' InnerB.use hI' ?zz73k1 ?zz73k2 ?zz73k3 ?zz73k4 ?zz73k5 ?zz73k6 ?zz73k7 ?zz73k8 ?zz73k9 ?zz73h1 ?zz73h2 ?zz73h3 ?_; (case zz73k1 => k_asm); (case zz73k2 => k_asm); (case zz73k3 => k_asm); (case zz73k4 => k_asm); (case zz73k5 => k_asm); (case zz73h1 => omega); (case zz73h2 => omega); (case zz73h3 => omega); (case zz73k6 => first | exact rfl | assumption); (case zz73k7 => ((try dsimp only); first | assumption | omega)); (case zz73k8 => ktr_room); (case zz73k9 => ktr_units); k_whole; intro h' tk' t' ht' F' N'; (try dsimp only at ht'); (try dsimp only); (try k_fold))))
  trivial
-- S13
theorem rest_S13 : True := by
  w_top off
  trivial
theorem digits2int_spec (w : World) (x : Addr) (vs : List Value) (zs : List Int) (n : Nat) (tn : Tok) (news : Led) (nx : Nat) (hm : (x, lstO vs nx) ∈ news) (hv : IntsAre vs zs) (hn : n ≤ 100000) (hl : 0 < zs.length ∧ zs.length ≤ 64) (hz : ∀ z ∈ zs, 0 ≤ z ∧ z < 2 ^ n) :
    SpecT w 42 140 5000 [.ref x, .int n tn] Tab37 news (fun r objs => objs = [] ∧ ∃ t, r = .int (valD n zs) t) := by
  intro t p loose mean mg mb dp un gd cn sc fa ccd cl outer A₀ base h₀ L m s Q E hT hO B F X N T hk ht hd hu hret
  refine wpAny_with_toks (Nat.le_refl _) ?_
  refine wpAny_call ?_
  k_dflt cell_enter
  k_steps
  rename (∀ p ∈ _ ++ _, Prod.fst p < _) => lL
  rename (∀ x ∈ (_ : Led), _ → _) => mv
  rename OffT _ _ => hO2
  rename (_ ∧ _ ∧ _ ∧ AllLt _ _) => lf
  have e3 := off_app (mv _ (.head _) (offt_of lL (by omega))) (off_right lL (by omega))
  have e2 := off_app (mv _ (.tail _ (.head _)) (offt_of lL (by omega))) (off_right lL (by omega))
  have e1 := off_app (mv _ (.tail _ (.tail _ (.head _))) (offt_of lL (by omega))) (off_right lL (by omega))
  dsimp only at e3 e2 e1
  have hvl : vs.length = zs.length := hv.length
  k_steps
  rename News _ _ _ _ => N9
  obtain ⟨fo, hfo, N8⟩ := gen_head N9
  clear N9
  refine' InnerB.use (lo := 0) (hi := zs.length) (k := zs.length) (zs := zs) (n := n) (InnerB.all ?step zs.length (Nat.le_refl _)) ?k1 ?k2 ?k3 N8 ?k5 ?k6 ?k7 ?k8 ?k9 hl.1 (Nat.le_refl _) (Nat.le_of_eq (Nat.sub_zero _)) ?_
  case k1 => k_asm
  case k2 => k_asm
  case k3 => k_asm
  case k5 => k_asm
  case k6 => exact rfl
  case k7 => (try dsimp only); omega
  case k8 => ktr_room
  case k9 => ktr_units
  case step =>
    clear hret
    intro k hk IH lo hi tl th p2 loose2 mean2 mg2 mb2 dp2 un2 gd2 cn2 cs2 a2 ccd2 cl2 outer2 A2 base2 h2 L2 m2 s2 Q2 E2 hlo hhi hhk B2 F2 X2 N2 T2 hk2 ht2 hd2 hu2 hret2
    obtain ⟨mid, hmid⟩ : ∃ mid, mid = (lo + hi) / 2 := ⟨_, rfl⟩
    obtain ⟨sh, hsh⟩ : ∃ sh, sh = (mid - lo) * n := ⟨_, rfl⟩
    have i0 : ((lo : Int) + (hi : Int)).fdiv (2 ^ Int.toNat 1) = (mid : Int) := by
      show ((lo : Int) + (hi : Int)).fdiv 2 = _
      rw [Int.fdiv_eq_ediv_of_nonneg _ (by decide)]; omega
    have i1 : ((mid : Int) - (lo : Int)) * (n : Int) = (sh : Int) := by
      have e : (mid : Int) - (lo : Int) = ((mid - lo : Nat) : Int) := by omega
      rw [e, hsh]; simp
    have hsb : sh ≤ 64 * 100000 := by rw [hsh]; exact Nat.mul_le_mul (by omega) hn
    have hub : n * (hi - mid) ≤ 100000 * 64 := Nat.mul_le_mul hn (by omega)
    have i2 : IntMulOk ((mid : Int) - (lo : Int)) (n : Int) := IntMulOk.of_le (m := 64) (n := 64) (bits_of_lt (by omega) (by omega)) (bits_of_lt (by omega) (by omega)) (by omega)
    have i4 : ((Builtin.Int.intBits (valD n ((zs.drop mid).take (hi - mid))) : Nat) : Int) + (sh : Int) ≤ 2 ^ 27 := by
      obtain ⟨f3, f4⟩ := valD_bound (n := n) (a := (zs.drop mid).take (hi - mid)) fun z hz' => hz z (List.mem_of_mem_drop (List.mem_of_mem_take hz'))
      rw [slice_length hhi] at f4
      have := bits_of_lt f3 f4
      omega
    refine wpAny_with_toks (Nat.le_refl _) ?_
    refine wpAny_call ?_
    k_dflt kn_enter
    k_steps
    · have ev : valD n ((zs.drop lo).take (hi - lo)) = zs.getD (lo : Int).toNat 0 := by
        have e : hi - lo = 1 := by omega
        rw [e, slice_one (by omega), valD_one]; rfl
      rw [← ev]
      exact hret2 _ _ _ (by first | assumption | omega) (by k_asm) (by k_asm)
    · have ev : valD n ((zs.drop lo).take (hi - lo)) = valD n ((zs.drop mid).take (hi - mid)) * 2 ^ (sh : Int).toNat + valD n ((zs.drop lo).take (mid - lo)) := by
        rw [slice_two (mid := mid) (by omega) (by omega), valD_append, slice_length (by omega), Int.mul_comm (valD n ((zs.drop mid).take (hi - mid))), Int.toNat_natCast, hsh, Nat.mul_comm n, Int.add_comm]
      rw [← ev]
      exact hret2 _ _ _ (by first | assumption | omega) (by k_asm) (by k_asm)
  intro h3 tk3 t3 ht3 F3 N3
  dsimp only at ht3
  dsimp only
  have h1' : 1 ≤ tk3 := by omega
  rw [Nat.sub_zero, List.drop_zero, List.take_length]
  k_steps
  rename News _ _ _ _ => N7
  exact hret _ _ _ [] _ (by first | assumption | omega) (by k_asm) (news_sub N7 (fun p hp => .tail _ (.tail _ (.tail _ (.tail _ hp))))) (by assumption) hO2 fresh_nil ⟨rfl, _, rfl⟩

-- D5
theorem d21_all (w : World) : D21 w 9 15997 :=
  have h1 : D21 w 0 4000 := div21_of w 0 0 0 4000 (.inl (Nat.le_refl _))
  have h2 : D21 w 3 7999 := div21_of w 3 4000 1 7999 (.inr ⟨div32_of w 0 4000 h1, by decide, by decide, by decide⟩)
  div21_of w 9 7999 7 15997 (.inr ⟨div32_of w 3 7999 h2, by decide, by decide, by decide⟩)

theorem with_prelude11 : True := by
  k_with "call type:reversed" => (k_dflt (refine' revN ?zz74k1 ?zz74k2 ?zz74k3 ?_; (case zz74k1 => k_asm); (case zz74k2 => k_asm); (case zz74k3 => first | assumption | k_mem | ((repeat (apply List.mem_cons_of_mem)); exact List.mem_append_left _ (by assumption))); k_whole; intro I' oI' h' hSt' F' N' l1'; (try dsimp only)))
  k_with "pyIter ref" => (k_dflt ((with_reducible rename StRev _ _ _ _ => hSt'); (refine' pyIter_rev rfl hSt' ?zz75k1 ?zz75k2 ?zz75k3 ?_; (case zz75k1 => k_asm); (case zz75k2 => first | assumption | k_mem | ((repeat (apply List.mem_cons_of_mem)); exact List.mem_append_left _ (by assumption))); (case zz75k3 => first | assumption | (refine' ne_of_below ?zz75kx ?zz75ky; (case zz75kx => assumption); (case zz75ky => omega))); k_whole; (try dsimp only))))
  k_with "call builtin:list.reverse" => (k_dflt (refine' reverseN ?zz76k1 ?zz76k2 ?zz76k3 ?zz76k4 ?_; (case zz76k1 => k_asm); (case zz76k2 => k_asm); (case zz76k3 => k_upd); (case zz76k4 => first | assumption | omega); k_whole; intro h' F' N'; (try dsimp only)))
  k_with "call ref" => (k_dflt ((with_reducible show wpAny _ _ (call (Value.ref 21) _) _ _ _); (rename D21 _ _ _ => hD21'); (refine' D21.use1 hD21' ?zz77ka ?zz77kb ?zz77kc ?zz77kd ?zz77k1 ?zz77k2 ?zz77k3 ?zz77k4 ?zz77k5 ?zz77k6 ?zz77k7 ?zz77k8 ?zz77k9 ?_; (case zz77k1 => k_asm); (case zz77k2 => k_asm); (case zz77k3 => k_asm); (case zz77k4 => k_asm); (case zz77k5 => k_asm); (case zz77ka => assumption); (case zz77kb => assumption); (case zz77kc => assumption); (case zz77kd => omega); (case zz77k6 => first | exact rfl | assumption); (case zz77k7 => ((try dsimp only); first | assumption | omega)); (case zz77k8 => ktr_room); (case zz77k9 => ktr_units); k_whole; intro D' t' u' j' h' tk' ht' F' N' off'; (have e1' := neN (off' _ (.head _))); (have e2' := neN (off' _ (.tail _ (.head _)))); (try dsimp only at ht' e1' e2'); (try dsimp only); (try k_fold))))
  trivial
-- S14
theorem rest_S14 : True := by
  w_top off
  trivial
theorem divpos_spec (w : World) (a b : Int) (len : Nat) (ta tb : Tok) (news : Led) (ha : 0 < a) (hb : 0 < b) (hbl : Builtin.Int.intBits b ≤ 15000) (hal : Builtin.Int.intBits a ≤ 100000) (hlen : (((Builtin.Int.intBits a : Nat) : Int) + (Builtin.Int.intBits b : Nat) - 1).fdiv (Builtin.Int.intBits b : Nat) = (len : Int)) (hl : 0 < len ∧ len ≤ 64) (hx : a < 2 ^ (Builtin.Int.intBits b * len)) :
    SpecT w 49 300 6000 [.int a ta, .int b tb] Tab2 news (fun r objs => ∃ D t u k, r = .ref D ∧ (D, tupO [.int (a / b) t, .int (a % b) u] k) ∈ objs) := by
  have hbits := hasBits_of hb
  have hn0 : 0 < Builtin.Int.intBits b := by
    have h1 := hbits.2.2
    have h2 := hbits.1
    rcases Nat.eq_zero_or_pos (Builtin.Int.intBits b) with e | e
    · rw [e] at h1; simp at h1; omega
    · exact e
  intro t p loose mean mg mb dp un gd cn sc fa ccd cl outer A₀ base h₀ L m s Q E hT hO B F X N T hk ht hd hu hret
  obtain ⟨t1, t2, rfl, T1, T2, O12⟩ := hT
  rw [List.append_assoc] at N
  have O1 : OffT t1 (t2 ++ news) := fun q hq p hp => by
    rcases List.mem_append.mp hp with e | e
    · exact O12 q hq p e
    · exact hO q (List.mem_append_left _ hq) p e
  refine wpAny_with_toks (Nat.le_refl _) ?_
  refine wpAny_call ?_
  k_dflt cell_enter
  have hD21 := d21_all w
  k_steps
  refine' SpecT.use (int2digits_spec w a (Builtin.Int.intBits b) len ta _ (t2 ++ news) ha ⟨hn0, by omega⟩ hal hlen hl hx) T1 O1 ?k1 ?k2 ?k3 ?k4 ?k5 ?k6 ?k7 ?k8 ?k9 ?_
  case k1 => k_asm
  case k2 => k_asm
  case k3 => k_asm
  case k4 => k_asm
  case k5 => k_asm
  case k6 => exact rfl
  case k7 => (try dsimp only); omega
  case k8 => ktr_room
  case k9 => ktr_units
  k_whole
  intro r1 h1 tk1 os1 t1' ht1 F1 N1 T1' O1' fr1 post1
  apply el_EEERAA post1
  clear post1
  intro D1 ws kk hmD hv
  dsimp only at ht1
  dsimp only
  have h1' : 1 ≤ tk1 := by omega
  k_steps
  rename (∀ p ∈ _ :: (_ ++ _), Prod.fst p < _) => lI
  rename (∀ p ∈ _ ++ _, Prod.fst p < _) => lQ
  rename StRev _ _ _ _ => hSt
  rename Fr _ _ _ _ => F2
  rename News _ _ _ _ => N2
  have off2 := ne_of_lts lI
  have hwl : ws.length = len := by rw [hv.length, digs_length]
  refine forCore1 (it_rev rfl (ax := D1) (off2 _ (.tail _ (List.mem_append_left _ hmD))) ws.toArray) (fun _ _ _ _ _ _ h => h) rfl rfl
    (fun D rest i ak m led => 1 ≤ ak ∧ m "b" = some (.int b tb) ∧ (∃ tn, m "n" = some (.int (Builtin.Int.intBits b : Nat) tn)) ∧ m "q_digits" = some (.ref D) ∧ ∃ qs r tr vsq, m "r" = some (.int r tr) ∧ LongOk b (Builtin.Int.intBits b) ((digs (Builtin.Int.intBits b) len a).reverse.take i) (qs, r) ∧ IntsAre vsq qs ∧ led = (D, lst vsq) :: rest ∧ (∀ p ∈ rest, p.1 ≠ D)) hSt F2 rfl N2 off2 ?j0 ?src ?turn ?done
  case j0 =>
    exact ⟨by (try dsimp only); first | assumption | omega, rfl, ⟨_, rfl⟩, rfl, [], 0, _, [], rfl, by rw [List.take_zero]; exact LongOk.nil hb, .nil, rfl, ne_of_lts lQ⟩
  case src =>
    intro i ak m led h hz220
    apply el_AABAEEEEAAARA hz220
    clear hz220
    intro _ _ _ _ _ _ _ _ _ _ _ _ _ N _
    exact ⟨_, (N (D1, lstO ws kk) (.tail _ (List.mem_append_left _ hmD))).1, rfl, _, rfl⟩
  case turn =>
    intro i v oI m₁ led h a2 tk E' hi hv' htk hSt' hz221
    apply el_AABAEEEEAAARA hz221
    clear hz221
    intro ha2 q1 tn q2 q3 qs r tr vsq q4 hL hq hD F3 N3 off3
    simp only [List.size_toArray] at hi
    have hz223 := ints_get hv (i := ws.length - 1 - i) (by simpa using hv')
    revert F3
    apply el_EEAR hz223
    clear hz223
    intro zi ti hxi F3
    have hxi' : (digs (Builtin.Int.intBits b) len a)[(digs (Builtin.Int.intBits b) len a).length - 1 - i]? = some zi := by rw [digs_length]; rw [hwl] at hxi; exact hxi
    have hzr := digs_range zi (List.mem_of_getElem? hxi)
    obtain ⟨k0, k1, hL'⟩ := long_step hb hL hzr
    rw [put_eq q1, put_eq q2, put_eq q3, put_eq q4] at F3
    have hr0 : 0 ≤ r := hL.r0
    have hrb : r < b := hL.rb
    have hrn : ((Builtin.Int.intBits r : Nat) : Int) + (Builtin.Int.intBits b : Nat) ≤ 2 ^ 27 := by
      have := bits_of_lt (n := Builtin.Int.intBits b) hr0 (by have := hbits.2.2; omega)
      omega
    have k0' : 0 ≤ r * 2 ^ ((Builtin.Int.intBits b : Nat) : Int).toNat + zi := k0
    have k1' : r * 2 ^ ((Builtin.Int.intBits b : Nat) : Int).toNat + zi < 2 ^ Builtin.Int.intBits b * b := k1
    have hql : vsq.length ≤ 1000000 := by
      have h1 := hL.len
      rw [hq.length]; rw [List.length_take] at h1; dsimp only at h1; omega
    have h1' : 1 ≤ tk := by omega
    have i0 := neN (off3 _ (.head _))
    dsimp only at i0
    k_steps
    rename News _ _ _ _ => N5
    refine forEnd_next (by k_asm) (drop_first N5) (off_swap off3) (fun hle => ⟨by omega, by with_unfolding_all rfl, ⟨tn, by with_unfolding_all rfl⟩, rfl, _, _, _, _, rfl, ?_, hq.append (.cons _ _ .nil), rfl, hD⟩)
    rw [take_rev hxi' (by rw [digs_length]; omega)]
    exact hL'
  case done =>
    intro m₁ led h a2 tk htk hz222
    apply el_AABAEEEEAAARA hz222
    clear hz222
    intro ha2 q1 tn q2 q3 qs r tr vsq q4 hL hq hD F3 N3 off3
    rw [put_eq q1, put_eq q2, put_eq q3, put_eq q4] at F3
    have h1' : 1 ≤ tk := by omega
    have hql : vsq.length ≤ 1000000 := by
      have h1 := hL.len
      rw [hq.length]; rw [List.length_take] at h1; dsimp only at h1; simp at h1; omega
    have hlen' : (digs (Builtin.Int.intBits b) len a).reverse.take ws.toArray.size = (digs (Builtin.Int.intBits b) len a).reverse := List.take_of_length_le (by simp [digs_length, hwl])
    rw [hlen'] at hL
    have hqs : qs.length = len := by have := hL.len; rw [List.length_reverse, digs_length] at this; exact this
    dsimp only
    k_steps
    rename News _ _ _ _ => N5
    have N6 := tab_front N5
    clear N5
    obtain ⟨v1, v2⟩ := long_end hb (Int.le_of_lt ha) hx hL
    have hO2 : OffT t2 news := fun q hq p hp => hO q (List.mem_append_right _ hq) p hp
    refine' SpecT.use (digits2int_spec w _ vsq.reverse qs.reverse (Builtin.Int.intBits b) tn _ vsq.length (.head _) (ints_rev hq) (by omega) (by rw [List.length_reverse, hqs]; exact hl) (fun z hz => hL.dig z (List.mem_reverse.mp hz))) T2 (tab_offs hO2 O1' fr1 hD) ?k1 ?k2 ?k3 N6 ?k5 ?k6 ?k7 ?k8 ?k9 ?_
    case k1 => k_asm
    case k2 => k_asm
    case k3 => k_asm
    case k5 => k_asm
    case k6 => exact rfl
    case k7 => (try dsimp only); omega
    case k8 => ktr_room
    case k9 => ktr_units
    k_whole
    intro r3 h3 tk3 os3 t2' ht3 F3 N3 T2' O2' fr3 post3
    obtain ⟨rfl, tq, rfl⟩ := post3
    rw [List.nil_append] at N3
    rw [v1]
    dsimp only at ht3
    dsimp only
    have h3' : 1 ≤ tk3 := by omega
    k_steps
    rename (∀ p ∈ t2' ++ _, Prod.fst p < _) => l9
    rename News _ _ _ _ => N9
    exact hret _ _ _ [_] _ (by first | assumption | omega) (by k_asm) (fin_news N9) (fin_tabs T1' T2' O2') (fin_off O1' O2') (fresh_lt (fin_lt l9)) ⟨_, _, _, _, rfl, by rw [← v2]; exact .head _⟩

-- S15
theorem rest_S15 : True := by
  w_top off
  trivial
theorem divmod_spec (w : World) (a b : Int) (len : Nat) (ta tb : Tok) (news : Led) (ha : 0 < a) (hb : 0 < b) (hbl : Builtin.Int.intBits b ≤ 15000) (hal : Builtin.Int.intBits a ≤ 100000) (hlen : (((Builtin.Int.intBits a : Nat) : Int) + (Builtin.Int.intBits b : Nat) - 1).fdiv (Builtin.Int.intBits b : Nat) = (len : Int)) (hl : 0 < len ∧ len ≤ 64) (hx : a < 2 ^ (Builtin.Int.intBits b * len)) :
    SpecT w 56 301 6100 [.int a ta, .int b tb] Tab2 news (fun r objs => ∃ D t u k, r = .ref D ∧ (D, tupO [.int (a / b) t, .int (a % b) u] k) ∈ objs) := by
  intro t p loose mean mg mb dp un gd cn sc fa ccd cl outer A₀ base h₀ L m s Q E hT hO B F X N T hk ht hd hu hret
  refine wpAny_with_toks (Nat.le_refl _) ?_
  refine wpAny_call ?_
  k_dflt cell_enter
  have b0 : b ≠ 0 := by omega
  have b1 : ¬ b < 0 := by omega
  have a1 : ¬ a < 0 := by omega
  k_steps
  all_goals first
    | (exfalso; omega)
    | (refine' SpecT.use (divpos_spec w a b len ta tb news ha hb hbl hal hlen hl hx) hT hO ?k1 ?k2 ?k3 ?k4 ?k5 ?k6 ?k7 ?k8 ?k9 ?_
       case k1 => k_asm
       case k2 => k_asm
       case k3 => k_asm
       case k4 => k_asm
       case k5 => k_asm
       case k6 => exact rfl
       case k7 => (try dsimp only); omega
       case k8 => ktr_room
       case k9 => ktr_units
       k_whole
       intro r3 h3 tk3 os3 t3 ht3 F3 N3 T3 O3 fr3 post3
       apply el_EEEERA post3
       clear post3
       intro D tq tr kk hm
       dsimp only at ht3
       dsimp only
       have h3' : 1 ≤ tk3 := by omega
       k_steps
       exact hret _ _ _ os3 _ (by first | assumption | omega) (by k_asm) (by k_asm) T3 O3 fr3 ⟨_, _, _, _, rfl, hm⟩)

-- L00
theorem execs_append_wp {M : Model} {A : Around} {E : Value → Shared → Prop} {env : Env} {b : List Stmt} {Q : Flow → Shared → Prop} : ∀ (a : List Stmt) {s : Shared} (Γ : Ctx) (p : Pos), Γ.In A →
    Sem.wp M Γ (execs a env) (fun f _ s' => match f with | .next => wpAny M A (execs b env) Q E s' | f => Q f s') (fun e _ s' => E e s') p s → Sem.wp M Γ (execs (a ++ b) env) (fun f _ s' => Q f s') (fun e _ s' => E e s') p s
  | [], s, Γ, p, hΓ, h => by
    rw [execs_nil] at h
    simp only [Sem.wp_pure'] at h
    exact h Γ p hΓ
  | st :: r, s, Γ, p, hΓ, h => by
    rw [List.cons_append, execs_cons, Sem.wp_bind']
    rw [execs_cons, Sem.wp_bind'] at h
    refine Sem.wp_mono M Γ _ (fun f p' s' hh => ?_) (fun _ _ _ h' => h') _ _ h
    cases f with
    | next => exact execs_append_wp r Γ p' hΓ hh
    | brk => simpa using hh
    | cont => simpa using hh
    | ret v => simpa using hh
theorem execs_append {M : Model} {A : Around} {E : Value → Shared → Prop} {env : Env} {b : List Stmt} {Q : Flow → Shared → Prop} (a : List Stmt) {s : Shared}
    (h : wpAny M A (execs a env) (fun f s' => match f with | .next => wpAny M A (execs b env) Q E s' | f => Q f s') E s) : wpAny M A (execs (a ++ b) env) Q E s :=
  fun Γ p hΓ => execs_append_wp a Γ p hΓ (h Γ p hΓ)
/-- what int_divmod's contract wants -/
structure DivOk (a b : Int) : Prop where
  ha : 0 < a
  hb : 0 < b
  hbl : Builtin.Int.intBits b ≤ 15000
  hal : Builtin.Int.intBits a ≤ 100000
  hlen : ∃ len : Nat, (((Builtin.Int.intBits a : Nat) : Int) + (Builtin.Int.intBits b : Nat) - 1).fdiv (Builtin.Int.intBits b : Nat) = (len : Int) ∧ (0 < len ∧ len ≤ 64) ∧ a < 2 ^ (Builtin.Int.intBits b * len)
theorem len_facts {a : Int} {n : Nat} (ha : 0 < a) (hn : 0 < n) (h : Builtin.Int.intBits a ≤ 60 * n) : ∃ len : Nat, (((Builtin.Int.intBits a : Nat) : Int) + (n : Nat) - 1).fdiv (n : Nat) = (len : Int) ∧ (0 < len ∧ len ≤ 64) ∧ a < 2 ^ (n * len) := by
  have hb := hasBits_of ha
  obtain ⟨k, hk⟩ : ∃ k, k = Builtin.Int.intBits a := ⟨_, rfl⟩
  rw [← hk] at hb h ⊢
  have k0 : 0 < k := by
    rcases Nat.eq_zero_or_pos k with e | e
    · rw [e] at hb; have h1 := hb.2.2; have h2 := hb.1; simp at h1; omega
    · exact e
  have hd := Nat.div_add_mod (k + n - 1) n
  have hm := Nat.mod_lt (k + n - 1) hn
  refine ⟨(k + n - 1) / n, ?_, ⟨?_, ?_⟩, ?_⟩
  · rw [Int.fdiv_eq_ediv_of_nonneg _ (by omega)]
    have : ((k : Int) + (n : Int) - 1) = ((k + n - 1 : Nat) : Int) := by omega
    rw [this]; simp
  · exact Nat.div_pos (by omega) hn
  · have : (k + n - 1) / n < 64 + 1 := (Nat.div_lt_iff_lt_mul hn).mpr (by omega)
    omega
  · refine Int.lt_of_lt_of_le hb.2.2 ?_
    have : k ≤ n * ((k + n - 1) / n) := by omega
    exact_mod_cast Nat.pow_le_pow_right (by decide : 0 < 2) this
theorem DivOk.of {a b : Int} (ha : 0 < a) (hb : 0 < b) (h1 : Builtin.Int.intBits b ≤ 15000) (h2 : Builtin.Int.intBits a ≤ 100000) (h3 : Builtin.Int.intBits a ≤ 60 * Builtin.Int.intBits b) : DivOk a b := by
  have hn : 0 < Builtin.Int.intBits b := by
    have h := hasBits_of hb
    rcases Nat.eq_zero_or_pos (Builtin.Int.intBits b) with e | e
    · rw [e] at h; have h1 := h.2.2; simp at h1; omega
    · exact e
  exact ⟨ha, hb, h1, h2, len_facts ha hn h3⟩
section
variable {prog : Program} {w : World} {A : Around} {E : Value → Shared → Prop} {s : Shared} {Q : Value → Shared → Prop} {a b k : Int} {t u : Tok}
theorem modby (hb : b ≠ 0) (e : a.fmod b = k) (hp : Builtin.divisionGoesByPylong a b = false ∨ True) (h : Q (.int k s.toks) { s with toks := s.toks + 1 }) : wpAny (model prog w) A (binaryOp .Mod (.int a t) (.int b u)) Q E s := mod_int hb (by rw [e]; exact h)
theorem subby (e : a - b = k) (h : Q (.int k s.toks) { s with toks := s.toks + 1 }) : wpAny (model prog w) A (binaryOp .Sub (.int a t) (.int b u)) Q E s := sub_int (by rw [e]; exact h)
theorem addby (e : a + b = k) (h : Q (.int k s.toks) { s with toks := s.toks + 1 }) : wpAny (model prog w) A (binaryOp .Add (.int a t) (.int b u)) Q E s := add_int (by rw [e]; exact h)
theorem powby (hn : 0 ≤ b ∧ b ≤ 1000) (hb : Builtin.Int.intBits a ≤ 700) (e : a ^ b.toNat = k) (h : Q (.int k s.toks) { s with toks := s.toks + 1 }) : wpAny (model prog w) A (binaryOp .Pow (.int a t) (.int b u)) Q E s := powN hn hb (by rw [e]; exact h)
end
/-- the ledger's shape in the law: its four cells, the tables, the rest -/
theorem norm_led {h₀ h : Heap} {L : Addr} {a b c d : Addr × Obj} {objs t rest : Led} (N : News h₀ L h (objs ++ (a :: b :: c :: d :: (t ++ rest)))) : News h₀ L h (a :: b :: c :: d :: (t ++ (objs ++ rest))) := news_sub N fun p hp => by
  simp only [List.mem_cons, List.mem_append] at hp ⊢
  rcases hp with e | e | e | e | e | e | e <;> simp [e]
theorem tabs_first {h₀ h : Heap} {L : Addr} {a b c d : Addr × Obj} {t rest : Led} (N : News h₀ L h (a :: b :: c :: d :: (t ++ rest))) : News h₀ L h (t ++ (a :: b :: c :: d :: rest)) := news_sub N fun p hp => by
  simp only [List.mem_cons, List.mem_append] at hp ⊢
  rcases hp with e | e | e | e | e | e <;> simp [e]
theorem tabs_back {h₀ h : Heap} {L : Addr} {a b c d : Addr × Obj} {objs t rest : Led} (N : News h₀ L h (objs ++ (t ++ (a :: b :: c :: d :: rest)))) : News h₀ L h (a :: b :: c :: d :: (t ++ (objs ++ rest))) := news_sub N fun p hp => by
  simp only [List.mem_cons, List.mem_append] at hp ⊢
  rcases hp with e | e | e | e | e | e | e <;> simp [e]
/-- the law's ledger: its four cells, the tables, the rest -/
structure LawLed (h₀ h : Heap) (L : Addr) (o1 o2 o3 o4 : Obj) (t rest : Led) : Prop where
  N : News h₀ L h ((L + 1 + 1 + 1 + 1, o4) :: (L + 1 + 1 + 1, o3) :: (L + 1 + 1, o2) :: (L + 1, o1) :: (t ++ rest))
  tab : Tab2 t
  off : OffT t ((L + 1 + 1 + 1 + 1, o4) :: (L + 1 + 1 + 1, o3) :: (L + 1 + 1, o2) :: (L + 1, o1) :: rest)
  cel : ∀ p ∈ t ++ rest, p.1 ≠ L + 1 + 1 + 1 + 1 ∧ p.1 ≠ L + 1 + 1 + 1 ∧ p.1 ≠ L + 1 + 1 ∧ p.1 ≠ L + 1
  dat : (∃ v, o1.data = .cell v) ∧ (∃ v, o2.data = .cell v) ∧ (∃ v, o3.data = .cell v) ∧ (∃ v, o4.data = .cell v)
theorem LawLed.more {h₀ h h' : Heap} {L : Addr} {o1 o2 o3 o4 : Obj} {t rest objs : Led} (l : LawLed h₀ h L o1 o2 o3 o4 t rest) (N : News h₀ L h' (objs ++ ((L + 1 + 1 + 1 + 1, o4) :: (L + 1 + 1 + 1, o3) :: (L + 1 + 1, o2) :: (L + 1, o1) :: (t ++ rest))))
    (fr : Fresh objs ((L + 1 + 1 + 1 + 1, o4) :: (L + 1 + 1 + 1, o3) :: (L + 1 + 1, o2) :: (L + 1, o1) :: (t ++ rest))) : LawLed h₀ h' L o1 o2 o3 o4 t (objs ++ rest) := by
  refine ⟨norm_led N, l.tab, fun q hq p hp => ?_, fun p hp => ?_, l.dat⟩
  · simp only [List.mem_cons, List.mem_append] at hp
    rcases hp with e | e | e | e | e | e
    · exact l.off q hq p (by simp [e])
    · exact l.off q hq p (by simp [e])
    · exact l.off q hq p (by simp [e])
    · exact l.off q hq p (by simp [e])
    · exact (fr p e q (by simp [hq])).symm
    · exact l.off q hq p (by simp [e])
  · rcases List.mem_append.mp hp with e | e
    · exact l.cel p (List.mem_append_left _ e)
    · rcases List.mem_append.mp e with e | e
      · exact ⟨(fr p e _ (.head _)).symm, (fr p e _ (.tail _ (.head _))).symm, (fr p e _ (.tail _ (.tail _ (.head _)))).symm, (fr p e _ (.tail _ (.tail _ (.tail _ (.head _))))).symm⟩
      · exact l.cel p (List.mem_append_right _ e)
theorem LawLed.tabs {h₀ h h' : Heap} {L : Addr} {o1 o2 o3 o4 : Obj} {t t' rest objs : Led} (l : LawLed h₀ h L o1 o2 o3 o4 t rest) (N : News h₀ L h' (objs ++ (t' ++ ((L + 1 + 1 + 1 + 1, o4) :: (L + 1 + 1 + 1, o3) :: (L + 1 + 1, o2) :: (L + 1, o1) :: rest))))
    (T : Tab2 t') (O : OffT t' ((L + 1 + 1 + 1 + 1, o4) :: (L + 1 + 1 + 1, o3) :: (L + 1 + 1, o2) :: (L + 1, o1) :: rest)) (fr : Fresh objs (t' ++ ((L + 1 + 1 + 1 + 1, o4) :: (L + 1 + 1 + 1, o3) :: (L + 1 + 1, o2) :: (L + 1, o1) :: rest))) : LawLed h₀ h' L o1 o2 o3 o4 t' (objs ++ rest) := by
  have c : ∀ x ∈ (L + 1 + 1 + 1 + 1, o4) :: (L + 1 + 1 + 1, o3) :: (L + 1 + 1, o2) :: (L + 1, o1) :: rest, x ∈ t' ++ ((L + 1 + 1 + 1 + 1, o4) :: (L + 1 + 1 + 1, o3) :: (L + 1 + 1, o2) :: (L + 1, o1) :: rest) := fun x hx => List.mem_append_right _ hx
  refine ⟨tabs_back N, T, fun q hq p hp => ?_, fun p hp => ?_, l.dat⟩
  · simp only [List.mem_cons, List.mem_append] at hp
    rcases hp with e | e | e | e | e | e
    · exact O q hq p (by simp [e])
    · exact O q hq p (by simp [e])
    · exact O q hq p (by simp [e])
    · exact O q hq p (by simp [e])
    · exact (fr p e q (List.mem_append_left _ hq)).symm
    · exact O q hq p (by simp [e])
  · rcases List.mem_append.mp hp with e | e
    · exact ⟨(O p e _ (.head _)).symm, (O p e _ (.tail _ (.head _))).symm, (O p e _ (.tail _ (.tail _ (.head _)))).symm, (O p e _ (.tail _ (.tail _ (.tail _ (.head _))))).symm⟩
    · rcases List.mem_append.mp e with e | e
      · exact ⟨(fr p e _ (c _ (.head _))).symm, (fr p e _ (c _ (.tail _ (.head _)))).symm, (fr p e _ (c _ (.tail _ (.tail _ (.head _))))).symm, (fr p e _ (c _ (.tail _ (.tail _ (.tail _ (.head _)))))).symm⟩
      · exact l.cel p (List.mem_append_right _ e)
theorem LawLed.first {h₀ h : Heap} {L : Addr} {o1 o2 o3 o4 : Obj} {t rest : Led} (l : LawLed h₀ h L o1 o2 o3 o4 t rest) : News h₀ L h (t ++ ((L + 1 + 1 + 1 + 1, o4) :: (L + 1 + 1 + 1, o3) :: (L + 1 + 1, o2) :: (L + 1, o1) :: rest)) := tabs_first l.N
theorem LawLed.at {h₀ h h' : Heap} {L : Addr} {o1 o2 o3 o4 : Obj} {t rest : Led} (l : LawLed h₀ h L o1 o2 o3 o4 t rest) (N : News h₀ L h' ((L + 1 + 1 + 1 + 1, o4) :: (L + 1 + 1 + 1, o3) :: (L + 1 + 1, o2) :: (L + 1, o1) :: (t ++ rest))) : LawLed h₀ h' L o1 o2 o3 o4 t rest := ⟨N, l.tab, l.off, l.cel, l.dat⟩
theorem LawLed.here {h₀ h h' : Heap} {L : Addr} {o1 o2 o3 o4 : Obj} {t rest led : Led} (l : LawLed h₀ h L o1 o2 o3 o4 t rest) (N : News h₀ L h' led) (hs : ∀ p ∈ (L + 1 + 1 + 1 + 1, o4) :: (L + 1 + 1 + 1, o3) :: (L + 1 + 1, o2) :: (L + 1, o1) :: (t ++ rest), p ∈ led) : LawLed h₀ h' L o1 o2 o3 o4 t rest := ⟨news_sub N hs, l.tab, l.off, l.cel, l.dat⟩
theorem divmod_law (w : World) (a b : Int) (ta tb : Tok) (news : Led) (o : DivOk a b) : SpecT w 56 301 6100 [.int a ta, .int b tb] Tab2 news (fun r objs => ∃ D t u k, r = .ref D ∧ (D, tupO [.int (a / b) t, .int (a % b) u] k) ∈ objs) := by
  obtain ⟨len, h1, h2, h3⟩ := o.hlen
  exact divmod_spec w a b len ta tb news o.ha o.hb o.hbl o.hal h1 h2 h3
theorem divmod_by (w : World) (a b q r : Int) (ta tb : Tok) (news : Led) (o : DivOk a b) (eq : a / b = q) (er : a % b = r) : SpecT w 56 301 6100 [.int a ta, .int b tb] Tab2 news (fun v objs => ∃ D t u k, v = .ref D ∧ (D, tupO [.int q t, .int r u] k) ∈ objs) := by
  subst eq; subst er
  exact divmod_law w a b ta tb news o
theorem news_cons {h₀ h : Heap} {L : Addr} {x : Addr × Obj} {led objs : Led} (N : News h₀ L h led) (hm : x ∈ objs) (hs : ∀ p ∈ objs, p ∈ led) : News h₀ L h (x :: led) := news_sub N fun p hp => by
  rcases List.mem_cons.mp hp with rfl | hp
  · exact hs _ hm
  · exact hp
theorem mem_canon {a b c d : Addr × Obj} {t objs rest : Led} : ∀ p ∈ objs, p ∈ a :: b :: c :: d :: (t ++ (objs ++ rest)) := fun p hp => by simp [hp]
/-- the walk stops here -/
noncomputable def Blocked (P : Prop) : Prop := P
theorem block {P : Prop} (h : Blocked P) : P := h
theorem Blocked.of {P : Prop} (h : P) : Blocked P := h
theorem tabs_seq {P : Addr} {pos : Pos} {qual : Str} {t : Led} (T : TabS P pos qual t) : ∀ p ∈ t, ∀ xs n, p.2.data ≠ .seq xs n := by
  rcases T with rfl | ⟨c', oc, vs, tq, rfl, d1, d2⟩
  · intro p hp xs n e
    rw [List.mem_singleton.mp hp] at e; cases e
  · intro p hp xs n e
    rcases List.mem_cons.mp hp with rfl | hp
    · rw [d1] at e; cases e
    · rw [List.mem_singleton.mp hp] at e; cases e
theorem LawLed.seq {h₀ h : Heap} {L : Addr} {o1 o2 o3 o4 : Obj} {t rest objs : Led} (l : LawLed h₀ h L o1 o2 o3 o4 t rest) {a : Addr} {o : Obj} {xs : Array Value} {n : Nat} (hd : o.data = .seq xs n)
    (hm : (a, o) ∈ objs ++ ((L + 1 + 1 + 1 + 1, o4) :: (L + 1 + 1 + 1, o3) :: (L + 1 + 1, o2) :: (L + 1, o1) :: (t ++ rest))) : (a, o) ∈ objs ++ rest := by
  obtain ⟨⟨v1, d1⟩, ⟨v2, d2⟩, ⟨v3, d3⟩, ⟨v4, d4⟩⟩ := l.dat
  obtain ⟨t1, t2, rfl, T1, T2, _⟩ := l.tab
  simp only [List.mem_append, List.mem_cons] at hm ⊢
  rcases hm with e | e | e | e | e | (e | e) | e
  · exact .inl e
  · cases e; rw [d4] at hd; cases hd
  · cases e; rw [d3] at hd; cases hd
  · cases e; rw [d2] at hd; cases hd
  · cases e; rw [d1] at hd; cases hd
  · exact absurd hd (tabs_seq T1 _ e xs n)
  · exact absurd hd (tabs_seq T2 _ e xs n)
  · exact .inr e
theorem LawLed.lists {h₀ h : Heap} {L : Addr} {o1 o2 o3 o4 : Obj} {t rest objs : Led} (l : LawLed h₀ h L o1 o2 o3 o4 t rest) {vs : List Value} {xss : List (List Int)} (H : Lists (objs ++ ((L + 1 + 1 + 1 + 1, o4) :: (L + 1 + 1 + 1, o3) :: (L + 1 + 1, o2) :: (L + 1, o1) :: (t ++ rest))) vs xss) : Lists (objs ++ rest) vs xss := by
  induction H with
  | nil => exact .nil
  | cons a b _ ih => exact .cons (l.seq rfl a) b ih
theorem LawLed.tups {h₀ h : Heap} {L : Addr} {o1 o2 o3 o4 : Obj} {t rest objs : Led} (l : LawLed h₀ h L o1 o2 o3 o4 t rest) {f : Nat → Int} {T : Nat} {vs : List Value} {xss : List (List Int)} (H : Tups f T (objs ++ ((L + 1 + 1 + 1 + 1, o4) :: (L + 1 + 1 + 1, o3) :: (L + 1 + 1, o2) :: (L + 1, o1) :: (t ++ rest))) vs xss) : Tups f T (objs ++ rest) vs xss := by
  induction H with
  | nil => exact .nil
  | cons a b _ ih => exact .cons (l.seq rfl a) b ih
structure DigOk (a : Int) (n len : Nat) : Prop where
  ha : 0 < a
  hn : 0 < n ∧ n ≤ 100000
  hb : Builtin.Int.intBits a ≤ 100000
  hlen : (((Builtin.Int.intBits a : Nat) : Int) + n - 1).fdiv n = (len : Int)
  hl : 0 < len ∧ len ≤ 64
  hx : a < 2 ^ (n * len)
theorem int2digits_law (w : World) (a : Int) (n len : Nat) (ta tn : Tok) (news : Led) (o : DigOk a n len) :
    SpecT w 35 140 5000 [.int a ta, .int n tn] Tab2 news (fun r objs => ∃ D ws k, r = .ref D ∧ (D, lstO ws k) ∈ objs ∧ IntsAre ws (digs n len a)) := by
  intro t p loose mean mg mb dp un gd cn sc fa ccd cl outer A₀ base h₀ L m s Q E hT hO B F X N T hk ht hd hu hret
  obtain ⟨t1, t2, rfl, T1, T2, O12⟩ := hT
  rw [List.append_assoc] at N
  have O1 : OffT t1 (t2 ++ news) := fun q hq p hp => by
    rcases List.mem_append.mp hp with e | e
    · exact O12 q hq p e
    · exact hO q (List.mem_append_left _ hq) p e
  refine SpecT.use (int2digits_spec w a n len ta tn (t2 ++ news) o.ha o.hn o.hb o.hlen o.hl o.hx) T1 O1 B F X N T hk ht hd hu fun r h' tk' objs t1' ht' F' N' T1' O1' fr post => ?_
  refine hret r h' tk' objs (t1' ++ t2) ht' F' (by rw [List.append_assoc]; exact N') ⟨t1', t2, rfl, T1', T2, fun q hq p hp => O1' q hq p (List.mem_append_left _ hp)⟩ (fun q hq p hp => ?_) (by rw [List.append_assoc]; exact fr) post
  rcases List.mem_append.mp hq with e | e
  · exact O1' q e p (List.mem_append_right _ hp)
  · exact hO q (List.mem_append_right _ e) p hp
theorem mem_canon_one {a b c d x : Addr × Obj} {t rest : Led} : ∀ p ∈ a :: b :: c :: d :: (t ++ rest), p ∈ x :: a :: b :: c :: d :: (t ++ rest) := fun _ hp => .tail _ hp
theorem maxby {prog : Program} {w : World} {A : Around} {E : Value → Shared → Prop} {s : Shared} {h₀ : Heap} {L : Addr} {m : Str → Option Value} {news : Led} {x : Addr} {vs : List Value} {ns : List Int} {n k : Nat} {Q : Value → Shared → Prop} (hh : A.handled = none) (F : Fr h₀ L s.heap m) (N : News h₀ L s.heap news) (hx : (x, lstO vs n) ∈ news) (hi : IntsAre vs ns) (h1 : (k : Int) ∈ ns) (h2 : ∀ a ∈ ns, a ≤ (k : Int))
    (h : ∀ t h' tk, s.toks ≤ tk → Fr h₀ L h' m → News h₀ L h' news → Q (.int k t) { s with heap := h', toks := tk }) : wpAny (model prog w) A (call (.builtin "max") [.ref x]) Q E s :=
  wpAny_with_toks (Nat.le_refl s.toks) (kso_max F N ⟨_, (N _ hx).1, rfl, _, rfl⟩ hi (List.length_pos_of_mem h1) hh fun h' M t tk F' N' m1 m2 ht => by
    have e : M = (k : Int) := Int.le_antisymm (h2 M m1) (m2 _ h1)
    subst e
    exact h t h' tk ht F' N')
theorem mem_deep {a b c d x y z : Addr × Obj} {o t rest : Led} : ∀ p ∈ z :: a :: b :: c :: d :: (t ++ rest), p ∈ z :: (o ++ x :: y :: a :: b :: c :: d :: (t ++ rest)) := fun p hp => by
  simp only [List.mem_cons, List.mem_append] at hp ⊢
  rcases hp with e | e | e | e | e | e | e <;> simp [e]
theorem mem_deep2 {a b c d x y : Addr × Obj} {o t rest : Led} : ∀ p ∈ a :: b :: c :: d :: (t ++ rest), p ∈ o ++ x :: y :: a :: b :: c :: d :: (t ++ rest) := fun p hp => by
  simp only [List.mem_cons, List.mem_append] at hp ⊢
  rcases hp with e | e | e | e | e | e <;> simp [e]

-- L01
theorem ne12 (L : Nat) : L + 1 ≠ L + 1 + 1 := by omega
theorem ne13 (L : Nat) : L + 1 ≠ L + 1 + 1 + 1 := by omega
theorem ne14 (L : Nat) : L + 1 ≠ L + 1 + 1 + 1 + 1 := by omega
theorem ne23 (L : Nat) : L + 1 + 1 ≠ L + 1 + 1 + 1 := by omega
theorem ne24 (L : Nat) : L + 1 + 1 ≠ L + 1 + 1 + 1 + 1 := by omega
theorem ne32 (L : Nat) : L + 1 + 1 + 1 ≠ L + 1 + 1 := by omega
theorem ne34 (L : Nat) : L + 1 + 1 + 1 ≠ L + 1 + 1 + 1 + 1 := by omega
theorem ne42 (L : Nat) : L + 1 + 1 + 1 + 1 ≠ L + 1 + 1 := by omega
theorem ne43 (L : Nat) : L + 1 + 1 + 1 + 1 ≠ L + 1 + 1 + 1 := by omega
section
variable {M : Model} {A : Around} {E : Value → Shared → Prop} {s : Shared} {h₀ : Heap} {L a : Addr} {m : Str → Option Value} {cn : Str} {cs : Scope} {ccd : Value} {x : Str} {v : Value} {Q : Unit → Shared → Prop} {o1 o2 o3 o4 : Obj} {t rest : Led}
theorem LawLed.store2 (F : Fr h₀ L s.heap m) (l : LawLed h₀ s.heap L o1 o2 o3 o4 t rest) (hc : (cellsFrom (L + 1) cs.names []).lookup x = some (L + 1 + 1))
    (h : ∀ h' o', Fr h₀ L h' m → LawLed h₀ h' L o1 o' o3 o4 t rest → o'.data = .cell (some v) → Q () { s with heap := h' })
    (hk : cs.kind = .function := by rfl) (hx : (envOfC cn cs L a ccd).kindOf x = some .cell := by rfl) : wpAny M A (storeName (envOfC cn cs L a ccd) x v) Q E s := by
  obtain ⟨_, ⟨v0, d0⟩, _, _⟩ := l.dat
  refine storeX_C F l.N hc (.tail (ne42 L) (.tail (ne32 L) (.head fun p hp => ?_))) d0 (fun h' o' F' N' d' => h h' o' F' ⟨N', l.tab, fun q hq p hp => ?_, l.cel, ⟨l.dat.1, ⟨_, d'⟩, l.dat.2.2.1, l.dat.2.2.2⟩⟩ d') hk hx
  · rcases List.mem_cons.mp hp with rfl | hp
    · exact ne12 L
    · exact (l.cel p hp).2.2.1
  · rcases List.mem_cons.mp hp with rfl | hp
    · exact l.off q hq _ (.head _)
    · rcases List.mem_cons.mp hp with rfl | hp
      · exact l.off q hq _ (.tail _ (.head _))
      · rcases List.mem_cons.mp hp with rfl | hp
        · exact l.off q hq (L + 1 + 1, o2) (.tail _ (.tail _ (.head _)))
        · exact l.off q hq p (.tail _ (.tail _ (.tail _ hp)))
theorem LawLed.store3 (F : Fr h₀ L s.heap m) (l : LawLed h₀ s.heap L o1 o2 o3 o4 t rest) (hc : (cellsFrom (L + 1) cs.names []).lookup x = some (L + 1 + 1 + 1))
    (h : ∀ h' o', Fr h₀ L h' m → LawLed h₀ h' L o1 o2 o' o4 t rest → o'.data = .cell (some v) → Q () { s with heap := h' })
    (hk : cs.kind = .function := by rfl) (hx : (envOfC cn cs L a ccd).kindOf x = some .cell := by rfl) : wpAny M A (storeName (envOfC cn cs L a ccd) x v) Q E s := by
  obtain ⟨_, _, ⟨v0, d0⟩, _⟩ := l.dat
  refine storeX_C F l.N hc (.tail (ne43 L) (.head fun p hp => ?_)) d0 (fun h' o' F' N' d' => h h' o' F' ⟨N', l.tab, fun q hq p hp => ?_, l.cel, ⟨l.dat.1, l.dat.2.1, ⟨_, d'⟩, l.dat.2.2.2⟩⟩ d') hk hx
  · rcases List.mem_cons.mp hp with rfl | hp
    · exact ne23 L
    · rcases List.mem_cons.mp hp with rfl | hp
      · exact ne13 L
      · exact (l.cel p hp).2.1
  · rcases List.mem_cons.mp hp with rfl | hp
    · exact l.off q hq _ (.head _)
    · rcases List.mem_cons.mp hp with rfl | hp
      · exact l.off q hq (L + 1 + 1 + 1, o3) (.tail _ (.head _))
      · exact l.off q hq p (.tail _ (.tail _ hp))
theorem LawLed.store4 (F : Fr h₀ L s.heap m) (l : LawLed h₀ s.heap L o1 o2 o3 o4 t rest) (hc : (cellsFrom (L + 1) cs.names []).lookup x = some (L + 1 + 1 + 1 + 1))
    (h : ∀ h' o', Fr h₀ L h' m → LawLed h₀ h' L o1 o2 o3 o' t rest → o'.data = .cell (some v) → Q () { s with heap := h' })
    (hk : cs.kind = .function := by rfl) (hx : (envOfC cn cs L a ccd).kindOf x = some .cell := by rfl) : wpAny M A (storeName (envOfC cn cs L a ccd) x v) Q E s := by
  obtain ⟨_, _, _, ⟨v0, d0⟩⟩ := l.dat
  refine storeX_C F l.N hc (.head fun p hp => ?_) d0 (fun h' o' F' N' d' => h h' o' F' ⟨N', l.tab, fun q hq p hp => ?_, l.cel, ⟨l.dat.1, l.dat.2.1, l.dat.2.2.1, ⟨_, d'⟩⟩⟩ d') hk hx
  · rcases List.mem_cons.mp hp with rfl | hp
    · exact ne34 L
    · rcases List.mem_cons.mp hp with rfl | hp
      · exact ne24 L
      · rcases List.mem_cons.mp hp with rfl | hp
        · exact ne14 L
        · exact (l.cel p hp).1
  · rcases List.mem_cons.mp hp with rfl | hp
    · exact l.off q hq (L + 1 + 1 + 1 + 1, o4) (.head _)
    · exact l.off q hq p (.tail _ hp)
end

theorem with_prelude12 : True := by
  k_with "my_meml" => (((repeat (apply List.mem_cons_of_mem)); (first | assumption | exact List.mem_append_right _ (by assumption) | exact List.mem_append_right _ (List.mem_append_right _ (by assumption)) | exact List.mem_append_left _ (by assumption) | exact List.mem_append_right _ (List.mem_append_left _ (by assumption)) | exact List.mem_append_right _ (List.mem_append_right _ (List.mem_append_right _ (by assumption))) | exact List.mem_append_right _ (List.mem_append_right _ (List.mem_append_left _ (by assumption))) | exact List.mem_append_right _ (List.mem_append_right _ (List.mem_append_right _ (List.mem_append_right _ (by assumption)))) | exact List.mem_append_right _ (List.mem_append_right _ (List.mem_append_right _ (List.mem_append_left _ (by assumption)))))))
  k_with "call ref" => (k_dflt ((with_reducible show wpAny _ _ (call (Value.ref 117) _) _ _ _); (refine' Spec.useI (steps_spec _ 6 _ _ _ _ ?zz79k0 ?zz79ka) ?zz79k1 ?zz79k2 ?zz79k3 ?zz79k4 ?zz79k5 ?zz79k6 ?zz79k7 ?zz79k8 ?zz79k9 ?_; (case zz79k1 => k_asm); (case zz79k2 => k_asm); (case zz79k3 => k_asm); (case zz79k4 => k_asm); (case zz79k5 => k_asm); (case zz79k0 => omega); (case zz79ka => assumption); (case zz79k6 => first | exact rfl | assumption); (case zz79k7 => ((try dsimp only); first | assumption | omega)); (case zz79k8 => ktr_room); (case zz79k9 => ktr_units); k_whole; intro t1 h' tk' ht' F' N'; (try dsimp only at ht'); (try dsimp only); (try k_fold))))
  k_with "call ref" => (k_dflt ((with_reducible show wpAny _ _ (call (Value.ref 117) _) _ _ _); (refine' Spec.useI (steps_spec _ _ _ _ _ _ ?zz80k0 ?zz80ka) ?zz80k1 ?zz80k2 ?zz80k3 ?zz80k4 ?zz80k5 ?zz80k6 ?zz80k7 ?zz80k8 ?zz80k9 ?_; (case zz80k1 => k_asm); (case zz80k2 => k_asm); (case zz80k3 => k_asm); (case zz80k4 => k_asm); (case zz80k5 => k_asm); (case zz80k0 => omega); (case zz80ka => assumption); (case zz80k6 => first | exact rfl | assumption); (case zz80k7 => ((try dsimp only); first | assumption | omega)); (case zz80k8 => ktr_room); (case zz80k9 => ktr_units); k_whole; intro t1 h' tk' ht' F' N'; (try dsimp only at ht'); (try dsimp only); (try k_fold))))
  k_with "call ref" => (k_dflt ((with_reducible show wpAny _ _ (call (Value.ref 129) _) _ _ _); first | ((rename LawLed _ _ _ _ _ _ _ _ _ => lL'); (rename News _ _ _ _ => NN'); (have lC' := LawLed.here lL' NN' (by intro p' hp'; first | exact hp' | exact .tail _ hp' | exact .tail _ (.tail _ hp') | exact .tail _ (.tail _ (.tail _ hp')) | exact .tail _ (.tail _ (.tail _ (.tail _ hp'))))); clear lL'; (refine' Spec.use3A (paints_spec _ _ _ _ _ _ _ _ ?zz81k0 ?zz81ka ?zz81kb ?zz81kc) ?zz81k1 ?zz81k2 ?zz81k3 lC'.N ?zz81k5 ?zz81k6 ?zz81k7 ?zz81k8 ?zz81k9 ?_; (case zz81k1 => k_asm); (case zz81k2 => k_asm); (case zz81k3 => k_asm); (case zz81k5 => k_asm); (case zz81k0 => assumption); (case zz81ka => assumption); (case zz81kb => assumption); (case zz81kc => assumption); (case zz81k6 => first | exact rfl | assumption); (case zz81k7 => ((try dsimp only); first | assumption | omega)); (case zz81k8 => ktr_room); (case zz81k9 => ktr_units); k_whole; intro D' vs' n' objs' mD' hp' h' tk' ht' F' N' fr'; (try dsimp only at ht'); (have lM' := LawLed.more lC' N' fr'); clear N'; (have N' := lM'.N); (have hp2' := LawLed.lists lC' hp'); clear hp' lC'; (try dsimp only); (try k_fold))) | (refine block ?_)))
  k_with "call ref" => (k_dflt ((with_reducible show wpAny _ _ (call (Value.ref 56) _) _ _ _); first | ((rename LawLed _ _ _ _ _ _ _ _ _ => lL'); (rename News _ _ _ _ => NN'); (have lC' := LawLed.here lL' NN' (by intro p' hp'; first | exact hp' | exact .tail _ hp' | exact .tail _ (.tail _ hp') | exact .tail _ (.tail _ (.tail _ hp')) | exact .tail _ (.tail _ (.tail _ (.tail _ hp'))))); clear lL'; (refine' SpecT.use4 (divmod_by _ _ _ _ _ _ _ _ ?zz82k0 ?zz82ka ?zz82kb) lC'.tab lC'.off ?zz82k1 ?zz82k2 ?zz82k3 lC'.first ?zz82k5 ?zz82k6 ?zz82k7 ?zz82k8 ?zz82k9 ?_; (case zz82k1 => k_asm); (case zz82k2 => k_asm); (case zz82k3 => k_asm); (case zz82k5 => k_asm); (case zz82k0 => assumption); (case zz82ka => with_reducible assumption); (case zz82kb => with_reducible assumption); (case zz82k6 => first | exact rfl | assumption); (case zz82k7 => ((try dsimp only); first | assumption | omega)); (case zz82k8 => ktr_room); (case zz82k9 => ktr_units); k_whole; intro D' tq' tr' n' objs' mD' h' tk' t' ht' F' N' T' O' fr'; (try dsimp only at ht'); (have lM' := LawLed.tabs lC' N' T' O' fr'); clear N' lC'; (have N' := news_cons lM'.N mD' mem_canon); (try dsimp only); (try k_fold))) | (refine block ?_)))
  k_with "binaryOp Mod int int" => (k_dflt (refine modby (by first | assumption | exact Int.mul_ne_zero (Int.mul_ne_zero (by assumption) (by assumption)) (by assumption) | decide) (by with_reducible assumption) (Or.inr trivial) ?_))
  k_with "binaryOp Sub int int" => (k_dflt (refine subby (by with_reducible assumption) ?_))
  k_with "binaryOp Add int int" => (k_dflt (refine addby (by with_reducible assumption) ?_))
  k_with "binaryOp Pow int int" => (k_dflt (refine powby (by omega) (by first | assumption | decide) (by with_reducible assumption) ?_))
  k_with "subscriptTail" => (k_dflt ( ((with_reducible show wpAny _ _ (subscriptTail _ _ (Value.ref _) (Value.int _ _)) _ _ _); refine' subN ?zz87k1 ?zz87k2 ?zz87k3 ?zz87k4 ?_ ?zz87k5; (case zz87k1 => k_asm); (case zz87k2 => walk_at "my_meml"); (case zz87k3 => assumption); (case zz87k4 => omega); (case zz87k5 => with_unfolding_all rfl); k_whole; intro t')))
  trivial
-- L2
theorem rest_L2 : True := by
  w_top off
  trivial
set_option maxHeartbeats 1000000 in
theorem law_2 (w : World) (p : Program) (loose : List Str) (mean : ExcName → Option Value) (mg mb : Str → Option Value) (base h₀ : Heap) (L fa : Addr) (cd : Value) (m : Str → Option Value) (s : Shared) (Q : Flow → Shared → Prop) (E : Value → Shared → Prop) (o1 o2 o3 o4 : Obj) (t rest : Led)
    (B : Below callerA base [] h₀) (F : Fr h₀ L s.heap m) (X : (heapK w.params).In h₀) (hLed : LawLed h₀ s.heap L o1 o2 o3 o4 t rest) (T : Top p loose mean mg mb h₀) (hts : 1 ≤ s.toks)
    (CA WA ZA : Addr) (cvs zvs : List Value) (nc nz : Nat) (c0 c1 c2 : Nat) (zs : List Int) (q1 : m "counts" = some (.ref CA)) (hC : (CA, lstO cvs nc) ∈ rest) (hCv : IntsAre cvs [(c0 : Int), c1, c2]) (hd2 : o2.data = .cell (some (.ref ZA))) (hZ : (ZA, lstO zvs nz) ∈ rest) (hZv : IntsAre zvs zs) (hzl : zs.length = 6) (qw : m "words" = some (.ref WA))
    (b sh t4 wd : Nat) (bs ex cnt : Int) (e1 : ((zs.getD (Int.toNat 0) 0).fdiv 3).fmod 384 = (b : Int)) (e2 : 256 - ((zs.getD (Int.toNat 0) 0).fdiv 1152).fmod 257 = (sh : Int)) (e3 : ((zs.getD (Int.toNat 0) 0).fdiv 296064).fmod 4 = (t4 : Int)) (e4 : 8 + ((zs.getD (Int.toNat 1) 0).fdiv 3).fmod 600 = (wd : Int)) (e5 : (2 : Int) ^ (wd : Int).toNat = bs)
    (hb : b < 384) (hs : sh ≤ 256) (ht4 : t4 < 4) (hwd : wd ≤ 607) (ok : ∀ i : Nat, i < 6 → PaintOk b sh t4 i)
    (hc6 : c0 ≤ 6 ∧ c1 ≤ 6 ∧ c2 ≤ 6) (hbb : Builtin.Int.intBits bs ≤ 700) (m1 : IntMulOk (stepsZ bs c0) (stepsZ bs c1)) (m2 : IntMulOk (stepsZ bs c0 * stepsZ bs c1) (stepsZ bs c2)) (hU : stepsZ bs c0 * stepsZ bs c1 * stepsZ bs c2 ≠ 0) (e6 : ((zs.getD (Int.toNat 2) 0).fdiv 3).fmod (stepsZ bs c0 * stepsZ bs c1 * stepsZ bs c2) = ex)
    (dv : DivOk (stepsZ bs 6 + ex) (stepsZ bs c0 * stepsZ bs c1 * stepsZ bs c2)) (dq : (stepsZ bs 6 + ex) / (stepsZ bs c0 * stepsZ bs c1 * stepsZ bs c2) = cnt) (dr : (stepsZ bs 6 + ex) % (stepsZ bs c0 * stepsZ bs c1 * stepsZ bs c2) = ex)
    (hret : ∀ h' tk' m' t' rest', 1 ≤ tk' → Fr h₀ L h' m' → LawLed h₀ h' L o1 o2 o3 o4 t' rest' → (∀ x ∈ rest, x ∈ rest') → m' "words" = some (.ref WA) → (∃ t, m' "begin" = some (.int b t)) → (∃ t, m' "shade" = some (.int sh t)) →
      (∃ PA pvs np, m' "paints" = some (.ref PA) ∧ (PA, lstO pvs np) ∈ rest' ∧ Lists rest' pvs ((List.range 6).map fun (i : Nat) => paintZ b sh t4 i)) → (∃ t, m' "width" = some (.int wd t)) → (∃ t, m' "base" = some (.int bs t)) → (∃ t, m' "extra" = some (.int ex t)) → (∃ t, m' "count" = some (.int cnt t)) → (∃ t, m' "left" = some (.int ex t)) → Q .next { s with heap := h', toks := tk' }) :
    wpAny (model PySem.Challenge.rw_tl0014_01.row.prog w) (callerA.deeper (lawE L fa cd)) (execs ((lawS.drop 3).take 8) (lawE L fa cd)) Q E s := by
  obtain ⟨x1, h1⟩ : ∃ x, x = (lawS.drop 3).take 8 := ⟨_, rfl⟩
  obtain ⟨x2, h2⟩ : ∃ x, x = lawSc := ⟨_, rfl⟩
  unfold lawE
  rw [← h1, ← h2]
  dsimp only [lawS, PySem.Challenge.pw_tl0014_01, lastBody, List.drop_succ_cons, List.drop_zero, List.take_succ_cons, List.take_zero, List.take] at h1
  dsimp only [lawSc, PySem.Challenge.pw_tl0014_01, lastScope] at h2
  subst h1
  subst h2
  have N := hLed.N
  rw [put_eq q1, put_eq qw] at F
  have hzvl : zvs.length = 6 := by rw [hZv.length, hzl]
  have k0 : (0 : Int) ≤ 0 ∧ (0 : Int) < zvs.length ∧ (0 : Int) ≤ 1000000 := by omega
  have k1 : (0 : Int) ≤ 1 ∧ (1 : Int) < zvs.length ∧ (1 : Int) ≤ 1000000 := by omega
  have k2 : (0 : Int) ≤ 2 ∧ (2 : Int) < zvs.length ∧ (2 : Int) ≤ 1000000 := by omega
  have hcvl : cvs.length = 3 := hCv.length
  have j0 : (0 : Int) ≤ 0 ∧ (0 : Int) < cvs.length ∧ (0 : Int) ≤ 1000000 := by omega
  have j1 : (0 : Int) ≤ 1 ∧ (1 : Int) < cvs.length ∧ (1 : Int) ≤ 1000000 := by omega
  have j2 : (0 : Int) ≤ 2 ∧ (2 : Int) < cvs.length ∧ (2 : Int) ≤ 1000000 := by omega
  k_steps
  rename LawLed _ _ _ _ _ _ _ _ _ => lF
  rename Lists _ _ _ => hP
  refine wpAny_execs_nil (hret _ _ _ _ _ (by first | assumption | omega) (by k_asm) (lF.here (by k_asm) fun p hp => .tail _ hp) (fun x hx => List.mem_append_right _ (List.mem_append_right _ hx)) rfl ⟨_, rfl⟩ ⟨_, rfl⟩ ⟨_, _, _, rfl, List.mem_append_right _ (List.mem_append_left _ (by assumption)), hP.sub fun p hp => List.mem_append_right _ hp⟩ ⟨_, rfl⟩ ⟨_, rfl⟩ ⟨_, rfl⟩ ⟨_, rfl⟩ ⟨_, rfl⟩)

theorem with_prelude13 : True := by
  k_with "call ref" => (k_dflt ((with_reducible show wpAny _ _ (call (Value.ref 35) _) _ _ _); first | ((rename LawLed _ _ _ _ _ _ _ _ _ => lL'); (rename News _ _ _ _ => NN'); (have lC' := LawLed.here lL' NN' (by intro p' hp'; first | exact hp' | exact .tail _ hp' | exact .tail _ (.tail _ hp') | exact .tail _ (.tail _ (.tail _ hp')) | exact .tail _ (.tail _ (.tail _ (.tail _ hp'))))); clear lL'; (refine' SpecT.use3A (int2digits_law _ _ _ _ _ _ _ ?zz88k0) lC'.tab lC'.off ?zz88k1 ?zz88k2 ?zz88k3 lC'.first ?zz88k5 ?zz88k6 ?zz88k7 ?zz88k8 ?zz88k9 ?_; (case zz88k1 => k_asm); (case zz88k2 => k_asm); (case zz88k3 => k_asm); (case zz88k5 => k_asm); (case zz88k0 => assumption); (case zz88k6 => first | exact rfl | assumption); (case zz88k7 => ((try dsimp only); first | assumption | omega)); (case zz88k8 => ktr_room); (case zz88k9 => ktr_units); k_whole; intro D' vs' n' objs' mD' hv' h' tk' t' ht' F' N' T' O' fr'; (try dsimp only at ht'); (have lM' := LawLed.tabs lC' N' T' O' fr'); clear N' lC'; (have N' := lM'.N); (try dsimp only); (try k_fold))) | (refine block ?_)))
  k_with "call ref" => (k_dflt ((with_reducible show wpAny _ _ (call (Value.ref 124) _) _ _ _); first | ((rename LawLed _ _ _ _ _ _ _ _ _ => lL'); (rename News _ _ _ _ => NN'); (have lC' := LawLed.here lL' NN' (by intro p' hp'; first | exact hp' | exact .tail _ hp' | exact .tail _ (.tail _ hp') | exact .tail _ (.tail _ (.tail _ hp')) | exact .tail _ (.tail _ (.tail _ (.tail _ hp'))))); clear lL'; (refine' Spec.use3A (often_spec _ _ _ _ _ _ _ _ ?zz89k0 ?zz89ka ?zz89kb ?zz89kc) ?zz89k1 ?zz89k2 ?zz89k3 lC'.N ?zz89k5 ?zz89k6 ?zz89k7 ?zz89k8 ?zz89k9 ?_; (case zz89k1 => k_asm); (case zz89k2 => k_asm); (case zz89k3 => k_asm); (case zz89k5 => k_asm); (case zz89k0 => walk_at "my_meml"); (case zz89ka => assumption); (case zz89kb => omega); (case zz89kc => assumption); (case zz89k6 => first | exact rfl | assumption); (case zz89k7 => ((try dsimp only); first | assumption | omega)); (case zz89k8 => ktr_room); (case zz89k9 => ktr_units); k_whole; intro D' vs' n' objs' mD' hv' h' tk' ht' F' N' fr'; (try dsimp only at ht'); (have lM' := LawLed.more lC' N' fr'); clear N'; (have N' := lM'.N); clear lC'; (try dsimp only); (try k_fold))) | (refine block ?_)))
  k_with "pyIter ref" => (k_dflt (refine' pyIter_lstN ?zz90k1 ?zz90k2 ?zz90k3 ?_; (case zz90k1 => k_asm); (case zz90k2 => k_asm); (case zz90k3 => walk_at "my_meml"); k_whole; intro I' oI' h' hSt' F' N' off'; (try dsimp only)))
  k_with "call builtin:max" => (k_dflt ((with_reducible show wpAny _ _ (call (Value.builtin _) [Value.ref _]) _ _ _); (refine' maxby rfl ?zz91k1 ?zz91k2 ?zz91k3 ?zz91k4 ?zz91k5 ?zz91k6 ?_; (case zz91k1 => k_asm); (case zz91k2 => k_asm); (case zz91k3 => walk_at "my_meml"); (case zz91k4 => assumption); (case zz91k5 => assumption); (case zz91k6 => assumption); k_whole; intro t' h' tk' ht' F' N'; (try dsimp only at ht'); (try dsimp only))))
  k_with "compareOp NotEq ref ref" => (k_dflt (refine' ne_intsN ?zz92k1 ?zz92k2 ?zz92k3 ?zz92k4 ?zz92k5 ?zz92k6 ?_ ?_; (case zz92k1 => k_asm); (case zz92k2 => walk_at "my_meml"); (case zz92k3 => walk_at "my_meml"); (case zz92k4 => first | assumption | exact .cons _ _ (.cons _ _ .nil)); (case zz92k5 => first | assumption | exact .cons _ _ (.cons _ _ .nil)); (case zz92k6 => ktr_units); all_goals (intro hNe')))
  k_with "call builtin:sum" => (k_dflt (refine' sumN rfl ?zz93k1 ?zz93k2 ?zz93k3 ?zz93k4 ?_; (case zz93k1 => k_asm); (case zz93k2 => k_asm); (case zz93k3 => first | exact .head _ | walk_at "my_meml"); (case zz93k4 => assumption); k_whole; intro h' t' tk' ht' F' N'; (try dsimp only at ht'); (try dsimp only)))
  k_with "subscriptTail" => (k_dflt ((with_reducible show wpAny _ _ (subscriptTail _ _ (Value.ref _) (Value.int _ _)) _ _ _); refine' subT ?zz94k1 ?zz94k2 ?zz94k3 ?zz94k4 ?_ ?zz94k5; (case zz94k1 => k_asm); (case zz94k2 => walk_at "my_meml"); (case zz94k3 => assumption); (case zz94k4 => first | assumption | omega); (case zz94k5 => with_unfolding_all rfl); k_whole; intro t'))
  trivial
-- L3
theorem rest_L3 : True := by
  w_top off
  trivial
set_option maxHeartbeats 700000 in
theorem law_3 (w : World) (p : Program) (loose : List Str) (mean : ExcName → Option Value) (mg mb : Str → Option Value) (base h₀ : Heap) (L fa : Addr) (cd : Value) (m : Str → Option Value) (s : Shared) (Q : Flow → Shared → Prop) (E : Value → Shared → Prop) (o1 o2 o3 o4 : Obj) (t rest : Led)
    (B : Below callerA base [] h₀) (F : Fr h₀ L s.heap m) (X : (heapK w.params).In h₀) (hLed : LawLed h₀ s.heap L o1 o2 o3 o4 t rest) (T : Top p loose mean mg mb h₀) (hts : 1 ≤ s.toks)
    (WA PA : Addr) (wvs : List Value) (nw : Nat) (f : Nat → Int) (Tk : Nat) (wss : List (List Int)) (ex cnt : Int) (wd : Nat) (te tl tc tw : Tok) (hW : (WA, lstO wvs nw) ∈ rest) (hWt : Tups f Tk rest wvs wss) (hwl : ∀ ws ∈ wss, ws.length = 6) (hwn : wss.length ≤ 1000)
    (q1 : m "words" = some (.ref WA)) (q2 : m "paints" = some (.ref PA)) (q3 : m "extra" = some (.int ex te)) (q4 : m "left" = some (.int ex tl)) (q5 : m "count" = some (.int cnt tc)) (q6 : m "width" = some (.int wd tw))
    (mo len : Nat) (hmo : mo ≤ 1000) (hmx : (mo : Int) ∈ wss.map fallZ) (hmy : ∀ a ∈ wss.map fallZ, a ≤ (mo : Int)) (hmz : ∀ z ∈ wss.map fallZ, 0 ≤ z ∧ z ≤ (mo : Int)) (hdg : DigOk cnt wd len) (heq : digs wd len cnt = oftenZ mo (wss.map fallZ))
    (hret : ∀ h' tk' m' t' rest', 1 ≤ tk' → Fr h₀ L h' m' → LawLed h₀ h' L o1 o2 o3 o4 t' rest' → (∀ x ∈ rest, x ∈ rest') → (∀ z : Str, z ≠ ("falls" : Str) → m' z = m z) → Q .next { s with heap := h', toks := tk' }) :
    wpAny (model PySem.Challenge.rw_tl0014_01.row.prog w) (callerA.deeper (lawE L fa cd)) (execs ((lawS.drop 11).take 3) (lawE L fa cd)) Q E s := by
  obtain ⟨x1, h1⟩ : ∃ x, x = (lawS.drop 11).take 3 := ⟨_, rfl⟩
  obtain ⟨x2, h2⟩ : ∃ x, x = lawSc := ⟨_, rfl⟩
  unfold lawE
  rw [← h1, ← h2]
  dsimp only [lawS, PySem.Challenge.pw_tl0014_01, lastBody, List.drop_succ_cons, List.drop_zero, List.take_succ_cons, List.take_zero, List.take] at h1
  dsimp only [lawSc, PySem.Challenge.pw_tl0014_01, lastScope] at h2
  subst h1
  subst h2
  have N := hLed.N
  rw [put_eq q1, put_eq q2, put_eq q3, put_eq q4, put_eq q5, put_eq q6] at F
  k_steps
  rename StList _ _ _ => hSt
  rename Fr _ _ _ _ => F1
  rename News _ _ _ _ => N1
  rename (∀ p ∈ (_ : Led), p.1 ≠ _) => off1
  have hWm : (WA, lstO wvs nw) ∈ (L + 1 + 1 + 1 + 1, o4) :: (L + 1 + 1 + 1, o3) :: (L + 1 + 1, o2) :: (L + 1, o1) :: (t ++ rest) := .tail _ (.tail _ (.tail _ (.tail _ (List.mem_append_right _ hW))))
  refine compRunX (fun _ => rfl) (fun _ => rfl) (it_list rfl (ax := WA) (off1 _ hWm) wvs.toArray) rfl (fun _ _ => rfl)
    (fun rest k a led ys => 1 ≤ a ∧ led = rest ∧ k ≤ wvs.length ∧ IntsAre ys ((wss.take k).map fallZ)) hSt F1 N1 off1 ?_ ?_ ?_ ?_ ?_
  · exact ⟨by (try dsimp only); first | assumption | omega, rfl, by omega, by rw [List.take_zero]; exact .nil⟩
  · intro i a led ys h hz224
    apply el_ARAA hz224
    clear hz224
    intro _ _ _ N _
    exact ⟨_, (N _ hWm).1, rfl, _, rfl⟩
  · intro k a led ys hz225
    apply el_AAAA hz225
    clear hz225
    intro _ _ hk hy
    have := hWt.length
    rw [hy.length]; simp; omega
  · intro C D c i v oI oC oc led ys h a tk E' hO hcr hi hv ha hz226
    revert hO hcr
    apply el_ARAA hz226
    clear hz226
    intro ha1 hk hy hO hcr hcd F2 N2
    have hz232 := hWt.get (by simpa using hv)
    revert hcd
    apply el_EEEEARAA hz232
    clear hz232
    intro ta us nu xs hxs htm hus hcd
    have hxl := hwl xs (List.mem_of_getElem? hxs)
    have h1' : 1 ≤ tk := by omega
    dsimp only
    k_steps
    rename StRange _ _ _ _ => hSt2
    rename Fr _ _ _ _ => F3
    rename News _ _ _ _ => N3
    rename (∀ p ∈ (_ : Led), p.1 ≠ _) => off3
    have hus' := hus.ints
    refine compRunT (fun _ => rfl) (fun _ => rfl) (it_range rfl _ 1 _) (fun i a b c v h hP => by obtain ⟨t, h1, h2, h3⟩ := hP; exact ⟨t, h1, Nat.lt_of_lt_of_le h2 h, h3⟩) rfl rfl
      (fun rest k a led ys => 1 ≤ a ∧ led = rest ∧ k ≤ 5 ∧ IntsAre ys (fallL xs k)) hSt2 F3 N3 off3 ?_ ?_ ?_ ?_ ?_
    · exact ⟨by (try dsimp only); first | assumption | omega, rfl, by omega, .nil⟩
    · intros; trivial
    · intro k a led ys hz227
      apply el_AAAA hz227
      clear hz227
      intro _ _ hk5 hy5
      have := fallL_len xs k
      rw [hy5.length]; omega
    · intro C2 D2 k v oI2 oC2 m₂ led2 ys2 h2 a2 tk2 E2 hO2 hk5 hz228
      apply el_EAAR hz228
      clear hz228
      intro tv _ _ htk2 hz229
      revert hO2
      apply el_ARAA hz229
      clear hz229
      intro ha2 hk4 hy2 hO2 hC2 F4 N4
      have h1'' : 1 ≤ tk2 := by omega
      have hk6 : k < 5 := by omega
      have ek : (1 + (k : Int) - 1).toNat = k := by omega
      have ek2 : (1 + (k : Int)).toNat = k + 1 := by omega
      dsimp only
      k_steps
      all_goals (
        refine turnEnd0 (by k_asm) (by k_asm) (fun hle => ⟨by omega, rfl, by omega, ?_⟩)
        simp only [ek, ek2] at *
        rw [fallL_succ]
        first
          | (rw [if_pos (by omega)]; exact hy2.append (.cons _ _ .nil))
          | (rw [if_neg (by omega), List.append_nil]; exact hy2))
    · intro D3 led3 ys3 h3 a3 tk3 ha3 hz230
      apply el_ARAA hz230
      clear hz230
      intro ha4 _ hy3 F5 N5 off5 offI5
      have h1'' : 1 ≤ tk3 := by omega
      dsimp only
      k_steps
      rename News _ _ _ _ => N6
      refine turnEnd0 (by k_asm) (drop_first N6) (fun hle => ⟨by omega, rfl, by simp at hi; omega, ?_⟩)
      rw [List.take_add_one, hxs, List.map_append]
      exact hy.append (.cons _ _ .nil)
  · intro C D oC m₂ c oc led ys h a tk ha hz231
    apply el_ARAA hz231
    clear hz231
    intro ha1 _ hy hC F5 N5 hO5
    refine comp_done_assignS rfl rfl rfl hC F5 N5 hO5.cd (fun p hp => (hO5.r p hp).2.1) fun h6 F6 N6 => ?_
    have lM := hLed.more (objs := [(D, lst ys)]) (drop_two N6) (fresh_off fun p hp => (hO5.r p (.tail _ hp)).2.2)
    clear hLed N5 N6 N N1
    have N6 := lM.N
    have hy' : IntsAre ys (wss.map fallZ) := by
      have e : wss.take wvs.toArray.size = wss := List.take_of_length_le (by have := hWt.length; simp; omega)
      rw [e] at hy; exact hy
    have mD : (D, lstO ys ys.length) ∈ [(D, lst ys)] ++ rest := .head _
    clear hy hO5 hC
    have h1' : 1 ≤ tk + 1 := by omega
    dsimp only
    k_steps
    · rename LawLed _ _ _ _ _ _ _ _ _ => lF
      refine wpAny_execs_nil (hret _ _ _ _ _ (by first | assumption | omega) (by k_asm) (lF.here (by k_asm) fun p hp => hp) (fun x hx => by simp [hx]) (fun z hz => ?_))
      dsimp only
      rw [if_neg hz]
      (repeat' split) <;> first | rfl | (rename_i e; rw [e]; first | exact q1.symm | exact q2.symm | exact q3.symm | exact q4.symm | exact q5.symm | exact q6.symm)
    · exfalso
      rename (digs wd len cnt ≠ _) => hx
      exact hx heq

theorem with_prelude14 : True := by
  k_with "call ref" => (k_dflt ((with_reducible show wpAny _ _ (call (Value.ref 91) _) _ _ _); (refine' Spec.use2 (concat_lst _ _ _ _ _ _ _ _ ?zz95k0 ?zz95ka ?zz95kb) ?zz95k1 ?zz95k2 ?zz95k3 ?zz95k4 ?zz95k5 ?zz95k6 ?zz95k7 ?zz95k8 ?zz95k9 ?_; (case zz95k1 => k_asm); (case zz95k2 => k_asm); (case zz95k3 => k_asm); (case zz95k4 => k_asm); (case zz95k5 => k_asm); (case zz95k0 => walk_at "my_meml"); (case zz95ka => first | exact .head _ | walk_at "my_meml"); (case zz95kb => first | assumption | omega | ((rename IntsAre _ _ => hiL); (have hiL2 := hiL.length); rw [digs_length] at hiL2; simp; omega)); (case zz95k6 => first | exact rfl | assumption); (case zz95k7 => ((try dsimp only); first | assumption | omega)); (case zz95k8 => ktr_room); (case zz95k9 => ktr_units); k_whole; intro D' n' objs' hm' h' tk' ht' F' N' fr'; (try dsimp only at ht'); (try dsimp only); (try k_fold))))
  k_with "subscriptTail" => (k_dflt ((with_reducible show wpAny _ _ (subscriptTail _ _ (Value.ref _) (Value.ref _)) _ _ _); (with_unfolding_all refine' sliceToX ?zz96k1 ?zz96k2 ?zz96k3 ?zz96k4 ?zz96k5 ?zz96k6 ?_ ?zz96ka ?zz96kb; (case zz96k1 => k_asm); (case zz96k2 => k_asm); (case zz96k3 => first | assumption | walk_at "my_meml"); (case zz96k4 => first | assumption | exact IntsAre.append (by assumption) (ints_replicate _ _ _)); (case zz96k5 => omega); (case zz96k6 => first | assumption | omega | ((rename IntsAre _ _ => hiL); (have hiL2 := hiL.length); rw [digs_length] at hiL2; simp; omega)); (case zz96ka => with_unfolding_all rfl); (case zz96kb => (intro _; with_unfolding_all rfl)); k_whole; intro D' ws' n' h' F' N' l' hv'; (try dsimp only))))
  trivial
-- L4
theorem rest_L4 : True := by
  w_top off
  trivial
set_option maxHeartbeats 700000 in
theorem law_4 (w : World) (p : Program) (loose : List Str) (mean : ExcName → Option Value) (mg mb : Str → Option Value) (base h₀ : Heap) (L fa : Addr) (cd : Value) (m : Str → Option Value) (s : Shared) (Q : Flow → Shared → Prop) (E : Value → Shared → Prop) (o1 o2 o3 o4 : Obj) (t rest : Led)
    (B : Below callerA base [] h₀) (F : Fr h₀ L s.heap m) (X : (heapK w.params).In h₀) (hLed : LawLed h₀ s.heap L o1 o2 o3 o4 t rest) (T : Top p loose mean mg mb h₀) (hts : 1 ≤ s.toks)
    (bs cnt p6 wh ag la : Int) (wd len : Nat) (tb tc tw : Tok) (q1 : m "base" = some (.int bs tb)) (q2 : m "count" = some (.int cnt tc)) (q3 : m "width" = some (.int wd tw))
    (hbb : Builtin.Int.intBits bs ≤ 700) (w1 : bs ^ Int.toNat 6 = p6) (w2 : p6 - 1 = wh) (dv : DivOk cnt wh) (dq : cnt / wh = ag) (dr : cnt % wh = la) (hm : IntMulOk ag wh) (hs : ag * wh + la = cnt) (hdg : DigOk la wd len) (hl6 : len ≤ 6)
    (hret : ∀ h' tk' m' t' rest', 1 ≤ tk' → Fr h₀ L h' m' → LawLed h₀ h' L o1 o2 o3 o4 t' rest' → (∀ x ∈ rest, x ∈ rest') → (∀ z : Str, z ≠ ("whole" : Str) → z ≠ ("again" : Str) → z ≠ ("last" : Str) → z ≠ ("classes" : Str) → m' z = m z) →
      (∃ KA kvs nk, m' "classes" = some (.ref KA) ∧ (KA, lstO kvs nk) ∈ rest' ∧ IntsAre kvs ((digs wd len la ++ List.replicate 6 0).take 6)) → Q .next { s with heap := h', toks := tk' }) :
    wpAny (model PySem.Challenge.rw_tl0014_01.row.prog w) (callerA.deeper (lawE L fa cd)) (execs ((lawS.drop 14).take 4) (lawE L fa cd)) Q E s := by
  obtain ⟨x1, h1⟩ : ∃ x, x = (lawS.drop 14).take 4 := ⟨_, rfl⟩
  obtain ⟨x2, h2⟩ : ∃ x, x = lawSc := ⟨_, rfl⟩
  unfold lawE
  rw [← h1, ← h2]
  dsimp only [lawS, PySem.Challenge.pw_tl0014_01, lastBody, List.drop_succ_cons, List.drop_zero, List.take_succ_cons, List.take_zero, List.take] at h1
  dsimp only [lawSc, PySem.Challenge.pw_tl0014_01, lastScope] at h2
  subst h1
  subst h2
  have N := hLed.N
  rw [put_eq q1, put_eq q2, put_eq q3] at F
  k_steps
  rename LawLed _ _ _ _ _ _ _ _ _ => lF
  rename News _ _ _ _ => N9
  rename (∀ p ∈ _ ++ _ :: _, Prod.fst p < _) => l9
  rename IntsAre _ _ => hv9
  have lM := lF.more (objs := [_]) (news_sub N9 mem_deep) (fresh_lt fun p hp => l9 p (mem_deep2 p hp))
  refine wpAny_execs_nil (hret _ _ _ _ _ (by first | assumption | omega) (by k_asm) lM (fun x hx => by simp [hx]) (fun z hz1 hz2 hz3 hz4 => ?_) ⟨_, _, _, rfl, .head _, hv9⟩)
  show (if z = _ then _ else if z = _ then _ else if z = _ then _ else if z = _ then _ else _) = _
  rw [if_neg hz4, if_neg hz3, if_neg hz2, if_neg hz1]
  (try dsimp only)
  (repeat' split) <;> first | rfl | (rename_i e; rw [e]; first | exact q1.symm | exact q2.symm | exact q3.symm)

theorem with_prelude15 : True := by
  k_with "my_memx" => (first | assumption | exact .tail _ (by assumption) | ((repeat (apply List.mem_cons_of_mem)); assumption) | (apply List.mem_append_right; (repeat (apply List.mem_cons_of_mem)); assumption) | walk_at "my_meml" | ((repeat (apply List.mem_cons_of_mem)); apply List.mem_append_right; walk_at "my_meml") | (apply List.mem_append_right; (repeat (apply List.mem_cons_of_mem)); apply List.mem_append_right; walk_at "my_meml") | (apply List.mem_append_right; walk_at "my_meml"))
  k_with "call ref" => (k_dflt ((with_reducible show wpAny _ _ (call (Value.ref 124) _) _ _ _); first | ((rename LawLed _ _ _ _ _ _ _ _ _ => lL'); (rename News _ _ _ _ => NN'); (have lC' := LawLed.here lL' NN' (by intro p' hp'; first | exact hp' | exact .tail _ hp' | exact .tail _ (.tail _ hp') | exact .tail _ (.tail _ (.tail _ hp')) | exact .tail _ (.tail _ (.tail _ (.tail _ hp'))))); clear lL'; (refine' Spec.use3A (often_spec _ _ _ _ _ 6 _ _ ?zz98k0 ?zz98ka ?zz98kb ?zz98kc) ?zz98k1 ?zz98k2 ?zz98k3 lC'.N ?zz98k5 ?zz98k6 ?zz98k7 ?zz98k8 ?zz98k9 ?_; (case zz98k1 => k_asm); (case zz98k2 => k_asm); (case zz98k3 => k_asm); (case zz98k5 => k_asm); (case zz98k0 => first | exact .tail _ (.tail _ (.tail _ (.tail _ (List.mem_append_right _ (.head _))))) | walk_at "my_meml"); (case zz98ka => assumption); (case zz98kb => decide); (case zz98kc => assumption); (case zz98k6 => first | exact rfl | assumption); (case zz98k7 => ((try dsimp only); first | assumption | omega)); (case zz98k8 => ktr_room); (case zz98k9 => ktr_units); k_whole; intro D' vs' n' objs' mD' hv' h' tk' ht' F' N' fr'; (try dsimp only at ht'); (have lM' := LawLed.more lC' N' fr'); clear N'; (have N' := lM'.N); clear lC'; (try dsimp only); (try k_fold))) | (refine block ?_)))
  k_with "call ref" => (k_dflt ((with_reducible show wpAny _ _ (call (Value.ref 98) _) _ _ _); (refine' Spec.useI (count_tups _ _ _ _ _ _ _ _ _ _ _ _ ?zz99k0 ?zz99ka ?zz99kb ?zz99kc) ?zz99k1 ?zz99k2 ?zz99k3 ?zz99k4 ?zz99k5 ?zz99k6 ?zz99k7 ?zz99k8 ?zz99k9 ?_; (case zz99k1 => k_asm); (case zz99k2 => k_asm); (case zz99k3 => k_asm); (case zz99k4 => k_asm); (case zz99k5 => k_asm); (case zz99k0 => first | exact .head _ | walk_at "my_memx"); (case zz99ka => assumption); (case zz99kb => first | exact .tail _ (by assumption) | walk_at "my_memx"); (case zz99kc => assumption); (case zz99k6 => first | exact rfl | assumption); (case zz99k7 => ((try dsimp only); first | assumption | omega)); (case zz99k8 => ktr_room); (case zz99k9 => ktr_units); k_whole; intro t1 h' tk' ht' F' N'; (try dsimp only at ht'); (try dsimp only); (try k_fold))))
  k_with "call ref" => (k_dflt ((with_reducible show wpAny _ _ (call (Value.ref 91) _) _ _ _); (refine' Spec.use2 (concat_tup _ _ _ _ _ _ _ _ ?zz100k0 ?zz100ka ?zz100kb) ?zz100k1 ?zz100k2 ?zz100k3 ?zz100k4 ?zz100k5 ?zz100k6 ?zz100k7 ?zz100k8 ?zz100k9 ?_; (case zz100k1 => k_asm); (case zz100k2 => k_asm); (case zz100k3 => k_asm); (case zz100k4 => k_asm); (case zz100k5 => k_asm); (case zz100k0 => first | exact .tail _ (by assumption) | walk_at "my_memx"); (case zz100ka => first | exact .head _ | walk_at "my_memx"); (case zz100kb => first | assumption | omega | (simp; omega)); (case zz100k6 => first | exact rfl | assumption); (case zz100k7 => ((try dsimp only); first | assumption | omega)); (case zz100k8 => ktr_room); (case zz100k9 => ktr_units); k_whole; intro D' n' objs' hm' h' tk' ht' F' N' fr'; (try dsimp only at ht'); (try dsimp only); (try k_fold))))
  k_with "eval Name" => ((with_reducible show wpAny _ _ (eval (PySem.Expr.Name _ _) (compEnvC _ _ _ _)) _ _ _); k_dflt (refine' ld_cellC ?zz101N ?zz101c ?zz101m ?zz101d ?_ ?zz101a ?zz101b; (case zz101a => rfl); (case zz101b => rfl); (case zz101c => rfl); (case zz101N => k_asm); (case zz101m => first | ((repeat (apply List.mem_cons_of_mem)); assumption) | (apply List.mem_append_right; (repeat (apply List.mem_cons_of_mem)); assumption) | k_mem); (case zz101d => assumption); k_whole))
  k_with "subscriptTail" => (k_dflt ((with_reducible show wpAny _ _ (subscriptTail _ _ (Value.ref _) (Value.ref _)) _ _ _); first | ((with_reducible show wpAny _ _ (subscriptTail _ (PySem.Expr.Slice none _ _ _) _ _) _ _ _); refine' tupTo ?zz102k1 ?zz102k2 ?zz102k3 ?zz102k4 ?zz102k5 ?_ ?zz102ka ?zz102kb; (case zz102k1 => k_asm); (case zz102k2 => k_asm); (case zz102k3 => walk_at "my_memx"); (case zz102k4 => omega); (case zz102k5 => omega); (case zz102ka => with_unfolding_all rfl); (case zz102kb => (intro _; with_unfolding_all rfl)); k_whole; intro D' h' F' N' l'; (try dsimp only)) | ((with_reducible show wpAny _ _ (subscriptTail _ (PySem.Expr.Slice (some _) none _ _) _ _) _ _ _); refine' tupFrom ?zz102k1 ?zz102k2 ?zz102k3 ?zz102k4 ?zz102k5 ?_ ?zz102ka ?zz102kb; (case zz102k1 => k_asm); (case zz102k2 => k_asm); (case zz102k3 => walk_at "my_memx"); (case zz102k4 => omega); (case zz102k5 => omega); (case zz102ka => with_unfolding_all rfl); (case zz102kb => (intro _; with_unfolding_all rfl)); k_whole; intro D' n' objs' h' F' N' fr' hAll' hm'; (try dsimp only))))
  k_with "storeName" => (k_dflt (((rename LawLed _ _ _ _ _ _ _ _ _ => lL'); (rename News _ _ _ _ => NN'); (have lC' := LawLed.here lL' NN' (by intro p' hp'; first | exact hp' | exact .tail _ hp' | exact .tail _ (.tail _ hp') | exact .tail _ (.tail _ (.tail _ hp')) | exact .tail _ (.tail _ (.tail _ (.tail _ hp'))))); clear lL';  first | (refine' LawLed.store3 ?zz103F lC' ?zz103c ?_ ?zz103a ?zz103b; (case zz103a => rfl); (case zz103b => rfl); (case zz103F => k_asm); (case zz103c => rfl)) | (refine' LawLed.store2 ?zz103F lC' ?zz103c ?_ ?zz103a ?zz103b; (case zz103a => rfl); (case zz103b => rfl); (case zz103F => k_asm); (case zz103c => rfl)) | (refine' LawLed.store4 ?zz103F lC' ?zz103c ?_ ?zz103a ?zz103b; (case zz103a => rfl); (case zz103b => rfl); (case zz103F => k_asm); (case zz103c => rfl))); k_whole; intro h' o' F' lM' d'; clear lC'; (have N' := lM'.N); (try dsimp only)))
  trivial
-- L5
theorem rest_L5 : True := by
  w_top off
  trivial
set_option maxHeartbeats 700000 in
theorem law_5 (w : World) (p : Program) (loose : List Str) (mean : ExcName → Option Value) (mg mb : Str → Option Value) (base h₀ : Heap) (L fa : Addr) (cd : Value) (m : Str → Option Value) (s : Shared) (Q : Flow → Shared → Prop) (E : Value → Shared → Prop) (o1 o2 o3 o4 : Obj) (t rest : Led)
    (B : Below callerA base [] h₀) (F : Fr h₀ L s.heap m) (X : (heapK w.params).In h₀) (hLed : LawLed h₀ s.heap L o1 o2 o3 o4 t rest) (T : Top p loose mean mg mb h₀) (hts : 1 ≤ s.toks)
    (WA : Addr) (wvs : List Value) (nw : Nat) (f : Nat → Int) (Tk : Nat) (wss : List (List Int)) (hW : (WA, lstO wvs nw) ∈ rest) (hWt : Tups f Tk rest wvs wss) (hwl : ∀ ws ∈ wss, ws.length = 6) (hwn : wss.length ≤ 1000)
    (q1 : m "words" = some (.ref WA))
    (hret : ∀ h' tk' m' o3' rest', 1 ≤ tk' → Fr h₀ L h' m' → LawLed h₀ h' L o1 o2 o3' o4 t rest' → (∀ x ∈ rest, x ∈ rest') → (∀ z : Str, m' z = m z) →
      (∃ HA hvs nh, o3'.data = .cell (some (.ref HA)) ∧ (HA, lstO hvs nh) ∈ rest' ∧ IntsAre hvs (oftenZ 6 (wss.map stayZ))) → Q .next { s with heap := h', toks := tk' }) :
    wpAny (model PySem.Challenge.rw_tl0014_01.row.prog w) (callerA.deeper (lawE L fa cd)) (execs ((lawS.drop 18).take 1) (lawE L fa cd)) Q E s := by
  obtain ⟨x1, h1⟩ : ∃ x, x = (lawS.drop 18).take 1 := ⟨_, rfl⟩
  obtain ⟨x2, h2⟩ : ∃ x, x = lawSc := ⟨_, rfl⟩
  unfold lawE
  rw [← h1, ← h2]
  dsimp only [lawS, PySem.Challenge.pw_tl0014_01, lastBody, List.drop_succ_cons, List.drop_zero, List.take_succ_cons, List.take_zero, List.take] at h1
  dsimp only [lawSc, PySem.Challenge.pw_tl0014_01, lastScope] at h2
  subst h1
  subst h2
  have N := hLed.N
  rw [put_eq q1] at F
  k_steps
  rename StList _ _ _ => hSt
  rename Fr _ _ _ _ => F1
  rename News _ _ _ _ => N1
  rename (∀ p ∈ (_ : Led), p.1 ≠ _) => off1
  have hWm : (WA, lstO wvs nw) ∈ (L + 1 + 1 + 1 + 1, o4) :: (L + 1 + 1 + 1, o3) :: (L + 1 + 1, o2) :: (L + 1, o1) :: (t ++ rest) := .tail _ (.tail _ (.tail _ (.tail _ (List.mem_append_right _ hW))))
  refine compRunX (fun _ => rfl) (fun _ => rfl) (it_list rfl (ax := WA) (off1 _ hWm) wvs.toArray) rfl (fun _ _ => rfl)
    (fun rest k a led ys => 1 ≤ a ∧ led = rest ∧ k ≤ wvs.length ∧ IntsAre ys ((wss.take k).map stayZ)) hSt F1 N1 off1 ?_ ?_ ?_ ?_ ?_
  · exact ⟨by (try dsimp only); first | assumption | omega, rfl, by omega, by rw [List.take_zero]; exact .nil⟩
  · intro i a led ys h hz233
    apply el_ARAA hz233
    clear hz233
    intro _ _ _ N _
    exact ⟨_, (N _ hWm).1, rfl, _, rfl⟩
  · intro k a led ys hz234
    apply el_AAAA hz234
    clear hz234
    intro _ _ hk hy
    have := hWt.length
    rw [hy.length]; simp; omega
  · intro C D c i v oI oC oc led ys h a tk E' hO hcr hi hv ha hz235
    revert hO hcr
    apply el_ARAA hz235
    clear hz235
    intro ha1 hk hy hO hcr hcd F2 N2
    have hz241 := hWt.get (by simpa using hv)
    revert hcd
    apply el_EEEEARAA hz241
    clear hz241
    intro ta us nu xs hxs htm hus hcd
    have hxl := hwl xs (List.mem_of_getElem? hxs)
    have hul : us.length = 6 := by rw [hus.length, hxl]
    have h1' : 1 ≤ tk := by omega
    dsimp only
    k_steps
    rename StRange _ _ _ _ => hSt2
    rename Fr _ _ _ _ => F3
    rename News _ _ _ _ => N3
    rename (∀ p ∈ (_ : Led), p.1 ≠ _) => off3
    have hcb := mem_base N3 (x := (c, oc)) (.tail _ (.tail _ (.tail _ (.head _))))
    have htb := mem_base N3 (x := (ta, tupO us nu)) (.tail _ (.tail _ (.tail _ (.tail _ (.tail _ (.tail _ (.tail _ (.tail _ (List.mem_append_right _ htm)))))))))
    refine compRun (fun _ => rfl) (fun _ => rfl) (it_range rfl _ 0 _) (fun i a b c v h hP => by obtain ⟨t, h1, h2, h3⟩ := hP; exact ⟨t, h1, Nat.lt_of_lt_of_le h2 h, h3⟩) rfl rfl
      (fun rest k a led ys => 1 ≤ a ∧ k ≤ 6 ∧ ∃ os, led = os ++ rest ∧ Fresh os rest ∧ Tups f Tk (os ++ rest) ys (rotsL xs k)) hSt2 F3 N3 off3 ?_ ?_ ?_ ?_ ?_
    · exact ⟨by (try dsimp only); first | assumption | omega, by omega, [], rfl, fresh_nil, .nil⟩
    · intros; trivial
    · intro k a led ys hz236
      apply el_AAEAAA hz236
      clear hz236
      intro _ hk6 os _ _ hy5
      rw [hy5.length]; unfold rotsL; simp; omega
    · intro C2 D2 k v oI2 oC2 m₂ led2 ys2 h2 a2 tk2 E2 hO2 hk5 hz237
      apply el_EAAR hz237
      clear hz237
      intro tv _ _ htk2 hz238
      revert hO2
      apply el_AAERAA hz238
      clear hz238
      intro ha2 hk4 os fro hy2 hO2 hC2 F4 N4
      have h1'' : 1 ≤ tk2 := by omega
      have hk6 : k < 6 := by omega
      have ek : (0 : Int) + (k : Int) = (k : Int) := by omega
      have hcm := List.mem_append_right os hcb
      have htm2 := List.mem_append_right os htb
      rw [ek] at hC2
      dsimp only
      k_steps
      rename_i Df nf of hf Ff Nf frF hmF Dt ht9 Ft Nt
      have hw := hAll' _ htm2
      have hcc := hm' (_ :: (of ++ (os ++ _))) (.tail _ hw) (.head _)
      have fr3 := fresh_three fr' l' frF
      have fr4 := fresh_append (os := objs' ++ _ :: of) (objs := os) (fun q hq p hp => fr3 q hq p (.tail _ (.tail _ (.tail _ hp)))) fro
      refine turnEnd (objs := objs' ++ _ :: of) F' (by rw [List.append_assoc]; exact N') fr3 fun hle => ⟨by omega, by omega, objs' ++ _ :: of ++ os, by simp only [List.append_assoc, List.cons_append], fr4, ?_⟩
      rw [rotsL_succ]
      refine (hy2.sub fun p hp => ?_).append (.cons (n := n') ?_ ((hus.drop k).append (hus.take k)) .nil)
      · rw [List.append_assoc]; exact List.mem_append_right _ hp
      · rw [List.append_assoc, List.append_assoc]; exact hcc
    · intro D2 led2 ys2 h2 a2 tk2 ha2 hz239
      apply el_AAERAA hz239
      clear hz239
      intro ha3 _ os fro hy2 F4 N4 off4 off5
      have h1'' : 1 ≤ tk2 := by omega
      have hcm := List.mem_append_right os hcb
      have htm2 := List.mem_append_right os htb
      have hyt : Tups f Tk ((D2, lst ys2) :: (os ++ _)) ys2 (rotsL xs 6) := hy2.sub fun p hp => .tail _ hp
      dsimp only
      k_steps
      rename News _ _ _ _ => N9
      refine turnEnd0 (by k_asm) (news_sub N9 fun p hp => .tail _ (List.mem_append_right _ hp)) fun hle => ⟨by omega, rfl, by simp at hi; omega, ?_⟩
      rw [List.take_add_one, hxs, List.map_append]
      exact hy.append (.cons _ _ .nil)
  · intro C D oC m₂ c oc led ys h a tk ha hz240
    apply el_ARAA hz240
    clear hz240
    intro ha1 _ hy hC F2 N2 hO
    refine comp_done hC F2 N2 hO.cd (fun p hp => (hO.r p hp).2.1) fun h' F' N' => ?_
    rw [List.take_of_length_le (by rw [List.size_toArray, hWt.length]; omega)] at hy
    have h1' : 1 ≤ tk := by omega
    have lM : LawLed h₀ h' L o1 o2 o3 o4 t ((D, lst ys) :: rest) := hLed.more (objs := [(D, lst ys)]) (news_sub N' fun p hp => (List.mem_cons.mp hp).elim (fun e => e ▸ .head _) fun e => .tail _ (.tail _ e)) (fresh_off fun p hp => (hO.r p (.tail _ hp)).2.2)
    have N9 := lM.N
    have hDm : (D, lstO ys ys.length) ∈ (D, lst ys) :: rest := .head _
    have hst : ∀ z ∈ wss.map stayZ, 0 ≤ z ∧ z ≤ ((6 : Nat) : Int) := fun z hz => by
      obtain ⟨xs, _, rfl⟩ := List.mem_map.mp hz
      exact stayZ_le xs
    clear N' hLed N
    dsimp only
    k_steps
    rename LawLed _ _ _ _ _ _ _ _ _ => lF
    rename IntsAre _ (oftenZ _ _) => hv9
    refine wpAny_execs_nil (hret _ _ _ _ _ (by first | assumption | omega) (by k_asm) lF (fun x hx => List.mem_append_right _ (.tail _ hx)) (fun z => ?_) ⟨_, _, _, by assumption, List.mem_append_left _ (by assumption), hv9⟩)
    split <;> first | rfl | (rename_i e; rw [e]; exact q1.symm)

theorem with_prelude16 : True := by
  k_with "eval Name" => ((with_reducible show wpAny _ _ (eval (PySem.Expr.Name _ _) (compEnvC _ _ _ _)) _ _ _); k_dflt (refine' ld_freeC ?zz104N ?zz104c ?zz104m ?zz104d ?_ ?zz104a ?zz104b; (case zz104a => rfl); (case zz104b => rfl); (case zz104c => rfl); (case zz104N => k_asm); (case zz104m => first | ((repeat (apply List.mem_cons_of_mem)); assumption) | (apply List.mem_append_right; (repeat (apply List.mem_cons_of_mem)); assumption) | k_mem); (case zz104d => assumption); k_whole))
  k_with "binaryOp FloorDiv int int" => (k_dflt ((with_reducible show wpAny _ _ (binaryOp _ (Value.int _ _) (Value.int 6 _)) _ _ _); refine floordiv_int (by decide) ?_ (Or.inl (PyProof.noPylong_small (by decide)))))
  trivial
-- L6
theorem rest_L6 : True := by
  w_top off
  trivial
set_option maxHeartbeats 700000 in
theorem law_6 (w : World) (p : Program) (loose : List Str) (mean : ExcName → Option Value) (mg mb : Str → Option Value) (base h₀ : Heap) (L fa : Addr) (cd : Value) (m : Str → Option Value) (s : Shared) (Q : Flow → Shared → Prop) (E : Value → Shared → Prop) (o1 o2 o3 o4 : Obj) (t rest : Led)
    (B : Below callerA base [] h₀) (F : Fr h₀ L s.heap m) (X : (heapK w.params).In h₀) (hLed : LawLed h₀ s.heap L o1 o2 o3 o4 t rest) (T : Top p loose mean mg mb h₀) (hts : 1 ≤ s.toks)
    (KA HA : Addr) (kvs hvs : List Value) (nk nh : Nat) (ks hs : List Int) (q1 : m "classes" = some (.ref KA)) (hK : (KA, lstO kvs nk) ∈ rest) (hKi : IntsAre kvs ks) (hH : (HA, lstO hvs nh) ∈ rest) (hHi : IntsAre hvs hs) (hHd : o3.data = .cell (some (.ref HA)))
    (hhl : hs.length = 7) (hhb : ∀ z ∈ hs, 0 ≤ z ∧ z ≤ 1000) (hks : ks = (List.range 6).map (clsZ hs))
    (hret : ∀ h' tk' m' rest', 1 ≤ tk' → Fr h₀ L h' m' → LawLed h₀ h' L o1 o2 o3 o4 t rest' → (∀ x ∈ rest, x ∈ rest') → (∀ z : Str, m' z = m z) → Q .next { s with heap := h', toks := tk' }) :
    wpAny (model PySem.Challenge.rw_tl0014_01.row.prog w) (callerA.deeper (lawE L fa cd)) (execs ((lawS.drop 19).take 1) (lawE L fa cd)) Q E s := by
  obtain ⟨x1, h1⟩ : ∃ x, x = (lawS.drop 19).take 1 := ⟨_, rfl⟩
  obtain ⟨x2, h2⟩ : ∃ x, x = lawSc := ⟨_, rfl⟩
  unfold lawE
  rw [← h1, ← h2]
  dsimp only [lawS, PySem.Challenge.pw_tl0014_01, lastBody, List.drop_succ_cons, List.drop_zero, List.take_succ_cons, List.take_zero, List.take] at h1
  dsimp only [lawSc, PySem.Challenge.pw_tl0014_01, lastScope] at h2
  subst h1
  subst h2
  have N := hLed.N
  rw [put_eq q1] at F
  k_steps
  rename StRange _ _ _ _ => hSt
  rename Fr _ _ _ _ => F1
  rename News _ _ _ _ => N1
  rename (∀ p ∈ (_ : Led), p.1 ≠ _) => off1
  refine compRunX (fun _ => rfl) (fun _ => rfl) (it_range rfl _ 0 _) rfl (fun _ _ => rfl)
    (fun rest k a led ys => 1 ≤ a ∧ led = rest ∧ k ≤ 6 ∧ IntsAre ys ((List.range k).map (clsZ hs))) hSt F1 N1 off1 ?_ ?_ ?_ ?_ ?_
  · exact ⟨by (try dsimp only); first | assumption | omega, rfl, by omega, .nil⟩
  · intros; trivial
  · intro k a led ys hz242
    apply el_AAAA hz242
    clear hz242
    intro _ _ hk hy
    rw [hy.length]; simp; omega
  · intro C D c i v oI oC oc led ys h a tk E' hO hcr hi hz243
    apply el_EAAR hz243
    clear hz243
    intro tv _ _ ha hz244
    revert hO hcr
    apply el_ARAA hz244
    clear hz244
    intro ha1 hk hy hO hcr hcd F2 N2
    have h1' : 1 ≤ tk := by omega
    have ek : (0 : Int) + (i : Int) = (i : Int) := by omega
    rw [ek] at hcd
    dsimp only
    k_steps
    rename StTup _ _ _ => hSt2
    rename Fr _ _ _ _ => F3
    rename News _ _ _ _ => N3
    rename (∀ p ∈ (_ : Led), p.1 ≠ _) => off3
    have hcb := mem_base N3 (x := (c, oc)) (.tail _ (.tail _ (.tail _ (.tail _ (.head _)))))
    have h3b := mem_base N3 (x := (L + 1 + 1 + 1, o3)) (.tail _ (.tail _ (.tail _ (.tail _ (.tail _ (.tail _ (.head _)))))))
    have hHb := mem_base N3 (x := (HA, lstO hvs nh)) (.tail _ (.tail _ (.tail _ (.tail _ (.tail _ (.tail _ (.tail _ (.tail _ (.tail _ (List.mem_append_right _ hH))))))))))
    refine compRunT (fun _ => rfl) (fun _ => rfl) (it_tup rfl (off3 _ (.head _)) #[.int 1 tk, .int 2 (tk + 1), .int 3 (tk + 1 + 1), .int 6 (tk + 1 + 1 + 1)]) (fun _ _ _ _ _ _ h => h) rfl rfl
      (fun rest k a led ys => 1 ≤ a ∧ led = rest ∧ k ≤ 4 ∧ IntsAre ys (clsL hs i k)) hSt2 F3 N3 off3 ?_ ?_ ?_ ?_ ?_
    · exact ⟨by (try dsimp only); first | assumption | omega, rfl, by omega, .nil⟩
    · intro k a led ys h hz245
      apply el_ARAA hz245
      clear hz245
      intro _ _ _ N _
      exact ⟨_, (N _ (.head _)).1, rfl, _, rfl⟩
    · intro k a led ys hz246
      apply el_AAAA hz246
      clear hz246
      intro _ _ hk5 hy5
      have := clsL_len hs i k
      rw [hy5.length]; omega
    · intro C2 D2 k v oI2 oC2 m₂ led2 ys2 h2 a2 tk2 E2 hO2 hk5 hv htk2 hz247
      revert hO2
      apply el_ARAA hz247
      clear hz247
      intro ha2 hk4 hy2 hO2 hC2 F4 N4
      have hz250 := ints_get (i := k) (.cons 1 _ (.cons 2 _ (.cons 3 _ (.cons 6 _ .nil)))) (by simpa using hv)
      revert hC2
      apply el_EEAR hz250
      clear hz250
      intro z tz hz hC2
      have hz4 := stay_mem hz
      have h1'' : 1 ≤ tk2 := by omega
      have hz0 : z ≠ 0 := by omega
      have hvl := hHi.length
      have hzr : 0 ≤ z ∧ z < hvs.length ∧ z ≤ 1000000 := by omega
      obtain ⟨r, hr⟩ : ∃ r, (i : Int).fmod z = r := ⟨_, rfl⟩
      have hg := hhb _ (getD_mem hs 0 (n := z.toNat) (by omega))
      have hmo : IntMulOk (hs.getD z.toNat 0) z := IntMulOk.of_le (bits_of_lt (n := 10) hg.1 (by omega)) (bits_of_lt (n := 3) hzr.1 (by omega)) (by decide)
      have hk6 : k < 4 := hk5
      obtain ⟨pr, hpr⟩ : ∃ pr, hs.getD z.toNat 0 * z = pr := ⟨_, rfl⟩
      dsimp only
      k_steps
      all_goals (
        refine turnEnd0 (by k_asm) (by k_asm) (fun hle => ⟨by omega, rfl, by omega, ?_⟩)
        rw [clsL_succ _ _ _ hz]
        first
          | (rw [if_pos (by omega), hpr]; exact hy2.append (.cons _ _ .nil))
          | (rw [if_neg (by omega), List.append_nil]; exact hy2))
    · intro D3 led3 ys3 h3 a3 tk3 ha3 hz248
      apply el_ARAA hz248
      clear hz248
      intro ha4 _ hy3 F5 N5 off5 offI5
      have h1'' : 1 ≤ tk3 := by omega
      dsimp only
      k_steps
      rename News _ _ _ _ => N9
      refine turnEnd0 (by k_asm) (news_sub N9 fun p hp => .tail _ (.tail _ hp)) (fun hle => ⟨by omega, rfl, by omega, ?_⟩)
      rw [List.range_succ, List.map_append]
      exact hy.append (.cons _ _ .nil)
  · intro C D oC m₂ c oc led ys h a tk ha hz249
    apply el_ARAA hz249
    clear hz249
    intro ha1 _ hy hC F5 N5 hO5
    refine comp_done hC F5 N5 hO5.cd (fun p hp => (hO5.r p hp).2.1) fun h6 F6 N6 => ?_
    have lM : LawLed h₀ h6 L o1 o2 o3 o4 t ((D, lst ys) :: rest) := hLed.more (objs := [(D, lst ys)]) (drop_two N6) (fresh_off fun p hp => (hO5.r p (.tail _ hp)).2.2)
    clear hLed N5 N6 N1
    have N6 := lM.N
    have hy' : IntsAre ys ((List.range 6).map (clsZ hs)) := hy
    have mD : (D, lstO ys ys.length) ∈ (D, lst ys) :: rest := .head _
    have hK' : (KA, lstO kvs nk) ∈ (D, lst ys) :: rest := .tail _ hK
    clear hy hO5 hC
    have h1' : 1 ≤ tk := by omega
    dsimp only
    k_steps
    · rename LawLed _ _ _ _ _ _ _ _ _ => lF
      refine wpAny_execs_nil (hret _ _ _ _ (by first | assumption | omega) (by k_asm) (lF.here (by k_asm) fun p hp => hp) (fun x hx => .tail _ hx) (fun z => ?_))
      split <;> first | rfl | (rename_i e; rw [e]; exact q1.symm)
    · exfalso
      rename (ks ≠ _) => hx
      exact hx hks

-- L02
theorem Spec.weaken {w : World} {f : Addr} {dn un₀ : Nat} {args : List Value} {news : Led} {post post' : Value → Led → Prop} (S : Spec w f dn un₀ args news post) (h : ∀ r objs, post r objs → post' r objs) : Spec w f dn un₀ args news post' := by
  intro p loose mean mg mb dp un gd cn cs a ccd cl outer A₀ base h₀ L m s Q E B F X N T hk ht hd hu hret
  exact S.use B F X N T hk ht hd hu fun r h' tk' objs a b c d e => hret r h' tk' objs a b c d (h r objs e)
noncomputable def hueB (x y z : Int) : UInt64 := if min (min x y) z = max (max x y) z then 0 else hueF (rgbH x y z (max (max x y) z) (max (max x y) z - min (min x y) z))
noncomputable def shareB (x y z : Int) : UInt64 := if min (min x y) z = max (max x y) z then 0 else fdiv (max (max x y) z - min (min x y) z) (max (max x y) z)
theorem rgb_law (w : World) (x y z : Int) (tx ty tz : Tok) (news : Led) (hb sb : UInt64) (lv : Int) (hx : 0 ≤ x ∧ x ≤ 100000000) (hy : 0 ≤ y ∧ y ≤ 100000000) (hz : 0 ≤ z ∧ z ≤ 100000000) (e1 : hueB x y z = hb) (e2 : shareB x y z = sb) (e3 : max (max x y) z = lv) :
    Spec w 63 1 8 [.int x tx, .int y ty, .int z tz] news (fun r objs => ∃ D th ts tl n, r = .ref D ∧ objs = [(D, tupO [.float hb th, .float sb ts, .int lv tl] n)]) := by
  refine (rgb_spec w x y z tx ty tz news hx hy hz).weaken fun r objs h => ?_
  obtain ⟨D, vs, n, rfl, rfl, hp⟩ := h
  subst e1 e2 e3
  unfold rgbP at hp
  unfold hueB shareB
  split at hp
  · rename_i e
    rw [if_pos e, if_pos e]
    cases hp with | f hp => cases hp with | f hp => cases hp with | i hp => cases hp; exact ⟨_, _, _, _, _, rfl, rfl⟩
  · rename_i e
    rw [if_neg e, if_neg e]
    cases hp with | f hp => cases hp with | f hp => cases hp with | i hp => cases hp; exact ⟨_, _, _, _, _, rfl, rfl⟩
theorem whole_by (w : World) (x : UInt64) (tx : Tok) (news : Led) (k : Int) (hf : Float64.isFinite (Float64.add x half) = true) (e : Flt.toInt Float64.truncOf (Float64.add x half) = k) : Spec w 105 1 8 [.float x tx] news (fun r objs => objs = [] ∧ ∃ t, r = .int k t) := by
  refine (whole_f w x tx news hf).weaken fun r objs h => ?_
  obtain ⟨h1, t, h2⟩ := h
  subst e
  exact ⟨h1, t, h2⟩
theorem mix_law (w : World) (ca pa : Addr) (cvs pvs : List Value) (nc np : Nat) (cs : List Int) (pss : List (List Int)) (turn : Nat) (ty : Tok) (news : Led) (ls : List Int)
    (h1 : (ca, lstO cvs nc) ∈ news) (hc : IntsAre cvs cs) (hcl : cs.length = 6) (hcb : ∀ z ∈ cs, bits z ≤ 32) (h2 : (pa, lstO pvs np) ∈ news) (hp : Lists news pvs pss) (hpl : pss.length = 6) (hpb : ∀ ps ∈ pss, ps.length = 3 ∧ ∀ z ∈ ps, bits z ≤ 32) (ht6 : turn < 6)
    (e : [mixZ cs pss turn 0 6, mixZ cs pss turn 1 6, mixZ cs pss turn 2 6] = ls) :
    Spec w 134 3 60 [.ref ca, .int turn ty, .ref pa] news (fun r objs => ∃ D ws k, r = .ref D ∧ (D, lstO ws k) ∈ objs ∧ IntsAre ws ls) := by
  subst e
  exact mix_spec w ca pa cvs pvs nc np cs pss turn ty news h1 hc hcl hcb h2 hp hpl hpb ht6
section
variable {prog : Program} {w : World} {A : Around} {E : Value → Shared → Prop} {s : Shared} {h₀ : Heap} {L : Addr}
theorem eqAt_fi (a : UInt64) (t : Tok) (n : Int) (u : Tok) : SeqAt.EqAt A s (.float a t) (.int n u) (Float64.cmpInt a n == some Ordering.eq) := fun prog w E Q h => by
  unfold eqBool
  refine wpAny_holding ?_
  refine wpAny_ite_split (fun hab => absurd (eq_of_beq hab) nofun) (fun _ => ?_)
  exact wpAny_bind (PyProof.Rows.eq_fi (wpAny_truthy_bool h))
theorem ne_pair {x y : Addr} {t1 t2 u1 u2 : Tok} {n k : Nat} {news : Led} {Q : Value → Shared → Prop} (N : News h₀ L s.heap news) (h1 : (x, tupO [.float 0 t1, .float 0 t2] n) ∈ news) (h2 : (y, tupO [.int 0 u1, .int 0 u2] k) ∈ news) (hu : A.units < cLine) (h : Q (.bool false) s) :
    wpAny (model prog w) A (compareOp .NotEq (.ref x) (.ref y)) Q E s := by
  show wpAny _ A (richCompare .NotEq _ _) Q E s
  have he : (Float64.cmpInt 0 0 == some Ordering.eq) = true := by decide +kernel
  refine SeqAt.RcNeAt.tuples (e := fun _ => true) (items := #[.float 0 t1, .float 0 t2]) (items2 := #[.int 0 u1, .int 0 u2]) ⟨_, (N _ h1).1, rfl, _, rfl⟩ ⟨_, (N _ h2).1, rfl, _, rfl⟩ hu (fun j j1 j2 => ?_) prog w E Q h
  have hj : j = 0 ∨ j = 1 := by
    have : j < 2 := j1
    omega
  rcases hj with rfl | rfl
  · have := eqAt_fi (A := A.in1) (s := s) 0 t1 0 u1
    rw [he] at this
    exact this
  · have := eqAt_fi (A := A.in1) (s := s) 0 t2 0 u2
    rw [he] at this
    exact this
end
theorem LawLed.with4 {h₀ h h' : Heap} {L : Addr} {o1 o2 o3 o4 o4' : Obj} {t rest : Led} (l : LawLed h₀ h L o1 o2 o3 o4 t rest) (d : ∃ v, o4'.data = .cell v) (N : News h₀ L h' ((L + 1 + 1 + 1 + 1, o4') :: (L + 1 + 1 + 1, o3) :: (L + 1 + 1, o2) :: (L + 1, o1) :: (t ++ rest))) : LawLed h₀ h' L o1 o2 o3 o4' t rest :=
  ⟨N, l.tab, fun q hq p hp => by
    rcases List.mem_cons.mp hp with rfl | hp
    · exact l.off q hq (L + 1 + 1 + 1 + 1, o4) (.head _)
    · exact l.off q hq p (.tail _ hp), l.cel, ⟨l.dat.1, l.dat.2.1, l.dat.2.2.1, d⟩⟩
/-- the terms of a turn's spread -/
noncomputable def sprL (hs : List Int) (i k : Nat) : List Int := ((stayL.take k).filter fun s => decide ((i : Int).fmod ((6 : Int).fdiv s) = 0)).map fun s => hs.getD s.toNat 0
theorem sprL_succ (hs : List Int) (p k : Nat) {s : Int} (h : stayL[k]? = some s) : sprL hs p (k + 1) = sprL hs p k ++ (if (p : Int).fmod ((6 : Int).fdiv s) = 0 then [hs.getD s.toNat 0] else []) := by
  unfold sprL
  rw [List.take_add_one, h, List.filter_append, List.map_append]
  congr 1
  by_cases e : (p : Int).fmod ((6 : Int).fdiv s) = 0 <;> simp [e]
theorem sprL_len (hs : List Int) (p k : Nat) : (sprL hs p k).length ≤ 4 := by
  unfold sprL
  rw [List.length_map]
  refine Nat.le_trans (List.length_filter_le _ _) ?_
  rw [List.length_take]
  show min k 4 ≤ 4
  omega
theorem six_stay {s : Int} (h : s = 1 ∨ s = 2 ∨ s = 3 ∨ s = 6) : ∃ q : Nat, (6 : Int).fdiv s = (q : Int) ∧ (q : Int) ≠ 0 := by
  rcases h with rfl | rfl | rfl | rfl
  · exact ⟨6, rfl, by decide⟩
  · exact ⟨3, rfl, by decide⟩
  · exact ⟨2, rfl, by decide⟩
  · exact ⟨1, rfl, by decide⟩
/-- what the loop asks of one turn -/
structure TurnOk (cs : List Int) (pss : List (List Int)) (hs : List Int) (b sh : Int) (i : Nat) (ls : List Int) (hb sb : UInt64) (lv sp : Int) : Prop where
  mix : [mixZ cs pss i 0 6, mixZ cs pss i 1 6, mixZ cs pss i 2 6] = ls
  b0 : 0 ≤ ls.getD (Int.toNat 0) 0 ∧ ls.getD (Int.toNat 0) 0 ≤ 100000000
  b1 : 0 ≤ ls.getD (Int.toNat 1) 0 ∧ ls.getD (Int.toNat 1) 0 ≤ 100000000
  b2 : 0 ≤ ls.getD (Int.toNat 2) 0 ∧ ls.getD (Int.toNat 2) 0 ≤ 100000000
  hue : hueB (ls.getD (Int.toNat 0) 0) (ls.getD (Int.toNat 1) 0) (ls.getD (Int.toNat 2) 0) = hb
  share : shareB (ls.getD (Int.toNat 0) 0) (ls.getD (Int.toNat 1) 0) (ls.getD (Int.toNat 2) 0) = sb
  lev : max (max (ls.getD (Int.toNat 0) 0) (ls.getD (Int.toNat 1) 0)) (ls.getD (Int.toNat 2) 0) = lv
  lmem : lv ∈ ls
  lmax : ∀ a ∈ ls, a ≤ lv
  spr : 64 * sh * (sprL hs i 4).sum = sp
  wf : Float64.isFinite (Float64.add (Float64.mul sb (Float64.ofInt lv)) half) = true
  we : Flt.toInt Float64.truncOf (Float64.add (Float64.mul sb (Float64.ofInt lv)) half) = sp
  nought : sp = 0 → hb = 0 ∧ sb = 0
  some1 : sp ≠ 0 → Float64.isFinite (Float64.add (Float64.mul (Float64.mul hb (Float64.ofInt 384)) (Float64.ofInt 1048576)) half) = true
  some2 : sp ≠ 0 → Flt.toInt Float64.truncOf (Float64.add (Float64.mul (Float64.mul hb (Float64.ofInt 384)) (Float64.ofInt 1048576)) half) = b * 1048576
theorem LawLed.keep {h₀ h : Heap} {L : Addr} {o1 o2 o3 o4 : Obj} {t rest : Led} {x y : Addr × Obj} (_ : LawLed h₀ h L o1 o2 o3 o4 t (x :: rest)) (hy : y ∈ rest) : y ∈ x :: rest := .tail _ hy
theorem subL {prog : Program} {w : World} {A : Around} {E : Value → Shared → Prop} {s : Shared} {h₀ : Heap} {L : Addr} {value slice : PySem.Expr} {D : Addr} {news : Led} {vs : List Value} {ns : List Int} {n : Nat} {k : Int} {u : Tok} {Q : Value → Shared → Prop} (N : News h₀ L s.heap news) (hm : (D, lstO vs n) ∈ news) (hi : IntsAre vs ns) (hk : 0 ≤ k ∧ k < ns.length ∧ k ≤ 1000000) (h : ∀ t, Q (.int (ns.getD k.toNat 0) t) s)
    (hs : subscripted slice false (.ref D) (.int k u) = operate [.ref D, .int k u] (getItem (.ref D) (.int k u)) := by with_unfolding_all rfl) :
    wpAny (model prog w) A (subscriptTail value slice (.ref D) (.int k u)) Q E s := subN N hm hi (by rw [hi.length]; exact hk) h hs
theorem it_tup_at {prog : Program} {w : World} {A : Around} {I x : Addr} {items : Array Value} {led : Led} (hh : A.handled = none) (off : ∀ p ∈ led, p.1 ≠ I) (hm : (x, ({ cls := .type "tuple", data := .seq items } : Obj)) ∈ led) :
    It prog w A I items.size (fun i _ _ v => items[i]? = some v) (StTup x) (fun h => h.IsTuple x items) := it_tup hh (off _ hm) items
theorem maxbyI {prog : Program} {w : World} {A : Around} {E : Value → Shared → Prop} {s : Shared} {h₀ : Heap} {L : Addr} {m : Str → Option Value} {news : Led} {x : Addr} {vs : List Value} {ns : List Int} {n : Nat} {k : Int} {Q : Value → Shared → Prop} (hh : A.handled = none) (F : Fr h₀ L s.heap m) (N : News h₀ L s.heap news) (hx : (x, lstO vs n) ∈ news) (hi : IntsAre vs ns) (h1 : k ∈ ns) (h2 : ∀ a ∈ ns, a ≤ k)
    (h : ∀ t h' tk, s.toks ≤ tk → Fr h₀ L h' m → News h₀ L h' news → Q (.int k t) { s with heap := h', toks := tk }) : wpAny (model prog w) A (call (.builtin "max") [.ref x]) Q E s :=
  wpAny_with_toks (Nat.le_refl s.toks) (kso_max F N ⟨_, (N _ hx).1, rfl, _, rfl⟩ hi (List.length_pos_of_mem h1) hh fun h' M t tk F' N' m1 m2 ht => by
    have e : M = k := Int.le_antisymm (h2 M m1) (m2 _ h1)
    subst e
    exact h t h' tk ht F' N')
theorem perm_turn {q a b c d : Addr × Obj} {t u v w r : Led} : ∀ p ∈ q :: a :: b :: c :: d :: (t ++ r), p ∈ a :: b :: c :: d :: (t ++ (u ++ (v ++ (w ++ q :: r)))) := by
  intro p hp
  simp only [List.mem_cons, List.mem_append] at hp ⊢
  rcases hp with e | e | e | e | e | e | e <;> simp [e]

theorem with_prelude17 : True := by
  k_with "call ref" => (k_dflt ((with_reducible show wpAny _ _ (call (Value.ref 134) _) _ _ _); first | ((rename LawLed _ _ _ _ _ _ _ _ _ => lL'); (rename News _ _ _ _ => NN'); (have lC' := LawLed.here lL' NN' (by intro p' hp'; first | exact hp' | exact .tail _ hp' | exact .tail _ (.tail _ hp') | exact .tail _ (.tail _ (.tail _ hp')) | exact .tail _ (.tail _ (.tail _ (.tail _ hp'))))); clear lL'; (refine' Spec.use3A (mix_law _ _ _ _ _ _ _ _ _ _ _ _ _ ?zz106k0 ?zz106ka ?zz106kb ?zz106kc ?zz106kd ?zz106ke ?zz106kf ?zz106kg ?zz106kh ?zz106ki) ?zz106k1 ?zz106k2 ?zz106k3 lC'.N ?zz106k5 ?zz106k6 ?zz106k7 ?zz106k8 ?zz106k9 ?_; (case zz106k1 => k_asm); (case zz106k2 => k_asm); (case zz106k3 => k_asm); (case zz106k5 => k_asm); (case zz106k0 => walk_at "my_meml"); (case zz106ka => assumption); (case zz106kb => assumption); (case zz106kc => assumption); (case zz106kd => walk_at "my_meml"); (case zz106ke => exact Lists.sub (fun p hp => .tail _ (.tail _ (.tail _ (.tail _ (List.mem_append_right _ (.tail _ hp)))))) (by assumption)); (case zz106kf => assumption); (case zz106kg => assumption); (case zz106kh => assumption); (case zz106ki => assumption); (case zz106k6 => first | exact rfl | assumption); (case zz106k7 => ((try dsimp only); first | assumption | omega)); (case zz106k8 => ktr_room); (case zz106k9 => ktr_units); k_whole; intro D' vs' n' objs' mD' hv' h' tk' ht' F' N' fr'; (try dsimp only at ht'); (have lM' := LawLed.more lC' N' fr'); clear N'; (have N' := lM'.N); (have N' := lM'.N); clear lC'; (try dsimp only); (try k_fold))) | (refine block ?_)))
  k_with "call ref" => (k_dflt ((with_reducible show wpAny _ _ (call (Value.ref 63) _) _ _ _); first | ((rename LawLed _ _ _ _ _ _ _ _ _ => lL'); (rename News _ _ _ _ => NN'); (have lC' := LawLed.here lL' NN' (by intro p' hp'; first | exact hp' | exact .tail _ hp' | exact .tail _ (.tail _ hp') | exact .tail _ (.tail _ (.tail _ hp')) | exact .tail _ (.tail _ (.tail _ (.tail _ hp'))))); clear lL'; (refine' Spec.use5O (rgb_law _ _ _ _ _ _ _ _ _ _ _ ?zz107k0 ?zz107ka ?zz107kb ?zz107kc ?zz107kd ?zz107ke) ?zz107k1 ?zz107k2 ?zz107k3 lC'.N ?zz107k5 ?zz107k6 ?zz107k7 ?zz107k8 ?zz107k9 ?_; (case zz107k1 => k_asm); (case zz107k2 => k_asm); (case zz107k3 => k_asm); (case zz107k5 => k_asm); (case zz107k0 => assumption); (case zz107ka => assumption); (case zz107kb => assumption); (case zz107kc => assumption); (case zz107kd => assumption); (case zz107ke => assumption); (case zz107k6 => first | exact rfl | assumption); (case zz107k7 => ((try dsimp only); first | assumption | omega)); (case zz107k8 => ktr_room); (case zz107k9 => ktr_units); k_whole; intro D' th' ts' tl' n' h' tk' ht' F' N' fr'; (try dsimp only at ht'); (have lM' := LawLed.more (objs := [_]) lC' N' fr'); clear N'; (have N' := lM'.N); (have N' := news_cons lM'.N (List.mem_singleton.mpr rfl) mem_canon); clear lC'; (try dsimp only); (try k_fold))) | (refine block ?_)))
  k_with "call ref" => (k_dflt ((with_reducible show wpAny _ _ (call (Value.ref 105) _) _ _ _); first | ((rename LawLed _ _ _ _ _ _ _ _ _ => lL'); (rename News _ _ _ _ => NN'); (have lC' := LawLed.here lL' NN' (by intro p' hp'; first | exact hp' | exact .tail _ hp' | exact .tail _ (.tail _ hp') | exact .tail _ (.tail _ (.tail _ hp')) | exact .tail _ (.tail _ (.tail _ (.tail _ hp'))))); clear lL'; (refine' Spec.useI (whole_by _ _ _ _ _ ?zz108k0 ?zz108ka) ?zz108k1 ?zz108k2 ?zz108k3 lC'.N ?zz108k5 ?zz108k6 ?zz108k7 ?zz108k8 ?zz108k9 ?_; (case zz108k1 => k_asm); (case zz108k2 => k_asm); (case zz108k3 => k_asm); (case zz108k5 => k_asm); (case zz108k0 => assumption); (case zz108ka => assumption); (case zz108k6 => first | exact rfl | assumption); (case zz108k7 => ((try dsimp only); first | assumption | omega)); (case zz108k8 => ktr_room); (case zz108k9 => ktr_units); k_whole; intro t' h' tk' ht' F' N'; (try dsimp only at ht'); (have lM' := LawLed.more (objs := []) lC' N' fresh_nil); clear N'; (have N' := lM'.N); (have N' := lM'.N); clear lC'; (try dsimp only); (try k_fold))) | (refine block ?_)))
  k_with "call builtin:max" => (k_dflt ((with_reducible show wpAny _ _ (call (Value.builtin _) [Value.ref _]) _ _ _); (refine' maxbyI rfl ?zz109k1 ?zz109k2 ?zz109k3 ?zz109k4 ?zz109k5 ?zz109k6 ?_; (case zz109k1 => k_asm); (case zz109k2 => k_asm); (case zz109k3 => walk_at "my_meml"); (case zz109k4 => assumption); (case zz109k5 => assumption); (case zz109k6 => assumption); k_whole; intro t' h' tk' ht' F' N'; (try dsimp only at ht'); (try dsimp only))))
  k_with "subscriptTail" => (k_dflt ((with_reducible show wpAny _ _ (subscriptTail _ _ (Value.ref _) (Value.int _ _)) _ _ _); refine' subL ?zz110k1 ?zz110k2 ?zz110k3 ?zz110k4 ?_ ?zz110k5; (case zz110k1 => k_asm); (case zz110k2 => walk_at "my_meml"); (case zz110k3 => assumption); (case zz110k4 => omega); (case zz110k5 => with_unfolding_all rfl); k_whole; intro t'))
  k_with "compareOp NotEq ref ref" => (k_dflt (refine' ne_pair ?zz111k1 ?zz111k2 ?zz111k3 ?zz111k4 ?_; (case zz111k1 => k_asm); (case zz111k2 => first | k_mem | walk_at "my_meml"); (case zz111k3 => first | k_mem | walk_at "my_meml"); (case zz111k4 => ktr_units)))
  trivial
-- L7
theorem rest_L7 : True := by
  w_top off
  trivial
theorem cls_z {z : Int} {hs : List Int} (hl : hs.length = 7) (h : z = 1 ∨ z = 2 ∨ z = 3 ∨ z = 6) : z ≠ 0 ∧ z.natAbs < 1073741824 ∧ (0 ≤ z ∧ z < hs.length ∧ z ≤ 1000000) := by
  rw [hl]
  rcases h with rfl | rfl | rfl | rfl <;> decide
theorem big_not {x y z M : Int} (e : max (max x y) z = M) (hx : 0 ≤ x ∧ x ≤ 100000000) (hy : 0 ≤ y ∧ y ≤ 100000000) (hz : 0 ≤ z ∧ z ≤ 100000000) : ¬ (2 ^ 1024 - 2 ^ 970 ≤ M.natAbs) := by
  have h := mx_b hx hy hz e.symm
  have h0 := Int.le_trans hx.1 (mx_x e.symm).1
  obtain ⟨n, rfl⟩ := Int.eq_ofNat_of_zero_le h0
  exact fun q => absurd (Nat.le_trans q (Int.ofNat_le.mp h)) (by decide +kernel)
theorem with_big : True := by
  k_with "my_omega" => first | (with_reducible exact big_not m7 m2 m3 m4) | fail
  trivial
set_option maxHeartbeats 700000 in
theorem law_7 (w : World) (p : Program) (loose : List Str) (mean : ExcName → Option Value) (mg mb : Str → Option Value) (base h₀ : Heap) (L fa : Addr) (cd : Value) (m : Str → Option Value) (s : Shared) (Q : Flow → Shared → Prop) (E : Value → Shared → Prop) (o1 o2 o3 o4 : Obj) (t rest : Led)
    (B : Below callerA base [] h₀) (F : Fr h₀ L s.heap m) (X : (heapK w.params).In h₀) (hLed : LawLed h₀ s.heap L o1 o2 o3 o4 t rest) (T : Top p loose mean mg mb h₀) (hts : 1 ≤ s.toks)
    (KA PA HA : Addr) (kvs pvs hvs : List Value) (nk np nh : Nat) (cs hs : List Int) (pss : List (List Int)) (b sh : Nat) (tb ts : Tok) (q1 : m "classes" = some (.ref KA)) (q2 : m "paints" = some (.ref PA)) (q3 : m "begin" = some (.int b tb)) (q4 : m "shade" = some (.int sh ts))
    (hK : (KA, lstO kvs nk) ∈ rest) (hKi : IntsAre kvs cs) (hH : (HA, lstO hvs nh) ∈ rest) (hHi : IntsAre hvs hs) (hHd : o3.data = .cell (some (.ref HA))) (hP : (PA, lstO pvs np) ∈ rest) (hPl : Lists rest pvs pss)
    (hcl : cs.length = 6) (hcb : ∀ z ∈ cs, bits z ≤ 32) (hpl : pss.length = 6) (hpb : ∀ ps ∈ pss, ps.length = 3 ∧ ∀ z ∈ ps, bits z ≤ 32) (hhl : hs.length = 7) (hhb : ∀ z ∈ hs, 0 ≤ z ∧ z ≤ 1000) (hb4 : b < 384) (hs4 : sh ≤ 256)
    (hT : ∀ i : Nat, i < 6 → ∃ ls hb sb lv sp, TurnOk cs pss hs b sh i ls hb sb lv sp)
    (hret : ∀ h' tk' m' o4' rest', 1 ≤ tk' → Fr h₀ L h' m' → LawLed h₀ h' L o1 o2 o3 o4' t rest' → Q (.ret (.bool true)) { s with heap := h', toks := tk' }) :
    wpAny (model PySem.Challenge.rw_tl0014_01.row.prog w) (callerA.deeper (lawE L fa cd)) (execs ((lawS.drop 20).take 2) (lawE L fa cd)) Q E s := by
  obtain ⟨x1, h1⟩ : ∃ x, x = (lawS.drop 20).take 2 := ⟨_, rfl⟩
  obtain ⟨x2, h2⟩ : ∃ x, x = lawSc := ⟨_, rfl⟩
  unfold lawE
  rw [← h1, ← h2]
  dsimp only [lawS, PySem.Challenge.pw_tl0014_01, lastBody, List.drop_succ_cons, List.drop_zero, List.take_succ_cons, List.take_zero, List.take] at h1
  dsimp only [lawSc, PySem.Challenge.pw_tl0014_01, lastScope] at h2
  subst h1
  subst h2
  have N := hLed.N
  rw [put_eq q1, put_eq q2, put_eq q3, put_eq q4] at F
  k_steps
  rename StRange _ _ _ _ => hSt
  rename Fr _ _ _ _ => F1
  rename News _ _ _ _ => N1
  rename (∀ p ∈ (_ : Led), p.1 ≠ _) => off1
  refine forCoreT1 (it_range rfl _ 0 _) (fun _ => rfl)
    (fun L' i a m led => 1 ≤ a ∧ m "classes" = some (.ref KA) ∧ m "paints" = some (.ref PA) ∧ m "begin" = some (.int b tb) ∧ m "shade" = some (.int sh ts) ∧
      ∃ o4', (∃ v, o4'.data = .cell v) ∧ led = (L' + 1 + 1 + 1 + 1, o4') :: (L' + 1 + 1 + 1, o3) :: (L' + 1 + 1, o2) :: (L' + 1, o1) :: (t ++ rest)) hSt F1 N1 off1 ?j0 ?src ?turn ?done
  case j0 =>
    exact ⟨by (try dsimp only); first | assumption | omega, rfl, rfl, rfl, rfl, _, hLed.dat.2.2.2, rfl⟩
  case src => intros; trivial
  case turn =>
    intro i v oI m₁ led h a tk E' hi hz251
    apply el_EAAR hz251
    clear hz251
    intro tv _ _ htk hSt' hz252
    apply el_AAAAAEAR hz252
    clear hz252
    intro ha r1 r2 r3 r4 o4' d4 F2 N2 off2
    rw [put_eq r1, put_eq r2, put_eq r3, put_eq r4] at F2
    have hi6 : i < 6 := hi
    have hz258 := hT i hi6
    apply el_EEEEEA hz258
    clear hz258
    intro ls hb sb lv sp hM9
    obtain ⟨m1, m2, m3, m4, m5, m6, m7, m8, m9, m10, m11, m12, m13, m14, m15⟩ := hM9
    have ek : (0 : Int) + (i : Int) = (i : Int) := by omega
    rw [ek]
    have l0 := hLed.with4 d4 (news_sub N2 fun p hp => .tail _ hp)
    have lI : LawLed h₀ h L o1 o2 o3 o4' t ((_, oI) :: rest) := l0.more (objs := [(_, oI)]) N2 (fresh_off off2)
    have NI := lI.N
    have hK' := lI.keep hK
    have hP' := lI.keep hP
    have hH' := lI.keep hH
    clear hLed l0 N1
    have h1' : 1 ≤ tk := by omega
    have hll : ls.length = 3 := by rw [← m1]; rfl
    dsimp only
    have h64 : IntMulOk 64 (sh : Int) := IntMulOk.of_le (bits_of_lt (n := 10) (by decide) (by decide)) (bits_of_lt (n := 10) (by omega) (by omega)) (by decide)
    obtain ⟨s64, e64⟩ : ∃ x, (64 : Int) * (sh : Int) = x := ⟨_, rfl⟩
    k_steps
    rename StTup _ _ _ => hSt2
    rename Fr _ _ _ _ => F3
    rename News _ _ _ _ => N3
    rename (∀ p ∈ (_ : Led), p.1 ≠ _) => off3
    have h3b := mem_base N3 (x := (L + 1 + 1 + 1, o3)) (.tail _ (.tail _ (.tail _ (.head _))))
    have hHb := mem_base N3 (x := (HA, lstO hvs nh)) (.tail _ (.tail _ (.tail _ (.tail _ (.tail _ (.tail _ (List.mem_append_right _ (List.mem_append_right _ (List.mem_append_right _ hH')))))))))
    refine compRunT (fun _ => rfl) (fun _ => rfl) (it_tup_at rfl off3 (.head _)) (fun _ _ _ _ _ _ h => h) rfl rfl
      (fun rest k a led ys => 1 ≤ a ∧ led = rest ∧ k ≤ 4 ∧ IntsAre ys (sprL hs i k)) hSt2 F3 N3 off3 ?_ ?_ ?_ ?_ ?_
    · exact ⟨by (try dsimp only); first | assumption | omega, rfl, by omega, .nil⟩
    · intro k a led ys h hz253
      apply el_ARAA hz253
      clear hz253
      intro _ _ _ N _
      exact ⟨_, (N _ (.head _)).1, rfl, _, rfl⟩
    · intro k a led ys hz254
      apply el_AAAA hz254
      clear hz254
      intro _ _ hk5 hy5
      have := sprL_len hs i k
      rw [hy5.length]; omega
    · intro C2 D2 k v oI2 oC2 m₂ led2 ys2 h2 a2 tk2 E2 hO2 hk5 hv htk2 hz255
      revert hO2
      apply el_ARAA hz255
      clear hz255
      intro ha2 hk4 hy2 hO2 hC2 F4 N4
      have hz259 := ints_get (i := k) (.cons 1 _ (.cons 2 _ (.cons 3 _ (.cons 6 _ .nil)))) (by simpa using hv)
      revert hC2
      apply el_EEAR hz259
      clear hz259
      intro z tz hz hC2
      have hz4 := stay_mem hz
      have h1'' : 1 ≤ tk2 := by omega
      have hz0 := (cls_z hhl hz4).1
      have hzs := (cls_z hhl hz4).2.1
      have hzr := (cls_z hhl hz4).2.2
      have hz260 := six_stay hz4
      apply el_EAA hz260
      clear hz260
      intro qn hq6 hqn
      obtain ⟨r, hr⟩ : ∃ r, (i : Int).fmod (qn : Int) = r := ⟨_, rfl⟩
      have hk6 : k < 4 := hk5
      have hzr2 : (i : Int).fmod ((6 : Int).fdiv z) = r := by rw [hq6]; exact hr
      dsimp only
      k_steps
      all_goals (
        refine turnEnd0 (by k_asm) (by k_asm) (fun hle => ⟨by omega, rfl, by omega, ?_⟩)
        rw [sprL_succ _ _ _ hz, hzr2]
        first
          | (rw [if_pos (by omega)]; exact hy2.append (.cons _ _ .nil))
          | (rw [if_neg (by omega), List.append_nil]; exact hy2))
    · intro D3 led3 ys3 h3 a3 tk3 ha3 hz256
      apply el_ARAA hz256
      clear hz256
      intro ha4 _ hy3 F5 N5 off5 offI5
      have h1'' : 1 ≤ tk3 := by omega
      have hy4 : IntsAre ys3 (sprL hs i 4) := hy3
      clear hy3
      have hmo : IntMulOk s64 (sprL hs i 4).sum := IntMulOk.of_left (bits_of_lt (n := 64) (by omega) (by omega))
      have m16 : s64 * (sprL hs i 4).sum = sp := by rw [← e64]; exact m10
      have p20 : (2 : Int) ^ Int.toNat 20 = 1048576 := by decide
      obtain ⟨bg, hbg⟩ : ∃ x, (b : Int) * 1048576 = x := ⟨_, rfl⟩
      have hbm : IntMulOk (b : Int) 1048576 := IntMulOk.of_left (bits_of_lt (n := 64) (by omega) (by omega))
      rw [hbg] at m15
      dsimp only
      k_steps
      all_goals first
        | (exfalso; (rename (lv ≠ lv) => hx); exact hx rfl)
        | (exfalso; (rename (sp ≠ sp) => hx); exact hx rfl)
        | (rename (sp = 0) => hsp; obtain ⟨rfl, rfl⟩ := m13 hsp; k_steps)
        | (rename (sp ≠ 0) => hsp; have w1 := m14 hsp; have w2 := m15 hsp; refine Blocked.of ?_; k_steps)
        | skip
      all_goals first
          | (exfalso; (rename (bg ≠ bg) => hx); exact hx rfl)
          | (rename News _ _ _ _ => N9
             refine forEnd_next (by k_asm) (news_sub N9 fun p hp => ?_) (List.forall_mem_cons.mpr ⟨?_, fun p hp => ?_⟩) (fun hle => ⟨by omega, by with_unfolding_all rfl, by with_unfolding_all rfl, by with_unfolding_all rfl, by with_unfolding_all rfl, _, ⟨_, by assumption⟩, rfl⟩)
             · first | exact perm_turn p hp | exact .tail _ (.tail _ (perm_turn p hp))
             · exact off2 (_, o4') (.head _)
             · exact off2 p (.tail _ hp))
  case done =>
    intro m₁ led h a tk htk hz257
    apply el_AAAAAEAR hz257
    clear hz257
    intro ha r1 r2 r3 r4 o4' d4 F2 N2 off2
    have h1' : 1 ≤ tk := by omega
    dsimp only
    k_steps
    exact hret _ _ _ _ _ (by first | assumption | omega) (by k_asm) (hLed.with4 d4 (by k_asm))

-- L03
section
variable {prog : Program} {w : World} {A : Around} {E : Value → Shared → Prop} {s : Shared} {h₀ h : Heap} {L a : Addr} {m : Str → Option Value} {cn : Str} {cs : Scope} {ccd : Value} {o1 o2 o3 o4 : Obj} {t rest : Led}
/-- a comprehension's list stored in the law's second cell -/
theorem comp_cells {C D : Addr} {oC : Obj} {ys : List Value} {m₂ : Str → Option Value} {Q : Shared → Prop} {tk : Nat} {y : Str} {py : Pos} (hC : NsO oC m₂) (F : Fr h₀ L h m) (l : LawLed h₀ h L o1 o2 o3 o4 t ((C, oC) :: (D, lst ys) :: rest)) (hcd : C ≠ D) (hr : ∀ p ∈ rest, p.1 ≠ C)
    (hc : (cellsFrom (L + 1) cs.names []).lookup y = some (L + 1 + 1)) (hk : cs.kind = .function) (hx : (envOfC cn cs L a ccd).kindOf y = some .cell)
    (k : ∀ h' o', Fr h₀ L h' m → LawLed h₀ h' L o1 o' o3 o4 t ((D, lst ys) :: rest) → o'.data = .cell (some (.ref D)) → Q { s with heap := h', toks := tk }) :
    compPost (model prog w) A E (some (assign (.Name y py) (envOfC cn cs L a ccd))) (fun _ s' => Q s') (.ref D) C (.ok .next) { s with heap := h, toks := tk } := by
  show wpAny _ _ (assign (.Name y py) (envOfC cn cs L a ccd) (.ref D)) _ _ _
  refine wpAny_assign_Name (l.store2 (s := { s with heap := h, toks := tk }) F hc (fun h' o' F' l' d' => ?_) hk hx)
  have hmC : (C, oC) ∈ t ++ ((C, oC) :: (D, lst ys) :: rest) := List.mem_append_right _ (.head _)
  have z := l'.N (C, oC) (.tail _ (.tail _ (.tail _ (.tail _ hmC))))
  refine ⟨m₂, hC.ns z.1, fun h'' hs => k h'' o' (F'.change hs z.2.1 z.2.2) ⟨fun p hp => ?_, l'.tab, fun q hq p hp => l'.off q hq p ?_, fun p hp => l'.cel p ?_, l'.dat⟩ d'⟩
  · have hp' : p ∈ (L + 1 + 1 + 1 + 1, o4) :: (L + 1 + 1 + 1, o3) :: (L + 1 + 1, o') :: (L + 1, o1) :: (t ++ ((C, oC) :: (D, lst ys) :: rest)) := by
      simp only [List.mem_cons, List.mem_append] at hp ⊢
      rcases hp with e | e | e | e | e | e | e <;> simp [e]
    have q := l'.N p hp'
    have hpC : p.1 ≠ C := by
      have c := l'.cel _ hmC
      simp only [List.mem_cons, List.mem_append] at hp
      rcases hp with rfl | rfl | rfl | rfl | e | rfl | e
      · exact Ne.symm c.1
      · exact Ne.symm c.2.1
      · exact Ne.symm c.2.2.1
      · exact Ne.symm c.2.2.2
      · exact Ne.symm (l'.off p e (C, oC) (.tail _ (.tail _ (.tail _ (.tail _ (.head _))))))
      · exact Ne.symm hcd
      · exact hr p e
    exact ⟨hs.extBut _ _ hpC q.1, q.2⟩
  · simp only [List.mem_cons] at hp ⊢
    rcases hp with e | e | e | e | e | e <;> simp [e]
  · simp only [List.mem_cons, List.mem_append] at hp ⊢
    rcases hp with e | e | e <;> simp [e]
theorem sliceHX {value slice : PySem.Expr} {H : Heap} {D : Addr} {vs : List Value} {ns : List Int} {news : Led} {vl vu vk : Value} {lo hi st : Option Int} {ops : List Value} {Q : Value → Shared → Prop} {g d tk os}
    (F : Fr h₀ L H m) (N : News h₀ L H news) (hl : h₀.IsList D vs.toArray) (hi' : IntsAre vs ns) (pl : IsPart vl lo) (pu : IsPart vu hi) (pk : IsPart vk st) (h0 : st ≠ some 0) (hsz : vs.length ≤ 1000000)
    (h : ∀ D2 ws k h', Fr h₀ L h' m → News h₀ L h' ((D2, lstO ws k) :: news) → (∀ p ∈ news, p.1 < D2) → IntsAre ws (pickNums ns lo hi st) → Q (.ref D2) ⟨h', g, d, tk, os⟩)
    (hs : subscripted slice false (.ref D) (.ref H.objs.size) = operate ops (getItem (.ref D) (.ref H.objs.size)) := by with_unfolding_all rfl)
    (ht : ∀ r, letTemporaryGo value (.ref D) r = pure () := by intro _; with_unfolding_all rfl) :
    wpAny (model prog w) A (subscriptTail value slice (.ref D) (.ref H.objs.size)) Q E ⟨H.push { cls := .type "slice", data := .fields #[vl, vu, vk] }, g, d, tk, os⟩ := by
  obtain ⟨o, ho, hc, n, hd⟩ := hl
  exact slice_list3 (s := ⟨H, g, d, tk, os⟩) (items := vs.toArray) F N ⟨o, F.keep _ _ ho, hc, n, hd⟩ pl pu pk h0 (fun h' F' N' => h _ (slicePick vs.toArray lo hi st).toList 0 h' F' (by simpa using N') (fun p hp => Nat.lt_succ_of_lt (Heap.lt_size (N p hp).1)) (hi'.pick lo hi st)) hs ht (by rw [List.size_toArray, sizeLine_eq]; omega)
end
noncomputable def startsL : List Int := [300, 22, 3, 0, 1, 0]
noncomputable def cellZ (ns : List Int) (k : Nat) : Int := startsL.getD k 0 + (pickNums ns (some (k : Int)) none (some 6)).sum
theorem execs_cons_free {M : Model} {A : Around} {E : Value → Shared → Prop} {s : Shared} {st : Stmt} {rest : List Stmt} {env : Env} {Q : Flow → Shared → Prop}
    (h : wpAny M A (exec st env) (fun f s₁ => ∀ tk, s.toks ≤ tk → s₁.toks ≤ tk → match f with
      | .next => wpAny M A (execs rest env) Q E { s₁ with toks := tk }
      | f => Q f { s₁ with toks := tk }) E s) : wpAny M A (execs (st :: rest) env) Q E s := by
  refine wpAny_with_toks (Nat.le_refl s.toks) (wpAny_execs_cons (wpAny_with_toks (Nat.le_refl s.toks) (wpAny_mono h (fun f s₁ h₁ ht₁ => ?_) fun _ _ e _ _ => e)))
  have h₂ := h₁ s₁.toks ht₁ (Nat.le_refl _)
  cases f with
  | next => exact wpAny_mono h₂ (fun _ _ q _ => q) fun _ _ q _ => q
  | brk => exact fun _ => h₂
  | cont => exact fun _ => h₂
  | ret v => exact fun _ => h₂
theorem comp_assign_free {prog : Program} {w : World} {A : Around} {E : Value → Shared → Prop} {s : Shared} {env : Env} {elt target iter : PySem.Expr} {ifs : List PySem.Expr} {gs : List Comprehension} {scope : Scope} {cl : List (Str × Addr)} {pos spos py : Pos} {y : Str} {Q : Flow → Shared → Prop}
    (hs : ∀ x, foldedSetIterable iter env x = pure x) (hclos : closureFor scope env = pure cl) (hkind : scope.kind = .function) (hnames : ∀ y ∈ scope.names, y.2 = .local → scope.names.lookup y.1 = some .local)
    (hsw : swapsWith (.ListComp elt (⟨target, iter, ifs, 0⟩ :: gs) scope pos) (some (.Name y py)) spos.line env = pure true)
    (h : wpAny (model prog w) A (eval iter env) (fun xv s₁ => wpAny (model prog w) A (pyIter xv) (fun it s₂ => ∀ tk, s.toks ≤ tk → CompIn prog w A E elt target iter ifs gs scope cl pos env (fun acc C => compPost (model prog w) A E (some (assign (.Name y py) env)) (fun _ s' => Q .next s') acc C) it { s₂ with toks := tk }) E s₁) E s) :
    wpAny (model prog w) A (exec (.Assign [.Name y py] (.ListComp elt (⟨target, iter, ifs, 0⟩ :: gs) scope pos) spos) env) Q E s :=
  comp_assign hs hclos hkind hnames hsw (wpAny_with_toks (Nat.le_refl s.toks) (wpAny_mono h (fun _ _ h₁ ht₁ => wpAny_with_toks ht₁ (wpAny_mono h₁ (fun _ s₂ h₂ ht₂ => h₂ s₂.toks ht₂) fun _ _ e _ => e)) fun _ _ e _ => e))
theorem comp_eval_free {prog : Program} {w : World} {A : Around} {E : Value → Shared → Prop} {s : Shared} {env : Env} {elt target iter : PySem.Expr} {ifs : List PySem.Expr} {gs : List Comprehension} {scope : Scope} {cl : List (Str × Addr)} {pos : Pos} {Q : Value → Shared → Prop}
    (hs : ∀ x, foldedSetIterable iter env x = pure x) (hclos : closureFor scope env = pure cl) (hkind : scope.kind = .function) (hnames : ∀ y ∈ scope.names, y.2 = .local → scope.names.lookup y.1 = some .local)
    (h : wpAny (model prog w) A (eval iter env) (fun xv s₁ => wpAny (model prog w) A (pyIter xv) (fun it s₂ => ∀ tk, s.toks ≤ tk → CompIn prog w A E elt target iter ifs gs scope cl pos env (fun acc C => compPost (model prog w) A E none Q acc C) it { s₂ with toks := tk }) E s₁) E s) :
    wpAny (model prog w) A (eval (.ListComp elt (⟨target, iter, ifs, 0⟩ :: gs) scope pos) env) Q E s :=
  comp_eval hs hclos hkind hnames (wpAny_with_toks (Nat.le_refl s.toks) (wpAny_mono h (fun _ _ h₁ ht₁ => wpAny_with_toks ht₁ (wpAny_mono h₁ (fun _ s₂ h₂ ht₂ => h₂ s₂.toks ht₂) fun _ _ e _ => e)) fun _ _ e _ => e))
theorem NZ.snoc {f : Nat → Int} {T : Nat} {vs : List Value} {xs : List Int} {x : Int} {t : Tok} (h : NZ f T vs xs) (h0 : t ≠ 0) (ht : T ≤ t) (hs : smallInt x = true) : NZ (fun z => if z = t then x else f z) (t + 1) (vs ++ [.int x t]) (xs ++ [x]) :=
  (h.more ht (Nat.le_succ_of_le ht)).append (.cons h0 (Nat.lt_succ_self t) (if_pos rfl) hs .nil)
theorem NZ.step {f : Nat → Int} {T a b tv : Nat} {vs : List Value} {xs : List Int} {x i : Int} {t : Tok} (h : NZ f T vs xs) (h1 : 1 ≤ a) (hT : T ≤ a) (ha : a ≤ t) (hv : tv < T) (hf : f tv = i) (hs : smallInt x = true) (hb : t + 1 ≤ b) :
    ∃ f' T', T' ≤ b ∧ tv < T' ∧ f' tv = i ∧ NZ f' T' (vs ++ [.int x t]) (xs ++ [x]) :=
  ⟨fun z => if z = t then x else f z, t + 1, hb, by omega, (if_neg (Nat.ne_of_lt (Nat.lt_of_lt_of_le hv (Nat.le_trans hT ha)))).trans hf, h.snoc (Nat.ne_of_gt (Nat.lt_of_lt_of_le h1 ha)) (Nat.le_trans hT ha) hs⟩

theorem with_prelude19 : True := by
  k_with "call ref" => (k_dflt ((with_reducible show wpAny _ _ (call (Value.ref 110) _) _ _ _); first | ((rename LawLed _ _ _ _ _ _ _ _ _ => lL'); (rename News _ _ _ _ => NN'); (have lC' := LawLed.here lL' NN' (by intro p' hp'; first | exact hp' | exact .tail _ hp' | exact .tail _ (.tail _ hp') | exact .tail _ (.tail _ (.tail _ hp')) | exact .tail _ (.tail _ (.tail _ (.tail _ hp'))))); clear lL'; (refine' Spec.use5A (words_spec _ _ _ _ _ _ _ _ ?zz112k0 ?zz112ka ?zz112kb) ?zz112k1 ?zz112k2 ?zz112k3 lC'.N ?zz112k5 ?zz112k6 ?zz112k7 ?zz112k8 ?zz112k9 ?_; (case zz112k1 => k_asm); (case zz112k2 => k_asm); (case zz112k3 => k_asm); (case zz112k5 => k_asm); (case zz112k0 => walk_at "my_meml"); (case zz112ka => assumption); (case zz112kb => assumption); (case zz112k6 => first | exact rfl | assumption); (case zz112k7 => ((try dsimp only); first | assumption | omega)); (case zz112k8 => ktr_room); (case zz112k9 => ktr_units); k_whole; intro f' T' D' vs' n' objs' mD' hp' h' tk' ht' F' N' fr'; (try dsimp only at ht'); (have lM' := LawLed.more lC' N' fr'); clear N'; (have N' := lM'.N); (have hp2' := LawLed.tups lC' hp'); clear hp' lC'; (have N' := lM'.N); (try dsimp only); (try k_fold))) | (refine block ?_)))
  k_with "call ref" => (k_dflt ((with_reducible show wpAny _ _ (call (Value.ref 98) _) _ _ _); (refine' Spec.useI (count_ints _ _ _ _ _ _ _ _ _ _ ?zz113k0 ?zz113ka ?zz113kb ?zz113kc) ?zz113k1 ?zz113k2 ?zz113k3 ?zz113k4 ?zz113k5 ?zz113k6 ?zz113k7 ?zz113k8 ?zz113k9 ?_; (case zz113k1 => k_asm); (case zz113k2 => k_asm); (case zz113k3 => k_asm); (case zz113k4 => k_asm); (case zz113k5 => k_asm); (case zz113k0 => first | exact .head _ | walk_at "my_memx"); (case zz113ka => assumption); (case zz113kb => assumption); (case zz113kc => assumption); (case zz113k6 => first | exact rfl | assumption); (case zz113k7 => ((try dsimp only); first | assumption | omega)); (case zz113k8 => ktr_room); (case zz113k9 => ktr_units); k_whole; intro t1 h' tk' ht' F' N'; (try dsimp only at ht'); (try dsimp only); (try k_fold))))
  trivial
-- L8
theorem rest_L8 : True := by
  w_top off
  trivial
set_option maxHeartbeats 700000 in
theorem law_1 (w : World) (p : Program) (loose : List Str) (mean : ExcName → Option Value) (mg mb : Str → Option Value) (base h₀ : Heap) (L fa : Addr) (cd : Value) (m : Str → Option Value) (s : Shared) (Q : Flow → Shared → Prop) (E : Value → Shared → Prop) (o1 o2 o3 o4 : Obj) (t rest : Led)
    (B : Below callerA base [] h₀) (F : Fr h₀ L s.heap m) (X : (heapK w.params).In h₀) (hLed : LawLed h₀ s.heap L o1 o2 o3 o4 t rest) (T : Top p loose mean mg mb h₀) (hts : 1 ≤ s.toks)
    (ZA : Addr) (zvs : List Value) (nz : Nat) (zs : List Int) (c0 c1 c2 : Nat) (hd2 : o2.data = .cell (some (.ref ZA))) (hZ : (ZA, lstO zvs nz) ∈ rest) (hZi : IntsAre zvs zs) (hzl : zs.length = 6)
    (hc0 : (zs.map (·.fmod 3)).count 0 = c0) (hc1 : (zs.map (·.fmod 3)).count 1 = c1) (hc2 : (zs.map (·.fmod 3)).count 2 = c2) (hc6 : c0 ≤ 6 ∧ c1 ≤ 6 ∧ c2 ≤ 6)
    (hret : ∀ h' tk' m' rest', 1 ≤ tk' → Fr h₀ L h' m' → LawLed h₀ h' L o1 o2 o3 o4 t rest' → (∀ x ∈ rest, x ∈ rest') →
      (∃ CA cvs nc, m' "counts" = some (.ref CA) ∧ (CA, lstO cvs nc) ∈ rest' ∧ IntsAre cvs [(c0 : Int), c1, c2]) → (∃ WA wvs nw f Tk, m' "words" = some (.ref WA) ∧ (WA, lstO wvs nw) ∈ rest' ∧ Tups f Tk rest' wvs ((wordsN 6 (c0 + 8 * c1 + 64 * c2)).map (·.1))) → Q .next { s with heap := h', toks := tk' }) :
    wpAny (model PySem.Challenge.rw_tl0014_01.row.prog w) (callerA.deeper (lawE L fa cd)) (execs ((lawS.drop 1).take 2) (lawE L fa cd)) Q E s := by
  obtain ⟨x1, h1⟩ : ∃ x, x = (lawS.drop 1).take 2 := ⟨_, rfl⟩
  obtain ⟨x2, h2⟩ : ∃ x, x = lawSc := ⟨_, rfl⟩
  unfold lawE
  rw [← h1, ← h2]
  dsimp only [lawS, PySem.Challenge.pw_tl0014_01, lastBody, List.drop_succ_cons, List.drop_zero, List.take_succ_cons, List.take_zero, List.take] at h1
  dsimp only [lawSc, PySem.Challenge.pw_tl0014_01, lastScope] at h2
  subst h1
  subst h2
  have N := hLed.N
  k_steps
  rename StRange _ _ _ _ => hSt
  rename Fr _ _ _ _ => F1
  rename News _ _ _ _ => N1
  rename (∀ p ∈ (_ : Led), p.1 ≠ _) => off1
  refine compRunA (fun _ => rfl) (fun _ => rfl) (it_range rfl _ 0 _) (fun i a b c v h hP => by obtain ⟨t, h1, h2, h3⟩ := hP; exact ⟨t, h1, Nat.lt_of_lt_of_le h2 h, h3⟩) rfl rfl
    (fun rest k a led ys => 1 ≤ a ∧ led = rest ∧ k ≤ 3 ∧ IntsAre ys ((List.range k).map fun (j : Nat) => (((zs.map (·.fmod 3)).count (j : Int) : Nat) : Int))) hSt F1 N1 off1 ?_ ?_ ?_ ?_ ?_
  · exact ⟨by (try dsimp only); first | assumption | omega, rfl, by omega, .nil⟩
  · intros; trivial
  · intro k a led ys hz261
    apply el_AAAA hz261
    clear hz261
    intro _ _ hk hy
    rw [hy.length]; simp; omega
  · intro C D i v oI oC m₂ led ys h a tk E' hO hi hz262
    apply el_EAAR hz262
    clear hz262
    intro tv htv htv2 ha hz263
    revert hO
    apply el_ARAA hz263
    clear hz263
    intro ha1 hk hy hO hC F2 N2
    have h1' : 1 ≤ tk := by omega
    have ek : (0 : Int) + (i : Int) = (i : Int) := by omega
    rw [ek] at hC
    have h2b := mem_base N2 (x := (L + 1 + 1, o2)) (.tail _ (.tail _ (.tail _ (.tail _ (.head _)))))
    have hZb := mem_base N2 (x := (ZA, lstO zvs nz)) (.tail _ (.tail _ (.tail _ (.tail _ (.tail _ (.tail _ (List.mem_append_right _ hZ)))))))
    dsimp only
    k_steps
    rename StList _ _ _ => hSt2
    rename Fr _ _ _ _ => F3
    rename News _ _ _ _ => N3
    rename (∀ p ∈ (_ : Led), p.1 ≠ _) => off3
    have hZc := mem_base N3 (x := (ZA, lstO zvs nz)) (.tail _ hZb)
    refine compRun (fun _ => rfl) (fun _ => rfl) (it_list rfl (ax := ZA) (off3 _ hZc) zvs.toArray) (fun _ _ _ _ _ _ h => h) rfl rfl
      (fun rest k a led ys => 1 ≤ a ∧ led = rest ∧ k ≤ 6 ∧ ∃ f T, T ≤ a ∧ tv < T ∧ f tv = (i : Int) ∧ NZ f T ys ((zs.take k).map (·.fmod 3))) hSt2 F3 N3 off3 ?_ ?_ ?_ ?_ ?_
    · exact ⟨by (try dsimp only); first | assumption | omega, rfl, by omega, fun _ => (i : Int), _, Nat.le_refl _, by (try dsimp only); omega, rfl, .nil⟩
    · intro k a led ys h hz264
      apply el_ARA hz264
      clear hz264
      intro _ _ N _
      exact ⟨_, (N _ hZc).1, rfl, _, rfl⟩
    · intro k a led ys hz265
      apply el_AAAEEAAAA hz265
      clear hz265
      intro _ _ hk6 f T' _ _ _ hnz
      rw [hnz.length]; simp; omega
    · intro C2 D2 k v oI2 oC2 m₂ led2 ys2 h2 a2 tk2 E2 hO2 hk5 hv htk2 hz266
      revert hO2
      apply el_ARAEEAAAA hz266
      clear hz266
      intro ha2 hk4 f T' hT1 hT2 hT3 hnz hO2 hC2 F4 N4
      have hz269 := ints_get (i := k) hZi (by simpa using hv)
      revert hC2
      apply el_EEAR hz269
      clear hz269
      intro z tz hz hC2
      have hk6 : k < 6 := by rw [← hzl]; exact (List.getElem?_eq_some_iff.mp hz).1
      have h1'' : 1 ≤ tk2 := by omega
      obtain ⟨r, hr⟩ : ∃ r, z.fmod 3 = r := ⟨_, rfl⟩
      have hr3 : r = 0 ∨ r = 1 ∨ r = 2 := by
        rw [Int.fmod_eq_emod_of_nonneg _ (by decide)] at hr; omega
      have hsr : smallInt r = true := by rcases hr3 with rfl | rfl | rfl <;> decide
      dsimp only
      k_steps
      refine turnEnd0 (by k_asm) (by k_asm) (fun hle => ⟨by omega, rfl, by omega, ?_⟩)
      rw [List.take_add_one, hz, List.map_append]
      simp only [Option.toList_some, List.map_cons, List.map_nil]
      rw [hr]
      refine hnz.step ha2 hT1 ?_ hT2 hT3 hsr ?_
      · (try dsimp only); omega
      · exact Nat.le_refl _
    · intro D3 led3 ys3 h3 a3 tk3 ha3 hz267
      apply el_ARAEEAAAA hz267
      clear hz267
      intro ha4 _ f T' hT1 hT2 hT3 hnz F5 N5 off5 offI5
      have h1'' : 1 ≤ tk3 := by omega
      have htv0 : tv ≠ 0 := by omega
      have hnz' : NZ f T' ys3 (zs.map (·.fmod 3)) := by
        rw [List.take_of_length_le (by rw [List.size_toArray, hZi.length]; omega)] at hnz
        exact hnz
      clear hnz
      dsimp only
      k_steps
      rename News _ _ _ _ => N9
      refine turnEnd0 (by k_asm) (news_sub N9 fun p hp => .tail _ hp) (fun hle => ⟨by omega, rfl, by omega, ?_⟩)
      rw [List.range_succ, List.map_append]
      exact hy.append (.cons _ _ .nil)
  · intro D led ys h a tk ha hz268
    apply el_ARAA hz268
    clear hz268
    intro ha1 _ hy F2 N2 off2 offI
    have hy' : IntsAre ys [(c0 : Int), c1, c2] := by rw [← hc0, ← hc1, ← hc2]; exact hy
    have lM : LawLed h₀ h L o1 o2 o3 o4 t ((D, lst ys) :: rest) := hLed.more (objs := [(D, lst ys)]) N2 (fresh_off off2)
    have N9 := lM.N
    have mD : (D, lstO ys ys.length) ∈ (D, lst ys) :: rest := .head _
    clear hLed hy N2
    have h1' : 1 ≤ tk + 1 := by omega
    dsimp only
    k_steps
    rename LawLed _ _ _ _ _ _ _ _ _ => lF
    rename News _ _ _ _ => N8
    rename Tups _ _ _ _ _ => hWt
    exact wpAny_execs_nil (hret _ _ _ _ (by first | assumption | omega) (by k_asm) (lF.at N8) (fun x hx => List.mem_append_right _ (.tail _ hx)) ⟨D, ys, _, by with_unfolding_all rfl, List.mem_append_right _ mD, hy'⟩ ⟨_, _, _, _, _, by with_unfolding_all rfl, List.mem_append_left _ (by assumption), hWt⟩)

theorem with_prelude18 : True := by
  k_with "execs cons" => (k_dflt (refine execs_cons_free ?_; (try dsimp only)))
  k_with "eval ListComp" => (k_dflt (refine comp_eval_free (by intro x; rfl) (by with_unfolding_all rfl) (by rfl) (by decide) ?_; (try dsimp only)))
  k_with "exec Assign cons ListComp" => (k_dflt (refine wpAny_Assign_Name ?_ (by with_unfolding_all rfl)))
  k_with "call type:enumerate" => (k_dflt (refine' enumN ?zz117k1 ?zz117k2 ?zz117k3 ?_; (case zz117k1 => k_asm); (case zz117k2 => k_asm); (case zz117k3 => exact .head _); k_whole; intro e' it' oit' h' F' N' st' o1' o2'; (try dsimp only)))
  k_with "pyIter ref" => (k_dflt (refine' pyIter_enumN ?zz118k1 ?_; (case zz118k1 => k_asm); k_whole; (try dsimp only)))
  k_with "XX" => (k_dflt (refine comp_assign_free (by intro x; rfl) (by with_unfolding_all rfl) (by rfl) (by decide) (by with_unfolding_all rfl) ?_; (try dsimp only)))
  k_with "subscriptTail Name Slice ref ref" => (k_dflt ((with_reducible show wpAny _ _ (subscriptTail _ _ (Value.ref _) (Value.ref _)) _ _ _); (with_unfolding_all refine' sliceHX ?zz120k1 ?zz120k2 ?zz120k3 ?zz120k4 ?zz120k5 ?zz120k6 ?zz120k7 ?zz120k8 ?zz120k9 ?_ ?zz120ka ?zz120kb; (case zz120k1 => k_asm); (case zz120k2 => k_asm); (case zz120k3 => assumption); (case zz120k4 => assumption); (case zz120k5 => exact .int _ _); (case zz120k6 => exact .none); (case zz120k7 => exact .int _ _); (case zz120k8 => simp); (case zz120k9 => omega); (case zz120ka => with_unfolding_all rfl); (case zz120kb => (intro _; with_unfolding_all rfl)); k_whole; intro D' ws' n' h' F' N' l' hv'; (try dsimp only))))
  trivial
-- L1
theorem rest_L1 : True := by
  w_top off
  trivial
set_option maxHeartbeats 700000 in
theorem law_0 (w : World) (p : Program) (loose : List Str) (mean : ExcName → Option Value) (mg mb : Str → Option Value) (base h₀ : Heap) (L fa : Addr) (cd : Value) (m : Str → Option Value) (s : Shared) (Q : Flow → Shared → Prop) (E : Value → Shared → Prop) (o1 o2 o3 o4 : Obj) (t rest : Led)
    (B : Below callerA base [] h₀) (F : Fr h₀ L s.heap m) (X : (heapK w.params).In h₀) (hLed : LawLed h₀ s.heap L o1 o2 o3 o4 t rest) (T : Top p loose mean mg mb h₀)
    (SA : Addr) (svs : List Value) (sns : List Int) (hS : h₀.IsList SA svs.toArray) (hSi : IntsAre svs sns) (hsl : svs.length ≤ 1000) (hd1 : o1.data = .cell (some (.ref SA)))
    (hret : ∀ h' tk' m' o2' rest', 1 ≤ tk' → Fr h₀ L h' m' → LawLed h₀ h' L o1 o2' o3 o4 t rest' → (∀ x ∈ rest, x ∈ rest') → (∀ z : Str, m' z = m z) →
      (∃ ZA zvs nz, o2'.data = .cell (some (.ref ZA)) ∧ (ZA, lstO zvs nz) ∈ rest' ∧ IntsAre zvs ((List.range 6).map (cellZ sns))) → Q .next { s with heap := h', toks := tk' }) :
    wpAny (model PySem.Challenge.rw_tl0014_01.row.prog w) (callerA.deeper (lawE L fa cd)) (execs ((lawS.drop 0).take 1) (lawE L fa cd)) Q E s := by
  obtain ⟨x1, h1⟩ : ∃ x, x = (lawS.drop 0).take 1 := ⟨_, rfl⟩
  obtain ⟨x2, h2⟩ : ∃ x, x = lawSc := ⟨_, rfl⟩
  unfold lawE
  rw [← h1, ← h2]
  dsimp only [lawS, PySem.Challenge.pw_tl0014_01, lastBody, List.drop_succ_cons, List.drop_zero, List.take_succ_cons, List.take_zero, List.take] at h1
  dsimp only [lawSc, PySem.Challenge.pw_tl0014_01, lastScope] at h2
  subst h1
  subst h2
  have N := hLed.N
  k_steps
  rename StList _ _ _ => hSt
  rename Fr _ _ _ _ => F1
  rename News _ _ _ _ => N1
  rename_i o1' o2' _ _
  refine compRunE (vs := [.int 300 s.toks, .int 22 (s.toks + 1), .int 3 (s.toks + 1 + 1), .int 0 (s.toks + 1 + 1 + 1), .int 1 (s.toks + 1 + 1 + 1 + 1), .int 0 (s.toks + 1 + 1 + 1 + 1 + 1)]) (nl := 0) (fun _ => rfl) (fun _ => rfl) rfl rfl rfl rfl
    (fun rest k a led ys => led = rest ∧ k ≤ 6 ∧ (0 < k → 1 ≤ a) ∧ IntsAre ys ((List.range k).map (cellZ sns))) hSt F1 N1 o1' o2' ?_ ?_ ?_ ?_ ?_
  · exact ⟨rfl, by omega, by omega, .nil⟩
  · intro k a led ys hz270
    apply el_RA hz270
    clear hz270
    intro _
    exact .head _
  · intro k a led ys hz271
    apply el_AAAA hz271
    clear hz271
    intro _ hk _ hy
    rw [hy.length]; simp; omega
  · intro C D i v tt oe oi oC m₂ led ys h a tk E' hO hv ha ht hz272
    revert hO
    apply el_RAAA hz272
    clear hz272
    intro hk _ hy hO hC F2 N2
    have hz274 := ints_get (i := i) (xs := startsL) (.cons 300 _ (.cons 22 _ (.cons 3 _ (.cons 0 _ (.cons 1 _ (.cons 0 _ .nil)))))) hv
    revert hC
    apply el_EEAR hz274
    clear hz274
    intro st tv hst hC
    have hi : i < 6 := by
      have := (List.getElem?_eq_some_iff.mp hst).1
      exact this
    have h1' : 1 ≤ tk := by omega
    have h1b := mem_base N2 (x := (L + 1, o1)) (.tail _ (.tail _ (.tail _ (.tail _ (.tail _ (.tail _ (.tail _ (.head _))))))))
    obtain ⟨z, hz⟩ : ∃ z, st + (pickNums sns (some (i : Int)) none (some 6)).sum = z := ⟨_, rfl⟩
    dsimp only
    k_steps
    rename News _ _ _ _ => N9
    refine turnEnd0 (by k_asm) (news_sub N9 fun p hp => .tail _ hp) fun hle => ⟨rfl, by omega, fun _ => by omega, ?_⟩
    rw [List.range_succ, List.map_append]
    refine hy.append ?_
    have e : z = cellZ sns i := by
      rw [← hz]
      unfold cellZ
      rw [List.getD_eq_getElem?_getD, hst]
      rfl
    rw [e]
    exact .cons _ _ .nil
  · intro C D oC m₂ oi led ys h a tk ha hz273
    apply el_RAAA hz273
    clear hz273
    intro _ ha1 hy hC F2 N2 hO
    have h1' : 1 ≤ tk := Nat.le_trans (ha1 (by simp)) ha
    refine comp_done hC F2 N2 hO.cd (fun p hp => (hO.r p (.tail _ hp)).2.1) fun h' F' N' => ?_
    have hy' : IntsAre ys ((List.range 6).map (cellZ sns)) := hy
    have lM : LawLed h₀ h' L o1 o2 o3 o4 t ((D, lst ys) :: rest) := hLed.more (objs := [(D, lst ys)]) (news_sub N' fun p hp => (List.mem_cons.mp hp).elim (fun e => e ▸ .head _) fun e => .tail _ (.tail _ e)) (fresh_off fun p hp => (hO.r p (.tail _ (.tail _ hp))).2.2)
    have N9 := lM.N
    clear N' hLed hy
    dsimp only
    k_steps
    rename LawLed _ _ _ _ _ _ _ _ _ => lF
    exact wpAny_execs_nil (hret _ _ _ _ _ (by first | assumption | omega) (by k_asm) lF (fun x hx => .tail _ hx) (fun _ => rfl) ⟨_, _, _, by assumption, .head _, hy'⟩)

-- E8
section
open PySem.Float64
theorem share_whole {M G : Int} {s : UInt64} (hM : 0 < M) (hM2 : M ≤ 2097152) (hG : 0 ≤ G) (hGM : 64 * G ≤ M) (hs : Ap s (64 * G) M 64) : isFinite (add (mul s (ofInt M)) half) = true ∧ Flt.toInt truncOf (add (mul s (ofInt M)) half) = 64 * G := by
  have e1 : (64 * G * M).natAbs = (64 * G).natAbs * M.natAbs := Int.natAbs_mul _ _
  have e2 : (M * 1).natAbs = M.natAbs := by rw [Int.mul_one]
  have h1 : (64 * G).natAbs * M.natAbs ≤ 2097152 * M.natAbs := Nat.mul_le_mul_right _ (by omega)
  have h2 : 64 * M.natAbs * M.natAbs ≤ 134217728 * M.natAbs := Nat.mul_le_mul_right _ (by omega)
  have a := ap_mulc (k := 22) (p := M) (q := 1) (e1 := 64 * M.natAbs) hs (val_ofInt (i := M) (by omega)).1 (val_int1 (by omega)) (by omega) (by decide) (by show 64 * M.natAbs ≤ 64 * M.natAbs * 1; omega) (by decide)
    (by rw [e1, e2]; omega)
  have a2 : Ap (mul s (ofInt M)) (64 * G) 1 (64 * M.natAbs + 2 ^ (22 + 6)) := by
    refine Ap.cut (c := M) ?_ (by omega)
    rw [Int.mul_one] at a
    rw [Int.one_mul]
    exact a
  exact whole_ap a2 (by omega) (by omega) (by show 64 * M.natAbs + 2 ^ 28 ≤ 2 ^ 55; omega)
theorem turn_ok {cs : List Int} {pss : List (List Int)} {hs : List Int} {b sh i : Nat} {M F : Int} (hb : b < 384) (hF : 0 ≤ F) (hFe : (sprL hs i 4).sum = F) (hM : 0 < M) (hM2 : M ≤ 2097152) (hGM : 64 * ((sh : Int) * F) ≤ M)
    (hx : ∀ k, k < 3 → mixZ cs pss i k 6 = M - (sh : Int) * F * rho k (b / 64) ((b % 64 : Nat) : Int)) : ∃ ls hb' sb lv sp, TurnOk cs pss hs b sh i ls hb' sb lv sp := by
  have hG : 0 ≤ (sh : Int) * F := Int.mul_nonneg (by omega) hF
  have he6 : b / 64 < 6 := by omega
  have hr64 : b % 64 < 64 := Nat.mod_lt _ (by decide)
  have hbe : 64 * (b / 64) + b % 64 = b := Nat.div_add_mod b 64
  have hsp : 64 * (sh : Int) * (sprL hs i 4).sum = 64 * ((sh : Int) * F) := by rw [hFe, Int.mul_assoc]
  have hx0 := hx 0 (by decide)
  have hx1 := hx 1 (by decide)
  have hx2 := hx 2 (by decide)
  have rr : ∀ k, 0 ≤ rho k (b / 64) ((b % 64 : Nat) : Int) ∧ rho k (b / 64) ((b % 64 : Nat) : Int) ≤ 64 := fun k => rho_range k _ (by omega) (by omega)
  have rv := rho_vals he6 ((b % 64 : Nat) : Int)
  generalize hGe : (sh : Int) * F = G at *
  have bd : ∀ k, 0 ≤ G * rho k (b / 64) ((b % 64 : Nat) : Int) ∧ G * rho k (b / 64) ((b % 64 : Nat) : Int) ≤ 64 * G := fun k => by
    have h := rr k
    have h1 := Int.mul_le_mul_of_nonneg_left h.2 hG
    exact ⟨Int.mul_nonneg hG h.1, by rw [Int.mul_comm 64 G]; exact h1⟩
  have b0 := bd 0
  have b1 := bd 1
  have b2 := bd 2
  have hz : rho 0 (b / 64) ((b % 64 : Nat) : Int) = 0 ∨ rho 1 (b / 64) ((b % 64 : Nat) : Int) = 0 ∨ rho 2 (b / 64) ((b % 64 : Nat) : Int) = 0 := by rcases rv with h | h | h | h | h | h <;> omega
  have hmax := max_of (M := M) hG (rr 0).1 (rr 1).1 (rr 2).1 hz
  have hmem : M ∈ [M - G * rho 0 (b / 64) ((b % 64 : Nat) : Int), M - G * rho 1 (b / 64) ((b % 64 : Nat) : Int), M - G * rho 2 (b / 64) ((b % 64 : Nat) : Int)] := by
    rcases hz with h | h | h <;> rw [h] <;> simp
  have hmx : ∀ a ∈ [M - G * rho 0 (b / 64) ((b % 64 : Nat) : Int), M - G * rho 1 (b / 64) ((b % 64 : Nat) : Int), M - G * rho 2 (b / 64) ((b % 64 : Nat) : Int)], a ≤ M := fun a ha => by
    simp only [List.mem_cons, List.not_mem_nil, or_false] at ha
    rcases ha with rfl | rfl | rfl <;> omega
  have hmix : [mixZ cs pss i 0 6, mixZ cs pss i 1 6, mixZ cs pss i 2 6] = [M - G * rho 0 (b / 64) ((b % 64 : Nat) : Int), M - G * rho 1 (b / 64) ((b % 64 : Nat) : Int), M - G * rho 2 (b / 64) ((b % 64 : Nat) : Int)] := by rw [hx0, hx1, hx2]
  rcases Int.lt_or_eq_of_le hG with hG1 | hG0
  · obtain ⟨_, hmin, hue⟩ := light_hue (M := M) hG1 he6 hr64
    have hne : ¬ (min (min (M - G * rho 0 (b / 64) ((b % 64 : Nat) : Int)) (M - G * rho 1 (b / 64) ((b % 64 : Nat) : Int))) (M - G * rho 2 (b / 64) ((b % 64 : Nat) : Int)) = max (max (M - G * rho 0 (b / 64) ((b % 64 : Nat) : Int)) (M - G * rho 1 (b / 64) ((b % 64 : Nat) : Int))) (M - G * rho 2 (b / 64) ((b % 64 : Nat) : Int))) := by rw [hmin, hmax]; omega
    rw [hbe] at hue
    have e64 : M - (M - 64 * G) = 64 * G := by omega
    have sh1 : Ap (fdiv (64 * G) M) (64 * G) M 64 := ap_frac (k := 0) hM (by decide) (by show (64 * G).natAbs ≤ 1 * M.natAbs; omega)
    have sw := share_whole hM hM2 hG hGM sh1
    refine ⟨_, hueF (rgbH (M - G * rho 0 (b / 64) ((b % 64 : Nat) : Int)) (M - G * rho 1 (b / 64) ((b % 64 : Nat) : Int)) (M - G * rho 2 (b / 64) ((b % 64 : Nat) : Int)) M (64 * G)), fdiv (64 * G) M, M, 64 * G,
      ⟨hmix, ?_, ?_, ?_, ?_, ?_, hmax, hmem, hmx, hsp, sw.1, sw.2, fun h => ?_, fun _ => hue.1, fun _ => hue.2⟩⟩
    · show 0 ≤ M - G * rho 0 (b / 64) ((b % 64 : Nat) : Int) ∧ M - G * rho 0 (b / 64) ((b % 64 : Nat) : Int) ≤ 100000000; omega
    · show 0 ≤ M - G * rho 1 (b / 64) ((b % 64 : Nat) : Int) ∧ M - G * rho 1 (b / 64) ((b % 64 : Nat) : Int) ≤ 100000000; omega
    · show 0 ≤ M - G * rho 2 (b / 64) ((b % 64 : Nat) : Int) ∧ M - G * rho 2 (b / 64) ((b % 64 : Nat) : Int) ≤ 100000000; omega
    · show hueB (M - G * rho 0 (b / 64) ((b % 64 : Nat) : Int)) (M - G * rho 1 (b / 64) ((b % 64 : Nat) : Int)) (M - G * rho 2 (b / 64) ((b % 64 : Nat) : Int)) = _
      unfold hueB
      rw [if_neg hne, hmax, hmin, e64]
    · show shareB (M - G * rho 0 (b / 64) ((b % 64 : Nat) : Int)) (M - G * rho 1 (b / 64) ((b % 64 : Nat) : Int)) (M - G * rho 2 (b / 64) ((b % 64 : Nat) : Int)) = _
      unfold shareB
      rw [if_neg hne, hmax, hmin, e64]
    · omega
  · subst hG0
    have heq : min (min (M - 0 * rho 0 (b / 64) ((b % 64 : Nat) : Int)) (M - 0 * rho 1 (b / 64) ((b % 64 : Nat) : Int))) (M - 0 * rho 2 (b / 64) ((b % 64 : Nat) : Int)) = max (max (M - 0 * rho 0 (b / 64) ((b % 64 : Nat) : Int)) (M - 0 * rho 1 (b / 64) ((b % 64 : Nat) : Int))) (M - 0 * rho 2 (b / 64) ((b % 64 : Nat) : Int)) := by
      simp only [Int.zero_mul]; omega
    have sh1 : Ap 0 (64 * 0) M 64 := by
      have := (ap_int (i := 0) (by decide)).scale M
      rw [← zero_int, Int.zero_mul, Int.one_mul] at this
      exact this.grow (by decide)
    have sw := share_whole hM hM2 (Int.le_refl 0) hGM sh1
    refine ⟨_, 0, 0, M, 64 * 0, ⟨hmix, ?_, ?_, ?_, ?_, ?_, hmax, hmem, hmx, hsp, sw.1, sw.2, fun _ => ⟨rfl, rfl⟩, fun h => absurd rfl h, fun h => absurd rfl h⟩⟩
    · show 0 ≤ M - 0 * rho 0 (b / 64) ((b % 64 : Nat) : Int) ∧ M - 0 * rho 0 (b / 64) ((b % 64 : Nat) : Int) ≤ 100000000; omega
    · show 0 ≤ M - 0 * rho 1 (b / 64) ((b % 64 : Nat) : Int) ∧ M - 0 * rho 1 (b / 64) ((b % 64 : Nat) : Int) ≤ 100000000; omega
    · show 0 ≤ M - 0 * rho 2 (b / 64) ((b % 64 : Nat) : Int) ∧ M - 0 * rho 2 (b / 64) ((b % 64 : Nat) : Int) ≤ 100000000; omega
    · show hueB (M - 0 * rho 0 (b / 64) ((b % 64 : Nat) : Int)) (M - 0 * rho 1 (b / 64) ((b % 64 : Nat) : Int)) (M - 0 * rho 2 (b / 64) ((b % 64 : Nat) : Int)) = _
      unfold hueB
      rw [if_pos heq]
    · show shareB (M - 0 * rho 0 (b / 64) ((b % 64 : Nat) : Int)) (M - 0 * rho 1 (b / 64) ((b % 64 : Nat) : Int)) (M - 0 * rho 2 (b / 64) ((b % 64 : Nat) : Int)) = _
      unfold shareB
      rw [if_pos heq]
end

-- P2
theorem digs_cons (n k : Nat) (x : Int) : digs n (k + 1) x = x % 2 ^ n :: digs n k (x / 2 ^ n) := by
  unfold digs
  rw [List.range_succ_eq_map, List.map_cons, List.map_map]
  congr 1
  · simp
  · apply List.map_congr_left
    intro i _
    show x / 2 ^ (n * (i + 1)) % 2 ^ n = x / 2 ^ n / 2 ^ (n * i) % 2 ^ n
    have h : (0 : Int) ≤ 2 ^ n := Int.le_of_lt (Int.pow_pos (by decide))
    rw [Int.ediv_ediv_of_nonneg h, ← Int.pow_add, Nat.mul_add, Nat.mul_one, Nat.add_comm]
theorem digs_eval {n : Nat} : ∀ l : List Int, (∀ z ∈ l, 0 ≤ z ∧ z < 2 ^ n) → digs n l.length (evalP (2 ^ n) l) = l
  | [], _ => rfl
  | z :: r, h => by
    obtain ⟨h1, h2⟩ := h z (.head _)
    have hp : (0 : Int) < 2 ^ n := Int.pow_pos (by decide)
    rw [List.length_cons, digs_cons]
    have e1 : evalP (2 ^ n) (z :: r) % 2 ^ n = z := by
      show (z + 2 ^ n * evalP (2 ^ n) r) % 2 ^ n = z
      rw [Int.add_mul_emod_self_left, Int.emod_eq_of_lt h1 h2]
    have e2 : evalP (2 ^ n) (z :: r) / 2 ^ n = evalP (2 ^ n) r := by
      show (z + 2 ^ n * evalP (2 ^ n) r) / 2 ^ n = _
      rw [Int.add_mul_ediv_left _ _ (by omega), Int.ediv_eq_zero_of_lt h1 h2, Int.zero_add]
    rw [e1, e2, digs_eval r fun x hx => h x (.tail _ hx)]
theorem evalP_append (q : Int) : ∀ a b : List Int, evalP q (a ++ b) = evalP q a + q ^ a.length * evalP q b
  | [], b => by simp [evalP]
  | z :: r, b => by
    rw [List.cons_append, evalP, evalP, evalP_append q r b, List.length_cons, Int.pow_succ, Int.mul_add]
    have : q * (q ^ r.length * evalP q b) = q ^ r.length * q * evalP q b := by ac_rfl
    omega
theorem evalP_range {n : Nat} {l : List Int} (h : ∀ z ∈ l, 0 ≤ z ∧ z < 2 ^ n) : 0 ≤ evalP (2 ^ n) l ∧ evalP (2 ^ n) l < 2 ^ (n * l.length) := by
  have := valD_bound h
  rw [valD_evalP] at this
  exact this
/-- bits between -/
theorem bits_len {a : Int} {n len : Nat} (hn : 0 < n) (hl : 0 < len) (h1 : 2 ^ (n * (len - 1)) ≤ a) (h2 : a < 2 ^ (n * len)) : (((Builtin.Int.intBits a : Nat) : Int) + n - 1).fdiv n = (len : Int) := by
  have ha : 0 < a := Int.lt_of_lt_of_le (Int.pow_pos (by decide)) h1
  have hb := hasBits_of ha
  have hu := bits_of_lt (Int.le_of_lt ha) h2
  have hlo : n * (len - 1) < Builtin.Int.intBits a := by
    rcases Nat.lt_or_ge (n * (len - 1)) (Builtin.Int.intBits a) with h | h
    · exact h
    · exfalso
      have h3 : (2 : Int) ^ Builtin.Int.intBits a ≤ 2 ^ (n * (len - 1)) := by exact_mod_cast Nat.pow_le_pow_right (by decide : 0 < 2) h
      have := hb.2.2
      omega
  generalize Builtin.Int.intBits a = k at *
  rw [Int.fdiv_eq_ediv_of_nonneg _ (by omega)]
  have e : ((k : Int) + n - 1) = ((k + n - 1 : Nat) : Int) := by omega
  rw [e, ← Int.natCast_ediv]
  congr 1
  have e2 : n * len = n * (len - 1) + n := by
    obtain ⟨m, rfl⟩ : ∃ m, len = m + 1 := ⟨len - 1, by omega⟩
    rw [Nat.mul_add, Nat.mul_one, Nat.add_sub_cancel]
  rw [Nat.div_eq_iff hn]
  have e3 : len * n = n * len := Nat.mul_comm _ _
  omega
theorem dig_ok {n : Nat} {l0 : List Int} {z : Int} (hl : ∀ x ∈ l0 ++ [z], 0 ≤ x ∧ x < 2 ^ n) (hz : 0 < z) (hn : 0 < n) (hlen : l0.length + 1 ≤ 64) (hbits : n * (l0.length + 1) ≤ 100000) : DigOk (evalP (2 ^ n) (l0 ++ [z])) n (l0.length + 1) := by
  obtain ⟨h0, h1⟩ := evalP_range hl
  rw [List.length_append, List.length_singleton] at h1
  have hlow : 2 ^ (n * l0.length) ≤ evalP (2 ^ n) (l0 ++ [z]) := by
    rw [evalP_append, ← Int.pow_mul]
    have h2 := (evalP_range (l := l0) fun x hx => hl x (List.mem_append_left _ hx)).1
    have h3 : evalP (2 ^ n) [z] = z := by simp [evalP]
    rw [h3]
    have h4 : (2 : Int) ^ (n * l0.length) * 1 ≤ 2 ^ (n * l0.length) * z := Int.mul_le_mul_of_nonneg_left (by omega) (Int.le_of_lt (Int.pow_pos (by decide)))
    omega
  have ha : 0 < evalP (2 ^ n) (l0 ++ [z]) := Int.lt_of_lt_of_le (Int.pow_pos (by decide)) hlow
  have hb := bits_of_lt h0 h1
  exact ⟨ha, ⟨hn, by
    have : n * 1 ≤ n * (l0.length + 1) := Nat.mul_le_mul_left _ (by omega)
    omega⟩, Nat.le_trans hb hbits, bits_len hn (by omega) (by rw [Nat.add_sub_cancel]; exact hlow) h1, ⟨by omega, hlen⟩, h1⟩
/-- without the noughts on top -/
noncomputable def trimZ : List Int → List Int
  | [] => []
  | z :: r => if trimZ r = [] ∧ z = 0 then [] else z :: trimZ r
theorem trimZ_eval (q : Int) : ∀ l : List Int, evalP q (trimZ l) = evalP q l
  | [] => rfl
  | z :: r => by
    have ih := trimZ_eval q r
    unfold trimZ
    split
    · rename_i h
      rw [h.1] at ih
      show 0 = z + q * evalP q r
      rw [← ih, h.2]
      simp [evalP]
    · show z + q * evalP q (trimZ r) = z + q * evalP q r
      rw [ih]
theorem trimZ_pad : ∀ l : List Int, trimZ l ++ List.replicate (l.length - (trimZ l).length) 0 = l
  | [] => rfl
  | z :: r => by
    have ih := trimZ_pad r
    unfold trimZ
    split
    · rename_i h
      rw [h.1] at ih
      simp at ih
      rw [h.2]
      simp [List.replicate_succ, ih]
    · rw [List.cons_append, List.length_cons, List.length_cons, Nat.add_sub_add_right, ih]
theorem trimZ_last : ∀ l : List Int, trimZ l = [] ∨ ∃ l0 z, trimZ l = l0 ++ [z] ∧ z ≠ 0
  | [] => .inl rfl
  | z :: r => by
    unfold trimZ
    split
    · exact .inl rfl
    · rename_i h
      right
      rcases trimZ_last r with h1 | ⟨l0, y, h1, h2⟩
      · rw [h1] at h ⊢
        exact ⟨[], z, rfl, fun e => h ⟨rfl, e⟩⟩
      · exact ⟨z :: l0, y, by rw [h1]; rfl, h2⟩
theorem trimZ_mem {l : List Int} {x : Int} (h : x ∈ trimZ l) : x ∈ l := by
  rw [← trimZ_pad l]
  exact List.mem_append_left _ h
theorem take_pad {a : List Int} {k n : Nat} (h : (a ++ List.replicate k 0).length = n) : (a ++ List.replicate n (0 : Int)).take n = a ++ List.replicate k 0 := by
  rw [List.length_append, List.length_replicate] at h
  have e : n = a.length + k := h.symm
  rw [List.take_append, List.take_of_length_le (by omega), List.take_replicate]
  congr 2
  omega
/-- folded at six -/
noncomputable def fold6 : Nat → List Int → List Int
  | 0, l => l
  | f + 1, l => if l.length ≤ 6 then l else addP (l.take 6) (fold6 f (l.drop 6))
theorem fold6_mod (q : Int) : ∀ (f : Nat) (l : List Int), ∃ c, evalP q l = evalP q (fold6 f l) + (q ^ 6 - 1) * c
  | 0, l => ⟨0, by simp [fold6]⟩
  | f + 1, l => by
    unfold fold6
    split
    · exact ⟨0, by simp⟩
    · rename_i h
      obtain ⟨c, hc⟩ := fold6_mod q f (l.drop 6)
      refine ⟨evalP q (fold6 f (l.drop 6)) + q ^ 6 * c, ?_⟩
      have e : evalP q l = evalP q (l.take 6) + q ^ 6 * evalP q (l.drop 6) := by
        have := evalP_append q (l.take 6) (l.drop 6)
        rw [List.take_append_drop, List.length_take] at this
        rw [this]
        congr 3
        omega
      rw [e, evalP_add, hc]
      generalize evalP q (fold6 f (l.drop 6)) = X
      generalize evalP q (l.take 6) = Y
      generalize q ^ 6 = R
      have e1 : (R - 1) * (X + R * c) = R * X - X + (R - 1) * (R * c) := by rw [Int.mul_add, Int.sub_mul R 1 X, Int.one_mul]
      have e2 : R * (X + (R - 1) * c) = R * X + (R - 1) * (R * c) := by
        rw [Int.mul_add]
        have : R * ((R - 1) * c) = (R - 1) * (R * c) := by ac_rfl
        omega
      omega

-- P3
/-- how many words have each number of turns that leave them as they are, for each triple of counts -/
noncomputable def hsTab : List (List Int) := [[0, 0, 0, 0, 0, 0, 1], [0, 6, 0, 0, 0, 0, 0], [0, 12, 3, 0, 0, 0, 0], [0, 18, 0, 2, 0, 0, 0], [0, 12, 3, 0, 0, 0, 0], [0, 6, 0, 0, 0, 0, 0], [0, 0, 0, 0, 0, 0, 1], [0, 6, 0, 0, 0, 0, 0], [0, 30, 0, 0, 0, 0, 0], [0, 60, 0, 0, 0, 0, 0], [0, 60, 0, 0, 0, 0, 0], [0, 30, 0, 0, 0, 0, 0], [0, 6, 0, 0, 0, 0, 0], [], [0, 12, 3, 0, 0, 0, 0], [0, 60, 0, 0, 0, 0, 0], [0, 84, 6, 0, 0, 0, 0], [0, 60, 0, 0, 0, 0, 0], [0, 12, 3, 0, 0, 0, 0], [], [], [0, 18, 0, 2, 0, 0, 0], [0, 60, 0, 0, 0, 0, 0], [0, 60, 0, 0, 0, 0, 0], [0, 18, 0, 2, 0, 0, 0], [], [], [], [0, 12, 3, 0, 0, 0, 0], [0, 30, 0, 0, 0, 0, 0], [0, 12, 3, 0, 0, 0, 0], [], [], [], [], [0, 6, 0, 0, 0, 0, 0], [0, 6, 0, 0, 0, 0, 0], [], [], [], [], [], [0, 0, 0, 0, 0, 0, 1], [], [], [], [], [], []]
noncomputable def hsT (c0 c1 : Nat) : List Int := hsTab.getD (c0 * 7 + c1) []
noncomputable def hsZ (c0 c1 c2 : Nat) : List Int := oftenZ 6 ((wordsZ c0 c1 c2).map stayZ)
theorem hs_table : ∀ c0 < 7, ∀ c1 < 7, ∀ c2 < 7, c0 + c1 + c2 = 6 → hsZ c0 c1 c2 = hsT c0 c1 := by
  decide +kernel
theorem fold_tableT : ∀ c0 < 7, ∀ c1 < 7, c0 + c1 ≤ 6 → trimZ (fold6 10 (fallsT c0 c1)) = trimZ ((List.range 6).map (clsZ (hsT c0 c1))) := by
  decide +kernel
theorem fold_table {c0 c1 c2 : Nat} (h : c0 + c1 + c2 = 6) : trimZ (fold6 10 (fallsP c0 c1 c2 (degZ c0 c1 c2))) = trimZ ((List.range 6).map (clsZ (hsT c0 c1))) := by
  rw [falls_table c0 (by omega) c1 (by omega) c2 (by omega) h]
  exact fold_tableT c0 (by omega) c1 (by omega) (by omega)
/-- the part k of the classes' sum at corner e, turn t, over the first n places -/
noncomputable def kZ (cs : List Int) (t k e : Nat) : Nat → Int
  | 0 => 0
  | n + 1 => kZ cs t k e n + cs.getD n 0 * pK k (e + n * t % 6)
noncomputable def sumZ (cs : List Int) : Nat → Int
  | 0 => 0
  | n + 1 => sumZ cs n + cs.getD n 0
noncomputable def spareZ (cs : List Int) (F : Int) (t e : Nat) : Int := kZ cs t 0 e 6 - F * pK 0 e
noncomputable def lightB (hs cs : List Int) : Bool := (List.range 6).all fun t => (List.range 7).all fun e =>
  decide (kZ cs t 1 e 6 = spareZ cs (sprL hs t 4).sum t e + (sprL hs t 4).sum * pK 1 e) && decide (kZ cs t 2 e 6 = spareZ cs (sprL hs t 4).sum t e + (sprL hs t 4).sum * pK 2 e) &&
  decide (0 ≤ spareZ cs (sprL hs t 4).sum t e) && decide (spareZ cs (sprL hs t 4).sum t e < sumZ cs 6) && decide (spareZ cs (sprL hs t 4).sum t e + (sprL hs t 4).sum ≤ sumZ cs 6) && decide (0 ≤ (sprL hs t 4).sum)
theorem light_table : ∀ c0 < 7, ∀ c1 < 7, c0 + c1 ≤ 6 → lightB (hsT c0 c1) ((List.range 6).map (clsZ (hsT c0 c1))) = true := by
  decide +kernel
noncomputable def plainB (hs cs : List Int) : Bool := decide (hs.length = 7) && hs.all (fun z => decide (0 ≤ z) && decide (z ≤ 1000)) && decide (cs.length = 6) && cs.all (fun z => decide (0 ≤ z) && decide (z ≤ 100)) && decide (sumZ cs 6 ≤ 100) && decide (trimZ cs ≠ [])
theorem plain_table : ∀ c0 < 7, ∀ c1 < 7, c0 + c1 ≤ 6 → plainB (hsT c0 c1) ((List.range 6).map (clsZ (hsT c0 c1))) = true := by
  decide +kernel

-- P4
theorem fin_alg (S sh r C0 C1 F p0 p1 : Int) : 16384 * S - sh * ((64 - r) * (C0 + F * p0) + r * (C1 + F * p1)) = 16384 * S - sh * ((64 - r) * C0 + r * C1) - sh * F * ((64 - r) * p0 + r * p1) := by
  grind
theorem step_alg (S sh r A B c p0 p1 : Int) : 16384 * S - sh * ((64 - r) * A + r * B) + c * (16384 - sh * ((64 - r) * p0 + r * p1)) = 16384 * (S + c) - sh * ((64 - r) * (A + c * p0) + r * (B + c * p1)) := by
  grind
theorem paints_get {b sh t4 j k : Nat} (hb : b < 384) (hs : sh ≤ 256) (h4 : t4 < 4) (hj : j < 6) (hk : k < 3) : ((((List.range 6).map fun (i : Nat) => paintZ b sh t4 i)).getD j []).getD k 0 = 16384 - (sh : Int) * rho k (b / 64 + j) ((b % 64 : Nat) : Int) := by
  have e : (((List.range 6).map fun (i : Nat) => paintZ b sh t4 i)).getD j [] = paintZ b sh t4 j := by
    rw [List.getD_eq_getElem?_getD, List.getElem?_map, List.getElem?_range hj]
    rfl
  rw [e, (paint_facts hb hs h4 hj).1]
  have : k = 0 ∨ k = 1 ∨ k = 2 := by omega
  rcases this with rfl | rfl | rfl <;> rfl
theorem mix_sum {b sh t4 : Nat} (hb : b < 384) (hs : sh ≤ 256) (h4 : t4 < 4) (cs : List Int) (t k : Nat) (hk : k < 3) : ∀ n : Nat,
    mixZ cs ((List.range 6).map fun (i : Nat) => paintZ b sh t4 i) t k n = 16384 * sumZ cs n - (sh : Int) * ((64 - ((b % 64 : Nat) : Int)) * kZ cs t k (b / 64) n + ((b % 64 : Nat) : Int) * kZ cs t k (b / 64 + 1) n)
  | 0 => by simp [mixZ, sumZ, kZ]
  | n + 1 => by
    rw [mixZ, mix_sum hb hs h4 cs t k hk n, paints_get hb hs h4 (Nat.mod_lt _ (by decide)) hk, sumZ, kZ, kZ]
    unfold rho
    have e : b / 64 + n * t % 6 + 1 = b / 64 + 1 + n * t % 6 := by omega
    rw [e]
    exact step_alg _ _ _ _ _ _ _ _
theorem range_mem {n i : Nat} (h : i < n) : i ∈ List.range n := List.mem_range.mpr h
theorem light_facts {hs cs : List Int} (h : lightB hs cs = true) {t e : Nat} (ht : t < 6) (he : e < 7) :
    kZ cs t 0 e 6 = spareZ cs (sprL hs t 4).sum t e + (sprL hs t 4).sum * pK 0 e ∧ kZ cs t 1 e 6 = spareZ cs (sprL hs t 4).sum t e + (sprL hs t 4).sum * pK 1 e ∧ kZ cs t 2 e 6 = spareZ cs (sprL hs t 4).sum t e + (sprL hs t 4).sum * pK 2 e ∧
    0 ≤ spareZ cs (sprL hs t 4).sum t e ∧ spareZ cs (sprL hs t 4).sum t e < sumZ cs 6 ∧ spareZ cs (sprL hs t 4).sum t e + (sprL hs t 4).sum ≤ sumZ cs 6 ∧ 0 ≤ (sprL hs t 4).sum := by
  unfold lightB at h
  rw [List.all_eq_true] at h
  have h1 := h t (range_mem ht)
  rw [List.all_eq_true] at h1
  have h2 := h1 e (range_mem he)
  simp only [Bool.and_eq_true, decide_eq_true_eq] at h2
  obtain ⟨⟨⟨⟨⟨a, b⟩, c⟩, d⟩, f⟩, g⟩ := h2
  refine ⟨?_, a, b, c, d, f, g⟩
  unfold spareZ
  omega
theorem turns_ok {hs cs : List Int} (h : lightB hs cs = true) (hp : plainB hs cs = true) {b sh t4 : Nat} (hb : b < 384) (hs6 : sh ≤ 256) (h4 : t4 < 4) (i : Nat) (hi : i < 6) :
    ∃ ls hb' sb lv sp, TurnOk cs ((List.range 6).map fun (i : Nat) => paintZ b sh t4 i) hs b sh i ls hb' sb lv sp := by
  obtain ⟨a0, a1, a2, c0, c1, c2, c3⟩ := light_facts h hi (e := b / 64) (by omega)
  obtain ⟨b0, b1, b2, d0, d1, d2, d3⟩ := light_facts h hi (e := b / 64 + 1) (by omega)
  have hS : sumZ cs 6 ≤ 100 := by
    unfold plainB at hp
    simp only [Bool.and_eq_true, decide_eq_true_eq] at hp
    exact hp.1.2
  have hm := fun k (hk : k < 3) => mix_sum hb hs6 h4 cs i k hk 6
  obtain ⟨F, hF⟩ : ∃ F, (sprL hs i 4).sum = F := ⟨_, rfl⟩
  rw [hF] at a0 a1 a2 b0 b1 b2 c0 c1 c2 c3 d0 d1 d2 d3
  generalize spareZ cs F i (b / 64) = C0 at *
  generalize spareZ cs F i (b / 64 + 1) = C1 at *
  generalize hSe : sumZ cs 6 = S at *
  have hr0 : (0 : Int) ≤ ((b % 64 : Nat) : Int) := by omega
  have hr1 : ((b % 64 : Nat) : Int) ≤ 64 := by omega
  have hmix : ∀ k, k < 3 → mixZ cs ((List.range 6).map fun (i : Nat) => paintZ b sh t4 i) i k 6 = 16384 * S - (sh : Int) * ((64 - ((b % 64 : Nat) : Int)) * C0 + ((b % 64 : Nat) : Int) * C1) - (sh : Int) * F * rho k (b / 64) ((b % 64 : Nat) : Int) := by
    intro k hk
    rw [hm k hk]
    unfold rho
    have : k = 0 ∨ k = 1 ∨ k = 2 := by omega
    rcases this with rfl | rfl | rfl
    · rw [a0, b0]; exact fin_alg _ _ _ _ _ _ _ _
    · rw [a1, b1]; exact fin_alg _ _ _ _ _ _ _ _
    · rw [a2, b2]; exact fin_alg _ _ _ _ _ _ _ _
  generalize hre : ((b % 64 : Nat) : Int) = r at *
  have u0 : 0 ≤ (64 - r) * C0 := Int.mul_nonneg (by omega) c0
  have u1 : 0 ≤ r * C1 := Int.mul_nonneg hr0 d0
  have v0 : (64 - r) * C0 ≤ (64 - r) * (S - 1) := Int.mul_le_mul_of_nonneg_left (by omega) (by omega)
  have v1 : r * C1 ≤ r * (S - 1) := Int.mul_le_mul_of_nonneg_left (by omega) hr0
  have v2 : (64 - r) * (S - 1) + r * (S - 1) = 64 * (S - 1) := by rw [← Int.add_mul]; congr 1; omega
  have w0 : (64 - r) * (C0 + F) ≤ (64 - r) * S := Int.mul_le_mul_of_nonneg_left (by omega) (by omega)
  have w1 : r * (C1 + F) ≤ r * S := Int.mul_le_mul_of_nonneg_left (by omega) hr0
  have w2 : (64 - r) * S + r * S = 64 * S := by rw [← Int.add_mul]; congr 1; omega
  have w3 : (64 - r) * (C0 + F) + r * (C1 + F) = (64 - r) * C0 + r * C1 + 64 * F := by grind
  have x0 : 0 ≤ (sh : Int) * ((64 - r) * C0 + r * C1) := Int.mul_nonneg (by omega) (by omega)
  have x1 : (sh : Int) * ((64 - r) * C0 + r * C1) ≤ 256 * ((64 - r) * C0 + r * C1) := Int.mul_le_mul_of_nonneg_right (by omega) (by omega)
  have x2 : (sh : Int) * ((64 - r) * C0 + r * C1 + 64 * F) ≤ 256 * ((64 - r) * C0 + r * C1 + 64 * F) := Int.mul_le_mul_of_nonneg_right (by omega) (by omega)
  have x3 : (sh : Int) * ((64 - r) * C0 + r * C1 + 64 * F) = (sh : Int) * ((64 - r) * C0 + r * C1) + 64 * ((sh : Int) * F) := by grind
  refine turn_ok hb c3 hF (M := 16384 * S - (sh : Int) * ((64 - r) * C0 + r * C1)) ?_ ?_ ?_ (by rw [hre]; exact hmix)
  · omega
  · omega
  · omega

-- P5
theorem pow_one_le {q : Int} (hq : 2 ≤ q) (n : Nat) : 1 ≤ q ^ n := by
  have : 0 < q ^ n := Int.pow_pos (show (0 : Int) < q by omega)
  omega
theorem pow_ge {q : Int} (hq : 2 ≤ q) (n : Nat) : q ≤ q ^ (n + 1) := by
  rw [Int.pow_succ]
  have := Int.mul_le_mul_of_nonneg_right (pow_one_le hq n) (show (0 : Int) ≤ q by omega)
  omega
theorem steps_pos {q : Int} (hq : 2 ≤ q) : ∀ n : Nat, 0 < stepsZ q n
  | 0 => by show (0 : Int) < 1; decide
  | n + 1 => by
    have := pow_ge hq n
    exact Int.mul_pos (steps_pos hq n) (by omega)
theorem steps_ge {q : Int} (hq : 2 ≤ q) : ∀ n : Nat, 1 ≤ n → q - 1 ≤ stepsZ q n
  | 0, h => by omega
  | n + 1, _ => by
    have h1 := steps_pos hq n
    have h2 := pow_ge hq n
    show q - 1 ≤ stepsZ q n * (q ^ (n + 1) - 1)
    have h3 := Int.mul_le_mul_of_nonneg_right (show 1 ≤ stepsZ q n by omega) (show (0 : Int) ≤ q ^ (n + 1) - 1 by omega)
    omega
noncomputable def tri : Nat → Nat
  | 0 => 0
  | n + 1 => tri n + (n + 1)
theorem steps_le {q : Int} (hq : 2 ≤ q) : ∀ n : Nat, stepsZ q n ≤ q ^ tri n
  | 0 => by simp [stepsZ, tri]
  | n + 1 => by
    show stepsZ q n * (q ^ (n + 1) - 1) ≤ q ^ (tri n + (n + 1))
    have e0 : q ^ (tri n + (n + 1)) = q ^ tri n * q ^ (n + 1) := Int.pow_add ..
    rw [e0]
    have h1 := steps_le hq n
    have h2 := pow_one_le hq (n + 1)
    have h3 := Int.mul_le_mul_of_nonneg_right h1 (show (0 : Int) ≤ q ^ (n + 1) by omega)
    have h4 : stepsZ q n * (q ^ (n + 1) - 1) = stepsZ q n * q ^ (n + 1) - stepsZ q n := by rw [Int.mul_sub, Int.mul_one]
    have h5 := steps_pos hq n
    omega
theorem bits_ge {a : Int} {n : Nat} (h : 2 ^ n - 1 ≤ a) (hn : 1 ≤ n) : n ≤ Builtin.Int.intBits a := by
  have h2 : (2 : Int) ≤ 2 ^ n := by
    obtain ⟨m, rfl⟩ : ∃ m, n = m + 1 := ⟨n - 1, by omega⟩
    exact pow_ge (by decide) m
  have hb := hasBits_of (show 0 < a by omega)
  rcases Nat.lt_or_ge (Builtin.Int.intBits a) n with h3 | h3
  · exfalso
    have h4 : (2 : Int) ^ (Builtin.Int.intBits a + 1) ≤ 2 ^ n := by exact_mod_cast Nat.pow_le_pow_right (by decide : 0 < 2) h3
    rw [Int.pow_succ] at h4
    have := hb.2.2
    have := pow_one_le (q := 2) (by decide) (Builtin.Int.intBits a)
    omega
  · exact h3
theorem eval_small {q : Int} (hq : 2 ≤ q) : ∀ l : List Int, (∀ z ∈ l, 0 ≤ z ∧ z ≤ q - 2) → 0 ≤ evalP q l ∧ evalP q l ≤ q ^ l.length - 1 ∧ (l ≠ [] → evalP q l ≤ q ^ l.length - 2)
  | [], _ => by simp [evalP]
  | z :: r, h => by
    obtain ⟨h0, h1, _⟩ := eval_small hq r fun x hx => h x (.tail _ hx)
    have hz := h z (.head _)
    have e : evalP q (z :: r) = z + q * evalP q r := rfl
    have e2 : q ^ (z :: r).length = q * q ^ r.length := by rw [List.length_cons, Int.pow_succ, Int.mul_comm]
    have h3 := Int.mul_le_mul_of_nonneg_left h1 (show (0 : Int) ≤ q by omega)
    have h4 : q * (q ^ r.length - 1) = q * q ^ r.length - q := by rw [Int.mul_sub, Int.mul_one]
    have h5 : 0 ≤ q * evalP q r := Int.mul_nonneg (by omega) h0
    rw [e, e2]
    exact ⟨by omega, by omega, fun _ => by omega⟩
/-- what the law's stages ask of the three kinds' counts and of the width -/
structure NumOk (c0 c1 c2 wd : Nat) (y : Int) (ex cnt ag la : Int) (len lenq : Nat) : Prop where
  hbb : Builtin.Int.intBits (2 ^ wd : Int) ≤ 700
  m1 : IntMulOk (stepsZ (2 ^ wd) c0) (stepsZ (2 ^ wd) c1)
  m2 : IntMulOk (stepsZ (2 ^ wd) c0 * stepsZ (2 ^ wd) c1) (stepsZ (2 ^ wd) c2)
  hU : stepsZ (2 ^ wd) c0 * stepsZ (2 ^ wd) c1 * stepsZ (2 ^ wd) c2 ≠ 0
  e6 : y.fmod (stepsZ (2 ^ wd) c0 * stepsZ (2 ^ wd) c1 * stepsZ (2 ^ wd) c2) = ex
  dv : DivOk (stepsZ (2 ^ wd) 6 + ex) (stepsZ (2 ^ wd) c0 * stepsZ (2 ^ wd) c1 * stepsZ (2 ^ wd) c2)
  dq : (stepsZ (2 ^ wd) 6 + ex) / (stepsZ (2 ^ wd) c0 * stepsZ (2 ^ wd) c1 * stepsZ (2 ^ wd) c2) = cnt
  dr : (stepsZ (2 ^ wd) 6 + ex) % (stepsZ (2 ^ wd) c0 * stepsZ (2 ^ wd) c1 * stepsZ (2 ^ wd) c2) = ex
  hdg : DigOk cnt wd len
  heq : digs wd len cnt = fallsP c0 c1 c2 (degZ c0 c1 c2)
  dv2 : DivOk cnt ((2 ^ wd : Int) ^ 6 - 1)
  dq2 : cnt / ((2 ^ wd : Int) ^ 6 - 1) = ag
  dr2 : cnt % ((2 ^ wd : Int) ^ 6 - 1) = la
  hm : IntMulOk ag ((2 ^ wd : Int) ^ 6 - 1)
  hs : ag * ((2 ^ wd : Int) ^ 6 - 1) + la = cnt
  hdg2 : DigOk la wd lenq
  hl6 : lenq ≤ 6
  hcl : (digs wd lenq la ++ List.replicate 6 0).take 6 = (List.range 6).map (clsZ (hsT c0 c1))
theorem deg_table : ∀ c0 < 7, ∀ c1 < 7, ∀ c2 < 7, c0 + c1 + c2 = 6 → degZ c0 c1 c2 + 1 ≤ 64 := by decide +kernel
theorem le_mulR {a b : Int} (ha : 0 < a) (hb : 0 < b) : a ≤ a * b := by
  have := Int.mul_le_mul_of_nonneg_left (show (1 : Int) ≤ b from hb) (Int.le_of_lt ha)
  rwa [Int.mul_one] at this
theorem le_mulL {a b : Int} (ha : 0 < a) (hb : 0 < b) : b ≤ a * b := Int.mul_comm b a ▸ le_mulR hb ha
theorem lt_two {a P : Int} (h : a ≤ P) (hP : 1 ≤ P) : a < P * 2 := by omega
theorem lt_two2 {a b P : Int} (h : a ≤ P) (h2 : b < P) : a + b < P * 2 := by omega
theorem tri_le : ∀ n < 7, tri n ≤ 21 := by decide
theorem num_ok {c0 c1 c2 wd : Nat} (h6 : c0 + c1 + c2 = 6) (hw : 8 ≤ wd) (hw2 : wd ≤ 607) (y : Int) : ∃ ex cnt ag la len lenq, NumOk c0 c1 c2 wd y ex cnt ag la len lenq := by
  have hq256 : (256 : Int) ≤ 2 ^ wd := by
    have : (2 : Int) ^ 8 ≤ 2 ^ wd := by exact_mod_cast Nat.pow_le_pow_right (by decide : 0 < 2) hw
    exact this
  have hq2 : (2 : Int) ≤ 2 ^ wd := Int.le_trans (by decide) hq256
  have k0 : c0 < 7 := by omega
  have k1 : c1 < 7 := by omega
  have k2 : c2 < 7 := by omega
  have hmah := mahonian_int h6 (2 ^ wd)
  have hff := falls_facts h6
  obtain ⟨⟨⟨⟨⟨⟨f1, f2⟩, f3⟩, f4⟩, f5⟩, f6⟩, f7⟩ := hff
  have hplain := plain_table c0 k0 c1 k1 (h6 ▸ Nat.le_add_right _ _)
  unfold plainB at hplain
  simp only [Bool.and_eq_true, decide_eq_true_eq, List.all_eq_true] at hplain
  obtain ⟨⟨⟨⟨⟨p1, p2⟩, p3⟩, p4⟩, p5⟩, p6⟩ := hplain
  have hfold := fold_table h6
  have hfl : (fallsP c0 c1 c2 (degZ c0 c1 c2)).length = degZ c0 c1 c2 + 1 := by unfold fallsP oftenZ; simp
  have hdeg := deg_table c0 k0 c1 k1 c2 k2 h6
  -- the quotient
  have hw0 : 0 < wd := Nat.lt_of_lt_of_le (by decide) hw
  obtain ⟨l0, hl0⟩ : ∃ l0, fallsP c0 c1 c2 (degZ c0 c1 c2) = l0 ++ [1] := List.getLast?_eq_some_iff.mp f7
  have hent : ∀ z ∈ fallsP c0 c1 c2 (degZ c0 c1 c2), 0 ≤ z ∧ z < 2 ^ wd := fun z hz => ⟨(f3 z hz).1, Int.lt_of_lt_of_le (f3 z hz).2 hq256⟩
  have hll : l0.length = degZ c0 c1 c2 := by
    have := congrArg List.length hl0
    rw [hfl, List.length_append, List.length_singleton] at this
    exact Nat.succ.inj this.symm
  have hdgA := dig_ok (n := wd) (l0 := l0) (z := 1) (by rw [← hl0]; exact hent) (by decide) hw0 (hll ▸ hdeg) (Nat.le_trans (Nat.mul_le_mul hw2 (hll ▸ hdeg)) (by decide))
  rw [← hl0] at hdgA
  have hdigA := digs_eval _ hent
  rw [hfl] at hdigA
  have hcpos := hdgA.ha
  generalize hcnt : evalP (2 ^ wd) (fallsP c0 c1 c2 (degZ c0 c1 c2)) = cnt at *
  -- sizes
  have s0 := steps_pos hq2 c0
  have s1 := steps_pos hq2 c1
  have s2 := steps_pos hq2 c2
  have hUpos : 0 < stepsZ (2 ^ wd) c0 * stepsZ (2 ^ wd) c1 * stepsZ (2 ^ wd) c2 := Int.mul_pos (Int.mul_pos s0 s1) s2
  have hUge : (2 : Int) ^ wd - 1 ≤ stepsZ (2 ^ wd) c0 * stepsZ (2 ^ wd) c1 * stepsZ (2 ^ wd) c2 := by
    rcases Nat.eq_zero_or_pos c0 with e | e
    · rcases Nat.eq_zero_or_pos c1 with e' | e'
      · exact Int.le_trans (steps_ge hq2 c2 (by omega)) (le_mulL (Int.mul_pos s0 s1) s2)
      · exact Int.le_trans (steps_ge hq2 c1 e') (Int.le_trans (le_mulL s0 s1) (le_mulR (Int.mul_pos s0 s1) s2))
    · exact Int.le_trans (steps_ge hq2 c0 e) (Int.le_trans (le_mulR s0 s1) (le_mulR (Int.mul_pos s0 s1) s2))
  have h6le : stepsZ (2 ^ wd) 6 ≤ 2 ^ (wd * 21) := by
    have := steps_le hq2 6
    rw [← Int.pow_mul] at this
    exact this
  have bs := fun n (hn : n ≤ 6) => bits_of_lt (a := stepsZ (2 ^ wd) n) (n := wd * tri n + 1) (Int.le_of_lt (steps_pos hq2 n)) (by
    have h1 := steps_le hq2 n
    rw [← Int.pow_mul] at h1
    rw [Int.pow_succ]
    exact lt_two h1 (pow_one_le (q := 2) (by decide) (wd * tri n)))
  have tr : ∀ n, n ≤ 6 → wd * tri n + 1 ≤ 12748 := fun n hn => Nat.succ_le_succ (Nat.le_trans (Nat.mul_le_mul hw2 (tri_le n (Nat.lt_succ_of_le hn))) (by decide))
  have j0 := Nat.le_of_lt_succ k0
  have j1 := Nat.le_of_lt_succ k1
  have j2 := Nat.le_of_lt_succ k2
  have ex0 := Int.fmod_nonneg_of_pos y hUpos
  have ex1 := Int.fmod_lt_of_pos y hUpos
  have b01 : Builtin.Int.intBits (stepsZ (2 ^ wd) c0 * stepsZ (2 ^ wd) c1) ≤ 30000 := Nat.le_trans (intBits_mul_le (bs c0 j0) (bs c1 j1)) (Nat.le_trans (Nat.add_le_add (tr c0 j0) (tr c1 j1)) (by decide))
  have M1 : IntMulOk (stepsZ (2 ^ wd) c0) (stepsZ (2 ^ wd) c1) := IntMulOk.of_le (bs c0 j0) (bs c1 j1) (Nat.le_trans (Nat.add_le_add (tr c0 j0) (tr c1 j1)) (by decide))
  have M2 : IntMulOk (stepsZ (2 ^ wd) c0 * stepsZ (2 ^ wd) c1) (stepsZ (2 ^ wd) c2) := IntMulOk.of_le b01 (bs c2 j2) (Nat.le_trans (Nat.add_le_add_left (tr c2 j2) _) (by decide))
  generalize hUe : stepsZ (2 ^ wd) c0 * stepsZ (2 ^ wd) c1 * stepsZ (2 ^ wd) c2 = U at *
  have hUS : U ≤ stepsZ (2 ^ wd) 6 := hmah ▸ le_mulL hcpos hUpos
  have hcS : cnt ≤ stepsZ (2 ^ wd) 6 := hmah ▸ le_mulR hcpos hUpos
  have e21 : (2 : Int) ^ (wd * 21 + 1) = 2 ^ (wd * 21) * 2 := Int.pow_succ ..
  have p21 := pow_one_le (q := 2) (by decide) (wd * 21)
  have w21 : wd * 21 + 1 ≤ 12748 := tr 6 (by decide)
  have w60 : wd * 21 + 1 ≤ 60 * wd := by omega
  have w6 : wd * 6 ≤ 3642 := Nat.mul_le_mul_right 6 hw2
  have hSp := steps_pos hq2 6
  have lim : ∀ a : Int, a ≤ stepsZ (2 ^ wd) 6 → a < 2 ^ (wd * 21 + 1) := fun a ha => e21 ▸ lt_two (Int.le_trans ha h6le) p21
  have bU := bits_of_lt (a := U) (n := wd * 21 + 1) (Int.le_of_lt hUpos) (lim _ hUS)
  have bA := bits_of_lt (a := stepsZ (2 ^ wd) 6 + y.fmod U) (n := wd * 21 + 1) (Int.add_nonneg (Int.le_of_lt hSp) ex0) (e21 ▸ lt_two2 h6le (Int.lt_of_lt_of_le ex1 (Int.le_trans hUS h6le)))
  have bC := bits_of_lt (a := cnt) (n := wd * 21 + 1) (Int.le_of_lt hcpos) (lim _ hcS)
  have gU := bits_ge hUge hw0
  have big : 12748 ≤ 15000 := by decide
  have big2 : 12748 ≤ 100000 := by decide
  have DV : DivOk (stepsZ (2 ^ wd) 6 + y.fmod U) U := DivOk.of (Int.add_pos_of_pos_of_nonneg hSp ex0) hUpos (Nat.le_trans bU (Nat.le_trans w21 big)) (Nat.le_trans bA (Nat.le_trans w21 big2)) (Nat.le_trans bA (Nat.le_trans w60 (Nat.mul_le_mul_left 60 gU)))
  -- the ring of the sixth power
  have h6pow : (2 ^ wd : Int) ^ 6 = 2 ^ (wd * 6) := by rw [← Int.pow_mul]
  have hWge : (2 : Int) ^ wd - 1 ≤ (2 ^ wd : Int) ^ 6 - 1 := by
    exact Int.sub_le_sub_right (pow_ge hq2 5) 1
  have hWpos : 0 < (2 ^ wd : Int) ^ 6 - 1 := Int.lt_of_lt_of_le (Int.sub_pos.mpr hq2) hWge
  have bW := bits_of_lt (a := (2 ^ wd : Int) ^ 6 - 1) (n := wd * 6) (Int.le_of_lt hWpos) (by rw [h6pow]; exact Int.sub_lt_self _ (by decide))
  have gW := bits_ge hWge hw0
  have hent2 : ∀ z ∈ (List.range 6).map (clsZ (hsT c0 c1)), 0 ≤ z ∧ z < 2 ^ wd := fun z hz => ⟨(p4 z hz).1, Int.lt_of_le_of_lt (p4 z hz).2 (Int.lt_of_lt_of_le (by decide) hq256)⟩
  have hevs := eval_small hq2 ((List.range 6).map (clsZ (hsT c0 c1))) fun z hz => ⟨(p4 z hz).1, Int.le_trans (p4 z hz).2 (Int.le_sub_right_of_add_le (Int.le_trans (by decide) hq256))⟩
  rw [p3] at hevs
  have hne : (List.range 6).map (clsZ (hsT c0 c1)) ≠ [] := by intro h; rw [h] at p3; simp at p3
  obtain ⟨c, hc⟩ := fold6_mod (2 ^ wd) 10 (fallsP c0 c1 c2 (degZ c0 c1 c2))
  have hfe : evalP (2 ^ wd) (fold6 10 (fallsP c0 c1 c2 (degZ c0 c1 c2))) = evalP (2 ^ wd) ((List.range 6).map (clsZ (hsT c0 c1))) := by
    rw [← trimZ_eval, hfold, trimZ_eval]
  rw [hfe, hcnt] at hc
  have hla : cnt % ((2 ^ wd : Int) ^ 6 - 1) = evalP (2 ^ wd) ((List.range 6).map (clsZ (hsT c0 c1))) := by
    rw [hc, Int.add_mul_emod_self_left]
    exact Int.emod_eq_of_lt hevs.1 (Int.lt_of_le_of_lt (hevs.2.2 hne) (Int.sub_lt_sub_left (by decide) _))
  have hpadl := trimZ_pad ((List.range 6).map (clsZ (hsT c0 c1)))
  have hlast := trimZ_last ((List.range 6).map (clsZ (hsT c0 c1)))
  rcases hlast with hl | ⟨l1, z, hl, hz⟩
  · exact absurd hl p6
  · have hmem : ∀ x ∈ l1 ++ [z], 0 ≤ x ∧ x < 2 ^ wd := fun x hx => hent2 x (trimZ_mem (by rw [hl]; exact hx))
    have hz0 : 0 < z := Int.lt_iff_le_and_ne.mpr ⟨(hmem z (by simp)).1, Ne.symm hz⟩
    have hlen6 : l1.length + 1 ≤ 6 := by
      have := congrArg List.length hpadl
      rw [List.length_append, p3, hl, List.length_append, List.length_singleton] at this
      omega
    have hdgB := dig_ok (n := wd) hmem hz0 hw0 (Nat.le_trans hlen6 (by decide)) (Nat.le_trans (Nat.mul_le_mul hw2 hlen6) (by decide))
    have hlae : evalP (2 ^ wd) (l1 ++ [z]) = cnt % ((2 ^ wd : Int) ^ 6 - 1) := by rw [← hl, trimZ_eval, hla]
    have hdigB := digs_eval _ hmem
    rw [List.length_append, List.length_singleton] at hdigB
    rw [hlae] at hdgB hdigB
    have hag0 : 0 ≤ cnt / ((2 ^ wd : Int) ^ 6 - 1) := Int.ediv_nonneg (Int.le_of_lt hcpos) (Int.le_of_lt hWpos)
    have hagle : cnt / ((2 ^ wd : Int) ^ 6 - 1) ≤ cnt := Int.ediv_le_self _ (Int.le_of_lt hcpos)
    have bG := bits_of_lt (a := cnt / ((2 ^ wd : Int) ^ 6 - 1)) (n := wd * 21 + 1) hag0 (lim _ (Int.le_trans hagle hcS))
    subst hUe
    refine ⟨y.fmod (stepsZ (2 ^ wd) c0 * stepsZ (2 ^ wd) c1 * stepsZ (2 ^ wd) c2), cnt, cnt / ((2 ^ wd : Int) ^ 6 - 1), cnt % ((2 ^ wd : Int) ^ 6 - 1), degZ c0 c1 c2 + 1, l1.length + 1, ?_⟩
    constructor
    · exact Nat.le_trans (bits_of_lt (n := wd + 1) (Int.le_trans (by decide) hq2) (by rw [Int.pow_succ]; exact lt_two (Int.le_refl _) (Int.le_trans (by decide) hq2))) (Nat.le_trans (Nat.succ_le_succ hw2) (by decide))
    · exact M1
    · exact M2
    · exact Int.ne_of_gt hUpos
    · rfl
    · exact DV
    · rw [← hmah, Int.add_comm, Int.add_mul_ediv_right _ _ (Int.ne_of_gt hUpos), Int.ediv_eq_zero_of_lt ex0 ex1, Int.zero_add]
    · rw [← hmah, Int.add_comm, Int.add_mul_emod_self_right, Int.emod_eq_of_lt ex0 ex1]
    · rw [← hll]; exact hdgA
    · exact hdigA
    · exact DivOk.of hcpos hWpos (Nat.le_trans bW (Nat.le_trans w6 (by decide))) (Nat.le_trans bC (Nat.le_trans w21 big2)) (Nat.le_trans bC (Nat.le_trans w60 (Nat.mul_le_mul_left 60 gW)))
    · rfl
    · rfl
    · exact IntMulOk.of_le bG bW (Nat.le_trans (Nat.add_le_add w21 w6) (by decide))
    · exact Int.ediv_mul_add_emod _ _
    · exact hdgB
    · exact hlen6
    · rw [hdigB, ← hl]
      have h2 := take_pad (a := trimZ ((List.range 6).map (clsZ (hsT c0 c1)))) (k := ((List.range 6).map (clsZ (hsT c0 c1))).length - (trimZ ((List.range 6).map (clsZ (hsT c0 c1)))).length) (n := 6) (by rw [hpadl]; exact p3)
      rw [h2, hpadl]

-- P6
theorem count_three : ∀ l : List Int, (∀ z ∈ l, z = 0 ∨ z = 1 ∨ z = 2) → l.count 0 + l.count 1 + l.count 2 = l.length
  | [], _ => rfl
  | z :: r, h => by
    have ih := count_three r fun x hx => h x (.tail _ hx)
    rw [List.count_cons, List.count_cons, List.count_cons, List.length_cons]
    rcases h z (.head _) with rfl | rfl | rfl <;> simp <;> omega
theorem cells_ok (zs : List Int) (hl : zs.length = 6) : ∃ c0 c1 c2 b sh t4 wd : Nat,
    ((zs.map (·.fmod 3)).count 0 = c0 ∧ (zs.map (·.fmod 3)).count 1 = c1 ∧ (zs.map (·.fmod 3)).count 2 = c2) ∧ c0 + c1 + c2 = 6 ∧
    ((zs.getD (Int.toNat 0) 0).fdiv 3).fmod 384 = (b : Int) ∧ 256 - ((zs.getD (Int.toNat 0) 0).fdiv 1152).fmod 257 = (sh : Int) ∧ ((zs.getD (Int.toNat 0) 0).fdiv 296064).fmod 4 = (t4 : Int) ∧ 8 + ((zs.getD (Int.toNat 1) 0).fdiv 3).fmod 600 = (wd : Int) ∧
    b < 384 ∧ sh ≤ 256 ∧ t4 < 4 ∧ 8 ≤ wd ∧ wd ≤ 607 := by
  have hc := count_three (zs.map (·.fmod 3)) fun z hz => by
    obtain ⟨x, _, rfl⟩ := List.mem_map.mp hz
    have h1 := Int.fmod_nonneg_of_pos x (b := 3) (by decide)
    have h2 := Int.fmod_lt_of_pos x (b := 3) (by decide)
    omega
  rw [List.length_map, hl] at hc
  have m : ∀ (x d : Int), 0 < d → 0 ≤ x.fmod d ∧ x.fmod d < d := fun x d h => ⟨Int.fmod_nonneg_of_pos x h, Int.fmod_lt_of_pos x h⟩
  have a1 := m ((zs.getD (Int.toNat 0) 0).fdiv 3) 384 (by decide)
  have a2 := m ((zs.getD (Int.toNat 0) 0).fdiv 1152) 257 (by decide)
  have a3 := m ((zs.getD (Int.toNat 0) 0).fdiv 296064) 4 (by decide)
  have a4 := m ((zs.getD (Int.toNat 1) 0).fdiv 3) 600 (by decide)
  refine ⟨_, _, _, (((zs.getD (Int.toNat 0) 0).fdiv 3).fmod 384).toNat, (256 - ((zs.getD (Int.toNat 0) 0).fdiv 1152).fmod 257).toNat, (((zs.getD (Int.toNat 0) 0).fdiv 296064).fmod 4).toNat, (8 + ((zs.getD (Int.toNat 1) 0).fdiv 3).fmod 600).toNat, ⟨rfl, rfl, rfl⟩, hc, ?_, ?_, ?_, ?_, ?_, ?_, ?_, ?_, ?_⟩ <;> omega
/-- what the stages ask of the words -/
structure WordsOk (c0 c1 c2 : Nat) : Prop where
  hwl : ∀ ws ∈ wordsZ c0 c1 c2, ws.length = 6
  hwn : (wordsZ c0 c1 c2).length ≤ 1000
  hmo : degZ c0 c1 c2 ≤ 1000
  hmx : ((degZ c0 c1 c2 : Nat) : Int) ∈ (wordsZ c0 c1 c2).map fallZ
  hmz : ∀ z ∈ (wordsZ c0 c1 c2).map fallZ, 0 ≤ z ∧ z ≤ ((degZ c0 c1 c2 : Nat) : Int)
  hhs : oftenZ 6 ((wordsZ c0 c1 c2).map stayZ) = hsT c0 c1
  hhl : (hsT c0 c1).length = 7
  hhb : ∀ z ∈ hsT c0 c1, 0 ≤ z ∧ z ≤ 1000
  hcb : ∀ z ∈ (List.range 6).map (clsZ (hsT c0 c1)), bits z ≤ 32
  hT : ∀ (b sh t4 : Nat), b < 384 → sh ≤ 256 → t4 < 4 → ∀ i : Nat, i < 6 → ∃ ls hb sb lv sp, TurnOk ((List.range 6).map (clsZ (hsT c0 c1))) ((List.range 6).map fun (i : Nat) => paintZ b sh t4 i) (hsT c0 c1) b sh i ls hb sb lv sp
theorem words_ok {c0 c1 c2 : Nat} (h6 : c0 + c1 + c2 = 6) : WordsOk c0 c1 c2 := by
  have hff := falls_facts h6
  obtain ⟨⟨⟨⟨⟨⟨f1, f2⟩, f3⟩, f4⟩, f5⟩, f6⟩, f7⟩ := hff
  have hpl := plain_table c0 (by omega) c1 (by omega) (by omega)
  have hli := light_table c0 (by omega) c1 (by omega) (by omega)
  have hplain := hpl
  unfold plainB at hplain
  simp only [Bool.and_eq_true, decide_eq_true_eq, List.all_eq_true] at hplain
  obtain ⟨⟨⟨⟨⟨p1, p2⟩, p3⟩, p4⟩, p5⟩, p6⟩ := hplain
  refine ⟨f4, by omega, ?_, f1, f2, hs_table c0 (by omega) c1 (by omega) c2 (by omega) h6, p1, p2, fun z hz => ?_, fun b sh t4 hb hs h4 i hi => turns_ok hli hpl hb hs h4 i hi⟩
  · unfold degZ
    have h1 : c0 * c1 ≤ 6 * 6 := Nat.mul_le_mul (by omega) (by omega)
    have h2 : c0 * c2 ≤ 6 * 6 := Nat.mul_le_mul (by omega) (by omega)
    have h3 : c1 * c2 ≤ 6 * 6 := Nat.mul_le_mul (by omega) (by omega)
    omega
  · have := p4 z hz
    exact Nat.le_trans (bits_of_lt (n := 7) this.1 (by omega)) (by decide)
theorem paints_len {b sh t4 : Nat} (hb : b < 384) (hs : sh ≤ 256) (h4 : t4 < 4) : ∀ ps ∈ ((List.range 6).map fun (i : Nat) => paintZ b sh t4 i), ps.length = 3 ∧ ∀ z ∈ ps, bits z ≤ 32 := fun ps h => by
  obtain ⟨i, hi, rfl⟩ := List.mem_map.mp h
  have hi6 : i < 6 := List.mem_range.mp hi
  rw [(paint_facts hb hs h4 hi6).1]
  refine ⟨rfl, fun z hz => ?_⟩
  have key : ∀ k, 0 ≤ 16384 - (sh : Int) * rho k (b / 64 + i) ((b % 64 : Nat) : Int) ∧ 16384 - (sh : Int) * rho k (b / 64 + i) ((b % 64 : Nat) : Int) ≤ 16384 := fun k => by
    have r := rho_range k (b / 64 + i) (r := ((b % 64 : Nat) : Int)) (by omega) (by omega)
    have h1 := Int.mul_le_mul_of_nonneg_left r.2 (show (0 : Int) ≤ (sh : Int) by omega)
    have h0 := Int.mul_nonneg (show (0 : Int) ≤ (sh : Int) by omega) r.1
    omega
  have hz2 : 0 ≤ z ∧ z ≤ 16384 := by
    simp only [List.mem_cons, List.not_mem_nil, or_false] at hz
    rcases hz with rfl | rfl | rfl <;> exact key _
  exact Nat.le_trans (bits_of_lt (n := 15) hz2.1 (by omega)) (by decide)

-- L9
theorem cut_next {α : Type} (l : List α) (a k : Nat) : l.drop a = (l.drop a).take k ++ l.drop (a + k) := by
  rw [← List.drop_drop, List.take_append_drop]
theorem law_parts (l : List Stmt) (h : l.length = 22) : l = (l.drop 0).take 1 ++ ((l.drop 1).take 2 ++ ((l.drop 3).take 8 ++ ((l.drop 11).take 3 ++ ((l.drop 14).take 4 ++ ((l.drop 18).take 1 ++ ((l.drop 19).take 1 ++ (l.drop 20).take 2)))))) := by
  have e20 : (l.drop 20).take 2 = l.drop 20 := List.take_of_length_le (by rw [List.length_drop]; omega)
  rw [e20, ← cut_next l 19 1, ← cut_next l 18 1, ← cut_next l 14 4, ← cut_next l 11 3, ← cut_next l 3 8, ← cut_next l 1 2, ← cut_next l 0 1, List.drop_zero]
theorem law_len : lawS.length = 22 := by with_unfolding_all rfl
theorem law_all (w : World) (p : Program) (loose : List Str) (mean : ExcName → Option Value) (mg mb : Str → Option Value) (base h₀ : Heap) (L fa : Addr) (cd : Value) (m : Str → Option Value) (s : Shared) (Q : Flow → Shared → Prop) (E : Value → Shared → Prop) (o1 o2 o3 o4 : Obj) (t rest : Led)
    (B : Below callerA base [] h₀) (F : Fr h₀ L s.heap m) (X : (heapK w.params).In h₀) (hLed : LawLed h₀ s.heap L o1 o2 o3 o4 t rest) (T : Top p loose mean mg mb h₀)
    (SA : Addr) (svs : List Value) (sns : List Int) (hS : h₀.IsList SA svs.toArray) (hSi : IntsAre svs sns) (hsl : svs.length ≤ 1000) (hd1 : o1.data = .cell (some (.ref SA)))
    (hret : ∀ h' tk' m' o2' o3' o4' t' rest', Fr h₀ L h' m' → LawLed h₀ h' L o1 o2' o3' o4' t' rest' → Q (.ret (.bool true)) { s with heap := h', toks := tk' }) :
    wpAny (model PySem.Challenge.rw_tl0014_01.row.prog w) (callerA.deeper (lawE L fa cd)) (execs lawS (lawE L fa cd)) Q E s := by
  rw [law_parts lawS law_len]
  refine execs_append _ (law_0 w p loose mean mg mb base h₀ L fa cd m s _ E o1 o2 o3 o4 t rest B F X hLed T SA svs sns hS hSi hsl hd1 fun h1 k1 m1 o2' rest1 ht1 F1 l1 sub1 hm1 hz => ?_)
  apply el_EEEAAA hz
  clear hz
  intro ZA zvs nz hd2 hZ hZi
  generalize hzs : (List.range 6).map (cellZ sns) = zs at *
  have hzl : zs.length = 6 := by rw [← hzs]; simp
  have hz275 := cells_ok zs hzl
  apply el_EEEEEEEAAAAAAAAAAA hz275
  clear hz275
  intro c0 c1 c2 b sh t4 wd hcc h6 e1 e2 e3 e4 hb hs h4 hw8 hw
  have hc0 := hcc.1
  have hc1 := hcc.2.1
  have hc2 := hcc.2.2
  have hz276 := num_ok h6 hw8 hw ((zs.getD (Int.toNat 2) 0).fdiv 3)
  apply el_EEEEEEA hz276
  clear hz276
  intro ex cnt ag la len lenq N
  have W := words_ok h6
  have hc6 : c0 ≤ 6 ∧ c1 ≤ 6 ∧ c2 ≤ 6 := by omega
  dsimp only
  refine execs_append _ (law_1 w p loose mean mg mb base h₀ L fa cd m1 _ _ E o1 o2' o3 o4 t rest1 B F1 X l1 T ht1 ZA zvs nz zs c0 c1 c2 hd2 hZ hZi hzl hc0 hc1 hc2 hc6 fun h2 k2 m2 rest2 ht2 F2 l2 sub2 hC hWd => ?_)
  apply el_EEEAAA hC
  clear hC
  intro CA cvs nc qC hCm hCi
  apply el_EEEEEAAA hWd
  clear hWd
  intro WA wvs nw f Tk qW hWm hWt
  dsimp only
  have e5 : (2 : Int) ^ (wd : Int).toNat = 2 ^ wd := by rw [Int.toNat_natCast]
  refine execs_append _ (law_2 w p loose mean mg mb base h₀ L fa cd m2 _ _ E o1 o2' o3 o4 t rest2 B F2 X l2 T ht2 CA WA ZA cvs zvs nc nz c0 c1 c2 zs qC hCm hCi hd2 (sub2 _ hZ) hZi hzl qW b sh t4 wd (2 ^ wd) ex cnt e1 e2 e3 e4 e5 hb hs h4 hw
    (fun i hi => paint_ok hb hs h4 hi) hc6 N.hbb N.m1 N.m2 N.hU N.e6 N.dv N.dq N.dr fun h3 k3 m3 t3 rest3 ht3 F3 l3 sub3 qW3 qb qs qP qw qB qe qc ql => ?_)
  apply el_EA qb
  clear qb
  intro tb qb
  apply el_EA qs
  clear qs
  intro ts qs
  apply el_EEEAAA qP
  clear qP
  intro PA pvs np qP hPm hPl
  apply el_EA qw
  clear qw
  intro tw qw
  apply el_EA qB
  clear qB
  intro tB qB
  apply el_EA qe
  clear qe
  intro te qe
  apply el_EA qc
  clear qc
  intro tc qc
  apply el_EA ql
  clear ql
  intro tl ql
  have hWt' : Tups f Tk rest2 wvs (wordsZ c0 c1 c2) := hWt
  have hWt3 := hWt'.sub sub3
  have hWm3 := sub3 _ hWm
  dsimp only
  refine execs_append _ (law_3 w p loose mean mg mb base h₀ L fa cd m3 _ _ E o1 o2' o3 o4 t3 rest3 B F3 X l3 T ht3 WA PA wvs nw f Tk (wordsZ c0 c1 c2) ex cnt wd te tl tc tw hWm3 hWt3 W.hwl W.hwn qW3 qP qe ql qc qw (degZ c0 c1 c2) len W.hmo W.hmx (fun a ha => (W.hmz a ha).2) W.hmz N.hdg N.heq
    fun h5 k5 m5 t5 rest5 ht5 F5 l5 sub5 hm5 => ?_)
  dsimp only
  refine execs_append _ (law_4 w p loose mean mg mb base h₀ L fa cd m5 _ _ E o1 o2' o3 o4 t5 rest5 B F5 X l5 T ht5 (2 ^ wd) cnt ((2 ^ wd) ^ 6) ((2 ^ wd) ^ 6 - 1) ag la wd lenq tB tc tw ((hm5 _ (by decide)).trans qB) ((hm5 _ (by decide)).trans qc) ((hm5 _ (by decide)).trans qw) N.hbb rfl rfl N.dv2 N.dq2 N.dr2 N.hm N.hs N.hdg2 N.hl6
    fun h6' k6 m6 t6 rest6 ht6 F6 l6 sub6 hm6 hK => ?_)
  apply el_EEEAAA hK
  clear hK
  intro KA kvs nk qK hKm hKi
  rw [N.hcl] at hKi
  have hWt6 := (hWt3.sub sub5).sub sub6
  have hWm6 := sub6 _ (sub5 _ hWm3)
  dsimp only
  refine execs_append _ (law_5 w p loose mean mg mb base h₀ L fa cd m6 _ _ E o1 o2' o3 o4 t6 rest6 B F6 X l6 T ht6 WA wvs nw f Tk (wordsZ c0 c1 c2) hWm6 hWt6 W.hwl W.hwn ((hm6 _ (by decide) (by decide) (by decide) (by decide)).trans ((hm5 _ (by decide)).trans qW3))
    fun h7 k7 m7 o3' rest7 ht7 F7 l7 sub7 hm7 hH => ?_)
  apply el_EEEAAA hH
  clear hH
  intro HA hvs nh hHd hHm hHi
  rw [W.hhs] at hHi
  dsimp only
  refine execs_append _ (law_6 w p loose mean mg mb base h₀ L fa cd m7 _ _ E o1 o2' o3' o4 t6 rest7 B F7 X l7 T ht7 KA HA kvs hvs nk nh ((List.range 6).map (clsZ (hsT c0 c1))) (hsT c0 c1) ((hm7 _).trans qK) (sub7 _ hKm) hKi hHm hHi hHd W.hhl W.hhb rfl
    fun h8 k8 m8 rest8 ht8 F8 l8 sub8 hm8 => ?_)
  dsimp only
  have g : ∀ z : Str, z ≠ ("falls" : Str) → z ≠ ("whole" : Str) → z ≠ ("again" : Str) → z ≠ ("last" : Str) → z ≠ ("classes" : Str) → m8 z = m3 z := fun z a0 a1 a2 a3 a4 => (hm8 z).trans ((hm7 z).trans ((hm6 z a1 a2 a3 a4).trans (hm5 z a0)))
  exact law_7 w p loose mean mg mb base h₀ L fa cd m8 _ _ E o1 o2' o3' o4 t6 rest8 B F8 X l8 T ht8 KA PA HA kvs pvs hvs nk np nh ((List.range 6).map (clsZ (hsT c0 c1))) (hsT c0 c1) ((List.range 6).map fun (i : Nat) => paintZ b sh t4 i) b sh tb ts
    ((hm8 _).trans ((hm7 _).trans qK)) ((g _ (by decide) (by decide) (by decide) (by decide) (by decide)).trans qP) ((g _ (by decide) (by decide) (by decide) (by decide) (by decide)).trans qb) ((g _ (by decide) (by decide) (by decide) (by decide) (by decide)).trans qs)
    (sub8 _ (sub7 _ hKm)) hKi (sub8 _ hHm) hHi hHd (sub8 _ (sub7 _ (sub6 _ (sub5 _ hPm)))) ((((hPl.sub sub5).sub sub6).sub sub7).sub sub8) (by simp) W.hcb (by simp) (paints_len hb hs h4) W.hhl W.hhb hb hs (W.hT b sh t4 hb hs h4)
    fun h9 k9 m9 o4' rest9 _ F9 l9 => hret h9 k9 m9 o2' o3' o4' t6 rest9 F9 l9

-- L10
theorem tab_here {P : Addr} {pos : Pos} {qual : Str} {t led : Led} {h₀ h : Heap} {L : Addr} (T : TabS P pos qual t) (N : News h₀ L h led) (hs : ∀ p ∈ t, p ∈ led) : GrownAt P h := by
  rcases T with rfl | ⟨c', oc, vs, tq, rfl, _, _⟩
  · exact GrownAt.of N (hs _ (.head _))
  · exact GrownAt.of N (hs _ (.tail _ (.head _)))
theorem law_top (w : World) (p : Program) (loose : List Str) (mean : ExcName → Option Value) (mg mb : Str → Option Value) (base h₀ : Heap) (L fa : Addr) (cd : Value) (m : Str → Option Value) (s : Shared) (Q : Flow → Shared → Prop) (E : Value → Shared → Prop) (o1 o2 o3 o4 : Obj)
    (B : Below callerA base [] h₀) (F : Fr h₀ L s.heap m) (X : (heapK w.params).In h₀) (T : Top p loose mean mg mb h₀)
    (N : News h₀ L s.heap [(L + 1 + 1 + 1 + 1, o4), (L + 1 + 1 + 1, o3), (L + 1 + 1, o2), (L + 1, o1), (37, tabObj #[]), (30, tabObj #[])]) (l0 : 37 < L ∧ 30 < L)
    (SA : Addr) (svs : List Value) (sns : List Int) (hS : h₀.IsList SA svs.toArray) (hSi : IntsAre svs sns) (hsl : sns.length ≤ 1000) (hd1 : o1.data = .cell (some (.ref SA))) (hd2 : ∃ v, o2.data = .cell v) (hd3 : ∃ v, o3.data = .cell v) (hd4 : ∃ v, o4.data = .cell v)
    (hret : ∀ h' tk', (∀ b o, h₀.get? b = some o → h'.get? b = some o) → GrownAt 37 h' → GrownAt 30 h' → Q (.ret (.bool true)) { s with heap := h', toks := tk' }) :
    wpAny (model PySem.Challenge.rw_tl0014_01.row.prog w) (callerA.deeper (lawE L fa cd)) (execs lawS (lawE L fa cd)) Q E s := by
  have l : LawLed h₀ s.heap L o1 o2 o3 o4 ([(30, tabObj #[])] ++ [(37, tabObj #[])]) [] := by
    refine ⟨news_sub N fun p hp => ?_, ⟨_, _, rfl, .inl rfl, .inl rfl, fun q hq p hp => ?_⟩, fun q hq p hp => ?_, fun p hp => ?_, ⟨⟨_, hd1⟩, hd2, hd3, hd4⟩⟩
    · simp only [List.mem_cons, List.mem_append, List.not_mem_nil, or_false] at hp ⊢
      rcases hp with e | e | e | e | e | e <;> simp [e]
    · rw [List.mem_singleton.mp hq, List.mem_singleton.mp hp]; decide
    · obtain ⟨a, b⟩ := l0
      have hq' : q.1 < L := by
        simp only [List.mem_append, List.mem_singleton] at hq
        rcases hq with rfl | rfl
        · exact b
        · exact a
      simp only [List.mem_cons, List.not_mem_nil, or_false] at hp
      rcases hp with rfl | rfl | rfl | rfl
      · exact Nat.ne_of_gt (Nat.lt_of_lt_of_le hq' (Nat.le_add_right L 4))
      · exact Nat.ne_of_gt (Nat.lt_of_lt_of_le hq' (Nat.le_add_right L 3))
      · exact Nat.ne_of_gt (Nat.lt_of_lt_of_le hq' (Nat.le_add_right L 2))
      · exact Nat.ne_of_gt (Nat.lt_of_lt_of_le hq' (Nat.le_add_right L 1))
    · obtain ⟨a, b⟩ := l0
      have hq' : p.1 < L := by
        simp only [List.mem_append, List.mem_singleton, List.not_mem_nil, or_false] at hp
        rcases hp with rfl | rfl
        · exact b
        · exact a
      exact ⟨Nat.ne_of_lt (Nat.lt_of_lt_of_le hq' (Nat.le_add_right L 4)), Nat.ne_of_lt (Nat.lt_of_lt_of_le hq' (Nat.le_add_right L 3)), Nat.ne_of_lt (Nat.lt_of_lt_of_le hq' (Nat.le_add_right L 2)), Nat.ne_of_lt (Nat.lt_of_lt_of_le hq' (Nat.le_add_right L 1))⟩
  refine law_all w p loose mean mg mb base h₀ L fa cd m s Q E o1 o2 o3 o4 _ [] B F X l T SA svs sns hS hSi (by rw [hSi.length]; exact hsl) hd1 fun h' tk' m' o2' o3' o4' t' rest' F' l' => ?_
  obtain ⟨t1, t2, rfl, T1, T2, _⟩ := l'.tab
  exact hret h' tk' F'.keep (tab_here T2 l'.N fun p hp => .tail _ (.tail _ (.tail _ (.tail _ (List.mem_append_left _ (List.mem_append_right _ hp)))))) (tab_here T1 l'.N fun p hp => .tail _ (.tail _ (.tail _ (.tail _ (List.mem_append_left _ (List.mem_append_left _ hp))))))

end Mine
open Mine in
set_option maxHeartbeats 1000000 in
theorem PySem.Challenge.cw_tl0014_01_holds : PySem.Challenge.rw_tl0014_01.Holds := by
  refine holds_law law_said fun said => ?_
  refine holds_open (q := view) (loose := []) (Xt := fun s => xlAt view [] s && recOk (RowW.records rowM.toRowW) s) (XP := XL view []) (Yf := hookK.obs) (Ya := hookK.val) (YP := hookK.says) (N := 1428) top_ok hookK.of hookK.keeps (fun s e => xl_of s (Bool.and_eq_true_iff.mp e).1) XL.keeps (by rfl) (by rfl) (by rfl) (fun s e => recFacts_of (Bool.and_eq_true_iff.mp e).2) row_wr said row_ok row_bare row_prom ?hc
  case hc =>
    k_go0
    all_goals (try k_fold)
    rename Below _ _ _ _ => B9
    rename Fr _ _ _ _ => F9
    rename News _ _ _ _ => N9
    rename Top _ _ _ _ _ _ => T9
    rename Frag.In _ _ => X9
    rename Heap.IsList _ _ _ => S9
    rename IntsAre _ _ => I9
    rename (37 < _ ∧ 30 < _) => l9
    show wpAny _ (callerA.deeper (lawE _ _ _)) (execs lawS (lawE _ _ _)) _ _ _
    refine law_top _ _ _ _ _ _ _ _ _ _ _ _ _ _ _ _ _ _ _ B9 F9 X9 T9 N9 l9 _ _ _ S9 I9 ?n ?d1 ?d2 ?d3 ?d4 ?r
    case n => omega
    case d1 => with_unfolding_all assumption
    case d2 => exact ⟨_, by assumption⟩
    case d3 => exact ⟨_, by assumption⟩
    case d4 => exact ⟨_, by assumption⟩
    case r =>
      intro h' tk' K1 G1 G2
      refine ⟨⟨.inl ⟨.bool true, .bool true, [], rfl, ?_, .bool true, ?_, fun _ => ⟨List.nodup_nil, fun a ha => nomatch ha⟩⟩, K1, rfl, by assumption⟩, G1, G2, True.intro⟩
      · exact fun _ => rfl
      · with_unfolding_all rfl
