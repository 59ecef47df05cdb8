import PyProof.Rows.All
import Wide.All
import OpenK.AllK
import Wide.FinOn
import PySem.Challenge.RW_om0120_01
set_option Elab.async false
set_option linter.all false
set_option compiler.extract_closed false
set_option tactic.hygienic false
set_option genSizeOf false
set_option maxRecDepth 100000
set_option maxHeartbeats 8000000
section

namespace Mine
theorem xAA {P : Prop} {Q : Prop} {R : Prop} {G : Prop} (h : P /\ Q /\ R) (k : P -> Q -> R -> G) : G := k h.1 h.2.1 h.2.2
theorem xEA.{u0} {α : Sort u0} {P : α -> Prop} {Q : α -> Prop} {G : Prop} (h : ∃ a, P a /\ Q a) (k : ∀ a, P a -> Q a -> G) : G := h.elim fun a h0 => k a h0.1 h0.2
theorem xEE.{u0, u1} {α : Sort u0} {β : Sort u1} {P : α -> β -> Prop} {G : Prop} (h : ∃ a, ∃ b, P a b) (k : ∀ a, ∀ b, P a b -> G) : G := h.elim fun a h0 => h0.elim fun b h1 => k a b h1
theorem xAAA {P : Prop} {Q : Prop} {R : Prop} {S : Prop} {G : Prop} (h : P /\ Q /\ R /\ S) (k : P -> Q -> R -> S -> G) : G := k h.1 h.2.1 h.2.2.1 h.2.2.2
theorem xAEA.{u0} {α : Sort u0} {P : Prop} {Q : α -> Prop} {R : α -> Prop} {G : Prop} (h : P /\ ∃ a, Q a /\ R a) (k : P -> ∀ a, Q a -> R a -> G) : G := h.2.elim fun a h1 => k h.1 a h1.1 h1.2
theorem xEAA.{u0} {α : Sort u0} {P : α -> Prop} {Q : α -> Prop} {R : α -> Prop} {G : Prop} (h : ∃ a, P a /\ Q a /\ R a) (k : ∀ a, P a -> Q a -> R a -> G) : G := h.elim fun a h0 => k a h0.1 h0.2.1 h0.2.2
theorem xEEA.{u0, u1} {α : Sort u0} {β : Sort u1} {P : α -> β -> Prop} {Q : α -> β -> Prop} {G : Prop} (h : ∃ a, ∃ b, P a b /\ Q a b) (k : ∀ a, ∀ b, P a b -> Q a b -> G) : G := h.elim fun a h0 => h0.elim fun b h1 => k a b h1.1 h1.2
theorem xEEE.{u0, u1, u2} {α : Sort u0} {β : Sort u1} {γ : Sort u2} {P : α -> β -> γ -> Prop} {G : Prop} (h : ∃ a, ∃ b, ∃ c, P a b c) (k : ∀ a, ∀ b, ∀ c, P a b c -> G) : G := h.elim fun a h0 => h0.elim fun b h1 => h1.elim fun c h2 => k a b c h2
theorem xEAAA.{u0} {α : Sort u0} {P : α -> Prop} {Q : α -> Prop} {R : α -> Prop} {S : α -> Prop} {G : Prop} (h : ∃ a, P a /\ Q a /\ R a /\ S a) (k : ∀ a, P a -> Q a -> R a -> S a -> G) : G := h.elim fun a h0 => k a h0.1 h0.2.1 h0.2.2.1 h0.2.2.2
theorem xEAAE.{u0, u1} {α : Sort u0} {β : Sort u1} {P : α -> Prop} {Q : α -> Prop} {R : α -> β -> Prop} {G : Prop} (h : ∃ a, P a /\ Q a /\ ∃ b, R a b) (k : ∀ a, P a -> Q a -> ∀ b, R a b -> G) : G := h.elim fun a h0 => h0.2.2.elim fun b h3 => k a h0.1 h0.2.1 b h3
theorem xEAEA.{u0, u1} {α : Sort u0} {β : Sort u1} {P : α -> Prop} {Q : α -> β -> Prop} {R : α -> β -> Prop} {G : Prop} (h : ∃ a, P a /\ ∃ b, Q a b /\ R a b) (k : ∀ a, P a -> ∀ b, Q a b -> R a b -> G) : G := h.elim fun a h0 => h0.2.elim fun b h2 => k a h0.1 b h2.1 h2.2
theorem xEEAA.{u0, u1} {α : Sort u0} {β : Sort u1} {P : α -> β -> Prop} {Q : α -> β -> Prop} {R : α -> β -> Prop} {G : Prop} (h : ∃ a, ∃ b, P a b /\ Q a b /\ R a b) (k : ∀ a, ∀ b, P a b -> Q a b -> R a b -> G) : G := h.elim fun a h0 => h0.elim fun b h1 => k a b h1.1 h1.2.1 h1.2.2
theorem xEEEA.{u0, u1, u2} {α : Sort u0} {β : Sort u1} {γ : Sort u2} {P : α -> β -> γ -> Prop} {Q : α -> β -> γ -> Prop} {G : Prop} (h : ∃ a, ∃ b, ∃ c, P a b c /\ Q a b c) (k : ∀ a, ∀ b, ∀ c, P a b c -> Q a b c -> G) : G := h.elim fun a h0 => h0.elim fun b h1 => h1.elim fun c h2 => k a b c h2.1 h2.2
theorem xEEEE.{u0, u1, u2, u3} {α : Sort u0} {β : Sort u1} {γ : Sort u2} {δ : Sort u3} {P : α -> β -> γ -> δ -> Prop} {G : Prop} (h : ∃ a, ∃ b, ∃ c, ∃ d, P a b c d) (k : ∀ a, ∀ b, ∀ c, ∀ d, P a b c d -> G) : G := h.elim fun a h0 => h0.elim fun b h1 => h1.elim fun c h2 => h2.elim fun d h3 => k a b c d h3
theorem xAAAAA {P : Prop} {Q : Prop} {R : Prop} {S : Prop} {T : Prop} {U : Prop} {G : Prop} (h : P /\ Q /\ R /\ S /\ T /\ U) (k : P -> Q -> R -> S -> T -> U -> G) : G := k h.1 h.2.1 h.2.2.1 h.2.2.2.1 h.2.2.2.2.1 h.2.2.2.2.2
theorem xEAAAA.{u0} {α : Sort u0} {P : α -> Prop} {Q : α -> Prop} {R : α -> Prop} {S : α -> Prop} {T : α -> Prop} {G : Prop} (h : ∃ a, P a /\ Q a /\ R a /\ S a /\ T a) (k : ∀ a, P a -> Q a -> R a -> S a -> T a -> G) : G := h.elim fun a h0 => k a h0.1 h0.2.1 h0.2.2.1 h0.2.2.2.1 h0.2.2.2.2
theorem xEAEAA.{u0, u1} {α : Sort u0} {β : Sort u1} {P : α -> Prop} {Q : α -> β -> Prop} {R : α -> β -> Prop} {S : α -> β -> Prop} {G : Prop} (h : ∃ a, P a /\ ∃ b, Q a b /\ R a b /\ S a b) (k : ∀ a, P a -> ∀ b, Q a b -> R a b -> S a b -> G) : G := h.elim fun a h0 => h0.2.elim fun b h2 => k a h0.1 b h2.1 h2.2.1 h2.2.2
theorem xEEAAA.{u0, u1} {α : Sort u0} {β : Sort u1} {P : α -> β -> Prop} {Q : α -> β -> Prop} {R : α -> β -> Prop} {S : α -> β -> Prop} {G : Prop} (h : ∃ a, ∃ b, P a b /\ Q a b /\ R a b /\ S a b) (k : ∀ a, ∀ b, P a b -> Q a b -> R a b -> S a b -> G) : G := h.elim fun a h0 => h0.elim fun b h1 => k a b h1.1 h1.2.1 h1.2.2.1 h1.2.2.2
theorem xEEAEA.{u0, u1, u2} {α : Sort u0} {β : Sort u1} {γ : Sort u2} {P : α -> β -> Prop} {Q : α -> β -> γ -> Prop} {R : α -> β -> γ -> Prop} {G : Prop} (h : ∃ a, ∃ b, P a b /\ ∃ c, Q a b c /\ R a b c) (k : ∀ a, ∀ b, P a b -> ∀ c, Q a b c -> R a b c -> G) : G := h.elim fun a h0 => h0.elim fun b h1 => h1.2.elim fun c h3 => k a b h1.1 c h3.1 h3.2
theorem xEEEAA.{u0, u1, u2} {α : Sort u0} {β : Sort u1} {γ : Sort u2} {P : α -> β -> γ -> Prop} {Q : α -> β -> γ -> Prop} {R : α -> β -> γ -> Prop} {G : Prop} (h : ∃ a, ∃ b, ∃ c, P a b c /\ Q a b c /\ R a b c) (k : ∀ a, ∀ b, ∀ c, P a b c -> Q a b c -> R a b c -> G) : G := h.elim fun a h0 => h0.elim fun b h1 => h1.elim fun c h2 => k a b c h2.1 h2.2.1 h2.2.2
theorem xAAAAAA {P : Prop} {Q : Prop} {R : Prop} {S : Prop} {T : Prop} {U : Prop} {V : Prop} {G : Prop} (h : P /\ Q /\ R /\ S /\ T /\ U /\ V) (k : P -> Q -> R -> S -> T -> U -> V -> G) : G := k h.1 h.2.1 h.2.2.1 h.2.2.2.1 h.2.2.2.2.1 h.2.2.2.2.2.1 h.2.2.2.2.2.2
theorem xEAAAAA.{u0} {α : Sort u0} {P : α -> Prop} {Q : α -> Prop} {R : α -> Prop} {S : α -> Prop} {T : α -> Prop} {U : α -> Prop} {G : Prop} (h : ∃ a, P a /\ Q a /\ R a /\ S a /\ T a /\ U a) (k : ∀ a, P a -> Q a -> R a -> S a -> T a -> U a -> G) : G := h.elim fun a h0 => k a h0.1 h0.2.1 h0.2.2.1 h0.2.2.2.1 h0.2.2.2.2.1 h0.2.2.2.2.2
theorem xEEAAAA.{u0, u1} {α : Sort u0} {β : Sort u1} {P : α -> β -> Prop} {Q : α -> β -> Prop} {R : α -> β -> Prop} {S : α -> β -> Prop} {T : α -> β -> Prop} {G : Prop} (h : ∃ a, ∃ b, P a b /\ Q a b /\ R a b /\ S a b /\ T a b) (k : ∀ a, ∀ b, P a b -> Q a b -> R a b -> S a b -> T a b -> G) : G := h.elim fun a h0 => h0.elim fun b h1 => k a b h1.1 h1.2.1 h1.2.2.1 h1.2.2.2.1 h1.2.2.2.2
theorem xEEAAEA.{u0, u1, u2} {α : Sort u0} {β : Sort u1} {γ : Sort u2} {P : α -> β -> Prop} {Q : α -> β -> Prop} {R : α -> β -> γ -> Prop} {S : α -> β -> γ -> Prop} {G : Prop} (h : ∃ a, ∃ b, P a b /\ Q a b /\ ∃ c, R a b c /\ S a b c) (k : ∀ a, ∀ b, P a b -> Q a b -> ∀ c, R a b c -> S a b c -> G) : G := h.elim fun a h0 => h0.elim fun b h1 => h1.2.2.elim fun c h4 => k a b h1.1 h1.2.1 c h4.1 h4.2
theorem xEEEAAA.{u0, u1, u2} {α : Sort u0} {β : Sort u1} {γ : Sort u2} {P : α -> β -> γ -> Prop} {Q : α -> β -> γ -> Prop} {R : α -> β -> γ -> Prop} {S : α -> β -> γ -> Prop} {G : Prop} (h : ∃ a, ∃ b, ∃ c, P a b c /\ Q a b c /\ R a b c /\ S a b c) (k : ∀ a, ∀ b, ∀ c, P a b c -> Q a b c -> R a b c -> S a b c -> G) : G := h.elim fun a h0 => h0.elim fun b h1 => h1.elim fun c h2 => k a b c h2.1 h2.2.1 h2.2.2.1 h2.2.2.2
theorem xEEEEAA.{u0, u1, u2, u3} {α : Sort u0} {β : Sort u1} {γ : Sort u2} {δ : Sort u3} {P : α -> β -> γ -> δ -> Prop} {Q : α -> β -> γ -> δ -> Prop} {R : α -> β -> γ -> δ -> Prop} {G : Prop} (h : ∃ a, ∃ b, ∃ c, ∃ d, P a b c d /\ Q a b c d /\ R a b c d) (k : ∀ a, ∀ b, ∀ c, ∀ d, P a b c d -> Q a b c d -> R a b c d -> G) : G := h.elim fun a h0 => h0.elim fun b h1 => h1.elim fun c h2 => h2.elim fun d h3 => k a b c d h3.1 h3.2.1 h3.2.2
theorem xAAAAAAA {P : Prop} {Q : Prop} {R : Prop} {S : Prop} {T : Prop} {U : Prop} {V : Prop} {W : Prop} {G : Prop} (h : P /\ Q /\ R /\ S /\ T /\ U /\ V /\ W) (k : P -> Q -> R -> S -> T -> U -> V -> W -> G) : G := k h.1 h.2.1 h.2.2.1 h.2.2.2.1 h.2.2.2.2.1 h.2.2.2.2.2.1 h.2.2.2.2.2.2.1 h.2.2.2.2.2.2.2
theorem xEEAAAEA.{u0, u1, u2} {α : Sort u0} {β : Sort u1} {γ : Sort u2} {P : α -> β -> Prop} {Q : α -> β -> Prop} {R : α -> β -> Prop} {S : α -> β -> γ -> Prop} {T : α -> β -> γ -> Prop} {G : Prop} (h : ∃ a, ∃ b, P a b /\ Q a b /\ R a b /\ ∃ c, S a b c /\ T a b c) (k : ∀ a, ∀ b, P a b -> Q a b -> R a b -> ∀ c, S a b c -> T a b c -> G) : G := h.elim fun a h0 => h0.elim fun b h1 => h1.2.2.2.elim fun c h5 => k a b h1.1 h1.2.1 h1.2.2.1 c h5.1 h5.2
theorem xEEAAEEA.{u0, u1, u2, u3} {α : Sort u0} {β : Sort u1} {γ : Sort u2} {δ : Sort u3} {P : α -> β -> Prop} {Q : α -> β -> Prop} {R : α -> β -> γ -> δ -> Prop} {S : α -> β -> γ -> δ -> Prop} {G : Prop} (h : ∃ a, ∃ b, P a b /\ Q a b /\ ∃ c, ∃ d, R a b c d /\ S a b c d) (k : ∀ a, ∀ b, P a b -> Q a b -> ∀ c, ∀ d, R a b c d -> S a b c d -> G) : G := h.elim fun a h0 => h0.elim fun b h1 => h1.2.2.elim fun c h4 => h4.elim fun d h5 => k a b h1.1 h1.2.1 c d h5.1 h5.2
theorem xEEEAAAA.{u0, u1, u2} {α : Sort u0} {β : Sort u1} {γ : Sort u2} {P : α -> β -> γ -> Prop} {Q : α -> β -> γ -> Prop} {R : α -> β -> γ -> Prop} {S : α -> β -> γ -> Prop} {T : α -> β -> γ -> Prop} {G : Prop} (h : ∃ a, ∃ b, ∃ c, P a b c /\ Q a b c /\ R a b c /\ S a b c /\ T a b c) (k : ∀ a, ∀ b, ∀ c, P a b c -> Q a b c -> R a b c -> S a b c -> T a b c -> G) : G := h.elim fun a h0 => h0.elim fun b h1 => h1.elim fun c h2 => k a b c h2.1 h2.2.1 h2.2.2.1 h2.2.2.2.1 h2.2.2.2.2
theorem xEEAAAEAA.{u0, u1, u2} {α : Sort u0} {β : Sort u1} {γ : Sort u2} {P : α -> β -> Prop} {Q : α -> β -> Prop} {R : α -> β -> Prop} {S : α -> β -> γ -> Prop} {T : α -> β -> γ -> Prop} {U : α -> β -> γ -> Prop} {G : Prop} (h : ∃ a, ∃ b, P a b /\ Q a b /\ R a b /\ ∃ c, S a b c /\ T a b c /\ U a b c) (k : ∀ a, ∀ b, P a b -> Q a b -> R a b -> ∀ c, S a b c -> T a b c -> U a b c -> G) : G := h.elim fun a h0 => h0.elim fun b h1 => h1.2.2.2.elim fun c h5 => k a b h1.1 h1.2.1 h1.2.2.1 c h5.1 h5.2.1 h5.2.2
theorem xEEAAEEAA.{u0, u1, u2, u3} {α : Sort u0} {β : Sort u1} {γ : Sort u2} {δ : Sort u3} {P : α -> β -> Prop} {Q : α -> β -> Prop} {R : α -> β -> γ -> δ -> Prop} {S : α -> β -> γ -> δ -> Prop} {T : α -> β -> γ -> δ -> Prop} {G : Prop} (h : ∃ a, ∃ b, P a b /\ Q a b /\ ∃ c, ∃ d, R a b c d /\ S a b c d /\ T a b c d) (k : ∀ a, ∀ b, P a b -> Q a b -> ∀ c, ∀ d, R a b c d -> S a b c d -> T a b c d -> G) : G := h.elim fun a h0 => h0.elim fun b h1 => h1.2.2.elim fun c h4 => h4.elim fun d h5 => k a b h1.1 h1.2.1 c d h5.1 h5.2.1 h5.2.2
theorem xEEEEAAAA.{u0, u1, u2, u3} {α : Sort u0} {β : Sort u1} {γ : Sort u2} {δ : Sort u3} {P : α -> β -> γ -> δ -> Prop} {Q : α -> β -> γ -> δ -> Prop} {R : α -> β -> γ -> δ -> Prop} {S : α -> β -> γ -> δ -> Prop} {T : α -> β -> γ -> δ -> Prop} {G : Prop} (h : ∃ a, ∃ b, ∃ c, ∃ d, P a b c d /\ Q a b c d /\ R a b c d /\ S a b c d /\ T a b c d) (k : ∀ a, ∀ b, ∀ c, ∀ d, P a b c d -> Q a b c d -> R a b c d -> S a b c d -> T a b c d -> G) : G := h.elim fun a h0 => h0.elim fun b h1 => h1.elim fun c h2 => h2.elim fun d h3 => k a b c d h3.1 h3.2.1 h3.2.2.1 h3.2.2.2.1 h3.2.2.2.2
theorem xEEEEEEAA.{u0, u1, u2, u3, u4, u5} {α : Sort u0} {β : Sort u1} {γ : Sort u2} {δ : Sort u3} {ε : Sort u4} {ζ : Sort u5} {P : α -> β -> γ -> δ -> ε -> ζ -> Prop} {Q : α -> β -> γ -> δ -> ε -> ζ -> Prop} {R : α -> β -> γ -> δ -> ε -> ζ -> Prop} {G : Prop} (h : ∃ a, ∃ b, ∃ c, ∃ d, ∃ e, ∃ f, P a b c d e f /\ Q a b c d e f /\ R a b c d e f) (k : ∀ a, ∀ b, ∀ c, ∀ d, ∀ e, ∀ f, P a b c d e f -> Q a b c d e f -> R a b c d e f -> G) : G := h.elim fun a h0 => h0.elim fun b h1 => h1.elim fun c h2 => h2.elim fun d h3 => h3.elim fun e h4 => h4.elim fun f h5 => k a b c d e f h5.1 h5.2.1 h5.2.2
theorem xAAAAAAAAA {P : Prop} {Q : Prop} {R : Prop} {S : Prop} {T : Prop} {U : Prop} {V : Prop} {W : Prop} {X : Prop} {Y : Prop} {G : Prop} (h : P /\ Q /\ R /\ S /\ T /\ U /\ V /\ W /\ X /\ Y) (k : P -> Q -> R -> S -> T -> U -> V -> W -> X -> Y -> G) : G := k h.1 h.2.1 h.2.2.1 h.2.2.2.1 h.2.2.2.2.1 h.2.2.2.2.2.1 h.2.2.2.2.2.2.1 h.2.2.2.2.2.2.2.1 h.2.2.2.2.2.2.2.2.1 h.2.2.2.2.2.2.2.2.2
theorem xEEEAAAAAAA.{u0, u1, u2} {α : Sort u0} {β : Sort u1} {γ : Sort u2} {P : α -> β -> γ -> Prop} {Q : α -> β -> γ -> Prop} {R : α -> β -> γ -> Prop} {S : α -> β -> γ -> Prop} {T : α -> β -> γ -> Prop} {U : α -> β -> γ -> Prop} {V : α -> β -> γ -> Prop} {W : α -> β -> γ -> Prop} {G : Prop} (h : ∃ a, ∃ b, ∃ c, P a b c /\ Q a b c /\ R a b c /\ S a b c /\ T a b c /\ U a b c /\ V a b c /\ W a b c) (k : ∀ a, ∀ b, ∀ c, P a b c -> Q a b c -> R a b c -> S a b c -> T a b c -> U a b c -> V a b c -> W a b c -> G) : G := h.elim fun a h0 => h0.elim fun b h1 => h1.elim fun c h2 => k a b c h2.1 h2.2.1 h2.2.2.1 h2.2.2.2.1 h2.2.2.2.2.1 h2.2.2.2.2.2.1 h2.2.2.2.2.2.2.1 h2.2.2.2.2.2.2.2
theorem xEEEEAAAAAA.{u0, u1, u2, u3} {α : Sort u0} {β : Sort u1} {γ : Sort u2} {δ : Sort u3} {P : α -> β -> γ -> δ -> Prop} {Q : α -> β -> γ -> δ -> Prop} {R : α -> β -> γ -> δ -> Prop} {S : α -> β -> γ -> δ -> Prop} {T : α -> β -> γ -> δ -> Prop} {U : α -> β -> γ -> δ -> Prop} {V : α -> β -> γ -> δ -> Prop} {G : Prop} (h : ∃ a, ∃ b, ∃ c, ∃ d, P a b c d /\ Q a b c d /\ R a b c d /\ S a b c d /\ T a b c d /\ U a b c d /\ V a b c d) (k : ∀ a, ∀ b, ∀ c, ∀ d, P a b c d -> Q a b c d -> R a b c d -> S a b c d -> T a b c d -> U a b c d -> V a b c d -> G) : G := h.elim fun a h0 => h0.elim fun b h1 => h1.elim fun c h2 => h2.elim fun d h3 => k a b c d h3.1 h3.2.1 h3.2.2.1 h3.2.2.2.1 h3.2.2.2.2.1 h3.2.2.2.2.2.1 h3.2.2.2.2.2.2
theorem xEEEEAAAAEA.{u0, u1, u2, u3, u4} {α : Sort u0} {β : Sort u1} {γ : Sort u2} {δ : Sort u3} {ε : Sort u4} {P : α -> β -> γ -> δ -> Prop} {Q : α -> β -> γ -> δ -> Prop} {R : α -> β -> γ -> δ -> Prop} {S : α -> β -> γ -> δ -> Prop} {T : α -> β -> γ -> δ -> ε -> Prop} {U : α -> β -> γ -> δ -> ε -> Prop} {G : Prop} (h : ∃ a, ∃ b, ∃ c, ∃ d, P a b c d /\ Q a b c d /\ R a b c d /\ S a b c d /\ ∃ e, T a b c d e /\ U a b c d e) (k : ∀ a, ∀ b, ∀ c, ∀ d, P a b c d -> Q a b c d -> R a b c d -> S a b c d -> ∀ e, T a b c d e -> U a b c d e -> G) : G := h.elim fun a h0 => h0.elim fun b h1 => h1.elim fun c h2 => h2.elim fun d h3 => h3.2.2.2.2.elim fun e h8 => k a b c d h3.1 h3.2.1 h3.2.2.1 h3.2.2.2.1 e h8.1 h8.2
theorem xEEEEEEAAAA.{u0, u1, u2, u3, u4, u5} {α : Sort u0} {β : Sort u1} {γ : Sort u2} {δ : Sort u3} {ε : Sort u4} {ζ : Sort u5} {P : α -> β -> γ -> δ -> ε -> ζ -> Prop} {Q : α -> β -> γ -> δ -> ε -> ζ -> Prop} {R : α -> β -> γ -> δ -> ε -> ζ -> Prop} {S : α -> β -> γ -> δ -> ε -> ζ -> Prop} {T : α -> β -> γ -> δ -> ε -> ζ -> Prop} {G : Prop} (h : ∃ a, ∃ b, ∃ c, ∃ d, ∃ e, ∃ f, P a b c d e f /\ Q a b c d e f /\ R a b c d e f /\ S a b c d e f /\ T a b c d e f) (k : ∀ a, ∀ b, ∀ c, ∀ d, ∀ e, ∀ f, P a b c d e f -> Q a b c d e f -> R a b c d e f -> S a b c d e f -> T a b c d e f -> G) : G := h.elim fun a h0 => h0.elim fun b h1 => h1.elim fun c h2 => h2.elim fun d h3 => h3.elim fun e h4 => h4.elim fun f h5 => k a b c d e f h5.1 h5.2.1 h5.2.2.1 h5.2.2.2.1 h5.2.2.2.2
theorem xEEEEAAAAAAA.{u0, u1, u2, u3} {α : Sort u0} {β : Sort u1} {γ : Sort u2} {δ : Sort u3} {P : α -> β -> γ -> δ -> Prop} {Q : α -> β -> γ -> δ -> Prop} {R : α -> β -> γ -> δ -> Prop} {S : α -> β -> γ -> δ -> Prop} {T : α -> β -> γ -> δ -> Prop} {U : α -> β -> γ -> δ -> Prop} {V : α -> β -> γ -> δ -> Prop} {W : α -> β -> γ -> δ -> Prop} {G : Prop} (h : ∃ a, ∃ b, ∃ c, ∃ d, P a b c d /\ Q a b c d /\ R a b c d /\ S a b c d /\ T a b c d /\ U a b c d /\ V a b c d /\ W a b c d) (k : ∀ a, ∀ b, ∀ c, ∀ d, P a b c d -> Q a b c d -> R a b c d -> S a b c d -> T a b c d -> U a b c d -> V a b c d -> W a b c d -> G) : G := h.elim fun a h0 => h0.elim fun b h1 => h1.elim fun c h2 => h2.elim fun d h3 => k a b c d h3.1 h3.2.1 h3.2.2.1 h3.2.2.2.1 h3.2.2.2.2.1 h3.2.2.2.2.2.1 h3.2.2.2.2.2.2.1 h3.2.2.2.2.2.2.2
theorem xEEEEAAAAEAA.{u0, u1, u2, u3, u4} {α : Sort u0} {β : Sort u1} {γ : Sort u2} {δ : Sort u3} {ε : Sort u4} {P : α -> β -> γ -> δ -> Prop} {Q : α -> β -> γ -> δ -> Prop} {R : α -> β -> γ -> δ -> Prop} {S : α -> β -> γ -> δ -> Prop} {T : α -> β -> γ -> δ -> ε -> Prop} {U : α -> β -> γ -> δ -> ε -> Prop} {V : α -> β -> γ -> δ -> ε -> Prop} {G : Prop} (h : ∃ a, ∃ b, ∃ c, ∃ d, P a b c d /\ Q a b c d /\ R a b c d /\ S a b c d /\ ∃ e, T a b c d e /\ U a b c d e /\ V a b c d e) (k : ∀ a, ∀ b, ∀ c, ∀ d, P a b c d -> Q a b c d -> R a b c d -> S a b c d -> ∀ e, T a b c d e -> U a b c d e -> V a b c d e -> G) : G := h.elim fun a h0 => h0.elim fun b h1 => h1.elim fun c h2 => h2.elim fun d h3 => h3.2.2.2.2.elim fun e h8 => k a b c d h3.1 h3.2.1 h3.2.2.1 h3.2.2.2.1 e h8.1 h8.2.1 h8.2.2
theorem xEEAAEEEAAAAAA.{u0, u1, u2, u3, u4} {α : Sort u0} {β : Sort u1} {γ : Sort u2} {δ : Sort u3} {ε : Sort u4} {P : α -> β -> Prop} {Q : α -> β -> Prop} {R : α -> β -> γ -> δ -> ε -> Prop} {S : α -> β -> γ -> δ -> ε -> Prop} {T : α -> β -> γ -> δ -> ε -> Prop} {U : α -> β -> γ -> δ -> ε -> Prop} {V : α -> β -> γ -> δ -> ε -> Prop} {W : α -> β -> γ -> δ -> ε -> Prop} {X : α -> β -> γ -> δ -> ε -> Prop} {G : Prop} (h : ∃ a, ∃ b, P a b /\ Q a b /\ ∃ c, ∃ d, ∃ e, R a b c d e /\ S a b c d e /\ T a b c d e /\ U a b c d e /\ V a b c d e /\ W a b c d e /\ X a b c d e) (k : ∀ a, ∀ b, P a b -> Q a b -> ∀ c, ∀ d, ∀ e, R a b c d e -> S a b c d e -> T a b c d e -> U a b c d e -> V a b c d e -> W a b c d e -> X a b c d e -> G) : G := h.elim fun a h0 => h0.elim fun b h1 => h1.2.2.elim fun c h4 => h4.elim fun d h5 => h5.elim fun e h6 => k a b h1.1 h1.2.1 c d e h6.1 h6.2.1 h6.2.2.1 h6.2.2.2.1 h6.2.2.2.2.1 h6.2.2.2.2.2.1 h6.2.2.2.2.2.2
theorem xEEEEEEAAAAAAAAAAAA.{u0, u1, u2, u3, u4, u5} {α : Sort u0} {β : Sort u1} {γ : Sort u2} {δ : Sort u3} {ε : Sort u4} {ζ : Sort u5} {P : α -> β -> γ -> δ -> ε -> ζ -> Prop} {Q : α -> β -> γ -> δ -> ε -> ζ -> Prop} {R : α -> β -> γ -> δ -> ε -> ζ -> Prop} {S : α -> β -> γ -> δ -> ε -> ζ -> Prop} {T : α -> β -> γ -> δ -> ε -> ζ -> Prop} {U : α -> β -> γ -> δ -> ε -> ζ -> Prop} {V : α -> β -> γ -> δ -> ε -> ζ -> Prop} {W : α -> β -> γ -> δ -> ε -> ζ -> Prop} {X : α -> β -> γ -> δ -> ε -> ζ -> Prop} {Y : α -> β -> γ -> δ -> ε -> ζ -> Prop} {Z : α -> β -> γ -> δ -> ε -> ζ -> Prop} {A : α -> β -> γ -> δ -> ε -> ζ -> Prop} {B : α -> β -> γ -> δ -> ε -> ζ -> Prop} {G : Prop} (h : ∃ a, ∃ b, ∃ c, ∃ d, ∃ e, ∃ f, P a b c d e f /\ Q a b c d e f /\ R a b c d e f /\ S a b c d e f /\ T a b c d e f /\ U a b c d e f /\ V a b c d e f /\ W a b c d e f /\ X a b c d e f /\ Y a b c d e f /\ Z a b c d e f /\ A a b c d e f /\ B a b c d e f) (k : ∀ a, ∀ b, ∀ c, ∀ d, ∀ e, ∀ f, P a b c d e f -> Q a b c d e f -> R a b c d e f -> S a b c d e f -> T a b c d e f -> U a b c d e f -> V a b c d e f -> W a b c d e f -> X a b c d e f -> Y a b c d e f -> Z a b c d e f -> A a b c d e f -> B a b c d e f -> G) : G := h.elim fun a h0 => h0.elim fun b h1 => h1.elim fun c h2 => h2.elim fun d h3 => h3.elim fun e h4 => h4.elim fun f h5 => k a b c d e f h5.1 h5.2.1 h5.2.2.1 h5.2.2.2.1 h5.2.2.2.2.1 h5.2.2.2.2.2.1 h5.2.2.2.2.2.2.1 h5.2.2.2.2.2.2.2.1 h5.2.2.2.2.2.2.2.2.1 h5.2.2.2.2.2.2.2.2.2.1 h5.2.2.2.2.2.2.2.2.2.2.1 h5.2.2.2.2.2.2.2.2.2.2.2.1 h5.2.2.2.2.2.2.2.2.2.2.2.2
@[elab_as_elim] theorem rwE {α : Sort u} {a b : α} {C : α -> Prop} (h : a = b) (k : C b) : C a := h ▸ k
@[elab_as_elim] theorem rwB {α : Sort u} {a b : α} {C : α -> Prop} (h : b = a) (k : C b) : C a := h ▸ k
end Mine
end
section
open PySem PySem.W PyProof.Rows
namespace Mine


inductive AV where
  | none
  | bool (b : Bool)
  | int (i : Int)
  | str (s : Str)
  | obj (n : Nat)
  | con (v : Value)
  deriving DecidableEq, Inhabited

inductive AO where
  | list (xs : List AV)
  | tup (xs : List AV)
  | dict (es : List (Str × AV))
  | cell (v : Option AV)
  | inst (cls : Nat) (d : Nat)
  | node (cls : Nat) (sl : List (Option AV)) (d : Nat)
  | set (xs : List Str)
  | iter (l : Nat) (i : Nat)
  | nxt (it : Nat)
  | fro (es : List (Str × AV))
  | attrs (es : List (Str × AV))
  | flist (xs : List AV)
  | gone
  deriving Inhabited

noncomputable abbrev Hp := List AO
noncomputable abbrev Loc := List (Str × AV)

structure FE where
  names : List (Str × NameKind)
  cells : List (Str × Nat)
  dep : Nat
  own : Bool

structure St where
  hp : Hp
  lc : Loc

inductive Fl where
  | next | brk | cont
  | ret (v : AV)
  deriving Inhabited

inductive It where
  | one (v : AV)
  | two (a b : AV)
  deriving Inhabited

inductive SK where
  | list (n : Nat)
  | tup (n : Nat)
  | str (s : Str)
  | rng (a c : Int)
  | enum (n : Nat)
  | dkey (n : Nat)
  | dval (n : Nat)
  | ditem (n : Nat)
  deriving Inhabited

structure Src where
  kind : SK
  items : List It
  keep : Option (Nat × AO)

set_option genInjectivity false in
structure FD where
  params : Arguments
  body : List Stmt
  scope : Scope
  deriving Inhabited

noncomputable abbrev theText : List Stmt := PySem.Challenge.pw_om0120_01.main.body
noncomputable def stmtOf : Stmt -> FD × List Stmt
  | .FunctionDef _ a b _ _ _ sc _ _ _ => (⟨a, b, sc⟩, [])
  | .ClassDef _ _ _ b _ _ _ _ _ _ _ => ({ (default : FD) with body := b }, [])
  | .While _ b o _ => ({ (default : FD) with body := b }, o)
  | .For _ _ b o _ => ({ (default : FD) with body := b }, o)
  | .If _ b o _ => ({ (default : FD) with body := b }, o)
  | _ => (default, [])
noncomputable def fdIn (l : List Stmt) (i : Nat) : FD := (l[i]?).elim default fun s => (stmtOf s).1
noncomputable def clsIn (l : List Stmt) (i : Nat) : List Stmt := (fdIn l i).body

noncomputable def clsSorter : Nat := 188
noncomputable def clsNode : Nat := 91

noncomputable def fdTab : List (Nat × FD) := [
  (65, fdIn theText 5),
  (72, fdIn theText 6),
  (199, fdIn theText 14),
  (206, fdIn theText 15),
  (213, fdIn theText 16),
  (220, fdIn theText 17),
  (225, fdIn theText 19),
  (232, fdIn theText 20),
  (237, fdIn theText 21),
  (242, fdIn theText 22),
  (124, fdIn (clsIn theText 12) 0),
  (131, fdIn (clsIn theText 12) 1),
  (138, fdIn (clsIn theText 12) 2),
  (143, fdIn (clsIn theText 12) 3),
  (150, fdIn (clsIn theText 12) 4),
  (157, fdIn (clsIn theText 12) 5),
  (171, fdIn (clsIn theText 12) 7),
  (178, fdIn (clsIn theText 12) 8),
  (87, fdIn (clsIn theText 10) 1)]
noncomputable def fdAt (a : Nat) : Option FD := fdTab.lookup a

noncomputable def methTab : List (Str × Nat) := [("_get_nodeinfo", 131), ("add", 138), ("prepare", 143), ("get_ready", 150), ("is_active", 157), ("done", 171), ("_find_cycle", 178)]
noncomputable def methAt (name : Str) : Option Nat := methTab.lookup name

noncomputable def globs : List (Str × AV) := [
  ("parse229", .con (.ref 65)), ("parse257", .con (.ref 72)), ("_NODE_OUT", .int (-1)), ("_NODE_DONE", .int (-2)),
  ("_NodeInfo", .con (.ref 91)), ("TopologicalSorter", .con (.ref 188)), ("heappop", .con (.ref 199)), ("heapify", .con (.ref 206)),
  ("_siftdown", .con (.ref 213)), ("_siftup", .con (.ref 220)), ("_law_packed", .con (.ref 225)), ("_law_told", .con (.ref 232)),
  ("_law_best", .con (.ref 237)),
  ("len", .con (.builtin "len")), ("sum", .con (.builtin "sum")), ("min", .con (.builtin "min")), ("max", .con (.builtin "max")),
  ("sorted", .con (.builtin "sorted")), ("iter", .con (.builtin "iter")), ("int", .con (.type "int")), ("str", .con (.type "str")),
  ("bool", .con (.type "bool")), ("tuple", .con (.type "tuple")), ("set", .con (.type "set")), ("range", .con (.type "range")),
  ("reversed", .con (.type "reversed")), ("enumerate", .con (.type "enumerate")), ("StopIteration", .con (.type "StopIteration"))]

noncomputable def slotsOf : List Str := ["node", "npredecessors", "successors"]

noncomputable def fits (x : Str) : Bool := x.length <= 16777216

noncomputable def strLt (a b : Str) : Bool := decide (a.cps.toList < b.cps.toList)



noncomputable def strsOf : List AV -> Option (List Str)
  | [] => some []
  | .str s :: r => (strsOf r).map (s :: ·)
  | _ :: _ => none
noncomputable def intsOf : List AV -> Option (List Int)
  | [] => some []
  | .int s :: r => (intsOf r).map (s :: ·)
  | _ :: _ => none

noncomputable def partOf : AV -> Option (Option Int)
  | .none => some none
  | .int i => some (some i)
  | _ => none
noncomputable def pickA (xs : List AV) (lo hi st : Option Int) : List AV :=
  (sliceRange (sliceBounds lo hi st xs.length).1 (sliceBounds lo hi st xs.length).2.1 (sliceBounds lo hi st xs.length).2.2).filterMap (xs[·]?)

noncomputable def putD (k : Str) (v : AV) (es : List (Str × AV)) : List (Str × AV) :=
  if es.any (fun p => p.1 = k) then es.map (fun p => if p.1 = k then (p.1, v) else p) else es ++ [(k, v)]

noncomputable def putA (k : Str) (v : AV) : List (Str × AV) -> List (Str × AV)
  | [] => [(k, v)]
  | (x, u) :: r => if x = k then (x, v) :: r else (x, u) :: putA k v r
noncomputable def attrNames : List Str := ["_node2info", "_ready_nodes", "_npassedout", "_nfinished"]
noncomputable def plainV : AV -> Bool
  | .con _ => false
  | _ => true

inductive GA (h : Hp) : AV -> Str -> AV -> Hp -> Prop
  | inst {n d : Nat} {es : List (Str × AV)} {a : Str} {v : AV} : h[n]? = some (.inst 188 d) -> h[d]? = some (.attrs es) -> a ∈ attrNames -> es.lookup a = some v -> plainV v = true -> GA h (.obj n) a v h
  | node {n d i : Nat} {sl : List (Option AV)} {es : List (Str × AV)} {a : Str} {v : AV} : h[n]? = some (.node 91 sl d) -> h[d]? = some (.attrs es) -> slotsOf.idxOf? a = some i -> sl[i]? = some (some v) -> plainV v = true -> GA h (.obj n) a v h
  | next {n l i : Nat} : h[n]? = some (.iter l i) -> GA h (.obj n) "__next__" (.obj h.length) (h ++ [.nxt n])
inductive SA (h : Hp) : AV -> Str -> AV -> Hp -> Prop
  | inst {n d : Nat} {es : List (Str × AV)} {a : Str} {v : AV} : h[n]? = some (.inst 188 d) -> h[d]? = some (.attrs es) -> a ∈ attrNames -> es.length <= 100 -> SA h (.obj n) a v (h.set d (.attrs (putA a v es)))
  | node {n d i : Nat} {sl : List (Option AV)} {es : List (Str × AV)} {a : Str} {v : AV} : h[n]? = some (.node 91 sl d) -> h[d]? = some (.attrs es) -> slotsOf.idxOf? a = some i -> i < sl.length -> SA h (.obj n) a v (h.set n (.node 91 (sl.set i (some v)) d))

noncomputable def intText (s : Str) : Option Int :=
  if s = "5" then some 5 else if s = "10" then some 10 else if s = "15" then some 15 else if s = "20" then some 20 else none

noncomputable def textInt (i : Int) : Option Str :=
  if i = 5 then some "5" else if i = 10 then some "10" else if i = 15 then some "15" else if i = 20 then some "20" else none

noncomputable def maxL : List Int -> Option Int
  | [] => none
  | x :: r => some (r.foldl (fun m y => if m < y then y else m) x)


inductive RowsOf (h : Hp) : List AV -> List (Str × AV) -> Prop
  | nil : RowsOf h [] []
  | cons {n : Nat} {a b : Str} {c : Int} {r : List AV} {l : List (Str × AV)} : h[n]? = some (.tup [.str a, .str b, .int c]) -> RowsOf h r l -> RowsOf h (.obj n :: r) ((a, .obj n) :: l)
noncomputable def kasRun {α : Type} (lt : Nat -> Nat -> Bool) : KasT α -> α
  | .ret a => a
  | .ask i j k => kasRun lt (k (lt i j))
noncomputable def sortRows (l : List (Str × AV)) : List AV :=
  (kasRun (fun i j => strLt (l.getD i ("", .none)).1 (l.getD j ("", .none)).1) (kas_sort 6)).toList.map fun i => (l.getD i ("", .none)).2

inductive RFn (h : Hp) : AV -> Str -> Nat -> Prop
  | mk {k d a : Nat} {es : List (Str × AV)} {m : Str} : h[k]? = some (.inst 188 d) -> h[d]? = some (.attrs es) -> es.lookup m = none -> methAt m = some a -> RFn h (.obj k) m a
noncomputable def plainBase (o : Expr) : Bool := match o with
  | .Call _ as _ _ => !as.isEmpty
  | _ => true
noncomputable def methForm (o : Expr) (apos pos : Pos) (n : Nat) : Bool :=
  plainBase o && apos.endLine == pos.line && decide (n < 20)

noncomputable def getName (fe : FE) (x : Str) (st : St) : Option AV := match fe.names.lookup x with
  | some .local => st.lc.lookup x
  | some .cell | some .free => if x = "__classdict__" then none else match fe.cells.lookup x with
    | some c => match st.hp[c]? with
      | some (.cell v) => v
      | _ => none
    | none => none
  | some .globalImplicit => globs.lookup x
  | _ => none
noncomputable def putName (fe : FE) (x : Str) (v : AV) (st : St) : Option St := match fe.names.lookup x with
  | some .local => some ⟨st.hp, (x, v) :: st.lc⟩
  | some .cell => match fe.cells.lookup x with
    | some c => match st.hp[c]? with
      | some (.cell _) => some ⟨st.hp.set c (.cell (some v)), st.lc⟩
      | _ => none
    | none => none
  | _ => none

noncomputable def newCells : List (Str × NameKind) -> Hp -> List (Str × Nat) -> Hp × List (Str × Nat)
  | [], h, cs => (h, cs)
  | (n, .cell) :: r, h, cs => newCells r (h ++ [.cell none]) ((n, h.length) :: cs)
  | _ :: r, h, cs => newCells r h cs
noncomputable def closure (fe : FE) : List (Str × NameKind) -> List (Str × Nat) -> Option (List (Str × Nat))
  | [], cs => some cs
  | (n, .free) :: r, cs => match fe.cells.lookup n with
    | some c => closure fe r ((n, c) :: cs)
    | none => none
  | _ :: r, cs => closure fe r cs
noncomputable def compNames (fe : FE) (names : List (Str × NameKind)) : List (Str × NameKind) :=
  names.map fun p => if p.2 = .free /\ fe.names.lookup p.1 = some .cell then (p.1, .cell) else p

noncomputable def bindAll (fe : FE) : List (Str × AV) -> St -> Option St
  | [], st => some st
  | (x, v) :: r, st => (putName fe x v st).bind (bindAll fe r)

noncomputable def assignNames (fe : FE) : List Expr -> List AV -> St -> Option St
  | [], [], st => some st
  | .Name x _ :: ts, v :: vs, st => (putName fe x v st).bind (assignNames fe ts vs)
  | _, _, _ => none
noncomputable def assignPlain (fe : FE) (t : Expr) (v : AV) (st : St) : Option St := match t with
  | .Name x _ => putName fe x v st
  | .Tuple ts _ _ => match v with
    | .obj n => match st.hp[n]? with
      | some (.tup xs) => assignNames fe ts xs st
      | _ => none
    | _ => none
  | _ => none
noncomputable def assignIt (fe : FE) (t : Expr) (i : It) (st : St) : Option St := match i with
  | .one v => assignPlain fe t v st
  | .two a b => match t with
    | .Tuple ts _ _ => assignNames fe ts [a, b] st
    | _ => none

noncomputable def srcOf (v : AV) (h : Hp) : Option Src := match v with
  | .str s => if s.length <= 100 /\ s.cps.all (· < 128) then some ⟨.str s, s.cps.toList.map fun c => .one (.str ⟨#[c]⟩), none⟩ else none
  | .obj n => match h[n]? with
    | some (.list xs) => if xs.length <= 1000 then some ⟨.list n, xs.map .one, some (n, .list xs)⟩ else none
    | some (.tup xs) => if xs.length <= 1000 then some ⟨.tup n, xs.map .one, some (n, .tup xs)⟩ else none
    | some (.dict es) => if es.length <= 1000 then some ⟨.dkey n, es.map fun p => .one (.str p.1), none⟩ else none
    | _ => none
  | _ => none
noncomputable def kept (s : Src) (h : Hp) : Bool := match s.keep with
  | none => true
  | some (n, o) => @decide (h[n]? = some o) (Classical.propDecidable _)
noncomputable def froze (n : Nat) (h : Hp) : Hp := match h[n]? with
  | some (.dict es) => h.set n (.fro es)
  | _ => h
noncomputable def thawed (n : Nat) (h : Hp) : Hp := match h[n]? with
  | some (.fro es) => h.set n (.dict es)
  | _ => h
noncomputable def Src.dict? (s : Src) : Option Nat := match s.kind with
  | .dkey n | .dval n | .ditem n => some n
  | _ => none
noncomputable def freeze (s : Src) (h : Hp) : Hp := match s.dict? with
  | some n => froze n h
  | none => h
noncomputable def thaw (s : Src) (h : Hp) : Hp := match s.dict? with
  | some n => thawed n h
  | none => h

noncomputable def upto (n : Nat) : List It := (List.range n).map fun (i : Nat) => .one (.int i)
noncomputable def enumIts : Nat -> List AV -> List It
  | _, [] => []
  | i, x :: r => .two (.int i) x :: enumIts (i + 1) r

noncomputable def compOk (sc : Scope) (gens : List Comprehension) : Bool :=
  sc.kind == .function && sc.names.all (fun p => p.2 != .local || sc.names.lookup p.1 == some .local) && gens.all (fun g => g.is_async == 0)

noncomputable def isNoneTest (t : Expr) : Bool := match t with
  | .Constant .none _ _ => true
  | _ => false

noncomputable def notSwapped (fe : FE) (targets : List Expr) (value : Expr) : Bool := match value with
  | .Tuple _ _ _ => !(targets.all fun t => match t with
    | .Name x _ => fe.names.lookup x == some .local
    | _ => false)
  | _ => true

noncomputable def kwOk (ks : List Keyword) : Bool := ks.isEmpty

noncomputable def isComp (e : Expr) : Bool := List.elem e.ctorIdx [8, 10]


noncomputable def lawFd : FD := fdIn theText 22

end Mine
end
section
open PySem PySem.W PyProof.Rows PySem.Calls
namespace Mine

noncomputable abbrev Le (φ ψ : List Addr) : Prop := ∀ (n : Nat) (a : Addr), φ[n]? = some a -> ψ[n]? = some a
theorem Le.refl (φ : List Addr) : Le φ φ := fun z9 z9 e => e
theorem Le.trans {φ ψ χ : List Addr} (x : Le φ ψ) (y : Le ψ χ) : Le φ χ := fun n a e => y n a (x n a e)

inductive VC (φ : List Addr) : AV -> Value -> Prop where
  | none : VC φ .none .none
  | bool (b : Bool) : VC φ (.bool b) (.bool b)
  | int (i : Int) (t : Tok) : VC φ (.int i) (.int i t)
  | str (s : Str) (t : Tok) : VC φ (.str s) (.str s t)
  | obj {n : Nat} {a : Addr} : φ[n]? = some a -> VC φ (.obj n) (.ref a)
  | con (v : Value) : VC φ (.con v) v

theorem VC.int_eq {φ : List Addr} {i : Int} {v : Value} (h : VC φ (.int i) v) : ∃ t, v = .int i t := by cases h; exact ⟨_, rfl⟩
theorem VC.str_eq {φ : List Addr} {x : Str} {v : Value} (h : VC φ (.str x) v) : ∃ t, v = .str x t := by cases h; exact ⟨_, rfl⟩
theorem VC.obj_eq {φ : List Addr} {n : Nat} {v : Value} (h : VC φ (.obj n) v) : ∃ a, φ[n]? = some a /\ v = .ref a := by cases h with | obj h => exact ⟨_, h, rfl⟩
theorem VC.none_eq {φ : List Addr} {v : Value} (h : VC φ .none v) : v = .none := by cases h; rfl
theorem VC.bool_eq {φ : List Addr} {b : Bool} {v : Value} (h : VC φ (.bool b) v) : v = .bool b := by cases h; rfl
@[elab_as_elim] theorem VC.objE {φ : List Addr} {n : Nat} {v : Value} {C : Value -> Prop} (h : VC φ (.obj n) v) (k : ∀ a, φ[n]? = some a -> C (.ref a)) : C v := by cases h with | obj h => exact k _ h
@[elab_as_elim] theorem VC.intE {φ : List Addr} {i : Int} {v : Value} {C : Value -> Prop} (h : VC φ (.int i) v) (k : ∀ t, C (.int i t)) : C v := by cases h; exact k _
@[elab_as_elim] theorem VC.strE {φ : List Addr} {x : Str} {v : Value} {C : Value -> Prop} (h : VC φ (.str x) v) (k : ∀ t, C (.str x t)) : C v := by cases h; exact k _
inductive VCs (φ : List Addr) : List AV -> List Value -> Prop where
  | nil : VCs φ [] []
  | cons {a : AV} {v : Value} {as : List AV} {vs : List Value} : VC φ a v -> VCs φ as vs -> VCs φ (a :: as) (v :: vs)

inductive DCs (φ : List Addr) : List (Str × AV) -> List (Str × Value) -> Prop where
  | nil : DCs φ [] []
  | cons {k : Str} {a : AV} {v : Value} {as : List (Str × AV)} {vs : List (Str × Value)} : VC φ a v -> DCs φ as vs -> DCs φ ((k, a) :: as) ((k, v) :: vs)

noncomputable def OptC (φ : List Addr) : Option AV -> Option Value -> Prop
  | none, none => True
  | some a, some v => VC φ a v
  | _, _ => False
inductive SlC (φ : List Addr) : List (Option AV) -> List (Option Value) -> Prop where
  | nil : SlC φ [] []
  | cons {a : Option AV} {v : Option Value} {as : List (Option AV)} {vs : List (Option Value)} : OptC φ a v -> SlC φ as vs -> SlC φ (a :: as) (v :: vs)

theorem VC.mono {φ ψ : List Addr} (h : Le φ ψ) {a : AV} {v : Value} (x : VC φ a v) : VC ψ a v := by
  cases x with
  | none => exact .none
  | bool b => exact .bool b
  | int i t => exact .int i t
  | str s t => exact .str s t
  | obj e => exact .obj (h _ _ e)
  | con v => exact .con v
theorem VCs.mono {φ ψ : List Addr} (h : Le φ ψ) {a : List AV} {v : List Value} (x : VCs φ a v) : VCs ψ a v := by
  induction x with
  | nil => exact .nil
  | cons y _ ih => exact .cons (y.mono h) ih
theorem DCs.mono {φ ψ : List Addr} (h : Le φ ψ) {a : List (Str × AV)} {v : List (Str × Value)} (x : DCs φ a v) : DCs ψ a v := by
  induction x with
  | nil => exact .nil
  | cons y _ ih => exact .cons (y.mono h) ih
theorem OptC.mono {φ ψ : List Addr} (h : Le φ ψ) {a : Option AV} {v : Option Value} (x : OptC φ a v) : OptC ψ a v := by
  cases a <;> cases v <;> first | exact x | exact VC.mono h x
theorem SlC.mono {φ ψ : List Addr} (h : Le φ ψ) {a : List (Option AV)} {v : List (Option Value)} (x : SlC φ a v) : SlC ψ a v := by
  induction x with
  | nil => exact .nil
  | cons y _ ih => exact .cons (y.mono h) ih
theorem VCs.length {φ : List Addr} {a : List AV} {v : List Value} (x : VCs φ a v) : v.length = a.length := by
  induction x with
  | nil => rfl
  | cons _ _ ih => simp [ih]
theorem DCs.length {φ : List Addr} {a : List (Str × AV)} {v : List (Str × Value)} (x : DCs φ a v) : v.length = a.length := by
  induction x with
  | nil => rfl
  | cons _ _ ih => simp [ih]
theorem SlC.length {φ : List Addr} {a : List (Option AV)} {v : List (Option Value)} (x : SlC φ a v) : v.length = a.length := by
  induction x with
  | nil => rfl
  | cons _ _ ih => simp [ih]
theorem VCs.get {φ : List Addr} {a : List AV} {v : List Value} (x : VCs φ a v) : ∀ {i : Nat} {y : AV}, a[i]? = some y -> ∃ z, v[i]? = some z /\ VC φ y z := by
  induction x with
  | nil => intro i y e; cases e
  | cons h _ ih =>
    intro i y e
    cases i with
    | zero => cases e; exact ⟨_, rfl, h⟩
    | succ i => exact ih e
theorem SlC.get {φ : List Addr} {a : List (Option AV)} {v : List (Option Value)} (x : SlC φ a v) : ∀ {i : Nat} {y : Option AV}, a[i]? = some y -> ∃ z, v[i]? = some z /\ OptC φ y z := by
  induction x with
  | nil => intro i y e; cases e
  | cons h _ ih =>
    intro i y e
    cases i with
    | zero => cases e; exact ⟨_, rfl, h⟩
    | succ i => exact ih e
theorem VCs.append {φ : List Addr} {a b : List AV} {v u : List Value} (x : VCs φ a v) (y : VCs φ b u) : VCs φ (a ++ b) (v ++ u) := by
  induction x with
  | nil => exact y
  | cons h _ ih => exact .cons h ih
theorem VCs.set {φ : List Addr} {a : List AV} {v : List Value} {z : AV} {u : Value} (x : VCs φ a v) (hz : VC φ z u) : ∀ i : Nat, VCs φ (a.set i z) (v.set i u) := by
  induction x with
  | nil => intro i; exact .nil
  | cons h t ih =>
    intro i
    cases i with
    | zero => exact .cons hz t
    | succ i => exact .cons h (ih i)
theorem SlC.set {φ : List Addr} {a : List (Option AV)} {v : List (Option Value)} {z : Option AV} {u : Option Value} (x : SlC φ a v) (hz : OptC φ z u) : ∀ i : Nat, SlC φ (a.set i z) (v.set i u) := by
  induction x with
  | nil => intro i; exact .nil
  | cons h t ih =>
    intro i
    cases i with
    | zero => exact .cons hz t
    | succ i => exact .cons h (ih i)
theorem VCs.take {φ : List Addr} {a : List AV} {v : List Value} (x : VCs φ a v) : ∀ i : Nat, VCs φ (a.take i) (v.take i) := by
  induction x with
  | nil => intro i; simp; exact .nil
  | cons h t ih =>
    intro i
    cases i with
    | zero => exact .nil
    | succ i => exact .cons h (ih i)
theorem VCs.drop {φ : List Addr} {a : List AV} {v : List Value} (x : VCs φ a v) : ∀ i : Nat, VCs φ (a.drop i) (v.drop i) := by
  induction x with
  | nil => intro i; simp; exact .nil
  | cons h t ih =>
    intro i
    cases i with
    | zero => exact .cons h t
    | succ i => exact ih i
theorem VCs.dropLast {φ : List Addr} {a : List AV} {v : List Value} (x : VCs φ a v) : VCs φ a.dropLast v.dropLast := by
  refine rwE List.dropLast_eq_take (rwE List.dropLast_eq_take (rwE x.length ?_)); exact x.take _
theorem DCs.lookup {φ : List Addr} {a : List (Str × AV)} {v : List (Str × Value)} (x : DCs φ a v) (k : Str) : OptC φ (a.lookup k) (v.lookup k) := by
  induction x with
  | nil => trivial
  | @cons k' y z as vs h _ ih =>
    simp only [List.lookup]
    cases q : k == k' with
    | true => exact h
    | false => exact ih
theorem DCs.keys {φ : List Addr} {a : List (Str × AV)} {v : List (Str × Value)} (x : DCs φ a v) : v.map (·.1) = a.map (·.1) := by
  induction x with
  | nil => rfl
  | cons _ _ ih => simp [ih]


noncomputable abbrev M (w : World) : Model := model PySem.Challenge.pw_om0120_01 w
noncomputable abbrev sk (w : World) : KeyKind PySem.Challenge.pw_om0120_01 w Str := strKind PySem.Challenge.pw_om0120_01 w

noncomputable def SetIs (w : World) (xs : List Str) (o : Obj) : Prop :=
  ∃ es ep t, o.ExactSet /\ o.data = .set es ep t /\ ElemsOf (sk w) es.toList /\ (∀ k, decide (k ∈ xs) = true ↔ ∃ e ∈ es.toList, (sk w).is k e.2 = true)
    /\ es.size < scanBound /\ t.fits es.size = true /\ es.size = xs.length

inductive ACs (φ : List Addr) : List (Str × AV) -> List DictEntry -> Prop where
  | nil : ACs φ [] []
  | cons {k : Str} {hs : Int} {t : Tok} {a : AV} {v : Value} {as : List (Str × AV)} {es : List DictEntry} : VC φ a v -> ACs φ as es -> ACs φ ((k, a) :: as) (⟨hs, .str k t, v⟩ :: es)
theorem ACs.mono {φ ψ : List Addr} (h : Le φ ψ) {a : List (Str × AV)} {v : List DictEntry} (x : ACs φ a v) : ACs ψ a v := by
  induction x with
  | nil => exact .nil
  | cons y _ ih => exact .cons (y.mono h) ih

noncomputable def OC (w : World) (φ : List Addr) : AO -> Obj -> Prop
  | .list xs, o => ∃ vs n, o = ⟨.type "list", none, .seq (List.toArray vs) n, #[]⟩ /\ VCs φ xs vs
  | .tup xs, o => ∃ vs n, o = ⟨.type "tuple", none, .seq (List.toArray vs) n, #[]⟩ /\ VCs φ xs vs
  | .dict es, o => ∃ kvs, o.IsDictOf (sk w) kvs /\ DCs φ es kvs
  | .cell v, o => ∃ v', o.data = .cell v' /\ OptC φ v v'
  | .inst c d, o => ∃ dx, φ[d]? = some dx /\ o = instObj c dx
  | .node c sl d, o => ∃ (dx : Addr) (vs : List (Option Value)), φ[d]? = some dx /\ o = ⟨.ref c, some dx, .plain, List.toArray vs⟩ /\ ∀ i : Nat, OptC φ (sl[i]?).join (vs[i]?).join
  | .set xs, o => SetIs w xs o
  | .iter l i, o => ∃ a, φ[l]? = some a /\ o = ⟨.type "list_iterator", none, .fields #[.ref a, .int i 0], #[]⟩
  | .nxt it, o => ∃ a, φ[it]? = some a /\ o = ⟨.type "method-wrapper", none, .fields #[.builtin "list_iterator.__next__", .ref a], #[]⟩
  | .fro es, o => ∃ kvs, o.IsDictOf (sk w) kvs /\ DCs φ es kvs
  | .attrs as, o => ∃ es n, o = dictOf es n /\ ACs φ as es
  | .flist xs, o => ∃ vs n, o = ⟨.type "list", none, .seq (List.toArray vs) n, #[]⟩ /\ VCs φ xs vs
  | .gone, _ => True

noncomputable def AO.isFro : AO -> Bool
  | .fro _ => true
  | .flist _ => true
  | _ => false

theorem OC.mono {w : World} {φ ψ : List Addr} (h : Le φ ψ) {a : AO} {o : Obj} (x : OC w φ a o) : OC w ψ a o := by
  cases a with
  | list xs => refine xEEA (x) fun vs n h3 h4 => ?_; exact ⟨vs, n, h3, h4.mono h⟩
  | tup xs => refine xEEA (x) fun vs n h3 h4 => ?_; exact ⟨vs, n, h3, h4.mono h⟩
  | dict es => refine xEA (x) fun kvs h1 h3 => ?_; exact ⟨kvs, h1, h3.mono h⟩
  | cell v => refine xEA (x) fun v' h1 h2 => ?_; exact ⟨v', h1, h2.mono h⟩
  | inst c d => refine xEA (x) fun dx h1 h2 => ?_; exact ⟨dx, h _ _ h1, h2⟩
  | node c sl d => refine xEEAA (x) fun dx vs h0 h1 h2 => ?_; exact ⟨dx, vs, h _ _ h0, h1, fun i => (h2 i).mono h⟩
  | set xs => exact x
  | iter l i => refine xEA (x) fun a h1 h2 => ?_; exact ⟨a, h _ _ h1, h2⟩
  | nxt it => refine xEA (x) fun a h1 h2 => ?_; exact ⟨a, h _ _ h1, h2⟩
  | fro es => refine xEA (x) fun kvs h1 h3 => ?_; exact ⟨kvs, h1, h3.mono h⟩
  | attrs as => refine xEEA (x) fun es n h1 h2 => ?_; exact ⟨es, n, h1, h2.mono h⟩
  | flist xs => refine xEEA (x) fun vs n h3 h4 => ?_; exact ⟨vs, n, h3, h4.mono h⟩
  | gone => trivial

structure Ground (w : World) (K : Frag) (mg mb : Str -> Option Value) (b : Heap) : Prop where
  inK : K.In b
  g : b.Ns mainGlobals mg
  bl : b.Ns builtinsNs mb
  lim : b.NoLimit
  blt : ∀ x : Str, x ≠ "__name__" -> mb x = bootBuiltins x
theorem Ground.keeps {w : World} {K : Frag} {mg mb : Str -> Option Value} {b b' : Heap} (x : Ground w K mg mb b) (k : ∀ a o, b.get? a = some o -> b'.get? a = some o) : Ground w K mg mb b' :=
  ⟨x.inK.keeps k, x.g.keeps k, x.bl.keeps k, x.lim.keeps k, x.blt⟩

set_option genInjectivity false in
structure Fx where
  pr : Heap
  gd : Heap
  fe : FE
  env : Env
  A : Around
  frames : List Env
  lls : List Addr

noncomputable def Fx.fr (X : Fx) : List Addr := X.frames.filterMap (·.frame)

structure Good (w : World) (K : Frag) (mg mb : Str -> Option Value) (X : Fx) : Prop where
  ground : Ground w K mg mb X.gd
  gdpr : ∀ b o, X.gd.get? b = some o -> X.pr.get? b = some o
  gdfr : ∀ b ∈ X.fr, X.gd.get? b = none
  hh : X.A.handled = none
  frm : X.A.frames = some X.frames
  kind : X.env.scope.kind = .function
  names : X.env.scope.names = X.fe.names
  glb : X.env.globals = mainGlobals
  bns : X.env.builtins = builtinsNs
  prL : X.pr.get? X.env.locals = none
  room : X.A.depth + 4 * X.fe.dep < recursionLimit
  units : X.A.units + 16 * X.fe.dep + 128 < cLine
  own : X.fe.own = true -> ∃ rest, X.frames = X.env :: rest /\ X.env.frame = some X.env.locals
  around : ∀ e ∈ X.frames, e.scope.kind ≠ .module /\ ∃ L, e.frame = some L /\ (L = X.env.locals ∨ ∃ o, X.pr.get? L = some o /\ ∃ es ep, o.data = .dict es ep)
  somefr : ∃ L, X.env.frame = some L /\ L ∈ X.fr
  frl : ∀ b ∈ X.fr, b ∈ X.lls

noncomputable def KeepF (fr : List Addr) (pr h : Heap) : Prop :=
  ∀ b o, pr.get? b = some o -> ∃ sl, h.get? b = some { o with slots := sl } /\ (b ∉ fr -> sl = o.slots)

theorem KeepF.exact {fr : List Addr} {pr h : Heap} (x : KeepF fr pr h) {b : Addr} {o : Obj} (e : pr.get? b = some o) (hb : b ∉ fr) : h.get? b = some o := by
  refine xEA (x b o e) fun sl h1 h2 => ?_
  rw [h2 hb] at h1
  exact h1
theorem KeepF.step {fr : List Addr} {pr h h' : Heap} (x : KeepF fr pr h) (k : ∀ b o, h.get? b = some o -> pr.get? b ≠ none -> h'.get? b = some o) : KeepF fr pr h' := fun b o e => by
  refine xEA (x b o e) fun sl h1 h2 => ?_
  exact ⟨sl, k _ _ h1 (by refine rwE e ?_; intro z; cases z), h2⟩

structure Rel (w : World) (X : Fx) (φ : List Addr) (st : St) (s₀ s : Shared) : Prop where
  keep : KeepF X.fr X.pr s.heap
  loc : ∃ m, s.heap.Ns X.env.locals m /\ ∀ x v, st.lc.lookup x = some v -> ∃ v', m x = some v' /\ VC φ v v'
  objs : ∀ (n : Nat) (o : AO), st.hp[n]? = some o -> ∃ (a : Addr) (ob : Obj), φ[n]? = some a /\ s.heap.get? a = some ob /\ OC w φ o ob
  inj : φ.Nodup
  len : φ.length = st.hp.length
  off : ∀ a ∈ φ, a ∉ X.lls /\ (s.heap.get? a).isSome /\ 1 < a
  lls : X.env.locals ∈ X.lls /\ ∀ L ∈ X.lls, (s.heap.get? L).isSome
  offp : ∀ (n : Nat) (a : Addr) (o : AO), φ[n]? = some a -> st.hp[n]? = some o -> o.isFro = false -> X.pr.get? a = none
  lowL : 1 < X.env.locals
  cells : ∀ x c, X.fe.cells.lookup x = some c -> ∃ a, X.env.cells.lookup x = some a /\ φ[c]? = some a
  tok : 1 <= s.toks
  gens : s.gens = s₀.gens
  os : s.os = s₀.os
  drawn : s.drawn = s₀.drawn

section
variable {w : World} {X : Fx} {φ : List Addr} {st : St} {s₀ s : Shared} {K : Frag} {mg mb : Str -> Option Value}

theorem Rel.offL (R : Rel w X φ st s₀ s) {a : Addr} (ha : a ∈ φ) : a ≠ X.env.locals := fun q => (R.off a ha).1 (q ▸ R.lls.1)
theorem some_keeps {h h' : Heap} {a : Addr} (h1 : (h.get? a).isSome) (k : ∀ b o, h.get? b = some o -> h'.get? b = some o) : (h'.get? a).isSome := by
  obtain ⟨o, ho⟩ := Option.isSome_iff_exists.mp h1; refine rwE (k _ _ ho) ?_; rfl
theorem mem_of_get {φ : List Addr} {n : Nat} {a : Addr} (e : φ[n]? = some a) : a ∈ φ := List.mem_of_getElem? e
theorem nodup_get {φ : List Addr} (h : φ.Nodup) {n m : Nat} {a : Addr} (e : φ[n]? = some a) (f : φ[m]? = some a) : n = m := by
  obtain ⟨h1, h2⟩ := List.getElem?_eq_some_iff.mp e
  obtain ⟨h3, h4⟩ := List.getElem?_eq_some_iff.mp f
  have p := List.pairwise_iff_getElem.mp h
  rcases Nat.lt_trichotomy n m with q | q | q
  . exact absurd (h2.trans h4.symm) (p n m h1 h3 q)
  . exact q
  . exact absurd (h4.trans h2.symm) (p m n h3 h1 q)

theorem Rel.gd (G : Good w K mg mb X) (R : Rel w X φ st s₀ s) : ∀ b o, X.gd.get? b = some o -> s.heap.get? b = some o := fun b o e =>
  R.keep.exact (G.gdpr b o e) fun hb => by rw [G.gdfr b hb] at e; cases e
theorem Rel.ground (G : Good w K mg mb X) (R : Rel w X φ st s₀ s) : Ground w K mg mb s.heap := G.ground.keeps (R.gd G)

theorem Rel.ext (R : Rel w X φ st s₀ s) {h' : Heap} {tk : Nat} (k : ∀ b o, s.heap.get? b = some o -> h'.get? b = some o) (ht : 1 <= tk) : Rel w X φ st s₀ { s with heap := h', toks := tk } where
  keep := R.keep.step fun b o e z9 => k b o e
  loc := let ⟨m, h1, h2⟩ := R.loc; ⟨m, h1.keeps k, h2⟩
  objs := fun n o e => let ⟨a, ob, h1, h2, h3⟩ := R.objs n o e; ⟨a, ob, h1, k _ _ h2, h3⟩
  inj := R.inj
  len := R.len
  off := fun a ha => let ⟨h1, h3, h4⟩ := R.off a ha; ⟨h1, by obtain ⟨o, ho⟩ := Option.isSome_iff_exists.mp h3; refine rwE (k _ _ ho) ?_; rfl, h4⟩
  offp := R.offp
  lls := ⟨R.lls.1, fun L hL => some_keeps (R.lls.2 L hL) k⟩
  cells := R.cells
  lowL := R.lowL
  tok := ht
  gens := R.gens
  os := R.os
  drawn := R.drawn

theorem Rel.toks (R : Rel w X φ st s₀ s) {tk : Nat} (ht : 1 <= tk) : Rel w X φ st s₀ { s with toks := tk } := R.ext (h' := s.heap) (fun z9 z9 e => e) ht

set_option tactic.hygienic true in
theorem Rel.upd (R : Rel w X φ st s₀ s) {n : Nat} {a : Addr} {o o' : AO} {ob' : Obj} {h' : Heap} {tk : Nat} (hx : st.hp[n]? = some o) (hno : o.isFro = false) (ha : φ[n]? = some a) (k : Heap.ExtBut a s.heap h') (hob : h'.get? a = some ob') (hc : OC w φ o' ob') (ht : 1 <= tk) :
    Rel w X φ ⟨st.hp.set n o', st.lc⟩ s₀ { s with heap := h', toks := tk } where
  keep := R.keep.step fun b o e hb => k b o (fun q => hb (by refine rwE q ?_; exact R.offp n a _ ha hx hno)) e
  loc := let ⟨m, h1, h2⟩ := R.loc; ⟨m, h1.extBut k (Ne.symm (R.offL (mem_of_get ha))), h2⟩
  objs := fun i o e => by
    rw [List.getElem?_set] at e
    split at e
    . rename_i q
      split at e
      . cases e; exact ⟨a, ob', q ▸ ha, hob, hc⟩
      . cases e
    . rename_i q
      refine xEEAA (R.objs i o e) fun b ob h1 h2 h3 => ?_
      exact ⟨b, ob, h1, k b ob (fun z => q (nodup_get R.inj ha (z ▸ h1))) h2, h3⟩
  inj := R.inj
  len := by exact rwE R.len (rwE List.length_set rfl)
  off := fun b hb => by
    refine xAA (R.off b hb) fun h1 h3 h4 => ?_
    refine ⟨h1, ?_, h4⟩
    by_cases q : b = a
    . refine rwE q ?_; refine (?_ : (h'.get? a).isSome = true); refine rwE hob ?_; rfl
    . obtain ⟨o, ho⟩ := Option.isSome_iff_exists.mp h3
      refine (?_ : (h'.get? b).isSome = true)
      refine rwE (k b o q ho) ?_; rfl
  offp := fun i b x hb hx' hf => by
    rw [List.getElem?_set] at hx'
    split at hx'
    . rename_i q; subst q
      rw [ha] at hb; cases hb
      exact R.offp _ a _ ha hx hno
    . exact R.offp i b x hb hx' hf
  lls := ⟨R.lls.1, fun L hL => by
    obtain ⟨o, ho⟩ := Option.isSome_iff_exists.mp (R.lls.2 L hL)
    refine (?_ : (h'.get? L).isSome = true)
    refine rwE (k L o (fun q => (R.off a (mem_of_get ha)).1 (q ▸ hL)) ho) ?_; rfl⟩
  cells := R.cells
  lowL := R.lowL
  tok := ht
  gens := R.gens
  os := R.os
  drawn := R.drawn

theorem get_snoc {φ : List Addr} {a : Addr} {n : Nat} {b : Addr} (e : φ[n]? = some b) : (φ ++ [a])[n]? = some b := List.getElem?_append_left (List.getElem?_eq_some_iff.mp e).1 ▸ e
theorem get_last {φ : List Addr} {a : Addr} : (φ ++ [a])[φ.length]? = some a := by exact List.getElem?_concat_length

theorem Rel.new (R : Rel w X φ st s₀ s) {a : Addr} {o : AO} {ob : Obj} {h' : Heap} {tk : Nat} (k : ∀ b o, s.heap.get? b = some o -> h'.get? b = some o) (hn : s.heap.get? a = none) (hob : h'.get? a = some ob) (hc : OC w (φ ++ [a]) o ob) (hlo : 1 < a) (ht : 1 <= tk) :
    Rel w X (φ ++ [a]) ⟨st.hp ++ [o], st.lc⟩ s₀ { s with heap := h', toks := tk } where
  keep := R.keep.step fun b o e z9 => k b o e
  loc := let ⟨m, h1, h2⟩ := R.loc; ⟨m, h1.keeps k, fun x v e => let ⟨v', h3, h4⟩ := h2 x v e; ⟨v', h3, h4.mono fun z9 z9 => get_snoc⟩⟩
  objs := fun i x e => by
    by_cases q : i < st.hp.length
    . rw [List.getElem?_append_left q] at e
      refine xEEAA (R.objs i x e) fun b ob h1 h2 h3 => ?_
      exact ⟨b, ob, get_snoc h1, k _ _ h2, h3.mono fun z9 z9 => get_snoc⟩
    . rw [List.getElem?_append_right (Nat.not_lt.mp ‹_›)] at e
      have z : i - st.hp.length = 0 := by
        have := (List.getElem?_eq_some_iff.mp e).1
        simp at this; assumption
      rw [z] at e
      cases e
      refine ⟨a, ob, ?_, hob, hc⟩
      rw [show i = φ.length from by refine rwE R.len ?_; lia]
      exact get_last
  inj := by
    refine rwE (propext List.nodup_append) ?_
    refine ⟨R.inj, by simp, fun x hx y hy e => ?_⟩
    simp at hy
    refine xAA (R.off x hx) fun z9 h3 z9 => ?_
    rw [e, hy, hn] at h3; cases h3
  len := by simp [R.len]
  off := fun b hb => by
    rcases List.mem_append.mp hb with hb | hb
    . refine xAA (R.off b hb) fun h1 h3 h4 => ?_
      obtain ⟨o, ho⟩ := Option.isSome_iff_exists.mp h3
      exact ⟨h1, by refine (?_ : (h'.get? b).isSome = true); refine rwE (k _ _ ho) ?_; rfl, h4⟩
    . simp at hb
      subst hb
      refine ⟨fun q => ?_, by refine (?_ : (h'.get? b).isSome = true); refine rwE hob ?_; rfl, hlo⟩
      have := R.lls.2 b q
      rw [hn] at this; cases this
  lls := ⟨R.lls.1, fun L hL => some_keeps (R.lls.2 L hL) k⟩
  offp := fun i b x hb hx' hf => by
    by_cases q : i < st.hp.length
    . rw [List.getElem?_append_left q] at hx'
      rw [List.getElem?_append_left (by refine rwE R.len ?_; exact q)] at hb
      exact R.offp i b x hb hx' hf
    . rw [List.getElem?_append_right (by refine rwE R.len ?_; lia)] at hb
      have z : i - φ.length = 0 := by
        have := (List.getElem?_eq_some_iff.mp hb).1
        simp at this; assumption
      rw [z] at hb
      cases hb
      cases q : X.pr.get? a with
      | none => rfl
      | some o => refine xEA (R.keep a o q) fun sl h1 z9 => ?_; rw [hn] at h1; cases h1
  cells := fun x c e => let ⟨b, h1, h2⟩ := R.cells x c e; ⟨b, h1, get_snoc h2⟩
  lowL := R.lowL
  tok := ht
  gens := R.gens
  os := R.os
  drawn := R.drawn

theorem Rel.size (R : Rel w X φ st s₀ s) : 1 < s.heap.objs.size := by
  refine xEA (R.loc) fun m h1 z9 => ?_
  exact Nat.lt_trans R.lowL h1.lt
theorem Rel.push (R : Rel w X φ st s₀ s) {o : AO} {ob : Obj} {tk : Nat} (hf : ob.isFreed = false) (hc : OC w (φ ++ [s.heap.objs.size]) o ob) (ht : 1 <= tk) :
    Rel w X (φ ++ [s.heap.objs.size]) ⟨st.hp ++ [o], st.lc⟩ s₀ { s with heap := s.heap.push ob, toks := tk } :=
  R.new (fun z9 z9 e => Heap.get?_push_of_some _ e) (Heap.get?_none_of_le (Nat.le_refl _)) (Heap.get?_push_size _ hf) hc R.size ht

set_option tactic.hygienic true in
theorem Rel.setLoc (R : Rel w X φ st s₀ s) (prL : X.pr.get? X.env.locals = none) {x : Str} {v : AV} {v' : Value} {h' : Heap} {tk : Nat} (hv : VC φ v v') (hn : ∀ m, s.heap.Ns X.env.locals m -> h'.Ns X.env.locals (fun y => if y = x then some v' else m y))
    (hs : Heap.SameBut X.env.locals s.heap h') (ht : 1 <= tk) : Rel w X φ ⟨st.hp, (x, v) :: st.lc⟩ s₀ { s with heap := h', toks := tk } where
  keep := R.keep.step fun b o e hb => (hs.2 b (fun q => hb (q ▸ prL))).trans e
  loc := by
    refine xEA (R.loc) fun m h1 h2 => ?_
    refine ⟨_, hn m h1, fun y u e => ?_⟩
    simp only [List.lookup] at e
    split at e
    . rename_i q
      cases e
      exact ⟨v', if_pos (beq_iff_eq.mp q), hv⟩
    . rename_i q
      refine xEA (h2 y u e) fun u' h3 h4 => ?_
      exact ⟨u', by refine rwE (if_neg (by simpa using q)) ?_; exact h3, h4⟩
  objs := fun n o e => let ⟨a, ob, h1, h2, h3⟩ := R.objs n o e; ⟨a, ob, h1, (hs.2 a (R.offL (mem_of_get h1))).trans h2, h3⟩
  inj := R.inj
  len := R.len
  off := fun a ha => let ⟨h1, h3, h4⟩ := R.off a ha; ⟨h1, by refine (?_ : (h'.get? a).isSome = true); refine rwE (hs.2 a (R.offL ha)) ?_; exact h3, h4⟩
  offp := R.offp
  lls := ⟨R.lls.1, fun L hL => by
    by_cases q : L = X.env.locals
    . refine xEA (R.loc) fun m h1 _ => ?_
      refine xEEEA (hn m h1) fun o _ _ h2 _ => ?_
      refine (?_ : (h'.get? L).isSome = true)
      refine rwE q (rwE h2 ?_); rfl
    . refine (?_ : (h'.get? L).isSome = true); refine rwE (hs.2 L q) ?_; exact R.lls.2 L hL⟩
  cells := R.cells
  lowL := R.lowL
  tok := ht
  gens := R.gens
  os := R.os
  drawn := R.drawn
end

noncomputable def Post (w : World) (X : Fx) (φ : List Addr) (s₀ : Shared) (v : AV) (st : St) (v' : Value) (s' : Shared) : Prop :=
  ∃ φ', Le φ φ' /\ VC φ' v v' /\ Rel w X φ' st s₀ s'
noncomputable def PostS (w : World) (X : Fx) (φ : List Addr) (s₀ : Shared) (st : St) (s' : Shared) : Prop :=
  ∃ φ', Le φ φ' /\ Rel w X φ' st s₀ s'
end Mine
end
section
open PySem PySem.W PyProof.Rows PySem.Calls
namespace Mine

structure KGlob (K : Frag) : Prop where
  glob : ∀ x v, globs.lookup x = some v -> (∃ v', nsIn K mainGlobals x = some (some v') /\ VC [] v v') ∨ (nsIn K mainGlobals x = some none /\ x ≠ "__name__" /\ ∃ v', bootBuiltins x = some v' /\ VC [] v v')

section
variable {w : World} {X : Fx} {φ : List Addr} {st : St} {s₀ s : Shared} {K : Frag} {mg mb : Str -> Option Value} {E : Value -> Shared -> Prop}

theorem VC.of_nil {φ : List Addr} {a : AV} {v : Value} (x : VC [] a v) : VC φ a v := x.mono fun n a e => by simp at e

theorem Post.mk {φ : List Addr} {v : AV} {v' : Value} {st : St} {s' : Shared} (h : VC φ v v') (R : Rel w X φ st s₀ s') : Post w X φ s₀ v st v' s' := ⟨φ, Le.refl _, h, R⟩
theorem Post.le {φ ψ : List Addr} {v : AV} {v' : Value} {st : St} {s' : Shared} (l : Le φ ψ) (h : Post w X ψ s₀ v st v' s') : Post w X φ s₀ v st v' s' := let ⟨χ, h1, h2, h3⟩ := h; ⟨χ, l.trans h1, h2, h3⟩
theorem PostS.mk {φ : List Addr} {st : St} {s' : Shared} (R : Rel w X φ st s₀ s') : PostS w X φ s₀ st s' := ⟨φ, Le.refl _, R⟩
theorem PostS.le {φ ψ : List Addr} {st : St} {s' : Shared} (l : Le φ ψ) (h : PostS w X ψ s₀ st s') : PostS w X φ s₀ st s' := let ⟨χ, h1, h3⟩ := h; ⟨χ, l.trans h1, h3⟩

set_option tactic.hygienic true in
theorem getName_sound (KO : KGlob K) (G : Good w K mg mb X) (R : Rel w X φ st s₀ s) {x : Str} {v : AV} (e : getName X.fe x st = some v) {A : Around} {Q : Value -> Shared -> Prop} (h : ∀ v', VC φ v v' -> Q v' s) :
    wpAny (M w) A (loadName X.env x) Q E s := by
  have hk : ∀ k, X.fe.names.lookup x = some k -> X.env.kindOf x = some k := fun k q => by unfold Env.kindOf; refine rwE G.names ?_; exact q
  unfold getName at e
  split at e
  . rename_i q
    refine xEA (R.loc) fun m h1 h2 => ?_
    refine xEA (h2 _ _ e) fun v' h3 h4 => ?_
    exact wpAny_loadName_local G.kind (hk _ q) h1 h3 (h v' h4)
  . rename_i q
    split at e
    . cases e
    split at e
    . rename_i c hc
      refine xEA (R.cells _ _ hc) fun a h1 h2 => ?_
      split at e
      . rename_i v0 ho
        refine xEEAAEA (R.objs _ _ ho) fun b ob h3 h4 v1 h5 h6 => ?_
        rw [h2] at h3; cases h3
        subst e
        cases v1 with
        | none => exact h6.elim
        | some v1 => exact wpAny_loadName_cell G.kind (hk _ q) h1 ⟨ob, h4, h5⟩ (h v1 h6)
      . cases e
    . cases e
  . rename_i q
    split at e
    . cases e
    rename_i hnc
    split at e
    . rename_i c hc
      refine xEA (R.cells _ _ hc) fun a h1 h2 => ?_
      split at e
      . rename_i v0 ho
        refine xEEAAEA (R.objs _ _ ho) fun b ob h3 h4 v1 h5 h6 => ?_
        rw [h2] at h3; cases h3
        subst e
        cases v1 with
        | none => exact h6.elim
        | some v1 => exact wpAny_loadName_free G.kind (hk _ q) h1 ⟨ob, h4, h5⟩ (h v1 h6) (by simpa using hnc)
      . cases e
    . cases e
  . rename_i q
    have gr := R.ground G
    have hkk := hk _ q
    have hg : s.heap.Ns X.env.globals mg := by refine rwE G.glb ?_; exact gr.g
    have hb : s.heap.Ns X.env.builtins mb := by refine rwE G.bns ?_; exact gr.bl
    have key : wpAny (M w) A (loadGlobal X.env x) Q E s := by
      rcases KO.glob x v e with ⟨v', h1, h2⟩ | ⟨h1, h2, v', h3, h4⟩
      . exact loadGlobal_global hg (mg_of gr.inK gr.g h1) (h v' h2.of_nil)
      . exact loadGlobal_builtin hg (mg_none_of gr.inK gr.g h1) hb ((gr.blt x h2).trans h3) (h v' h4.of_nil)
    unfold loadName
    simp only [Env.blockKind, G.kind, hkk, ScopeKind.isAnnotationScope, Bool.false_and, Bool.false_eq_true, if_false]
    exact key
  . cases e

set_option tactic.hygienic true in
theorem putName_sound (G : Good w K mg mb X) (R : Rel w X φ st s₀ s) {x : Str} {v : AV} {v' : Value} {st' : St} (hv : VC φ v v') (e : putName X.fe x v st = some st') {Q : Unit -> Shared -> Prop} (h : ∀ s', Rel w X φ st' s₀ s' -> Q () s') :
    wpAny (M w) X.A (storeName X.env x v') Q E s := by
  have hk : ∀ k, X.fe.names.lookup x = some k -> X.env.kindOf x = some k := fun k q => by unfold Env.kindOf; refine rwE G.names ?_; exact q
  unfold putName at e
  split at e
  . rename_i q
    cases e
    refine xEA (R.loc) fun m h1 h2 => ?_
    refine wpAny_storeName_local (hk _ q) h1 (fun h' hn hs => h _ ?_) (by refine rwE G.kind ?_; rfl)
    refine R.setLoc G.prL hv (fun m' hm' => ?_) hs (Nat.le_add_left ..)
    refine xEEEAAA (h1) fun o1 es1 ep1 a1 a2 a3 a4 => ?_
    refine xEEEAAA (hm') fun o2 es2 ep2 b1 b2 b3 b4 => ?_
    rw [a1] at b1; cases b1
    rw [a2] at b2; cases b2
    have : m = m' := funext fun n => (a4 n).symm.trans (b4 n)
    refine rwB this ?_; exact hn
  . rename_i q
    split at e
    . rename_i c hc
      refine xEA (R.cells _ _ hc) fun a h1 h2 => ?_
      split at e
      . rename_i v0 ho
        cases e
        refine xEEAAEA (R.objs _ _ ho) fun b ob h3 h4 v1 h5 h6 => ?_
        rw [h2] at h3; cases h3
        refine wpAny_storeName_cell G.kind (hk _ q) h1 ⟨ob, h4, h5⟩ fun h' hc' hs => ?_
        refine xEA (hc') fun ob' h7 h8 => ?_
        exact h _ (R.upd ho rfl h2 hs.extBut h7 ⟨_, h8, hv⟩ R.tok)
      . cases e
    . cases e
  . cases e

theorem Rel.list (R : Rel w X φ st s₀ s) {n : Nat} {xs : List AV} (e : st.hp[n]? = some (.list xs)) {a : Addr} (ha : φ[n]? = some a) : ∃ vs k, s.heap.get? a = some ⟨.type "list", none, .seq (List.toArray vs) k, #[]⟩ /\ VCs φ xs vs := by
  (refine xEEAAEEA (R.objs _ _ e) fun b ob h1 h2 vs k hz6 h4 => ?_; subst hz6)
  rw [ha] at h1; cases h1
  exact ⟨vs, k, h2, h4⟩
theorem Rel.flist (R : Rel w X φ st s₀ s) {n : Nat} {xs : List AV} (e : st.hp[n]? = some (.flist xs)) {a : Addr} (ha : φ[n]? = some a) : ∃ vs k, s.heap.get? a = some ⟨.type "list", none, .seq (List.toArray vs) k, #[]⟩ /\ VCs φ xs vs := by
  refine xEEAAEEA (R.objs n _ e) fun b ob h1 h2 vs k h3 h4 => ?_
  rw [ha] at h1; cases h1
  exact ⟨vs, k, by exact rwE h2 (rwE h3 rfl), h4⟩
theorem Rel.tup (R : Rel w X φ st s₀ s) {n : Nat} {xs : List AV} (e : st.hp[n]? = some (.tup xs)) {a : Addr} (ha : φ[n]? = some a) : ∃ vs k, s.heap.get? a = some ⟨.type "tuple", none, .seq (List.toArray vs) k, #[]⟩ /\ VCs φ xs vs := by
  (refine xEEAAEEA (R.objs _ _ e) fun b ob h1 h2 vs k hz6 h4 => ?_; subst hz6)
  rw [ha] at h1; cases h1
  exact ⟨vs, k, h2, h4⟩
theorem Rel.dict (R : Rel w X φ st s₀ s) {n : Nat} {es : List (Str × AV)} (e : st.hp[n]? = some (.dict es)) {a : Addr} (ha : φ[n]? = some a) : ∃ kvs, s.heap.DictOf (sk w) a kvs /\ DCs φ es kvs := by
  refine xEEAAEA (R.objs _ _ e) fun b ob h1 h2 kvs h3 h4 => ?_
  rw [ha] at h1; cases h1
  exact ⟨kvs, Heap.dictOf_iff.mpr ⟨ob, h2, h3⟩, h4⟩
theorem Rel.fro (R : Rel w X φ st s₀ s) {n : Nat} {es : List (Str × AV)} (e : st.hp[n]? = some (.fro es)) {a : Addr} (ha : φ[n]? = some a) : ∃ kvs, s.heap.DictOf (sk w) a kvs /\ DCs φ es kvs := by
  refine xEEAAEA (R.objs _ _ e) fun b ob h1 h2 kvs h3 h4 => ?_
  rw [ha] at h1; cases h1
  exact ⟨kvs, Heap.dictOf_iff.mpr ⟨ob, h2, h3⟩, h4⟩
theorem isList_of {h : Heap} {a : Addr} {vs : List Value} {k : Nat} (e : h.get? a = some ⟨.type "list", none, .seq (List.toArray vs) k, #[]⟩) : h.IsList a vs.toArray := ⟨_, e, rfl, k, rfl⟩
theorem Rel.notMods (R : Rel w X φ st s₀ s) {n : Nat} {a : Addr} (ha : φ[n]? = some a) : (a == sysModules) = false := by
  have h := (R.off a (mem_of_get ha)).2.2
  have : a ≠ sysModules := fun q => by subst q; exact absurd h (by decide)
  simpa using this

theorem valueAt_lookup (kvs : List (Str × Value)) (k : Str) : valueAt kvs k = kvs.lookup k := by
  unfold valueAt
  induction kvs with
  | nil => rfl
  | cons p r ih =>
    obtain ⟨x, v⟩ := p
    simp only [List.lookup, List.find?]
    by_cases q : x = k
    . subst q; simp
    . have q' : (k == x) = false := by simpa using fun z => q z.symm
      refine rwE q' (rwE (decide_eq_false q) ?_)
      exact ih

theorem mulOk {a b : Int} (h : a.natAbs <= 1000) : IntMulOk a b := by
  have h1 := intBits_le_64 (k := a) (by omega) (by omega)
  unfold IntMulOk
  have : ¬ (Builtin.Int.intBits a > shortFactorBits) := by unfold shortFactorBits; exact Nat.not_lt_of_le ‹_›
  refine rwE (decide_eq_false this) ?_; exact Bool.false_ne_true

end
noncomputable def BIN (op : Operator) (a b : AV) (h : Hp) (v : AV) (h' : Hp) : Prop := ∀ ⦃w : World⦄ ⦃X : Fx⦄ ⦃φ : List Addr⦄ ⦃lc : Loc⦄ ⦃s₀ s : Shared⦄ ⦃E : Value -> Shared -> Prop⦄ ⦃a' b' : Value⦄, Rel w X φ ⟨h, lc⟩ s₀ s -> VC φ a a' -> VC φ b b' -> wpAny (M w) X.A (binaryOp op a' b') (Post w X φ s₀ v ⟨h', lc⟩) E s
noncomputable def AUG (op : Operator) (a b : AV) (h : Hp) (v : AV) (h' : Hp) : Prop := ∀ ⦃w : World⦄ ⦃X : Fx⦄ ⦃φ : List Addr⦄ ⦃lc : Loc⦄ ⦃s₀ s : Shared⦄ ⦃E : Value -> Shared -> Prop⦄ ⦃a' b' : Value⦄, Rel w X φ ⟨h, lc⟩ s₀ s -> VC φ a a' -> VC φ b b' -> wpAny (M w) X.A (inplaceOp op a' b') (Post w X φ s₀ v ⟨h', lc⟩) E s
section
variable {h : Hp} {x y : Int}
theorem BIN.ints {op : Operator} {z : Int} (k : ∀ (w : World) (A : Around) (s : Shared) (E Q : Value -> Shared -> Prop) (t u : Tok), (∀ v, Q (.int z v) { s with toks := s.toks + 1 }) -> wpAny (M w) A (binaryOp op (.int x t) (.int y u)) Q E s) : BIN op (.int x) (.int y) h (.int z) h := by
  intro w X φ lc s₀ s E a' b' R ha hb
  refine VC.intE ha fun t => ?_
  refine VC.intE hb fun u => ?_
  exact k w X.A s E _ t u fun v => Post.mk (.int _ _) (R.toks (Nat.le_add_left ..))
theorem BIN.add : BIN .Add (.int x) (.int y) h (.int (x + y)) h := .ints fun z9 z9 s z9 z9 z9 z9 q => PyProof.Rows.add_int (q s.toks)
theorem BIN.sub : BIN .Sub (.int x) (.int y) h (.int (x - y)) h := .ints fun z9 z9 s z9 z9 z9 z9 q => PyProof.Rows.sub_int (q s.toks)
theorem BIN.mul (hx : x.natAbs <= 1000) : BIN .Mult (.int x) (.int y) h (.int (x * y)) h := .ints fun z9 z9 s z9 z9 z9 z9 q => PyProof.Rows.mul_int (q s.toks) (mulOk hx)
theorem BIN.div (hy : 0 < y /\ y <= 1000000) : BIN .FloorDiv (.int x) (.int y) h (.int (Int.fdiv x y)) h := .ints fun z9 z9 s z9 z9 z9 z9 q => PyProof.Rows.floordiv_int (by lia) (q s.toks) (.inl (PyProof.noPylong_small (by omega)))
theorem BIN.mod (hy : 0 < y) : BIN .Mod (.int x) (.int y) h (.int (Int.fmod x y)) h := .ints fun z9 z9 s z9 z9 z9 z9 q => PyProof.Rows.mod_int' (by lia) (q s.toks)
theorem BIN.pow (hm : 0 <= x /\ x <= 10 /\ 0 <= y /\ y <= 6) : BIN .Pow (.int x) (.int y) h (.int (x ^ y.toNat)) h := .ints fun z9 z9 s z9 z9 z9 z9 q => PyProof.Rows.pow_int_small (by lia) (by omega) (by omega) (q s.toks)
theorem BIN.shr : BIN .RShift (.int x) (.int 1) h (.int (Int.fdiv x 2)) h := .ints fun z9 z9 s z9 z9 z9 z9 q => PyProof.Rows.rshift_int (Int.natCast_nonneg _) (q s.toks)
set_option tactic.hygienic true in
theorem cat_post {w : World} {X : Fx} {φ : List Addr} {lc : Loc} {s₀ s : Shared} {a b : Str} {t u : Tok} (R : Rel w X φ ⟨h, lc⟩ s₀ s) (hm : a.length + b.length <= 16777216) : (if a.length == 0 then Made.val (.str b u) else if b.length == 0 then Made.val (.str a t) else Made.str (a ++ b)).post (Post w X φ s₀ (.str (a ++ b)) ⟨h, lc⟩) s := by
  split
  . rename_i q; exact Post.mk (by refine rwE (Str.append_left_empty q) ?_; exact .str _ _) R
  . split
    . rename_i q; exact Post.mk (by refine rwE (Str.append_right_empty q) ?_; exact .str _ _) R
    . exact ⟨by refine rwE (Str.length_append ..) (rwE (sizeLine_eq ..) ?_); exact hm, Post.mk (.str _ _) (R.toks (Nat.le_add_left ..))⟩
theorem BIN.cat {a b : Str} (hm : a.length + b.length <= 16777216) : BIN .Add (.str a) (.str b) h (.str (a ++ b)) h := by
  intro w X φ lc s₀ s E a' b' R ha hb
  refine VC.strE ha fun t => ?_
  refine VC.strE hb fun u => ?_
  exact P.add_str (cat_post R hm)
theorem BIN.thrice {y : Str} (h1 : y.length = 1) : BIN .Mult (.int 3) (.str y) h (.str ⟨y.cps ++ y.cps ++ y.cps⟩) h := by
  intro w X φ lc s₀ s E a' b' R ha hb
  refine VC.intE ha fun u => ?_
  refine VC.strE hb fun t => ?_
  refine lm_binaryOp_repeat_right (T := "str") (U := "int") (by decide) (fun s' => typeIs_int s' 3 u) (typeIs_str s y t) F.fills_int_mul noFill_str_mul F.slot_int_mul lm_noRepeat_int repeat_str F.slot_int_index.lookup
    (call_gives F.slot_int_mul (typeIs_int s 3 u) F.entry_int_mul (F.args_int_mul_2 _ _) (AutoIntG3.int___mul___int_str_0 3 u y t)
      ⟨rfl, typeIs_str s y t, call_gives F.slot_str_mul (typeIs_str s y t) F.entry_str_mul (F.args_str_mul_2 _ _) (gives_str_mul y 3 t u (by decide) (fun z9 z9 => by refine rwE h1 ?_; decide) (fun z9 z9 => by refine rwE h1 ?_; decide)) ?_⟩)
  rw [if_neg (by decide), if_neg (by refine rwE h1 ?_; decide)]
  refine ⟨?_, ?_⟩
  . refine (?_ : (Array.size _) <= sizeLine)
    have : y.cps.size = 1 := h1
    simp [List.replicate, sizeLine_eq, this]
  . have e : (List.foldl (fun x1 x2 => x1 ++ x2) #[] (List.replicate (Int.toNat 3) y.cps)) = y.cps ++ y.cps ++ y.cps := by
      refine (?_ : #[] ++ y.cps ++ y.cps ++ y.cps = _)
      simp
    refine rwE e ?_
    exact Post.mk (.str _ _) (R.toks (Nat.le_add_left ..))
theorem BIN.list {i j : Nat} {xs ys : List AV} (hi : h[i]? = some (.list xs)) (hj : h[j]? = some (.list ys)) (hm : xs.length + ys.length <= 1000) : BIN .Add (.obj i) (.obj j) h (.obj h.length) (h ++ [.list (xs ++ ys)]) := by
  intro w X φ lc s₀ s E a' b' R ha hb
  refine VC.objE ha fun a pa => ?_
  refine VC.objE hb fun b pb => ?_
  refine xEEA (R.list hi pa) fun vs k h1 h2 => ?_
  refine xEEA (R.list hj pb) fun us l h3 h4 => ?_
  refine P.add_list h1 h3 ?_ (by simp only [List.size_toArray, h2.length, h4.length, sizeLine_eq]; exact Nat.le_trans ‹_› (by decide))
  refine ⟨_, fun z9 z9 => get_snoc, .obj (by refine rwB R.len ?_; exact get_last), R.push rfl ?_ R.tok⟩
  exact ⟨vs ++ us, 0, by simp, (h2.append h4).mono fun z9 z9 => get_snoc⟩
end
end Mine
end
section
open PySem PySem.W PyProof.Rows PySem.Calls
open PySem.SeqAt
namespace Mine
section
variable {w : World} {X : Fx} {φ : List Addr} {st : St} {s₀ s : Shared} {K : Frag} {mg mb : Str -> Option Value} {E : Value -> Shared -> Prop}

theorem tupLt_meets (l b : Addr) (x y x' y' : Value) (n n2 : Nat) (e1 e2 : Bool) (r1 r2 : Bool) :
    Meets (Builtin.«tuple.__lt__» ⟨[.ref l, .ref b], []⟩)
      (fun A R s => s.heap.get? l = some { cls := .type "tuple", dict := none, data := .seq #[x, y] n, slots := #[] } /\ s.heap.get? b = some { cls := .type "tuple", dict := none, data := .seq #[x', y'] n2, slots := #[] } /\
        EqAt A.in1 s x x' e1 /\ EqAt A.in1 s y y' e2 /\
        (∀ (prog : Program) (w : World) (E : Value -> Shared -> Prop) (Q : Value -> Shared -> Prop), Q (.bool r1) s -> wpAny (model prog w) A.in1 (richCompare .Lt x x') Q E s) /\
        (∀ (prog : Program) (w : World) (E : Value -> Shared -> Prop) (Q : Value -> Shared -> Prop), Q (.bool r2) s -> wpAny (model prog w) A.in1 (richCompare .Lt y y') Q E s) /\
        R (.ok (.ret (.bool (if e1 then (if e2 then false else r2) else r1)))) s) :=
  .of_wp fun prog w A R s h => by
    obtain ⟨hp, g, d, tk, os⟩ := s; refine xAAAAAA (h) fun hl hb he1 he2 hr1 hr2 h => ?_
    have f2 := AutoSeq1.sub_tuple_tuple
    have q1 : ∀ (E : Value -> Shared -> Prop) (Q : Bool -> Shared -> Prop), Q e1 ⟨hp, g, d, tk, os⟩ -> wpAny (model prog w) A.in1 (eqBool x x') Q E ⟨hp, g, d, tk, os⟩ := fun E Q => he1 prog w E Q
    have q2 : ∀ (E : Value -> Shared -> Prop) (Q : Bool -> Shared -> Prop), Q e2 ⟨hp, g, d, tk, os⟩ -> wpAny (model prog w) A.in1 (eqBool y y') Q E ⟨hp, g, d, tk, os⟩ := fun E Q => he2 prog w E Q
    have q3 : ∀ (E : Value -> Shared -> Prop) (Q : Value -> Shared -> Prop), Q (.bool r1) ⟨hp, g, d, tk, os⟩ -> wpAny (model prog w) A.in1 (richCompare .Lt x x') Q E ⟨hp, g, d, tk, os⟩ := fun E Q => hr1 prog w E Q
    have q4 : ∀ (E : Value -> Shared -> Prop) (Q : Value -> Shared -> Prop), Q (.bool r2) ⟨hp, g, d, tk, os⟩ -> wpAny (model prog w) A.in1 (richCompare .Lt y y') Q E ⟨hp, g, d, tk, os⟩ := fun E Q => hr2 prog w E Q
    cases e1 <;> cases e2 <;> (wp_walk using AutoSeq1.wpAny_loadPart' hl, AutoSeq1.wpAny_loadPart' hb, q1 _ _, q2 _ _, q3 _ _, q4 _ _) <;> exact ⟨_, rfl, h⟩

theorem isTuple_of {h : Heap} {a : Addr} {vs : List Value} {k : Nat} (e : h.get? a = some ⟨.type "tuple", none, .seq (List.toArray vs) k, #[]⟩) : h.IsTuple a vs.toArray := ⟨_, e, rfl, k, rfl⟩

theorem VCs.two {a b : AV} {vs : List Value} (h : VCs φ [a, b] vs) : ∃ v u, vs = [v, u] /\ VC φ a v /\ VC φ b u := by
  cases h with | cons p h => cases h with | cons q h => cases h; exact ⟨_, _, rfl, p, q⟩
inductive TLT (h : Hp) : AV -> AV -> Bool -> Prop
  | is {i j : Nat} {x x' : Int} {y y' : Str} : h[i]? = some (.tup [.int x, .str y]) -> h[j]? = some (.tup [.int x', .str y']) -> TLT h (.obj i) (.obj j) (if x = x' then strLt y y' else decide (x < x'))
  | ii {i j : Nat} {x x' y y' : Int} : h[i]? = some (.tup [.int x, .int y]) -> h[j]? = some (.tup [.int x', .int y']) -> TLT h (.obj i) (.obj j) (if x = x' then decide (y < y') else decide (x < x'))
theorem lt_if {p q : Prop} [Decidable p] [Decidable q] {d e : Bool} (h : q -> d = false) : (if decide p = true then (if decide q = true then false else d) else e) = (if p then d else e) := by
  by_cases hp : p
  . refine rwE (if_pos hp) (rwE (if_pos (decide_eq_true hp)) ?_)
    by_cases hq : q
    . exact rwE (if_pos (decide_eq_true hq)) (rwE (h hq) rfl)
    . rw [if_neg (by refine rwE (decide_eq_false hq) ?_; exact Bool.false_ne_true)]
  . rw [if_neg hp, if_neg (by refine rwE (decide_eq_false hp) ?_; exact Bool.false_ne_true)]
theorem tupLt_core {s : Shared} {A : Around} (hu : A.units + 64 < cLine) {l b : Addr} {x x' : Int} {v v' y y' : Value} {n n2 : Nat} {q : Prop} [Decidable q] {r2 : Bool} (h1 : s.heap.get? l = some ⟨.type "tuple", none, .seq #[v, y] n, #[]⟩) (h3 : s.heap.get? b = some ⟨.type "tuple", none, .seq #[v', y'] n2, #[]⟩) (p : VC φ (.int x) v) (p' : VC φ (.int x') v')
    (he : EqAt A.in1 s y y' (decide q)) (hr : ∀ (prog : Program) (w : World) (E : Value -> Shared -> Prop) (Q : Value -> Shared -> Prop), Q (.bool r2) s -> wpAny (model prog w) A.in1 (richCompare .Lt y y') Q E s) (hq : q -> r2 = false) {Q : Value -> Shared -> Prop} (h : Q (.bool (if x = x' then r2 else decide (x < x'))) s) : wpAny (M w) A (richCompare .Lt (.ref l) (.ref b)) Q E s := by
  obtain ⟨t, rfl⟩ := p.int_eq
  obtain ⟨t', rfl⟩ := p'.int_eq
  refine richCompare_meets_room (T := "tuple") (op := .Lt) ⟨_, h1, rfl⟩ ⟨_, h3, rfl⟩ F.slot_tuple_lt F.entry_tuple_lt (F.args_tuple_lt_2 _ _) (tupLt_meets _ _ (.int x t) y (.int x' t') y' n n2 (decide (x = x')) (decide q) (decide (x < x')) r2)
    ⟨h1, h3, (MeetsSeq.EqGives.int _ _ _ _).at _ _, he, fun prog w E Q hq => P.lt_int (prog := prog) (w := w) hq, hr, ⟨(fun x => nomatch x), ?_⟩⟩ (Nat.lt_of_le_of_lt (Nat.le_add_right _ _) ‹_›)
  refine rwE (lt_if hq) ?_; exact h
theorem tupLt_sound (R : Rel w X φ st s₀ s) {A : Around} (hu : A.units + 64 < cLine) {a b : AV} {c : Bool} {a' b' : Value} (ha : VC φ a a') (hb : VC φ b b') (e : TLT st.hp a b c) {Q : Value -> Shared -> Prop} (h : Q (.bool c) s) :
    wpAny (M w) A (richCompare .Lt a' b') Q E s := by
  cases e with
  | @is _ _ _ _ y y' hi hj =>
    refine VC.objE ha fun a pa => VC.objE hb fun b pb => xEEA (R.tup hi pa) fun vs k h1 h2 => xEEA (R.tup hj pb) fun us l h3 h4 => ?_
    (refine xEEAA (h2.two) fun v1 v2 hz2 p q => ?_; subst hz2)
    (refine xEEAA (h4.two) fun u1 u2 hz2 p' q' => ?_; subst hz2)
    have hq : EqAt A.in1 s v2 u2 (decide (y = y')) /\ ∀ (prog : Program) (w : World) (E : Value -> Shared -> Prop) (Q : Value -> Shared -> Prop), Q (.bool (strLt y y')) s -> wpAny (model prog w) A.in1 (richCompare .Lt v2 u2) Q E s := by
      refine VC.strE q fun t => VC.strE q' fun t' => ?_
      exact ⟨(eqGives_str _ _ _ _).at _ _, fun prog w E Q hq => P.lt_str (prog := prog) (w := w) hq⟩
    exact tupLt_core hu h1 h3 p p' hq.1 hq.2 (fun q => by refine rwE q ?_; exact decide_eq_false (List.lt_irrefl _)) h
  | @ii _ _ _ _ y y' hi hj =>
    refine VC.objE ha fun a pa => VC.objE hb fun b pb => xEEA (R.tup hi pa) fun vs k h1 h2 => xEEA (R.tup hj pb) fun us l h3 h4 => ?_
    (refine xEEAA (h2.two) fun v1 v2 hz2 p q => ?_; subst hz2)
    (refine xEEAA (h4.two) fun u1 u2 hz2 p' q' => ?_; subst hz2)
    have hq : EqAt A.in1 s v2 u2 (decide (y = y')) /\ ∀ (prog : Program) (w : World) (E : Value -> Shared -> Prop) (Q : Value -> Shared -> Prop), Q (.bool (decide (y < y'))) s -> wpAny (model prog w) A.in1 (richCompare .Lt v2 u2) Q E s := by
      refine VC.intE q fun t => VC.intE q' fun t' => ?_
      exact ⟨(MeetsSeq.EqGives.int _ _ _ _).at _ _, fun prog w E Q hq => P.lt_int (prog := prog) (w := w) hq⟩
    exact tupLt_core hu h1 h3 p p' hq.1 hq.2 (fun q => by refine rwE q ?_; exact decide_eq_false (Int.lt_irrefl _)) h

inductive Leaves : List AV -> Prop
  | nil : Leaves []
  | int {x : Int} {r : List AV} : Leaves r -> Leaves (.int x :: r)
  | str {x : Str} {r : List AV} : PyData.strOk x = true -> Leaves r -> Leaves (.str x :: r)
inductive EqTups (h : Hp) : List AV -> List AV -> Prop
  | nil : EqTups h [] []
  | cons {i j : Nat} {xs r t : List AV} : h[i]? = some (.tup xs) -> h[j]? = some (.tup xs) -> Leaves xs -> EqTups h r t -> EqTups h (.obj i :: r) (.obj j :: t)
theorem canLay_cons {d : PyData} {ds : List PyData} (h : PyData.canLay0 d = true) (h3 : PyData.canLayAll0 ds = true) : PyData.canLayAll0 (d :: ds) = true := by rw [PyData.canLayAll0, h, h3]; rfl
theorem leaves_reads {h : Heap} {xs : List AV} (L : Leaves xs) : ∀ {vs us : List Value}, VCs φ xs vs -> VCs φ xs us -> ∃ ds, ReadsAll h vs ds [] /\ ReadsAll h us ds [] /\ PyData.canLayAll0 ds = true /\ PyData.depthAll ds = 0 := by
  induction L with
  | nil => intro vs us hv hu; cases hv; cases hu; exact ⟨[], .nil, .nil, rfl, rfl⟩
  | int _ ih =>
    intro vs us hv hu
    cases hv with | cons p hv => cases hu with | cons q hu =>
    refine VC.intE p fun t => ?_
    refine VC.intE q fun u => ?_
    exact xEAAA (ih hv hu) fun ds h1 h2 h3 h4 => ⟨.int _ :: ds, .cons (as := []) (.int _ _) h1, .cons (as := []) (.int _ _) h2, canLay_cons rfl h3, by rw [PyData.depthAll, h4]; rfl⟩
  | str hx _ ih =>
    intro vs us hv hu
    cases hv with | cons p hv => cases hu with | cons q hu =>
    refine VC.strE p fun t => ?_
    refine VC.strE q fun u => ?_
    exact xEAAA (ih hv hu) fun ds h1 h2 h3 h4 => ⟨.str _ :: ds, .cons (as := []) (.str _ _) h1, .cons (as := []) (.str _ _) h2, canLay_cons hx h3, by rw [PyData.depthAll, h4]; rfl⟩
theorem eqTup_reads (R : Rel w X φ st s₀ s) {i j : Nat} {xs : List AV} {a' b' : Value} (ha : VC φ (.obj i) a') (hb : VC φ (.obj j) b') (hi : st.hp[i]? = some (.tup xs)) (hj : st.hp[j]? = some (.tup xs)) (L : Leaves xs) : ∃ ds, Reads s.heap a' (.tuple ds) [] /\ Reads s.heap b' (.tuple ds) [] /\ PyData.canLayAll0 ds = true /\ PyData.depthAll ds = 0 := by
  refine VC.objE ha fun a ha => ?_
  refine VC.objE hb fun b hb => ?_
  refine xEEA (R.tup hi ha) fun vs k h1 h2 => ?_
  refine xEEA (R.tup hj hb) fun us l h3 h4 => ?_
  exact xEAAA (leaves_reads (h := s.heap) L h2 h4) fun ds r1 r2 r3 r4 => ⟨ds, reads_tuple_at h1 rfl rfl (by simpa using r1), reads_tuple_at h3 rfl rfl (by simpa using r2), r3, r4⟩
theorem eqTups_reads (R : Rel w X φ st s₀ s) {xs ys : List AV} (e : EqTups st.hp xs ys) : ∀ {vs us : List Value}, VCs φ xs vs -> VCs φ ys us -> ∃ ds, ReadsAll s.heap vs ds [] /\ ReadsAll s.heap us ds [] /\ PyData.canLayAll0 ds = true /\ PyData.depthAll ds <= 1 := by
  induction e with
  | nil => intro vs us hv hu; cases hv; cases hu; exact ⟨[], .nil, .nil, rfl, Nat.zero_le _⟩
  | cons hi hj L _ ih =>
    intro vs us hv hu
    cases hv with | cons p hv => cases hu with | cons q hu =>
    exact xEAAA (ih hv hu) fun ds h1 h2 h3 h4 => xEAAA (eqTup_reads R p q hi hj L) fun d r1 r2 r3 r4 =>
      ⟨.tuple d :: ds, .cons (as := []) r1 h1, .cons (as := []) r2 h2, canLay_cons r3 h3, by rw [PyData.depthAll, PyData.depth, r4]; exact Nat.max_le.mpr ⟨Nat.le_refl _, h4⟩⟩

theorem strsOf_are {xs : List AV} {l : List Str} {vs : List Value} (e : strsOf xs = some l) (h : VCs φ xs vs) : StrsAre vs l := by
  induction h generalizing l with
  | nil => cases e; exact .nil
  | @cons a v as vs' p r ih =>
    cases p with
    | str x t =>
      simp only [strsOf, Option.map_eq_some_iff] at e
      (refine xEA (e) fun l' h1 hz2 => ?_; subst hz2)
      exact .cons x t (ih h1)
    | _ => cases e
theorem intsOf_are {xs : List AV} {l : List Int} {vs : List Value} (e : intsOf xs = some l) (h : VCs φ xs vs) : IntsAre vs l := by
  induction h generalizing l with
  | nil => cases e; exact .nil
  | @cons a v as vs' p r ih =>
    cases p with
    | int x t =>
      simp only [intsOf, Option.map_eq_some_iff] at e
      (refine xEA (e) fun l' h1 hz2 => ?_; subst hz2)
      exact .cons x t (ih h1)
    | _ => cases e

theorem Rel.setOf (R : Rel w X φ st s₀ s) {n : Nat} {xs : List Str} (e : st.hp[n]? = some (.set xs)) {a : Addr} (ha : φ[n]? = some a) : s.heap.SetOf (sk w) a (fun k => decide (k ∈ xs)) xs.length := by
  refine xEEAAEEEAAAAAA (R.objs _ _ e) fun b ob h1 h2 es ep t h3 h4 h5 h6 h7 h8 h9 => ?_
  rw [ha] at h1; cases h1
  exact ⟨ob, es, ep, t, h2, h3, h4, h5, h6, h7, h8, h9⟩

end
inductive MinT (h : Hp) : AV -> List AV -> AV -> Prop
  | nil {m : AV} : MinT h m [] m
  | lt {m x v : AV} {r : List AV} : TLT h x m true -> MinT h x r v -> MinT h m (x :: r) v
  | ge {m x v : AV} {r : List AV} : TLT h x m false -> MinT h m r v -> MinT h m (x :: r) v
noncomputable def CMP (op : CmpOp) (a b : AV) (h : Hp) (c : Bool) : Prop := ∀ ⦃w : World⦄ ⦃X : Fx⦄ ⦃φ : List Addr⦄ ⦃lc : Loc⦄ ⦃s₀ s : Shared⦄ ⦃a' b' : Value⦄ ⦃E Q : Value -> Shared -> Prop⦄, Rel w X φ ⟨h, lc⟩ s₀ s -> X.A.units + 64 < cLine -> VC φ a a' -> VC φ b b' -> (∀ s', Rel w X φ ⟨h, lc⟩ s₀ s' -> Q (.bool c) s') -> wpAny (M w) X.A (compareOp op a' b') Q E s
noncomputable def TRU (a : AV) (h : Hp) (c : Bool) : Prop := ∀ ⦃w : World⦄ ⦃X : Fx⦄ ⦃φ : List Addr⦄ ⦃lc : Loc⦄ ⦃s₀ s : Shared⦄ ⦃a' : Value⦄ ⦃E : Value -> Shared -> Prop⦄ ⦃Q : Bool -> Shared -> Prop⦄, Rel w X φ ⟨h, lc⟩ s₀ s -> VC φ a a' -> (∀ s', Rel w X φ ⟨h, lc⟩ s₀ s' -> Q c s') -> wpAny (M w) X.A (truthy a') Q E s
section
variable {h : Hp} {x y : Int}
theorem CMP.ints {op : CmpOp} {c : Bool} (k : ∀ (w : World) (A : Around) (s : Shared) (E Q : Value -> Shared -> Prop) (t u : Tok), Q (.bool c) s -> wpAny (M w) A (compareOp op (.int x t) (.int y u)) Q E s) : CMP op (.int x) (.int y) h c := by
  intro w X φ lc s₀ s a' b' E Q R _ ha hb q
  refine VC.intE ha fun t => ?_
  refine VC.intE hb fun u => ?_
  exact k w X.A s E Q t u (q _ R)
theorem CMP.eq {c : Bool} (e : decide (x = y) = c) : CMP .Eq (.int x) (.int y) h c := .ints fun z9 z9 z9 z9 z9 z9 z9 q => P.eq_int (by refine rwE (Bool.beq_eq_decide_eq ..) (rwE (e ..) ?_); exact q)
theorem CMP.ne {c : Bool} (e : (!decide (x = y)) = c) : CMP .NotEq (.int x) (.int y) h c := .ints fun z9 z9 z9 z9 z9 z9 z9 q => P.ne_int (by rw [bne, Bool.beq_eq_decide_eq, e]; exact q)
theorem CMP.lt {c : Bool} (e : decide (x < y) = c) : CMP .Lt (.int x) (.int y) h c := .ints fun z9 z9 z9 z9 z9 z9 z9 q => P.lt_int (e.symm ▸ q)
theorem CMP.le {c : Bool} (e : decide (x <= y) = c) : CMP .LtE (.int x) (.int y) h c := .ints fun z9 z9 z9 z9 z9 z9 z9 q => P.le_int (e.symm ▸ q)
theorem CMP.gt {c : Bool} (e : decide (y < x) = c) : CMP .Gt (.int x) (.int y) h c := .ints fun z9 z9 z9 z9 z9 z9 z9 q => PyProof.Rows.gt_int (e.symm ▸ q)
theorem CMP.ge {c : Bool} (e : decide (y <= x) = c) : CMP .GtE (.int x) (.int y) h c := .ints fun z9 z9 z9 z9 z9 z9 z9 q => PyProof.Rows.ge_int (e.symm ▸ q)
theorem CMP.eqS {a b : Str} {c : Bool} (e : decide (a = b) = c) : CMP .Eq (.str a) (.str b) h c := by
  intro w X φ lc s₀ s a' b' E Q R _ ha hb q
  refine VC.strE ha fun t => ?_
  refine VC.strE hb fun u => ?_
  exact PyProof.Rows.eq_str (by refine rwE (Bool.beq_eq_decide_eq ..) (rwE (e ..) ?_); exact q _ R)
theorem CMP.neS {a b : Str} {c : Bool} (e : (!decide (a = b)) = c) : CMP .NotEq (.str a) (.str b) h c := by
  intro w X φ lc s₀ s a' b' E Q R _ ha hb q
  refine VC.strE ha fun t => ?_
  refine VC.strE hb fun u => ?_
  exact PyProof.Rows.ne_str (by rw [bne, Bool.beq_eq_decide_eq, e]; exact q _ R)
theorem CMP.isNN : CMP .Is .none .none h true := by
  intro w X φ lc s₀ s a' b' E Q R _ ha hb q
  refine rwE ha.none_eq (rwE hb.none_eq ?_)
  exact is_none (q _ R)
theorem CMP.isON {n : Nat} : CMP .Is (.obj n) .none h false := by
  intro w X φ lc s₀ s a' b' E Q R _ ha hb q
  refine VC.objE ha fun a pa => ?_
  refine rwE hb.none_eq ?_
  exact is_none (q _ R)
theorem CMP.isnNN : CMP .IsNot .none .none h false := by
  intro w X φ lc s₀ s a' b' E Q R _ ha hb q
  refine rwE ha.none_eq (rwE hb.none_eq ?_)
  exact isNot_none (q _ R)
theorem CMP.isnON {n : Nat} : CMP .IsNot (.obj n) .none h true := by
  intro w X φ lc s₀ s a' b' E Q R _ ha hb q
  refine VC.objE ha fun a pa => ?_
  refine rwE hb.none_eq ?_
  exact isNot_none (q _ R)
theorem CMP.inList {k : Str} {n : Nat} {l : List Str} {ys : List AV} (hn : h[n]? = some (.list ys)) (hl : strsOf ys = some l) : CMP .In (.str k) (.obj n) h (decide (k ∈ l)) := by
  intro w X φ lc s₀ s a' b' E Q R _ ha hb q
  refine VC.strE ha fun t => ?_
  refine VC.objE hb fun b pb => ?_
  refine xEEA (R.list hn pb) fun vs j h2 h3 => ?_
  refine in_list_strs (isList_of h2) (strsOf_are hl h3) ?_
  have : (l.any fun y => y == k) = decide (k ∈ l) := by
    refine rwE (propext Bool.eq_iff_iff) ?_; simp
  refine rwE this ?_; exact q _ R
theorem CMP.inSet {k : Str} {n : Nat} {ys : List Str} (hn : h[n]? = some (.set ys)) : CMP .In (.str k) (.obj n) h (decide (k ∈ ys)) := by
  intro w X φ lc s₀ s a' b' E Q R _ ha hb q
  refine VC.strE ha fun t => ?_
  refine VC.objE hb fun b pb => ?_
  exact wpAny_inSet_of (strKind_is _ w _ _) rfl (R.setOf hn pb) (q _ (R.toks (Nat.le_add_left ..)))
theorem CMP.inDict {k : Str} {n : Nat} {es : List (Str × AV)} (hn : h[n]? = some (.dict es)) : CMP .In (.str k) (.obj n) h (es.lookup k).isSome := by
  intro w X φ lc s₀ s a' b' E Q R _ ha hb q
  refine VC.strE ha fun t => ?_
  refine VC.objE hb fun b pb => ?_
  refine xEA (R.dict hn pb) fun kvs h1 h2 => ?_
  refine wpAny_in_of (strKind_is _ w _ _) (R.notMods pb) h1.mapOf ?_
  refine rwE (valueAt_lookup ..) ?_
  have e := h2.lookup k
  have : (kvs.lookup k).isSome = (es.lookup k).isSome := by
    revert e
    cases es.lookup k <;> cases kvs.lookup k <;> intro e <;> first | rfl | exact e.elim
  refine rwE this ?_; exact q _ (R.toks (Nat.le_add_left ..))
theorem CMP.tups {a b : AV} {c : Bool} (e : TLT h a b c) : CMP .Lt a b h c := by
  intro w X φ lc s₀ s a' b' E Q R hu ha hb q
  exact tupLt_sound R hu ha hb e (q _ R)
theorem CMP.neLists {i j : Nat} {xs ys : List AV} (hi : h[i]? = some (.list xs)) (hj : h[j]? = some (.list ys)) (e : EqTups h xs ys) : CMP .NotEq (.obj i) (.obj j) h false := by
  intro w X φ lc s₀ s a' b' E Q R hu ha hb q
  refine VC.objE ha fun a pa => ?_
  refine VC.objE hb fun b pb => ?_
  refine xEEA (R.list hi pa) fun vs k h1 h2 => ?_
  refine xEEA (R.list hj pb) fun us l h3 h4 => ?_
  refine xEAAA (eqTups_reads R e h2 h4) fun ds r1 r2 r3 r4 => ?_
  have sh : shaped (.list ds) = true := by simp [shaped, PyData.canLay0, r3, PyData.depth]; exact Nat.le_trans ‹_› (by decide)
  refine ne_dataH (reads_list_at h1 rfl rfl (by simpa using r1)) (reads_list_at h3 rfl rfl (by simpa using r2)) sh sh hu ?_
  refine rwE (eqv_refl _ (by simpa [PyData.canLay0] using r3)) ?_
  exact q _ R
theorem CMP.eqTup {i j : Nat} {xs : List AV} (hi : h[i]? = some (.tup xs)) (hj : h[j]? = some (.tup xs)) (L : Leaves xs) : CMP .Eq (.obj i) (.obj j) h true := by
  intro w X φ lc s₀ s a' b' E Q R hu ha hb q
  refine xEAAA (eqTup_reads R ha hb hi hj L) fun ds r1 r2 r3 r4 => ?_
  have sh : shaped (.tuple ds) = true := by simp [shaped, PyData.canLay0, r3, PyData.depth, r4]
  refine eq_dataH r1 r2 sh sh hu ?_
  refine rwE (eqv_refl _ (by simpa [PyData.canLay0] using r3)) ?_
  exact q _ R
theorem TRU.none : TRU .none h false := by
  intro w X φ lc s₀ s a' E Q R ha q
  refine rwE ha.none_eq ?_; exact truthy_none (q _ R)
theorem TRU.bool {b : Bool} : TRU (.bool b) h b := by
  intro w X φ lc s₀ s a' E Q R ha q
  refine rwE ha.bool_eq ?_; exact wpAny_truthy_bool (q _ R)
theorem TRU.int {c : Bool} (e : decide (x ≠ 0) = c) : TRU (.int x) h c := by
  intro w X φ lc s₀ s a' E Q R ha q
  refine VC.intE ha fun t => ?_
  refine P.truthy_int ?_
  have : (x != 0) = c := by rw [← e, bne, Bool.beq_eq_decide_eq, decide_not]
  refine rwE this ?_; exact q _ R
theorem TRU.str {a : Str} {c : Bool} (hz : a.length <= 16777216) (e : decide (a.length ≠ 0) = c) : TRU (.str a) h c := by
  intro w X φ lc s₀ s a' E Q R ha q
  refine VC.strE ha fun t => ?_
  refine P.truthy_str (by lia) ?_
  have : ((a.length : Int) != 0) = c := by
    refine rwB e ?_
    by_cases q : a.length = 0 <;> lia
  refine rwE this ?_; exact q _ (R.toks (Nat.le_add_left ..))
theorem TRU.list {n : Nat} {xs : List AV} {c : Bool} (hn : h[n]? = some (.list xs)) (hz : xs.length <= 100000) (e : decide (xs.length ≠ 0) = c) : TRU (.obj n) h c := by
  intro w X φ lc s₀ s a' E Q R ha q
  refine VC.objE ha fun a pa => ?_
  refine xEEA (R.list hn pa) fun vs k h1 h2 => ?_
  refine wpAny_truthy_list (isList_of h1) (by refine rwE List.size_toArray (rwE h2.length ?_); lia) ?_
  have : (!vs.toArray.isEmpty) = c := by
    refine rwB e (rwB h2.length ?_)
    cases vs <;> rfl
  refine rwE this ?_; exact q _ (R.toks (Nat.le_add_left ..))
end
end Mine
end
section
open PySem PySem.W PyProof.Rows PySem.Calls
namespace Mine
section
variable {w : World} {X : Fx} {φ : List Addr} {st : St} {s₀ s : Shared} {K : Frag} {mg mb : Str -> Option Value} {E : Value -> Shared -> Prop}

theorem DCs.any {φ : List Addr} {a : List (Str × AV)} {v : List (Str × Value)} (x : DCs φ a v) (k : Str) : (v.any fun p => p.1 = k) = (a.any fun p => p.1 = k) := by
  induction x with
  | nil => rfl
  | cons _ _ ih => simp only [List.any_cons, ih]
theorem DCs.append {φ : List Addr} {a b : List (Str × AV)} {v u : List (Str × Value)} (x : DCs φ a v) (y : DCs φ b u) : DCs φ (a ++ b) (v ++ u) := by
  induction x with
  | nil => exact y
  | cons h _ ih => exact .cons h ih
theorem DCs.map {φ : List Addr} {a : List (Str × AV)} {v : List (Str × Value)} (x : DCs φ a v) {k : Str} {y : AV} {y' : Value} (hy : VC φ y y') : DCs φ (a.map fun p => if p.1 = k then (p.1, y) else p) (v.map fun p => if p.1 = k then (p.1, y') else p) := by
  induction x with
  | nil => exact .nil
  | @cons k' a v as vs h _ ih =>
    simp only [List.map_cons]
    by_cases q : k' = k
    . refine rwE (if_pos q) (rwE (if_pos q) ?_); exact .cons hy ih
    . refine rwE (if_neg q) (rwE (if_neg q) ?_); exact .cons h ih
theorem DCs.stored {φ : List Addr} {a : List (Str × AV)} {v : List (Str × Value)} (x : DCs φ a v) {k : Str} {y : AV} {y' : Value} (hy : VC φ y y') : DCs φ (putD k y a) (stored v k y') := by
  delta putD PySem.stored
  have := x.any k
  by_cases q : (a.any fun p => p.1 = k) = true
  . rw [if_pos q, if_pos (by refine rwE this ?_; exact q)]; exact x.map hy
  . rw [if_neg q, if_neg (by refine rwE this ?_; exact q)]; exact x.append (.cons hy .nil)
theorem DCs.without {φ : List Addr} {a : List (Str × AV)} {v : List (Str × Value)} (x : DCs φ a v) (k : Str) : DCs φ (a.filter fun p => p.1 ≠ k) (without v k) := by
  unfold PySem.without
  induction x with
  | nil => exact .nil
  | @cons k' a v as vs h _ ih =>
    by_cases q : k' = k
    . refine rwE (List.filter_cons_of_neg (by simpa using q)) (rwE (List.filter_cons_of_neg (by simpa using q)) ?_); exact ih
    . refine rwE (List.filter_cons_of_pos (by simpa using q)) (rwE (List.filter_cons_of_pos (by simpa using q)) ?_); exact .cons h ih

theorem VCs.pick {φ : List Addr} {a : List AV} {v : List Value} (x : VCs φ a v) (r : List Nat) : VCs φ (r.filterMap (a[·]?)) (r.filterMap (v[·]?)) := by
  induction r with
  | nil => exact .nil
  | cons i r ih =>
    cases q : a[i]? with
    | none =>
      have q' : v[i]? = none := by refine rwE (propext (List.getElem?_eq_none_iff)) (rwE x.length ?_); exact List.getElem?_eq_none_iff.mp q
      refine rwE (List.filterMap_cons_none q) (rwE (List.filterMap_cons_none q') ?_); exact ih
    | some y =>
      refine xEA (x.get q) fun z q' hz => ?_
      refine rwE (List.filterMap_cons_some q) (rwE (List.filterMap_cons_some q') ?_); exact .cons hz ih

theorem noI_fill_list : fillsInplaceSlot (.type "list") "add" (Operator.Add == .Add) = pure false := by
  unfold fillsInplaceSlot
  refine (?_ : (typeLookup (.type "list") (dunderI "add") >>= fun fi => pure (fi.isSome && !isSeqSlot fi)) = pure false)
  rw [show typeLookup (.type "list") (dunderI "add") = pure (some (.builtin "list.__iadd__")) from by refine rwE (typeLookup_type ..) (rwE (builtinLookup_eq_fast ..) ?_); kernel_rfl]
  kernel_rfl
theorem seqI_list : seqSlot? (.type "list") (dunderI "add") = pure (some (.builtin "list.__iadd__")) := by
  unfold seqSlot?
  rw [show typeLookup (.type "list") (dunderI "add") = pure (some (.builtin "list.__iadd__")) from by refine rwE (typeLookup_type ..) (rwE (builtinLookup_eq_fast ..) ?_); kernel_rfl]
  kernel_rfl

theorem setItem_listX {l : Addr} {vs : List Value} {ne : Nat} {k : Int} {t : Tok} {v : Value} {A : Around} {Q : Unit -> Shared -> Prop} (ho : s.heap.get? l = some ⟨.type "list", none, .seq (List.toArray vs) ne, #[]⟩)
    (h0 : 0 <= k) (hfit : k < 2 ^ 63) (hn : k < vs.length)
    (hQ : ∀ h', (∃ ne', h'.get? l = some ⟨.type "list", none, .seq (List.toArray (vs.set k.toNat v)) ne', #[]⟩) -> Heap.SameBut l s.heap h' -> Q () { s with heap := h' }) :
    wpAny (M w) A (setItem (.ref l) (.int k t) v) Q E s := by
  have hl := isList_of ho
  have hd : (⟨.type "list", none, .seq (List.toArray vs) ne, #[]⟩ : Obj).data = .seq vs.toArray ne := rfl
  unfold setItem
  try with_reducible refine wpAny_holding ?_
  first | refine wpAny_bind (wpAny_pure ?_) | skip
  refine wpAny_bind (wpAny_sequenceKey hl.typeIs (by decide) ?_)
  refine wpAny_bind (wpAny_callSpecial?_slot (name := Str.ofString "__setitem__") hl.typeIs slot_list_setitem
    (wpAny_call_entry slot_list_setitem hl.typeIs entry_list_setitem ?_ (args_list_setitem _ _ _)))
  refine (?_ : wpAny _ _ (Builtin.List.listSubscript? (.int k t) >>= _) _ _ s)
  refine wpAny_bind (wpAny_listSubscript_int (fitsIndex_of h0 hfit) ?_)
  clear hfit
  obtain ⟨j, rfl⟩ := Int.eq_ofNat_of_zero_le h0
  have hj : j < vs.toArray.size := by simp; exact Int.ofNat_lt.mp ‹_›
  have hx' : vs.toArray[j]? = some vs.toArray[j] := Array.getElem?_eq_getElem hj
  refine (?_ : wpAny _ _ ((seqItemAt l j >>= fun r => pure (r.map (j, ·))) >>= _) _ _ s)
  refine wpAny_bind (wpAny_bind (wpAny_seqItemAt ho hd (wpAny_pure ?_)))
  refine rwE hx' ?_
  refine (?_ : wpAny _ _ (setSeqItemAt l j v >>= _) _ _ s)
  obtain ⟨n', hd'⟩ := Obj.data_mapSeq hd (·.setIfInBounds j v)
  have g := Heap.get?_update_self (Obj.mapSeq (·.setIfInBounds j v)) ho rfl
  refine wpAny_bind (wpAny_setSeqItemAt ho hd (wpAny_pure ⟨.none, rfl, wpAny_pure (hQ _ ?_ (Heap.SameBut.update ..))⟩))
  exact ⟨_, g.trans (by simp [Obj.mapSeq]; rfl)⟩

end
noncomputable def ITEM (o i : AV) (h : Hp) (v : AV) : Prop := ∀ ⦃w : World⦄ ⦃X : Fx⦄ ⦃φ : List Addr⦄ ⦃lc : Loc⦄ ⦃s₀ s : Shared⦄ ⦃o' i' : Value⦄, Rel w X φ ⟨h, lc⟩ s₀ s -> VC φ o o' -> VC φ i i' -> (∃ T id, s.TypeIs o' T /\ typeLookup (.type T) "__getitem__" = pure (some (.builtin id))) /\
  ∀ ⦃E Q : Value -> Shared -> Prop⦄, (∀ v' s', VC φ v v' -> Rel w X φ ⟨h, lc⟩ s₀ s' -> Q v' s') -> wpAny (M w) X.A (getItem o' i') Q E s
noncomputable def SETI (o i v : AV) (h h' : Hp) : Prop := ∀ ⦃w : World⦄ ⦃X : Fx⦄ ⦃φ : List Addr⦄ ⦃lc : Loc⦄ ⦃s₀ s : Shared⦄ ⦃o' i' v' : Value⦄ ⦃E : Value -> Shared -> Prop⦄ ⦃Q : Unit -> Shared -> Prop⦄, Rel w X φ ⟨h, lc⟩ s₀ s -> VC φ o o' -> VC φ i i' -> VC φ v v' -> (∀ s', Rel w X φ ⟨h', lc⟩ s₀ s' -> Q () s') -> wpAny (M w) X.A (setItem o' i' v') Q E s
section
variable {h : Hp} {x y : Int}
theorem AUG.ints {op : Operator} {z : Int} (k : ∀ (w : World) (A : Around) (s : Shared) (E Q : Value -> Shared -> Prop) (t u : Tok), (∀ v, Q (.int z v) { s with toks := s.toks + 1 }) -> wpAny (M w) A (inplaceOp op (.int x t) (.int y u)) Q E s) : AUG op (.int x) (.int y) h (.int z) h := by
  intro w X φ lc s₀ s E a' b' R ha hb
  refine VC.intE ha fun t => ?_
  refine VC.intE hb fun u => ?_
  exact k w X.A s E _ t u fun v => Post.mk (.int _ _) (R.toks (Nat.le_add_left ..))
theorem AUG.add : AUG .Add (.int x) (.int y) h (.int (x + y)) h := .ints fun z9 z9 s z9 z9 z9 z9 q => PyProof.Rows.iadd_int (q s.toks)
theorem AUG.sub : AUG .Sub (.int x) (.int y) h (.int (x - y)) h := .ints fun z9 z9 s z9 z9 z9 z9 q => PyProof.Rows.isub_int (q s.toks)
theorem AUG.cat {a b : Str} (hm : a.length + b.length <= 16777216) : AUG .Add (.str a) (.str b) h (.str (a ++ b)) h := by
  intro w X φ lc s₀ s E a' b' R ha hb
  refine VC.strE ha fun t => ?_
  refine VC.strE hb fun u => ?_
  exact P.iadd_str (cat_post R hm)
theorem AUG.list {i j : Nat} {xs ys : List AV} (hi : h[i]? = some (.list xs)) (hj : h[j]? = some (.list ys)) (hm : xs.length + ys.length <= 1000) : AUG .Add (.obj i) (.obj j) h (.obj i) (h.set i (.list (xs ++ ys))) := by
  intro w X φ lc s₀ s E a' b' R ha hb
  refine VC.objE ha fun a pa => ?_
  refine VC.objE hb fun b pb => ?_
  refine xEEA (R.list hi pa) fun vs k h1 h2 => ?_
  refine xEEA (R.list hj pb) fun us l h3 h4 => ?_
  have l1 := h2.length
  have l2 := h4.length
  unfold inplaceOp
  refine wpAny_holding (wpAny_bind (wpAny_typeOf (T := "list") ⟨_, h1, rfl⟩ (wpAny_bind (wpAny_of_eq noI_fill_list ?_))))
  refine rwE (if_neg Bool.false_ne_true) ?_
  refine wpAny_bind (wpAny_binaryOp1_none (T := "list") (nm := "add") ⟨_, h1, rfl⟩ ⟨_, h3, rfl⟩ noFill_list_add ?_)
  refine wpAny_bind (wpAny_of_eq seqI_list ?_)
  refine wpAny_bind (wpAny_rule ?_)
  refine call_meets (T := "list") F.slot_list_iadd ⟨_, h1, rfl⟩ F.entry_list_iadd (F.args_list_iadd_2 _ _) (AutoSeq1.list___iadd___list_list_0 _ vs.toArray k _ us.toArray l (by
      simp only [List.size_toArray, Builtin.List.listTooLong, sizeLine]
      intro q
      simp at q
      lia) (by simp only [List.size_toArray, sizeLine_eq]; lia) (by simp only [List.size_toArray, sizeLine_eq]; lia)) ⟨h1, h3, ?_⟩
  have g := Heap.get?_update_self (Obj.mapSeq fun x => x ++ us.toArray) h1 rfl
  exact Post.mk (.obj pa) (R.upd hi rfl pa (Heap.SameBut.update ..).extBut g ⟨vs ++ us, _, by simp [Obj.mapSeq]; rfl, h2.append h4⟩ R.tok)
theorem ITEM.str {a : Str} {k c : Nat} (hc : a.cps[k]? = some c) (hz : a.length <= 16777216) : ITEM (.str a) (.int k) h (.str ⟨#[c]⟩) := by
  intro w X φ lc s₀ s o' i' R ho hi
  refine VC.strE ho fun t => ?_
  refine VC.intE hi fun u => ?_
  have hk : k < a.length := (Array.getElem?_eq_some_iff.mp hc).1
  refine ⟨⟨_, _, rfl, F.slot_str_getitem.lookup⟩, fun E Q q => ?_⟩
  refine P.getItem_str (by simp; lia) (c := c) ?_ (q _ _ (.str _ _) (R.toks (Nat.le_add_left ..)))
  have : seqIndex? k a.length = some k := by
    unfold seqIndex?
    simp; lia
  refine rwE this ?_; exact hc
theorem ITEM.list {n k : Nat} {xs : List AV} {v : AV} (hn : h[n]? = some (.list xs)) (hz : xs.length <= 100000) (hv : xs[k]? = some v) : ITEM (.obj n) (.int k) h v := by
  intro w X φ lc s₀ s o' i' R ho hi
  refine VC.objE ho fun a pa => ?_
  refine VC.intE hi fun u => ?_
  refine xEEA (R.list hn pa) fun vs kk h1 h2 => ?_
  refine xEA (h2.get hv) fun z hz' hc => ?_
  have l1 := h2.length
  have hk := (List.getElem?_eq_some_iff.mp hv).1
  exact ⟨⟨_, _, ⟨_, h1, rfl⟩, F.slot_list_getitem.lookup⟩, fun E Q q => wpAny_getItem_list (isList_of h1) (Int.natCast_nonneg _) (by lia) (by simpa using hz') (q _ _ hc R)⟩
theorem ITEM.last {n : Nat} {xs : List AV} {v : AV} (hn : h[n]? = some (.list xs)) (hz : xs.length <= 100000) (hv : xs.getLast? = some v) : ITEM (.obj n) (.int (-1)) h v := by
  intro w X φ lc s₀ s o' i' R ho hi
  refine VC.objE ho fun a pa => ?_
  refine VC.intE hi fun u => ?_
  refine xEEA (R.list hn pa) fun vs kk h1 h2 => ?_
  rw [List.getLast?_eq_getElem?] at hv
  refine xEA (h2.get hv) fun z hz' hc => ?_
  have l1 := h2.length
  have hk := (List.getElem?_eq_some_iff.mp hv).1
  refine ⟨⟨_, _, ⟨_, h1, rfl⟩, F.slot_list_getitem.lookup⟩, fun E Q q => wpAny_getItem_list_neg (isList_of h1) (Int.natCast_nonneg _) (by simp; lia) (Int.natCast_nonneg _) (x := z) ?_ (q _ _ hc R)⟩
  have : (-1 + ((vs.toArray.size : Nat) : Int)).toNat = xs.length - 1 := by simp; lia
  refine rwE this ?_; simpa using hz'
theorem ITEM.tup {n k : Nat} {xs : List AV} {v : AV} (hn : h[n]? = some (.tup xs)) (hz : xs.length <= 100000) (hv : xs[k]? = some v) : ITEM (.obj n) (.int k) h v := by
  intro w X φ lc s₀ s o' i' R ho hi
  refine VC.objE ho fun a pa => ?_
  refine VC.intE hi fun u => ?_
  refine xEEA (R.tup hn pa) fun vs kk h1 h2 => ?_
  refine xEA (h2.get hv) fun z hz' hc => ?_
  have l1 := h2.length
  have hk := (List.getElem?_eq_some_iff.mp hv).1
  refine ⟨⟨_, _, ⟨_, h1, rfl⟩, F.slot_tuple_getitem.lookup⟩, fun E Q q => PyProof.Rows.getItem_tuple ⟨_, h1, rfl, kk, rfl⟩ (Int.natCast_nonneg _) (by lia) (j := k) ?_ (by simpa using hz') (q _ _ hc R)⟩
  unfold seqIndex?
  simp; lia
theorem DCs.found {φ : List Addr} {es : List (Str × AV)} {kvs : List (Str × Value)} {k : Str} {v : AV} (D : DCs φ es kvs) (hk : es.lookup k = some v) : ∃ v', kvs.lookup k = some v' /\ VC φ v v' := by
  have q := D.lookup k
  rw [hk] at q
  cases e : kvs.lookup k with
  | none => rw [e] at q; exact q.elim
  | some v' => rw [e] at q; exact ⟨v', rfl, q⟩
theorem ITEM.dict {n : Nat} {es : List (Str × AV)} {k : Str} {v : AV} (hn : h[n]? = some (.dict es)) (hk : es.lookup k = some v) : ITEM (.obj n) (.str k) h v := by
  intro w X φ lc s₀ s o' i' R ho hi
  refine VC.objE ho fun a pa => ?_
  refine VC.strE hi fun u => ?_
  refine xEA (R.dict hn pa) fun kvs h1 h2 => ?_
  refine xEA (h2.found hk) fun v' e hv => ?_
  exact ⟨⟨_, _, h1.typeIs, F.slot_dict_getitem.lookup⟩, fun E Q q => wpAny_getItem_of (strKind_is _ w _ _) h1.mapOf ((valueAt_lookup _ _).trans e) (q _ _ hv (R.toks (Nat.le_add_left ..)))⟩
theorem ITEM.fro {n : Nat} {es : List (Str × AV)} {k : Str} {v : AV} (hn : h[n]? = some (.fro es)) (hk : es.lookup k = some v) : ITEM (.obj n) (.str k) h v := by
  intro w X φ lc s₀ s o' i' R ho hi
  refine VC.objE ho fun a pa => ?_
  refine VC.strE hi fun u => ?_
  refine xEA (R.fro hn pa) fun kvs h1 h2 => ?_
  refine xEA (h2.found hk) fun v' e hv => ?_
  exact ⟨⟨_, _, h1.typeIs, F.slot_dict_getitem.lookup⟩, fun E Q q => wpAny_getItem_of (strKind_is _ w _ _) h1.mapOf ((valueAt_lookup _ _).trans e) (q _ _ hv (R.toks (Nat.le_add_left ..)))⟩
theorem SETI.list {n k : Nat} {xs : List AV} {v : AV} (hn : h[n]? = some (.list xs)) (hz : xs.length <= 1000) (hk : k < xs.length) : SETI (.obj n) (.int k) v h (h.set n (.list (xs.set k v))) := by
  intro w X φ lc s₀ s o' i' v' E Q R ho hi hv q
  refine VC.objE ho fun a pa => ?_
  refine VC.intE hi fun u => ?_
  refine xEEA (R.list hn pa) fun vs kk h1 h2 => ?_
  have l1 := h2.length
  refine setItem_listX h1 (by lia) (by lia) (by lia) fun h' hq hs => q _ ?_
  obtain ⟨ne', hq⟩ := hq
  exact R.upd hn rfl pa hs.extBut hq ⟨_, ne', rfl, h2.set hv _⟩ R.tok
theorem SETI.dict {n : Nat} {es : List (Str × AV)} {k : Str} {v : AV} (hn : h[n]? = some (.dict es)) (hz : es.length <= 1000) : SETI (.obj n) (.str k) v h (h.set n (.dict (putD k v es))) := by
  intro w X φ lc s₀ s o' i' v' E Q R ho hi hv q
  refine VC.objE ho fun a pa => ?_
  refine VC.strE hi fun u => ?_
  refine xEA (R.dict hn pa) fun kvs h1 h2 => ?_
  refine wpAny_setItem_pairs (strKind_is _ w _ _) h1 (fun h' hd hs => q _ ?_) (by refine rwE h2.length (rwE sizeLine_eq ?_); exact Nat.le_trans ‹_› (by decide))
  refine xEA (Heap.dictOf_iff.mp hd) fun ob hob hd' => ?_
  exact R.upd hn rfl pa hs.extBut hob ⟨_, hd', h2.stored hv⟩ (Nat.le_add_left ..)
end
end Mine
end
section
open PySem PySem.W PyProof.Rows PySem.Calls
namespace Mine
theorem runs_toks {M : Model} {Γ : Ctx} {p : Pos} {t : Sem PySem.Fin} {fs : List Frame} {s : Shared} {e : End} {s' : Shared} (h : Runs M Γ p t fs s e s') : s.toks <= s'.toks := by
  induction h with
  | done => exact Nat.le_refl _
  | raise => exact Nat.le_refl _
  | yield => exact Nat.le_refl _
  | fresh _ ih => exact Nat.le_trans (Nat.le_succ _) ih
  | call _ _ ih1 ih2 => exact Nat.le_trans ih1 ih2
  | resumeFresh _ _ _ _ ih1 ih2 => exact Nat.le_trans ih1 ih2
  | resumeSuspended _ _ _ _ ih1 ih2 => exact Nat.le_trans ih1 ih2
  | segRet _ _ ih1 ih2 => exact Nat.le_trans ih1 ih2
  | segGen _ _ ih1 ih2 => exact Nat.le_trans ih1 ih2
  | segSuspGen _ _ _ _ ih1 ih2 => exact Nat.le_trans ih1 ih2
  | _ => assumption
theorem wakes_toks {M : Model} {Γ : Ctx} {p : Pos} {g : Nat} {r : Resume} {s : Shared} {res : GenResult} {s' : Shared} (h : Wakes M Γ p g r s res s') : s.toks <= s'.toks := by
  unfold Wakes at h
  split at h
  . exact h.elim
  . split at h
    . (refine xEEAAA (h) fun z9 z9 h1 z9 z9 hz5 => ?_; subst hz5); have q := runs_toks h1; exact q
    . obtain ⟨_, rfl⟩ := h; exact Nat.le_refl _
    . obtain ⟨_, rfl⟩ := h; exact Nat.le_refl _
  . (refine xEEAAA (h) fun z9 z9 h1 z9 z9 hz5 => ?_; subst hz5); have q := runs_toks h1; exact q
  . obtain ⟨_, rfl⟩ := h; exact Nat.le_refl _
  . obtain ⟨_, rfl⟩ := h; exact Nat.le_refl _

theorem wp_tok {α : Type} {M : Model} {Γ : Ctx} {Q : α -> Pos -> Shared -> Prop} {E : Value -> Pos -> Shared -> Prop} {b : Nat} : ∀ (t : Sem α) (p : Pos) (s : Shared), b <= s.toks ->
    Sem.wp M Γ t (fun a p s' => b <= s'.toks -> Q a p s') (fun e p s' => b <= s'.toks -> E e p s') p s -> Sem.wp M Γ t Q E p s := by
  intro t
  induction t with
  | pure a => intro p s hb h; exact h hb
  | raise e => intro p s hb h; exact h hb
  | unsupported _ => intro p s hb h; exact h
  | finish _ => intro p s hb h; exact h
  | rule _ k ih => intro p s hb h; exact ih () p s hb h
  | «at» q k ih => intro p s hb h; exact ih () q s hb h
  | load a q k ih => intro p s hb h; refine xEA (h) fun o h1 h2 => ?_; exact ⟨o, h1, ih o p s hb h2⟩
  | update a q f k ih => intro p s hb h; exact ⟨h.1, ih () p _ hb h.2⟩
  | alloc o k ih => intro p s hb h; exact ih _ p _ hb h
  | loadIfAlive a k ih => intro p s hb h; exact ih _ p s hb h
  | point l k ih => intro p s hb h; exact ih () p s hb h
  | register a k ih => intro p s hb h; exact h
  | fresh k ih => intro p s hb h; exact ih _ p _ (Nat.le_succ_of_le hb) h
  | ask k ih => intro p s hb h; exact ih _ p s hb h
  | choose src n k ih => intro p s hb h; exact ⟨h.1, ih _ p _ hb h.2⟩
  | os q l k ih => intro p s hb h; exact ih _ p _ hb h
  | call c hd g l k ih => intro p s hb h; refine xEEA (h) fun r s1 h1 h2 => ?_; exact ⟨r, s1, h1, ih r p s1 (Nat.le_trans hb (runs_toks h1)) h2⟩
  | handled own k ih => intro p s hb h; exact ih _ p s hb h
  | newGen c k ih => intro p s hb h; exact ih _ p _ hb h
  | genState g k ih => intro p s hb h; refine xEA (h) fun o h1 h2 => ?_; exact ⟨o, h1, ih _ p s hb h2⟩
  | resume g r l k ih => intro p s hb h; refine xEEA (h) fun r s1 h1 h2 => ?_; exact ⟨r, s1, h1, ih r p s1 (Nat.le_trans hb (wakes_toks h1)) h2⟩
  | yield v g l k ih => intro p s hb h; exact h
  | stack k ih => intro p s hb h; exact ih _ p s hb h
  | fork c k ih => intro p s hb h; exact h
  | thread k ih => intro p s hb h; exact ih _ p s hb h
  | await a t d l k ih => intro p s hb h; exact h

theorem wpAny_tok {α : Type} {M : Model} {A : Around} {t : Sem α} {Q : α -> Shared -> Prop} {E : Value -> Shared -> Prop} {s : Shared}
    (h : wpAny M A t (fun a s' => s.toks <= s'.toks -> Q a s') (fun e s' => s.toks <= s'.toks -> E e s') s) : wpAny M A t Q E s :=
  fun Γ p hΓ => wp_tok t p s (Nat.le_refl _) (h Γ p hΓ)
end Mine
end
section
open PySem PySem.W PyProof.Rows PySem.Calls
namespace Mine
section
variable {w : World} {X : Fx} {φ : List Addr} {st : St} {s₀ s : Shared} {K : Frag} {mg mb : Str -> Option Value} {E : Value -> Shared -> Prop}

theorem part_is {a : AV} {v : Value} {p : Option Int} (h : VC φ a v) (e : partOf a = some p) : IsPart v p /\ ∃ q : Option (Int × Tok), v = partValue q /\ q.map (·.1) = p := by
  unfold partOf at e
  split at e
  . cases e; cases h; exact ⟨.none, none, rfl, rfl⟩
  . cases e; cases h with | int _ t => exact ⟨.int _ _, some (_, t), rfl, rfl⟩
  . cases e

end
noncomputable def SLC (o l u sp : AV) (h : Hp) (v : AV) (h' : Hp) : Prop := ∀ ⦃w : World⦄ ⦃X : Fx⦄ ⦃φ : List Addr⦄ ⦃lc : Loc⦄ ⦃s₀ s : Shared⦄ ⦃o' l' u' sp' : Value⦄ ⦃a : Addr⦄, Rel w X φ ⟨h, lc⟩ s₀ s -> VC φ o o' -> VC φ l l' -> VC φ u u' -> VC φ sp sp' -> s.heap.get? a = some { cls := .type "slice", data := .fields #[l', u', sp'] } -> (∃ T id, s.TypeIs o' T /\ typeLookup (.type T) "__getitem__" = pure (some (.builtin id))) /\
  ∀ ⦃E : Value -> Shared -> Prop⦄, wpAny (M w) X.A (getItem o' (.ref a)) (Post w X φ s₀ v ⟨h', lc⟩) E s
section
variable {h : Hp}
set_option tactic.hygienic true in
theorem SLC.str {x : Str} {l u : AV} {lo hi : Option Int} (e1 : partOf l = some lo) (e2 : partOf u = some hi) (hx : x.length <= 16777216) : SLC (.str x) l u .none h (.str (Txt.slice x lo hi)) h := by
  intro w X φ lc s₀ s o' l' u' sp' a R ho hl hu hsp ha
  refine VC.strE ho fun t => ?_
  refine xAEA (part_is hl e1) fun p1 q1 r1 m1 => ?_
  refine xAEA (part_is hu e2) fun p2 q2 r2 m2 => ?_
  have r3 := hsp.none_eq
  subst r1 r2 r3
  refine ⟨⟨_, _, rfl, F.slot_str_getitem.lookup⟩, fun E => wpAny_getItem_str_slice (l := q1) (u := q2) (st := none) ⟨_, ha, rfl, rfl⟩ (by decide) ?_⟩
  delta sliceMade slicePicked
  refine rwE m1 (rwE m2 ?_)
  have key : Txt.slice x lo hi = if ((1 : Int) == 1 && (Builtin.Str.strSliceIndices lo hi 1 x.length).length == x.length) = true then x else ⟨((Builtin.Str.strSliceIndices lo hi 1 x.length).filterMap (x.cps[·]?)).toArray⟩ := rfl
  refine (?_ : (if ((1 : Int) == 1 && (Builtin.Str.strSliceIndices lo hi 1 x.length).length == x.length) = true then Made.val (.str x t) else Made.str ⟨((Builtin.Str.strSliceIndices lo hi 1 x.length).filterMap (x.cps[·]?)).toArray⟩).post _ s)
  split
  . rename_i q
    rw [if_pos q] at key
    exact Post.mk (by refine rwE key ?_; exact .str _ _) R
  . rename_i q
    rw [if_neg q] at key
    refine rwB key ?_
    refine ⟨?_, Post.mk (.str _ _) (R.toks (Nat.le_add_left ..))⟩
    have := sliceIndices_le lo hi x.length
    refine rwE key ?_
    refine (?_ : Array.size _ <= _)
    refine rwE List.size_toArray (rwE sizeLine_eq ?_)
    exact Nat.le_trans (Nat.le_trans (List.length_filterMap_le ..) this) hx
theorem SLC.any {n : Nat} {xs : List AV} {l u sp : AV} {lo hi sq : Option Int} (hn : ∀ {w : World} {X : Fx} {φ : List Addr} {lc : Loc} {s₀ s : Shared} {b : Addr}, Rel w X φ ⟨h, lc⟩ s₀ s -> φ[n]? = some b -> ∃ vs k, s.heap.get? b = some ⟨.type "list", none, .seq (List.toArray vs) k, #[]⟩ /\ VCs φ xs vs)
    (e1 : partOf l = some lo) (e2 : partOf u = some hi) (e3 : partOf sp = some sq) (hs : sq ≠ some 0) (hz : xs.length <= 1000) : SLC (.obj n) l u sp h (.obj h.length) (h ++ [.list (pickA xs lo hi sq)]) := by
  intro w X φ lc s₀ s o' l' u' sp' a R ho hl hu hsp ha
  refine VC.objE ho fun b pb => ?_
  refine xAEA (part_is hl e1) fun p1 q1 r1 m1 => ?_
  refine xAEA (part_is hu e2) fun p2 q2 r2 m2 => ?_
  refine xAEA (part_is hsp e3) fun p3 q3 r3 m3 => ?_
  refine xEEA (hn R pb) fun vs k h1 h2 => ?_
  have l1 := h2.length
  refine ⟨⟨_, _, ⟨_, h1, rfl⟩, F.slot_list_getitem.lookup⟩, fun E => wpAny_getItem_list_slice (isList_of h1) ⟨_, ha, rfl, rfl⟩ p1 p2 p3 hs ?_ (by simp only [List.size_toArray, sizeLine_eq]; lia)⟩
  refine ⟨_, fun z9 z9 => get_snoc, .obj (by refine rwB R.len ?_; exact get_last), R.push rfl ?_ R.tok⟩
  refine ⟨_, 0, rfl, VCs.mono (fun z9 z9 => get_snoc) ?_⟩
  have := h2.pick (sliceRange (sliceBounds lo hi sq xs.length).1 (sliceBounds lo hi sq xs.length).2.1 (sliceBounds lo hi sq xs.length).2.2)
  simpa [pickA, slicePick, l1] using this
theorem SLC.list {n : Nat} {xs : List AV} {l u sp : AV} {lo hi sq : Option Int} (hn : h[n]? = some (.list xs)) (e1 : partOf l = some lo) (e2 : partOf u = some hi) (e3 : partOf sp = some sq) (hs : sq ≠ some 0) (hz : xs.length <= 1000) : SLC (.obj n) l u sp h (.obj h.length) (h ++ [.list (pickA xs lo hi sq)]) := .any (fun R p => R.list hn p) e1 e2 e3 hs hz
theorem SLC.flist {n : Nat} {xs : List AV} {l u sp : AV} {lo hi sq : Option Int} (hn : h[n]? = some (.flist xs)) (e1 : partOf l = some lo) (e2 : partOf u = some hi) (e3 : partOf sp = some sq) (hs : sq ≠ some 0) (hz : xs.length <= 1000) : SLC (.obj n) l u sp h (.obj h.length) (h ++ [.list (pickA xs lo hi sq)]) := .any (fun R p => R.flist hn p) e1 e2 e3 hs hz
end
end Mine
end
section
open PySem PySem.W PyProof.Rows PySem.Calls
namespace Mine
section
variable {w : World} {X Y : Fx} {φ ψ : List Addr} {st st' : St} {s₀ s s' : Shared} {K : Frag} {mg mb : Str -> Option Value} {E : Value -> Shared -> Prop}

theorem Rel.garb (R : Rel w X φ st s₀ s) {wr : List Addr} {h' : Heap} {tk : Nat} (hw : ∀ b ∈ wr, b ∉ φ /\ b ∉ X.lls /\ X.pr.get? b = none) (k : ∀ b o, b ∉ wr -> s.heap.get? b = some o -> h'.get? b = some o) (ht : 1 <= tk) :
    Rel w X φ st s₀ { s with heap := h', toks := tk } where
  keep := R.keep.step fun b o e hb => k b o (fun q => hb (hw b q).2.2) e
  loc := by
    obtain ⟨m, ⟨o, es, ep, h1, r⟩, h2⟩ := R.loc
    exact ⟨m, ⟨o, es, ep, k _ _ (fun q => (hw _ q).2.1 R.lls.1) h1, r⟩, h2⟩
  objs := fun n o e => let ⟨a, ob, h1, h2, h3⟩ := R.objs n o e; ⟨a, ob, h1, k _ _ (fun q => (hw _ q).1 (mem_of_get h1)) h2, h3⟩
  inj := R.inj
  len := R.len
  off := fun a ha => by
    refine xAA (R.off a ha) fun h1 h3 h4 => ?_
    obtain ⟨o, ho⟩ := Option.isSome_iff_exists.mp h3
    exact ⟨h1, by refine (?_ : (h'.get? a).isSome = true); refine rwE (k _ _ (fun q => (hw _ q).1 ha) ho) ?_; rfl, h4⟩
  offp := R.offp
  lls := ⟨R.lls.1, fun L hL => by
    obtain ⟨o, ho⟩ := Option.isSome_iff_exists.mp (R.lls.2 L hL)
    refine (?_ : (h'.get? L).isSome = true)
    refine rwE (k _ _ (fun q => (hw _ q).2.1 hL) ho) ?_; rfl⟩
  lowL := R.lowL
  cells := R.cells
  tok := ht
  gens := R.gens
  os := R.os
  drawn := R.drawn

noncomputable def openA (hp : Hp) (φ : List Addr) : List Addr := (hp.zip φ).filterMap fun p => if p.1.isFro then none else some p.2
theorem openA_mem {hp : Hp} {φ : List Addr} {a : Addr} (h : a ∈ openA hp φ) : ∃ (n : Nat) (o : AO), φ[n]? = some a /\ hp[n]? = some o /\ o.isFro = false := by
  unfold openA at h
  obtain ⟨⟨o, b⟩, h1, h2⟩ := List.mem_filterMap.mp h
  obtain ⟨n, h3⟩ := List.getElem?_of_mem h1
  rw [List.getElem?_zip_eq_some] at h3
  cases q : o.isFro with
  | true => simp [q] at h2
  | false => simp [q] at h2; subst h2; exact ⟨n, o, h3.2, h3.1, q⟩
theorem mem_openA {hp : Hp} {φ : List Addr} {a : Addr} {n : Nat} {o : AO} (h1 : φ[n]? = some a) (h2 : hp[n]? = some o) (h3 : o.isFro = false) : a ∈ openA hp φ := by
  unfold openA
  refine List.mem_filterMap.mpr ⟨(o, a), List.mem_of_getElem? (i := n) ?_, by lia⟩
  refine rwE (propext (List.getElem?_zip_eq_some)) ?_
  exact ⟨h2, h1⟩

noncomputable def Sub (fr : List Addr) (p q : Heap) : Prop := ∀ b o, p.get? b = some o -> ∃ sl, q.get? b = some { o with slots := sl } /\ (b ∉ fr -> sl = o.slots)

noncomputable def Fx.prot (X : Fx) (hp : Hp) (φ : List Addr) (h : Heap) : Fx := { X with pr := hideAll h (X.env.locals :: openA hp φ) }

theorem Rel.sub_prot (R : Rel w X φ st s₀ s) (prL : X.pr.get? X.env.locals = none) : Sub X.fr X.pr (X.prot st.hp φ s.heap).pr := fun b o e => by
  refine xEA (R.keep b o e) fun sl h1 h2 => ?_
  refine ⟨sl, hideAll_get _ h1 fun q => ?_, h2⟩
  rcases List.mem_cons.mp q with rfl | q
  . rw [prL] at e; cases e
  . refine xEEAA (openA_mem q) fun n x h3 h4 h5 => ?_
    rw [R.offp n b x h3 h4 h5] at e; cases e

theorem Good.prot (G : Good w K mg mb X) (R : Rel w X φ st s₀ s) : Good w K mg mb (X.prot st.hp φ s.heap) := by
  have S := R.sub_prot G.prL
  refine { G with gdpr := fun b o e => ?_, prL := hideAll_none _ (.head _), around := fun e he => ?_ }
  . refine xEA (S b o (G.gdpr b o e)) fun sl h1 h2 => ?_
    rw [h2 (fun hb => by have e' : X.gd.get? b = some o := e; rw [G.gdfr b hb] at e'; cases e')] at h1
    exact h1
  . refine xAEA (G.around e he) fun h1 L h2 h3 => ?_
    refine ⟨h1, L, h2, h3.imp id fun ⟨o, h4, es, ep, h5⟩ => ?_⟩
    refine xEA (S L o h4) fun sl h6 z9 => ?_
    exact ⟨_, h6, es, ep, h5⟩

theorem Rel.prot (R : Rel w X φ st s₀ s) : Rel w (X.prot st.hp φ s.heap) φ st s₀ s :=
  { R with
    keep := fun b o e => ⟨o.slots, of_hideAll _ e, fun z9 => rfl⟩
    offp := fun n a o h1 h2 h3 => hideAll_none _ (.tail _ (mem_openA h1 h2 h3)) }

theorem Rel.unprot (R' : Rel w Y ψ st' s₀ s') (S : Sub X.fr X.pr Y.pr) (hf : Y.fr = X.fr) (hf1 : Y.fe = X.fe) (hf2 : Y.env = X.env) (hl : Y.lls = X.lls) : Rel w X ψ st' s₀ s' where
  keep := fun b o e => by
    refine xEA (S b o e) fun sl h1 h2 => ?_
    refine xEA (R'.keep b _ h1) fun sl' h3 h4 => ?_
    exact ⟨sl', h3, fun hb => (h4 (by refine rwE hf ?_; exact hb)).trans (h2 hb)⟩
  loc := hf2 ▸ R'.loc
  objs := R'.objs
  inj := R'.inj
  len := R'.len
  off := hl ▸ R'.off
  offp := fun n a o h1 h2 h3 => by
    cases q : X.pr.get? a with
    | none => rfl
    | some x => refine xEA (S a x q) fun sl h4 z9 => ?_; rw [R'.offp n a o h1 h2 h3] at h4; cases h4
  lls := hl ▸ hf2 ▸ R'.lls
  lowL := hf2 ▸ R'.lowL
  cells := hf1 ▸ hf2 ▸ R'.cells
  tok := R'.tok
  gens := R'.gens
  os := R'.os
  drawn := R'.drawn

theorem get_set_ne {α : Type} {l : List α} {n i : Nat} {x : α} (h : n ≠ i) : (l.set n x)[i]? = l[i]? := by refine rwE (List.getElem?_set) ?_; lia
set_option tactic.hygienic true in
theorem Rel.froze (R : Rel w X φ st s₀ s) (n : Nat) : Rel w X φ ⟨Mine.froze n st.hp, st.lc⟩ s₀ s := by
  unfold Mine.froze
  split
  . rename_i es hx
    refine { R with objs := fun i o e => ?_, len := by exact rwE R.len (rwE List.length_set rfl), offp := fun i a o h1 h2 h3 => ?_ }
    . rw [List.getElem?_set] at e
      split at e
      . rename_i q; subst q
        split at e
        . cases e; refine xEEAA (R.objs _ _ hx) fun a ob h1 h2 h3 => ?_; exact ⟨a, ob, h1, h2, h3⟩
        . cases e
      . exact R.objs i o e
    . rw [List.getElem?_set] at h2
      split at h2
      . split at h2
        . cases h2; cases h3
        . cases h2
      . exact R.offp i a o h1 h2 h3
  . exact R
set_option tactic.hygienic true in
theorem Rel.thawed (R : Rel w X φ st s₀ s) (n : Nat) (hp : ∀ a, φ[n]? = some a -> X.pr.get? a = none) : Rel w X φ ⟨Mine.thawed n st.hp, st.lc⟩ s₀ s := by
  unfold Mine.thawed
  split
  . rename_i es hx
    refine { R with objs := fun i o e => ?_, len := by exact rwE R.len (rwE List.length_set rfl), offp := fun i a o h1 h2 h3 => ?_ }
    . rw [List.getElem?_set] at e
      split at e
      . rename_i q; subst q
        split at e
        . cases e; refine xEEAA (R.objs _ _ hx) fun a ob h1 h2 h3 => ?_; exact ⟨a, ob, h1, h2, h3⟩
        . cases e
      . exact R.objs i o e
    . rw [List.getElem?_set] at h2
      split at h2
      . rename_i q; subst q; exact hp a h1
      . exact R.offp i a o h1 h2 h3
  . exact R
end
end Mine
end
section
open PySem PySem.W PyProof.Rows PySem.Calls
namespace Mine
section
variable {w : World} {X Y : Fx} {φ ψ : List Addr} {st st' : St} {s₀ s s' : Shared} {K : Frag} {mg mb : Str -> Option Value} {E : Value -> Shared -> Prop}

noncomputable def cutH (h : Heap) (_ : Addr) : Heap := { h with objs := #[] }
theorem cutH_size (h : Heap) (L : Addr) : (cutH h L).objs.size <= L := Nat.zero_le _
theorem cutH_none (h : Heap) (L b : Addr) : (cutH h L).get? b = none := Heap.get?_none_of_le (Nat.zero_le _)
theorem cutH_get {h : Heap} {L b : Addr} {o : Obj} (e : (cutH h L).get? b = some o) : h.get? b = some o := by rw [cutH_none] at e; cases e
noncomputable def restH (h : Heap) (L : Addr) : List (Addr × Obj) := (List.range h.objs.size).filterMap fun b => if b = L then none else (h.get? b).map (b, ·)
set_option tactic.hygienic true in
theorem mem_restH {h : Heap} {L b : Addr} {o : Obj} : (b, o) ∈ restH h L ↔ b ≠ L /\ h.get? b = some o := by
  unfold restH
  refine rwE (propext List.mem_filterMap) ?_
  constructor
  . rintro ⟨c, h1, h2⟩
    split at h2
    . cases h2
    . rename_i hc
      cases q : h.get? c with
      | none => rw [q] at h2; cases h2
      | some x => rw [q] at h2; cases h2; exact ⟨hc, q⟩
  . rintro ⟨h1, h2⟩
    exact ⟨b, List.mem_range.mpr (Heap.lt_size h2), by refine rwE (if_neg h1) (rwE h2 ?_); rfl⟩
theorem fr_cut {h : Heap} {L : Addr} {m : Str -> Option Value} (n : h.Ns L m) : Fr (cutH h L) L h m := ⟨n, fun z9 z9 e => cutH_get e, cutH_size h L⟩
theorem news_rest (h : Heap) (L : Addr) : News (cutH h L) L h (restH h L) := fun p hp => by
  obtain ⟨b, o⟩ := p
  obtain ⟨h1, h2⟩ := mem_restH.mp hp
  exact ⟨h2, h1, cutH_none _ _ _⟩
theorem rest_keeps {h h' : Heap} {L : Addr} {h₀ : Heap} {news : List (Addr × Obj)} (N : News h₀ L h' news) (hn : ∀ p ∈ restH h L, p ∈ news) : ∀ b o, b ≠ L -> h.get? b = some o -> h'.get? b = some o := fun b o hb e =>
  (N _ (hn _ (mem_restH.mpr ⟨hb, e⟩))).1
theorem news_at {h : Heap} {L d : Addr} {o : Obj} (hd : d ≠ L) (e : h.get? d = some o) : News (cutH h L) L h ([] ++ (d, o) :: (restH h L).filter (fun p => p.1 ≠ d)) := fun p hp => by
  rcases List.mem_cons.mp hp with rfl | hp
  . exact ⟨e, hd, cutH_none _ _ _⟩
  . exact news_rest h L p (List.mem_filter.mp hp).1
theorem at_keeps {h h' : Heap} {L d : Addr} {h₀ : Heap} {o' : Obj} (N : News h₀ L h' ([] ++ (d, o') :: (restH h L).filter (fun p => p.1 ≠ d))) : ∀ b o, b ≠ L -> b ≠ d -> h.get? b = some o -> h'.get? b = some o := fun b o hb hbd e =>
  (N _ (.tail _ (List.mem_filter.mpr ⟨mem_restH.mpr ⟨hb, e⟩, by simpa using hbd⟩))).1

theorem Rel.ext' (R : Rel w X φ st s₀ s) (prL : X.pr.get? X.env.locals = none) {h' : Heap} {tk : Nat} {m : Str -> Option Value} (hm : s.heap.Ns X.env.locals m) (hm' : h'.Ns X.env.locals m) (k : ∀ b o, b ≠ X.env.locals -> s.heap.get? b = some o -> h'.get? b = some o) (ht : 1 <= tk) :
    Rel w X φ st s₀ { s with heap := h', toks := tk } where
  keep := R.keep.step fun b o e hb => k b o (fun q => hb (q ▸ prL)) e
  loc := by
    refine xEA (R.loc) fun m2 h1 h2 => ?_
    refine ⟨m, hm', ?_⟩
    refine xEEEAAA (h1) fun o1 es1 ep1 a1 a2 a3 a4 => ?_
    refine xEEEAAA (hm) fun o2 es2 ep2 b1 b2 b3 b4 => ?_
    rw [a1] at b1; cases b1
    rw [a2] at b2; cases b2
    have : m = m2 := funext fun n => (b4 n).symm.trans (a4 n)
    refine rwE this ?_; exact h2
  objs := fun n o e => let ⟨a, ob, h1, h2, h3⟩ := R.objs n o e; ⟨a, ob, h1, k _ _ (R.offL (mem_of_get h1)) h2, h3⟩
  inj := R.inj
  len := R.len
  off := fun a ha => let ⟨h1, h3, h4⟩ := R.off a ha; ⟨h1, by obtain ⟨o, ho⟩ := Option.isSome_iff_exists.mp h3; refine (?_ : (h'.get? a).isSome = true); refine rwE (k _ _ (R.offL ha) ho) ?_; rfl, h4⟩
  offp := R.offp
  lls := ⟨R.lls.1, fun L hL => by
    obtain ⟨o, ho⟩ := Option.isSome_iff_exists.mp (R.lls.2 L hL)
    refine (?_ : (h'.get? L).isSome = true)
    by_cases q : L = X.env.locals
    . refine xEEEA (hm') fun o' z9 z9 h2 z9 => ?_; refine rwE q (rwE h2 ?_); rfl
    . refine rwE (k L o q ho) ?_; rfl⟩
  cells := R.cells
  lowL := R.lowL
  tok := ht
  gens := R.gens
  os := R.os
  drawn := R.drawn

theorem ints_items {vs : List Value} {l : List Int} (h : IntsAre vs l) : ∃ xs : Array (Int × Tok), vs.toArray = intItems xs /\ xs.toList.map (·.1) = l := by
  obtain ⟨xs, e⟩ := h.allInts.items
  refine ⟨xs, e, ?_⟩
  have : numsOf vs = l := by
    clear e
    induction h with
    | nil => rfl
    | cons _ _ _ ih => simp [numsOf] at ih ⊢; exact ih
  rw [← this, show vs = (intItems xs).toList from by exact rwB e rfl, nums_intItems]

theorem foldl_max : ∀ (r : List Int) (x : Int), (r.foldl (fun m y => if m < y then y else m) x = x ∨ r.foldl (fun m y => if m < y then y else m) x ∈ r) /\ x <= r.foldl (fun m y => if m < y then y else m) x /\ ∀ a ∈ r, a <= r.foldl (fun m y => if m < y then y else m) x
  | [], x => ⟨.inl rfl, Int.le_refl _, fun z9 h => nomatch h⟩
  | y :: r, x => by
    simp only [List.foldl_cons]
    refine xAA (foldl_max r (if x < y then y else x)) fun h1 h2 h3 => ?_
    refine ⟨?_, ?_, ?_⟩
    . rcases h1 with h1 | h1
      . refine rwE h1 ?_; split
        . exact .inr (.head _)
        . exact .inl rfl
      . exact .inr (.tail _ h1)
    . refine Int.le_trans ?_ h2; split <;> lia
    . intro a ha
      rcases List.mem_cons.mp ha with rfl | ha
      . refine Int.le_trans ?_ h2; split <;> lia
      . exact h3 a ha
theorem maxL_is {l : List Int} {M N : Int} (e : maxL l = some M) (h1 : N ∈ l) (h2 : ∀ a ∈ l, a <= N) : M = N := by
  cases l with
  | nil => cases e
  | cons x r =>
    have e' : r.foldl (fun m y => if m < y then y else m) x = M := by simpa [maxL] using e
    refine xAA (foldl_max r x) fun g1 g2 g3 => ?_
    rw [e'] at g1 g2 g3
    have hM : M ∈ x :: r := g1.elim (fun q => q ▸ .head _) fun q => .tail _ q
    have hN : N <= M := by
      rcases List.mem_cons.mp h1 with rfl | q
      . exact g2
      . exact g3 _ q
    exact Int.le_antisymm (h2 M hM) hN

theorem max_sound (hh : X.A.handled = none) (R : Rel w X φ st s₀ s) {n : Nat} {xs : List AV} {l : List Int} {M₀ : Int} {a : Addr} (hx : st.hp[n]? = some (.list xs)) (ha : φ[n]? = some a) (hi : intsOf xs = some l) (hm : maxL l = some M₀) :
    wpAny (M w) X.A (call (.builtin "max") [.ref a]) (Post w X φ s₀ (.int M₀) st) E s := by
  refine xEEA (R.list hx ha) fun vs k h1 h2 => ?_
  refine xEA (ints_items (intsOf_are hi h2)) fun ys e1 e2 => ?_
  have hsz : 0 < ys.size := by
    cases l with
    | nil => cases hm
    | cons x r => have := congrArg List.length e2; simp at this; lia
  refine wpAny_tok (max_intList hh (e1 ▸ isList_of h1) hsz fun v h' tk hv hk ht => ?_)
  obtain ⟨t, rfl⟩ := intItems_at hv
  obtain ⟨g1, g2⟩ := argBest_gt (numAt ys) (ys.size - 1)
  have : M₀ = numAt ys (argBest (fun i j => decide (numAt ys i > numAt ys j)) (ys.size - 1)) := by
    refine maxL_is hm ?_ fun a ha => ?_
    . refine rwB (e2 ..) (rwE (numAt_eq ..) ?_); exact getD_mem (by refine rwE (List.length_map ..) (rwE (Array.length_toList ..) ?_); omega)
    . rw [← e2] at ha
      (refine xEA (mem_getD ha) fun j hj hz2 => ?_; subst hz2)
      rw [List.length_map, Array.length_toList] at hj
      refine rwB (numAt_eq ..) ?_; exact g2 j (by lia)
  refine rwE this ?_
  exact Post.mk (.int _ _) (R.ext hk (Nat.le_trans R.tok ht))

theorem sum_sound (hh : X.A.handled = none) (R : Rel w X φ st s₀ s) {n : Nat} {xs : List AV} {l : List Int} {a : Addr} (hx : st.hp[n]? = some (.list xs)) (ha : φ[n]? = some a) (hi : intsOf xs = some l) :
    wpAny (M w) X.A (call (.builtin "sum") [.ref a]) (Post w X φ s₀ (.int l.sum) st) E s := by
  refine xEEA (R.list hx ha) fun vs k h1 h2 => ?_
  refine xEA (ints_items (intsOf_are hi h2)) fun ys e1 e2 => ?_
  refine wpAny_tok (sum_intListG hh (e1 ▸ isList_of h1) fun h' tk t' hk ht => ?_)
  refine rwE (preSum_eq ..) (rwE (List.take_of_length_le (by simp) ..) (rwE (e2 ..) ?_))
  exact Post.mk (.int _ _) (R.ext hk (Nat.le_trans R.tok ht))

theorem meets_bool_new_list (l : Addr) (items : Array Value) (hfit : (items.size : Int) < 2 ^ 63) :
    Meets (Builtin.«bool.__new__» ⟨[.type "bool", .ref l], []⟩) (fun z9 R s => s.heap.IsList l items /\ R (.ok (.ret (.bool (!items.isEmpty)))) { s with toks := s.toks + 1 + 1 }) :=
  Meets.of_wp fun prog w A R s hs => by
    obtain ⟨hp, g, d, tk, os⟩ := s
    obtain ⟨hl, hs⟩ := hs
    have f1 := F.conv_sub_bool
    repeat (any_goals (first | assumption | (with_reducible refine wpAny_truthy_list hl hfit ?_) | wp_step))
    all_goals first | exact ⟨_, rfl, hs⟩ | exact hs | skip

theorem isTup_of {h : Heap} {a : Addr} {vs : List Value} {k : Nat} (e : h.get? a = some ⟨.type "tuple", none, .seq (List.toArray vs) k, #[]⟩) : IsTup h a vs.toArray := ⟨_, e, rfl, k, rfl⟩

theorem iter_sound (R : Rel w X φ st s₀ s) {n : Nat} {xs : List AV} {a : Addr} (hx : st.hp[n]? = some (.list xs)) (ha : φ[n]? = some a) :
    wpAny (M w) X.A (call (.builtin "iter") [.ref a]) (Post w X φ s₀ (.obj st.hp.length) ⟨st.hp ++ [.iter n 0], st.lc⟩) E s := by
  refine xEEA (R.list hx ha) fun vs k h1 h2 => ?_
  refine call_function_entry (by decide +kernel) (by decide +kernel) kdk_entry_iter (kdk_args_iter _) ?_
  unfold Builtin.«iter»
  refine wpAny_bind (m := someArgs "iter" 1 2 _) (wpAny_of_eq (a := [Value.ref a]) (by first | rfl | kernel_rfl!) ?_)
  refine (?_ : wpAny _ _ (pyIter (.ref a) >>= _) _ _ _)
  refine wpAny_bind (wpAny_pyIter_list (isList_of h1) ?_)
  refine wpAny_pure ⟨_, rfl, _, fun z9 z9 => get_snoc, ?_, R.push rfl ⟨a, get_snoc ha, rfl⟩ R.tok⟩
  exact .obj (by refine rwB R.len ?_; exact get_last)
end
end Mine
end
section
open PySem PySem.W PyProof.Rows PySem.Calls
namespace Mine
section
variable {w : World} {X Y : Fx} {φ ψ : List Addr} {st st' : St} {s₀ s s' : Shared} {K : Frag} {mg mb : Str -> Option Value} {E : Value -> Shared -> Prop}

structure Off (X : Fx) (φ : List Addr) (b : Addr) : Prop where
  phi : b ∉ φ
  lls : b ∉ X.lls
  pr : X.pr.get? b = none
theorem Rel.offNew (R : Rel w X φ st s₀ s) {b : Addr} (h : s.heap.get? b = none) : Off X φ b where
  phi := fun q => by have := (R.off b q).2.1; rw [h] at this; cases this
  lls := fun q => by have := R.lls.2 b q; rw [h] at this; cases this
  pr := by
    cases q : X.pr.get? b with
    | none => rfl
    | some o => refine xEA (R.keep b o q) fun sl h1 z9 => ?_; rw [h] at h1; cases h1
theorem Rel.offSize (R : Rel w X φ st s₀ s) : Off X φ s.heap.objs.size := R.offNew (Heap.get?_none_of_le (Nat.le_refl _))
theorem Rel.garb1 (R : Rel w X φ st s₀ s) {b : Addr} (ho : Off X φ b) {h' : Heap} {tk : Nat} (k : Heap.ExtBut b s.heap h') (ht : 1 <= tk) : Rel w X φ st s₀ { s with heap := h', toks := tk } :=
  R.garb (wr := [b]) (fun c hc => by cases List.mem_singleton.mp hc; exact ⟨ho.phi, ho.lls, ho.pr⟩) (fun c o hc e => k c o (fun q => hc (by simp [q])) e) ht

theorem min_loop {B : Around} (hu : B.in1.units + 64 < cLine) (hB1 : B.in1.handled = none) {I S l : Addr} {n : Nat} {xs : List AV} (hx : st.hp[n]? = some (.list xs)) (hn : φ[n]? = some l) (hI : Off X φ I) (hSo : Off X φ S) (hSI : S ≠ I) {v : AV} {R : Result -> Shared -> Prop}
    (hR : ∀ v' s', VC φ v v' -> Rel w X φ st s₀ s' -> R (.ok (.ret v')) s') :
    ∀ (k j : Nat) (s : Shared) (vb : Value) (c : Nat) (b : AV), xs.length - j = k -> j <= xs.length -> MinT st.hp b (xs.drop j) v -> VC φ b vb ->
    Rel w X φ st s₀ s -> s.heap.IsListIter I l j ->
    s.heap.get? S = some { cls := .type "list", dict := none, data := .seq #[vb, vb] c, slots := #[] } ->
    codeAny (M w) B (.builtin "min.loop" ⟨[.ref I, .none, .ref S], []⟩) R s := by
  have hname : (toString "min" ++ toString ".loop" : String) = "min.loop" := by decide
  intro k
  induction k with
  | zero =>
    intro j s vb c b hk hj hm hb RR hit hS
    have hin : j = xs.length := by lia
    rw [hin, List.drop_length] at hm
    cases hm
    refine xEEA (RR.list hx hn) fun vs ne hl hvs => ?_
    refine codeAny_builtin F.entry_min_loop ?_
    refine rwE (Around.under_plainId F.plain_min_loop _) ?_
    refine (?_ : wpAny _ B.in1 (seqItems? (.ref S) >>= _) _ _ s)
    refine wpAny_bind (wpAny_seqItems hS rfl ?_)
    refine (?_ : wpAny _ B.in1 (tryCatch (pyNext (.ref I)) _ >>= _) _ _ s)
    refine wpAny_bind (wpAny_tryCatch (wpAny_pyNext_list_end hB1 hit (isList_of hl) (by simp [hin, hvs.length]) fun h' hk' => ?_))
    have hS' := hk' S _ hSI hS
    refine (?_ : wpAny _ B.in1 (updateSeq S (fun z9 => #[]) >>= _) _ _ _)
    refine wpAny_bind ?_
    refine wpAny_updateSeq hS' rfl (wpAny_bind (wpAny_letGo (wpAny_pure ?_)))
    exact hR _ _ hb ((RR.garb1 hI hk' RR.tok).garb1 hSo (Heap.SameBut.update _ _ _).extBut RR.tok)
  | succ k ih =>
    intro j s vb c b hk hj hm hb RR hit hS
    have hlt : j < xs.length := by lia
    refine xEEA (RR.list hx hn) fun vs ne hl hvs => ?_
    rw [List.drop_eq_getElem_cons hlt] at hm
    refine xEA (hvs.get (List.getElem?_eq_getElem hlt)) fun u hu1 hu2 => ?_
    refine codeAny_builtin F.entry_min_loop ?_
    refine rwE (Around.under_plainId F.plain_min_loop _) ?_
    refine (?_ : wpAny _ B.in1 (seqItems? (.ref S) >>= _) _ _ s)
    refine wpAny_bind (wpAny_seqItems hS rfl ?_)
    refine (?_ : wpAny _ B.in1 (tryCatch (pyNext (.ref I)) _ >>= _) _ _ s)
    refine wpAny_bind (wpAny_tryCatch (wpAny_pyNext_list_item hit (isList_of hl) (x := u) (by simpa using hu1) fun h' hit' hk' => ?_))
    have hS' := hk'.extBut S _ hSI hS
    have R1 := RR.garb1 hI hk'.extBut RR.tok
    refine (?_ : wpAny _ B.in1 (tryCatch (holding [u, u] (richCompare .Lt u vb >>= _)) _ >>= _) _ _ _)
    have hm : ∃ c', TLT st.hp xs[j] b c' /\ MinT st.hp (if c' = true then xs[j] else b) (xs.drop (j + 1)) v := by
      cases hm with
      | lt h1 h2 => exact ⟨true, h1, h2⟩
      | ge h1 h2 => exact ⟨false, h1, h2⟩
    refine xEA hm fun c' hc' hm => ?_
    refine wpAny_bind (wpAny_tryCatch (wpAny_holding (wpAny_bind ?_)))
    refine tupLt_sound R1 (by exact hu) hu2 hb hc' ?_
    refine wpAny_bind (wpAny_holding (wpAny_truthy_bool ?_))
    refine wpAny_bind (wpAny_letGo (wpAny_pure ?_))
    cases c' with
    | true =>
      simp only [if_true]
      refine wpAny_bind ?_
      refine wpAny_updateSeq hS' rfl (wpAny_bind (wpAny_letGo ?_))
      refine rwE hname ?_
      refine wpAny_pure ⟨plainId_quiet F.plain_min_loop _, ih (j + 1) _ u _ _ (by omega) hlt hm hu2 (R1.garb1 hSo (Heap.SameBut.update _ _ _).extBut R1.tok) ?_ (Heap.get?_update_self _ hS' rfl)⟩
      exact hit'.at fun o e => (Heap.get?_update_other _ _ (fun h : S = I => hSI h)).trans e
    | false =>
      simp only [Bool.false_eq_true, if_false]
      refine wpAny_bind (wpAny_letGo ?_)
      refine rwE hname ?_
      exact wpAny_pure ⟨plainId_quiet F.plain_min_loop _, ih (j + 1) _ vb c _ (by lia) hlt hm hb R1 hit' hS'⟩

theorem min_sound (hu : X.A.in1.units + 64 < cLine) (hB1 : X.A.handled = none) (R : Rel w X φ st s₀ s) {n : Nat} {x : AV} {xs : List AV} {a : Addr} {v : AV} (hx : st.hp[n]? = some (.list (x :: xs))) (ha : φ[n]? = some a) (hm : MinT st.hp x xs v) :
    wpAny (M w) X.A (call (.builtin "min") [.ref a]) (Post w X φ s₀ v st) E s := by
  have hname : (toString "min" ++ toString ".loop" : String) = "min.loop" := by decide
  refine xEEA (R.list hx ha) fun vs ne hl hvs => ?_
  cases hvs with | @cons _ u _ us hv hvs =>
  refine call_function_tree F.kind_min F.plain_min F.entry_min (F.args_min1 _) ?_
  refine (?_ : wpAny _ X.A.in1 (Builtin.Builtins.bindParams "min" ["key", "default"] 0 ⟨[], []⟩ >>= _) _ _ s)
  refine wpAny_bind (wpAny_of_eq (show Builtin.Builtins.bindParams "min" ["key", "default"] 0 ⟨[], []⟩ = pure [none, none] from rfl) ?_)
  refine wpAny_bind (wpAny_pure ?_)
  refine wpAny_bind (wpAny_pyIter_list (isList_of hl) ?_)
  refine wpAny_bind (wpAny_newObj_type ?_)
  have R1 := R.ext (h' := s.heap.push { cls := .type "list_iterator", data := .fields #[.ref a, .int 0 0] }) (fun z9 z9 e => Heap.get?_push_of_some _ e) R.tok
  have oI := R.offSize
  have oS := R1.offSize
  have R2 := R1.ext (h' := (s.heap.push { cls := .type "list_iterator", data := .fields #[.ref a, .int 0 0] }).push { cls := .type "list", data := .seq #[] }) (fun z9 z9 e => Heap.get?_push_of_some _ e) R1.tok
  refine rwE hname ?_
  refine wpAny_pure ⟨plainId_quiet F.plain_min_loop _, ?_⟩
  refine codeAny_builtin F.entry_min_loop ?_
  refine rwE (Around.under_plainId F.plain_min_loop _) ?_
  refine (?_ : wpAny _ _ (seqItems? (.ref _) >>= _) _ _ _)
  refine wpAny_bind (wpAny_seqItems (Heap.get?_push_size _ rfl) rfl ?_)
  refine (?_ : wpAny _ _ (tryCatch (pyNext (.ref _)) _ >>= _) _ _ _)
  have hlt : a < s.heap.objs.size := Heap.lt_size hl
  have hsz : (s.heap.push { cls := .type "list_iterator", data := .fields #[.ref a, .int 0 0] }).objs.size = s.heap.objs.size + 1 := by simp [Heap.push]
  have hSI : (s.heap.push { cls := .type "list_iterator", data := .fields #[.ref a, .int 0 0] }).objs.size ≠ s.heap.objs.size := by lia
  refine wpAny_bind (wpAny_tryCatch (wpAny_pyNext_list_item (it := s.heap.objs.size) (l := a) (i := 0) ⟨_, Heap.get?_push_of_some _ (Heap.get?_push_size _ rfl), rfl, rfl⟩ (isList_of (Heap.get?_push_of_some _ (Heap.get?_push_of_some _ hl))) (x := u) rfl fun h' hit' hk' => ?_))
  have hS' := hk'.extBut _ _ hSI (Heap.get?_push_size _ rfl)
  have R3 := R2.garb1 oI hk'.extBut R2.tok
  refine (?_ : wpAny _ _ (updateSeq _ (fun z9 => #[u, u]) >>= _) _ _ _)
  refine wpAny_bind ?_
  refine wpAny_updateSeq hS' rfl ?_
  refine rwE hname ?_
  refine wpAny_pure ⟨plainId_quiet F.plain_min_loop _, ?_⟩
  refine min_loop (s₀ := s₀) (n := n) (l := a) (xs := x :: xs) (b := x) (j := 1) (v := v) hu hB1 hx ha oI oS hSI (fun v1 s1 h1 h2 => ?_) _ _ u rfl (by exact Nat.succ_pos _) (by simpa using hm) hv ?_ ?_ (c := ?_) ?_
  . exact Post.mk h1 h2
  . exact 1
  . exact R3.garb1 oS (Heap.SameBut.update _ _ _).extBut R3.tok
  . exact hit'.at fun o e => (Heap.get?_update_other _ _ (fun h => hSI h)).trans e
  . exact Heap.get?_update_self _ hS' rfl
end
end Mine
end
section
open PySem PySem.W PyProof.Rows PySem.Calls
namespace Mine
section
variable {w : World} {X Y : Fx} {φ ψ : List Addr} {st st' : St} {s₀ s s' : Shared} {K : Frag} {mg mb : Str -> Option Value} {E : Value -> Shared -> Prop}

theorem Rel.adopt (R : Rel w X φ st s₀ s) {a : Addr} {o : AO} {ob : Obj} (ho : Off X φ a) (hob : s.heap.get? a = some ob) (hc : OC w (φ ++ [a]) o ob) (hlo : 1 < a) :
    Rel w X (φ ++ [a]) ⟨st.hp ++ [o], st.lc⟩ s₀ s where
  keep := R.keep
  loc := let ⟨m, h1, h2⟩ := R.loc; ⟨m, h1, fun x v e => let ⟨v', h3, h4⟩ := h2 x v e; ⟨v', h3, h4.mono fun z9 z9 => get_snoc⟩⟩
  objs := fun i x e => by
    by_cases q : i < st.hp.length
    . rw [List.getElem?_append_left q] at e
      refine xEEAA (R.objs i x e) fun b ob h1 h2 h3 => ?_
      exact ⟨b, ob, get_snoc h1, h2, h3.mono fun z9 z9 => get_snoc⟩
    . rw [List.getElem?_append_right (Nat.not_lt.mp ‹_›)] at e
      have z : i - st.hp.length = 0 := by
        have := (List.getElem?_eq_some_iff.mp e).1
        simp at this; assumption
      rw [z] at e
      cases e
      refine ⟨a, ob, ?_, hob, hc⟩
      rw [show i = φ.length from by refine rwE R.len ?_; lia]
      exact get_last
  inj := by
    refine rwE (propext List.nodup_append) ?_
    refine ⟨R.inj, by simp, fun x hx y hy e => ?_⟩
    simp at hy
    exact ho.phi (by refine rwB hy (rwB e ?_); exact hx)
  len := by simp [R.len]
  off := fun b hb => by
    rcases List.mem_append.mp hb with hb | hb
    . exact R.off b hb
    . simp at hb
      subst hb
      exact ⟨ho.lls, by refine rwE hob ?_; rfl, hlo⟩
  lls := R.lls
  offp := fun i b x hb hx' hf => by
    by_cases q : i < st.hp.length
    . rw [List.getElem?_append_left q] at hx'
      rw [List.getElem?_append_left (by refine rwE R.len ?_; exact q)] at hb
      exact R.offp i b x hb hx' hf
    . rw [List.getElem?_append_right (by refine rwE R.len ?_; lia)] at hb
      have z : i - φ.length = 0 := by
        have := (List.getElem?_eq_some_iff.mp hb).1
        simp at this; assumption
      rw [z] at hb
      cases hb
      exact ho.pr
  cells := fun x c e => let ⟨b, h1, h2⟩ := R.cells x c e; ⟨b, h1, get_snoc h2⟩
  lowL := R.lowL
  tok := R.tok
  gens := R.gens
  os := R.os
  drawn := R.drawn

noncomputable def okT {α : Type} (n : Nat) : KasT α -> Bool
  | .ret _ => true
  | .ask i j k => decide (i < n) && decide (j < n) && okT n (k true) && okT n (k false)
theorem ok_six : okT 6 (kas_sort 6) = true := by decide +kernel
theorem kas_runs_as {α : Type} {n : Nat} {lt : Nat -> Nat -> Bool} {cmp : Nat -> Nat -> (Bool -> Shared -> Prop) -> Shared -> Prop} {Q : α -> Shared -> Prop} (h : ∀ i j (C : Bool -> Shared -> Prop), i < n -> j < n -> C (lt i j) s -> cmp i j C s) :
    ∀ t : KasT α, okT n t = true -> Q (kasRun lt t) s -> t.kasWp cmp Q s
  | .ret _, _, q => q
  | .ask i j k, ok, q => by
    simp only [okT, Bool.and_eq_true, decide_eq_true_eq] at ok
    refine h i j _ ok.1.1.1 ok.1.1.2 ?_
    cases hc : lt i j with
    | true => exact kas_runs_as h (k true) ok.1.2 (by simpa [kasRun, hc] using q)
    | false => exact kas_runs_as h (k false) ok.2 (by simpa [kasRun, hc] using q)

theorem rowsOf_length {h : Hp} {xs : List AV} {l : List (Str × AV)} (e : RowsOf h xs l) : l.length = xs.length := by
  induction e with
  | nil => rfl
  | cons _ _ ih => exact congrArg (· + 1) ih
theorem rowsOf_get {h : Hp} {xs : List AV} {l : List (Str × AV)} (e : RowsOf h xs l) : ∀ {i : Nat} {x : AV}, xs[i]? = some x -> ∃ n a b c, x = .obj n /\ h[n]? = some (.tup [.str a, .str b, .int c]) /\ l[i]? = some (a, x) := by
  induction e with
  | nil => intro i x hx; cases hx
  | cons hn _ ih =>
    intro i x hx
    cases i with
    | zero => cases hx; exact ⟨_, _, _, _, rfl, hn, rfl⟩
    | succ i => exact ih hx

theorem VCs.three {a b c : AV} {vs : List Value} (h : VCs φ [a, b, c] vs) : ∃ v u x, vs = [v, u, x] /\ VC φ a v /\ VC φ b u /\ VC φ c x := by
  cases h with | cons h1 h => cases h with | cons h2 h => cases h with | cons h3 h => cases h; exact ⟨_, _, _, rfl, h1, h2, h3⟩

theorem row_at (R : Rel w X φ st s₀ s) {n : Nat} {a b : Str} {c : Int} {ad : Addr} (hx : st.hp[n]? = some (.tup [.str a, .str b, .int c])) (ha : φ[n]? = some ad) : ∃ t1 t2 t3 k, s.heap.get? ad = some ⟨.type "tuple", none, .seq #[.str a t1, .str b t2, .int c t3] k, #[]⟩ := by
  refine xEEA (R.tup hx ha) fun vs k h1 h2 => ?_
  (refine xEEEAAA (h2.three) fun v u x hz3 g1 g2 g3 => ?_; subst hz3)
  cases g1; cases g2; cases g3
  exact ⟨_, _, _, k, h1⟩

theorem nodup_getD {l : List (Str × AV)} (h : (l.map (·.1)).Nodup) {i j : Nat} {p q : Str × AV} (hi : l[i]? = some p) (hj : l[j]? = some q) (e : p.1 = q.1) : i = j := by
  have h1 : (l.map (·.1))[i]? = some p.1 := by simp [hi]
  have h2 : (l.map (·.1))[j]? = some p.1 := by simp [hj, e]
  obtain ⟨g1, g2⟩ := List.getElem?_eq_some_iff.mp h1
  obtain ⟨g3, g4⟩ := List.getElem?_eq_some_iff.mp h2
  have p := List.pairwise_iff_getElem.mp h
  rcases Nat.lt_trichotomy i j with q | q | q
  . exact absurd (g2.trans g4.symm) (p i j g1 g3 q)
  . exact q
  . exact absurd (g4.trans g2.symm) (p j i g3 g1 q)

theorem row_ask (R : Rel w X φ st s₀ s) {A : Around} {xs : List AV} {l : List (Str × AV)} {vs : List Value} (hr : RowsOf st.hp xs l) (hn : (l.map (·.1)).Nodup) (hv : VCs φ xs vs) {i j : Nat} (hi : i < xs.length) (hj : j < xs.length) {C : Bool -> Shared -> Prop}
    (h : C (strLt (l.getD i ("", .none)).1 (l.getD j ("", .none)).1) s) : kas_ask PySem.Challenge.pw_om0120_01 w A (tuples' true) vs i j C s := by
  refine xEEEEAA (rowsOf_get hr (List.getElem?_eq_getElem hi)) fun n a b c e1 e2 e3 => ?_
  refine xEEEEAA (rowsOf_get hr (List.getElem?_eq_getElem hj)) fun n' a' b' c' e1' e2' e3' => ?_
  refine xEA (hv.get (List.getElem?_eq_getElem hi)) fun v f1 f2 => ?_
  refine xEA (hv.get (List.getElem?_eq_getElem hj)) fun v' f1' f2' => ?_
  rw [e1] at f2 e3; rw [e1'] at f2' e3'
  have gi : vs.getD i Value.none = v := by refine rwE (List.getD_eq_getElem?_getD) (rwE f1 ?_); rfl
  have gj : vs.getD j Value.none = v' := by refine rwE (List.getD_eq_getElem?_getD) (rwE f1' ?_); rfl
  have li : l.getD i ("", .none) = (a, .obj n) := by refine rwE (List.getD_eq_getElem?_getD) (rwE e3 ?_); rfl
  have lj : l.getD j ("", .none) = (a', .obj n') := by refine rwE (List.getD_eq_getElem?_getD) (rwE e3' ?_); rfl
  rw [li, lj] at h
  unfold kas_ask
  refine rwE gi (rwE gj ?_)
  cases f2 with | obj f2 =>
  cases f2' with | obj f2' =>
  refine xEEEE (row_at R e2 f2) fun t1 t2 t3 k g1 => ?_
  refine xEEEE (row_at R e2' f2') fun u1 u2 u3 k' g1' => ?_
  refine kat_lt g1 rfl g1' rfl ?_
  refine kat_cons (wpAny_eqBool_str ?_)
  by_cases q : a = a'
  . have : i = j := nodup_getD hn e3 e3' q
    subst this
    rw [e3] at e3'; cases e3'
    rw [e2] at e2'; cases e2'
    refine rwE (decide_eq_true q) ?_
    refine kat_yes (kat_cons (wpAny_eqBool_str ?_))
    refine rwE (decide_eq_true rfl) ?_
    refine kat_yes (kat_cons (wpAny_eqBool_int ?_))
    refine rwE (beq_self_eq_true ..) ?_
    refine kat_yes (kat_nil ?_)
    have : strLt a a = false := by unfold strLt; simp
    simp only [this] at h
    exact h
  . refine rwE (decide_eq_false q) ?_
    refine kat_no ?_
    exact oneLt_str h

theorem rows_tups (R : Rel w X φ st s₀ s) {xs : List AV} {l : List (Str × AV)} (e : RowsOf st.hp xs l) : ∀ {vs : List Value}, VCs φ xs vs -> ∃ fs, KatTups s.heap vs fs /\ fs.length = xs.length /\ ∀ v ∈ fs, ∃ a t, v = .str a t := by
  induction e with
  | nil => intro vs h; cases h; exact ⟨[], KatTups.nil, rfl, fun z9 h => nomatch h⟩
  | cons hn _ ih =>
    intro vs h
    cases h with | cons hv h =>
    refine VC.objE hv fun ad pa => xEAA (ih h) fun fs g1 g2 g3 => xEEEE (row_at R hn pa) fun t1 t2 t3 k q => ?_
    refine ⟨_ :: fs, KatTups.cons q rfl rfl (f := .str _ t1) rfl g1, congrArg (· + 1) g2, fun v hv => ?_⟩
    cases hv with
    | head => exact ⟨_, _, rfl⟩
    | tail _ hv => exact g3 v hv

theorem VCs.getD {xs : List AV} {vs : List Value} (h : VCs φ xs vs) (i : Nat) : VC φ (xs.getD i .none) (vs.getD i Value.none) := by
  refine rwE (List.getD_eq_getElem?_getD) (rwE (List.getD_eq_getElem?_getD) ?_)
  cases q : xs[i]? with
  | none =>
    have : vs[i]? = none := by rw [List.getElem?_eq_none_iff] at q ⊢; refine rwE h.length ?_; exact q
    refine rwE this ?_; exact .none
  | some x => refine xEA (h.get q) fun v h1 h2 => ?_; refine rwE h1 ?_; exact h2
theorem VCs.ofMap {xs : List AV} {vs : List Value} (h : VCs φ xs vs) : ∀ p : List Nat, VCs φ (p.map fun i => xs.getD i .none) (p.map fun i => vs.getD i Value.none)
  | [] => .nil
  | i :: p => .cons (h.getD i) (VCs.ofMap h p)
end
end Mine
end
section
open PySem PySem.W PyProof.Rows PySem.Calls
namespace Mine
section
variable {w : World} {X Y : Fx} {φ ψ : List Addr} {st st' : St} {s₀ s s' : Shared} {K : Frag} {mg mb : Str -> Option Value} {E : Value -> Shared -> Prop}

theorem rows_getD {h : Hp} {xs : List AV} {l : List (Str × AV)} (e : RowsOf h xs l) (i : Nat) : (l.getD i ("", .none)).2 = xs.getD i .none := by
  refine rwE (List.getD_eq_getElem?_getD) (rwE (List.getD_eq_getElem?_getD) ?_)
  cases q : xs[i]? with
  | none =>
    have : l[i]? = none := by rw [List.getElem?_eq_none_iff] at q ⊢; refine rwE (rowsOf_length e) ?_; exact q
    refine rwE this ?_; rfl
  | some x => refine xEEEEAA (rowsOf_get e q) fun n a b c e1 e2 e3 => ?_; refine rwE e3 ?_; rfl

theorem sorted_sound (prL : X.pr.get? X.env.locals = none) (R : Rel w X φ st s₀ s) {n : Nat} {xs : List AV} {a : Addr} {l : List (Str × AV)} (hx : st.hp[n]? = some (.list xs)) (ha : φ[n]? = some a) (hr : RowsOf st.hp xs l) (h6 : l.length = 6) (hn : (l.map (·.1)).Nodup) :
    wpAny (M w) X.A (call (.builtin "sorted") [.ref a]) (Post w X φ s₀ (.obj st.hp.length) ⟨st.hp ++ [.list (sortRows l)], st.lc⟩) E s := by
  refine xEEA (R.list hx ha) fun vs k h1 h2 => ?_
  have hlx : xs.length = 6 := by refine rwB (rowsOf_length hr) ?_; exact h6
  have hlen : vs.length = 6 := by exact rwE h2.length (rwE hlx rfl)
  refine xEA (R.loc) fun m hm z9 => ?_
  refine Calls.call_function_entry kind_sorted plain_sorted entry_sorted (args_sorted1 _) ?_
  unfold Builtin.«sorted»
  refine wpAny_bind (m := checkCount "sorted" 1 1 _) (wpAny_pure ?_)
  refine wpAny_bind (collect_list (isList_of h1) ?_ (by refine rwE sizeLine_eq ?_; lia))
  refine wpAny_bind (wpAny_newList ?_ (by refine rwE sizeLine_eq ?_; lia))
  generalize hG : (s.heap.push (seqObj "list" #[] 0)).update s.heap.objs.size (Obj.mapSeq (· ++ vs.toArray)) = H1
  have hsz : H1.objs.size = s.heap.objs.size + 1 := by exact rwB (hG ..) (rwE (Heap.size_update ..) (rwE (size_push' ..) rfl))
  have keep1 : ∀ b o, s.heap.get? b = some o -> H1.get? b = some o := fun b o q => by
    have hlt : b < s.heap.objs.size := Heap.lt_size q
    refine rwB hG (rwE (Heap.get?_update_ne _ _ _ _ (Nat.ne_of_lt hlt)) (rwE (Heap.get?_push_ne _ _ _ (Nat.ne_of_lt hlt)) ?_))
    exact q
  have keep : ∀ b o, s.heap.get? b = some o -> (H1.push (seqObj "list" vs.toArray 0)).get? b = some o := fun b o q => Heap.get?_push_of_some _ (keep1 b o q)
  have hD : s.heap.get? H1.objs.size = none := Heap.get?_none_of_le (by lia)
  have oD := R.offNew hD
  have hDL : H1.objs.size ≠ X.env.locals := fun q => by have h : X.env.locals < s.heap.objs.size := hm.lt; rw [← q, hsz] at h; exact Nat.lt_irrefl _ (Nat.lt_of_succ_lt h)
  have hD1 : 1 < H1.objs.size := by have := R.size; lia
  refine wpAny_bind (wpAny_holding (wpAny_call_entry slot_list_sort ⟨_, Heap.get?_push_size _ rfl, rfl⟩ entry_list_sort ?body (args_list_sort _)))
  have F0 := (fr_cut hm).kept keep
  have N0 := (news_rest s.heap X.env.locals).grown keep
  have hD0 : (cutH s.heap X.env.locals).get? H1.objs.size = none := cutH_none _ _ _
  have hDn : ∀ p ∈ restH s.heap X.env.locals, p.1 ≠ H1.objs.size := fun p hp q => by
    obtain ⟨b, o⟩ := p
    have := (mem_restH.mp hp).2
    rw [show b = H1.objs.size from q, hD] at this; cases this
  refine kat_list_sort (s := { s with heap := H1.push (seqObj "list" vs.toArray 0) }) F0 N0 (Heap.get?_push_size _ rfl) hDL hD0 hDn (by lia) (by lia) fun e1 h' F' N' => ?_
  have K' := rest_keeps N' (fun p hp => .tail _ hp)
  have R' := R.ext' prL hm F'.ns K' R.tok
  refine xEAA (rows_tups R' hr h2) fun fs t1 t2 t3 => ?_
  refine kat_kind (T := .type "str") t1 (by lia) (fun v hv => ?_) rfl ?_
  . (refine xEE (t3 v hv) fun a t hz2 => ?_; subst hz2)
    exact Looks.now
  refine rwE (show (Value.type "str" != Value.type "tuple") = true from by decide) (rwE hlen ?_)
  refine kas_runs_as (n := 6) (lt := fun i j => strLt (l.getD i ("", .none)).1 (l.getD j ("", .none)).1) (fun i j C hi hj hC => row_ask R' hr hn h2 (hlx ▸ hi) (hlx ▸ hj) hC) _ ok_six ?_
  refine KasFin.intro F' N' (.head hDn) fun h'' c F'' N'' => ?_
  have K'' := rest_keeps N'' (fun p hp => .tail _ hp)
  have R'' := R.ext' prL hm F''.ns K'' R.tok
  refine ⟨_, rfl, wpAny_pure ⟨_, rfl, _, fun z9 z9 => get_snoc, ?_, R''.adopt oD (N'' _ (.head _)).1 ⟨_, c, rfl, ?_⟩ hD1⟩⟩
  . exact .obj (by refine rwB R.len ?_; exact get_last)
  . have e : sortRows l = (kasRun (fun i j => strLt (l.getD i ("", .none)).1 (l.getD j ("", .none)).1) (kas_sort 6)).toList.map fun i => xs.getD i .none := by
      unfold sortRows
      exact List.map_congr_left fun i z9 => rows_getD hr i
    refine rwE e ?_
    exact (h2.ofMap _).mono fun z9 z9 => get_snoc
end
end Mine
end
section
open PySem PySem.W PyProof.Rows PySem.Calls
namespace Mine
section
variable {w : World} {X Y : Fx} {φ ψ : List Addr} {st st' : St} {s₀ s s' : Shared} {K : Frag} {mg mb : Str -> Option Value} {E : Value -> Shared -> Prop}

theorem VCs.one {a : AV} {vs : List Value} (h : VCs φ [a] vs) : ∃ v, vs = [v] /\ VC φ a v := by
  cases h with | cons h1 h => cases h; exact ⟨_, rfl, h1⟩

end
noncomputable def CAL (f : Value) (args : List AV) (h : Hp) (v : AV) (h' : Hp) : Prop := ∀ ⦃w : World⦄ ⦃K : Frag⦄ ⦃mg mb : Str -> Option Value⦄ ⦃X : Fx⦄ ⦃φ : List Addr⦄ ⦃lc : Loc⦄ ⦃s₀ s : Shared⦄ ⦃E : Value -> Shared -> Prop⦄ ⦃as : List Value⦄, Good w K mg mb X -> Rel w X φ ⟨h, lc⟩ s₀ s -> VCs φ args as -> wpAny (M w) X.A (call f as) (Post w X φ s₀ v ⟨h', lc⟩) E s
section
variable {h : Hp}
theorem CAL.obj {f : Value} {n : Nat} {v : AV} {h' : Hp} (k : ∀ {w : World} {K : Frag} {mg mb : Str -> Option Value} {X : Fx} {φ : List Addr} {lc : Loc} {s₀ s : Shared} {E : Value -> Shared -> Prop} {a : Addr}, Good w K mg mb X -> Rel w X φ ⟨h, lc⟩ s₀ s -> φ[n]? = some a -> wpAny (M w) X.A (call f [.ref a]) (Post w X φ s₀ v ⟨h', lc⟩) E s) : CAL f [.obj n] h v h' := by
  intro w K mg mb X φ lc s₀ s E as G R ha
  (refine xEA (ha.one) fun a hz1 p => ?_; subst hz1)
  refine VC.objE p fun b pb => ?_
  exact k G R pb
theorem CAL.lenStr {x : Str} (hz : x.length <= 16777216) : CAL (.builtin "len") [.str x] h (.int x.length) h := by
  intro w K mg mb X φ lc s₀ s E as G R ha
  (refine xEA (ha.one) fun a hz1 p => ?_; subst hz1)
  refine VC.strE p fun t => ?_
  exact P.len_str (by lia) (Post.mk (.int _ _) (R.toks (Nat.le_add_left ..)))
theorem CAL.lenList {n : Nat} {xs : List AV} (hn : h[n]? = some (.list xs)) (hz : xs.length <= 100000) : CAL (.builtin "len") [.obj n] h (.int xs.length) h := .obj fun G R p => by
  refine xEEA (R.list hn p) fun vs k h1 h2 => ?_
  refine call_len_list (isList_of h1) (by refine rwE List.size_toArray (rwE h2.length ?_); lia) ?_
  refine rwE List.size_toArray (rwE h2.length ?_)
  exact Post.mk (.int _ _) (R.toks (Nat.le_add_left ..))
theorem CAL.lenTup {n : Nat} {xs : List AV} (hn : h[n]? = some (.tup xs)) (hz : xs.length <= 100000) : CAL (.builtin "len") [.obj n] h (.int xs.length) h := .obj fun G R p => by
  refine xEEA (R.tup hn p) fun vs k h1 h2 => ?_
  have hz : vs.toArray.size = xs.length := by exact rwE List.size_toArray (rwE h2.length rfl)
  refine PyProof.Rows.len_tuple (isTup_of h1) (by refine rwE hz ?_; lia) ?_
  refine rwE hz ?_
  exact Post.mk (.int _ _) (R.toks (Nat.le_add_left ..))
theorem CAL.sum {n : Nat} {xs : List AV} {l : List Int} (hn : h[n]? = some (.list xs)) (hl : intsOf xs = some l) : CAL (.builtin "sum") [.obj n] h (.int l.sum) h := .obj fun G R p => sum_sound G.hh R hn p hl
theorem CAL.max {n : Nat} {xs : List AV} {l : List Int} {m : Int} (hn : h[n]? = some (.list xs)) (hl : intsOf xs = some l) (hm : maxL l = some m) : CAL (.builtin "max") [.obj n] h (.int m) h := .obj fun G R p => max_sound G.hh R hn p hl hm
theorem CAL.min {n : Nat} {x : AV} {xs : List AV} {m : AV} (hn : h[n]? = some (.list (x :: xs))) (hm : MinT h x xs m) : CAL (.builtin "min") [.obj n] h m h := .obj fun {_ _ _ _ X _ _ _ _ _ _} G R p => min_sound (by refine (?_ : X.A.units + 1 + 64 < cLine); have := G.units; lia) G.hh R hn p hm
theorem CAL.sorted {n : Nat} {xs : List AV} {l : List (Str × AV)} (hn : h[n]? = some (.list xs)) (hr : RowsOf h xs l) (h6 : l.length = 6) (hd : (l.map (·.1)).Nodup) : CAL (.builtin "sorted") [.obj n] h (.obj h.length) (h ++ [.list (sortRows l)]) := .obj fun G R p => sorted_sound G.prL R hn p hr h6 hd
theorem CAL.iter {n : Nat} {xs : List AV} (hn : h[n]? = some (.list xs)) : CAL (.builtin "iter") [.obj n] h (.obj h.length) (h ++ [.iter n 0]) := .obj fun G R p => iter_sound R hn p
theorem CAL.intInt {i : Int} : CAL (.type "int") [.int i] h (.int i) h := by
  intro w K mg mb X φ lc s₀ s E as G R ha
  (refine xEA (ha.one) fun a hz1 p => ?_; subst hz1)
  refine VC.intE p fun t => ?_
  exact call_int_int (Post.mk (.int _ _) R)
set_option tactic.hygienic true in
theorem CAL.intStr {x : Str} {i : Int} (hi : intText x = some i) : CAL (.type "int") [.str x] h (.int i) h := by
  have key : PySem.intText? x = some i /\ x.length <= 640 := by
    unfold intText at hi
    split at hi
    . rename_i q; subst q; cases hi; exact ⟨by kernel_rfl, by decide⟩
    split at hi
    . rename_i q; subst q; cases hi; exact ⟨by kernel_rfl, by decide⟩
    split at hi
    . rename_i q; subst q; cases hi; exact ⟨by kernel_rfl, by decide⟩
    split at hi
    . rename_i q; subst q; cases hi; exact ⟨by kernel_rfl, by decide⟩
    . cases hi
  intro w K mg mb X φ lc s₀ s E as G R ha
  (refine xEA (ha.one) fun a hz1 p => ?_; subst hz1)
  refine VC.strE p fun t => ?_
  exact KIN.call_text key.1 key.2 (Post.mk (.int _ _) (R.toks (Nat.le_add_left ..)))
set_option tactic.hygienic true in
theorem CAL.strInt {x : Str} {i : Int} (hi : textInt i = some x) : CAL (.type "str") [.int i] h (.str x) h := by
  have key : (toString i : Str) = x /\ i.natAbs.log2 < 1920 := by
    unfold textInt at hi
    split at hi
    . rename_i q; subst q; cases hi; exact ⟨by kernel_rfl, by decide⟩
    split at hi
    . rename_i q; subst q; cases hi; exact ⟨by kernel_rfl, by decide⟩
    split at hi
    . rename_i q; subst q; cases hi; exact ⟨by kernel_rfl, by decide⟩
    split at hi
    . rename_i q; subst q; cases hi; exact ⟨by kernel_rfl, by decide⟩
    . cases hi
  intro w K mg mb X φ lc s₀ s E as G R ha
  (refine xEA (ha.one) fun a hz1 p => ?_; subst hz1)
  refine VC.intE p fun t => ?_
  refine P.str_of_int key.2 ?_
  refine rwE key.1 ?_
  exact Post.mk (.str _ _) (R.toks (Nat.le_add_left ..))
theorem CAL.bool {n : Nat} {xs : List AV} (hn : h[n]? = some (.list xs)) (hz : xs.length <= 1000) : CAL (.type "bool") [.obj n] h (.bool (decide (xs.length ≠ 0))) h := .obj fun G R p => by
  refine xEEA (R.list hn p) fun vs k h1 h2 => ?_
  refine call_bool_1 (meets_bool_new_list _ _ (by refine rwE List.size_toArray (rwE h2.length ?_); lia)) ⟨isList_of h1, ?_⟩
  have : (!vs.toArray.isEmpty) = decide (xs.length ≠ 0) := by
    refine rwB h2.length ?_
    cases vs <;> rfl
  refine rwE this ?_
  exact ⟨rfl, Post.mk (.bool _) (R.toks (Nat.le_add_left ..))⟩
theorem CAL.tuple {n : Nat} {xs : List AV} (hn : h[n]? = some (.list xs)) (hz : xs.length <= 1000) : CAL (.type "tuple") [.obj n] h (.obj h.length) (h ++ [.tup xs]) := .obj fun G R p => by
  refine xEEA (R.list hn p) fun vs k h1 h2 => ?_
  refine call_tuple_list (isList_of h1) (fun h' hk => ?_) (by refine rwE List.size_toArray (rwE h2.length (rwE sizeLine_eq ?_)); exact Nat.le_trans ‹_› (by decide))
  have R1 := R.ext hk R.tok
  refine ⟨_, fun z9 z9 => get_snoc, ?_, R1.push rfl ⟨vs, 0, rfl, h2.mono fun z9 z9 => get_snoc⟩ R.tok⟩
  exact .obj (by refine rwB R.len ?_; exact get_last)
theorem CAL.set : CAL (.type "set") [] h (.obj h.length) (h ++ [.set []]) := by
  intro w K mg mb X φ lc s₀ s E as G R ha
  cases ha
  refine call_set_0 fun led => ?_
  refine ⟨_, fun z9 z9 => get_snoc, ?_, R.push rfl ?_ R.tok⟩
  . exact .obj (by refine rwB R.len ?_; exact get_last)
  . exact ⟨#[], 0, _, ⟨rfl, rfl, rfl⟩, rfl, fun z9 h => (nomatch h), fun k => by simp, by decide, rfl, rfl⟩
end
end Mine
end
section
open PySem PySem.W PyProof.Rows PySem.Calls
namespace Mine
section
variable {w : World} {X Y : Fx} {φ ψ : List Addr} {st st' : St} {s₀ s s' : Shared} {K : Frag} {mg mb : Str -> Option Value} {E : Value -> Shared -> Prop}

structure BiAt (s : Shared) (v : Value) (m : Str) (T id : String) : Prop where
  pa : PlainAttrs T
  slot : Slot T m id
  ty : typeOf (.builtin id) = pure (.type "method_descriptor")
  is : s.TypeIs v T
  nod : ∀ a, v = .ref a -> ∃ ob, s.heap.get? a = some ob /\ ob.dict = none

theorem VCs.strs {l : List (Str × Tok)} : VCs φ ((l.map (·.1)).map .str) (strValues l) := by
  induction l with
  | nil => exact .nil
  | cons p r ih => exact .cons (.str _ _) ih

theorem split_sound (prL : X.pr.get? X.env.locals = none) (R : Rel w X φ st s₀ s) {x y : Str} {t u : Tok} (hy : y.length = 1) (hx : x.length <= 100) :
    wpAny (M w) X.A (call (.builtin "str.split") [.str x t, .str y u]) (Post w X φ s₀ (.obj st.hp.length) ⟨st.hp ++ [.list ((Txt.split x y).map .str)], st.lc⟩) E s := by
  refine xEA (R.loc) fun m hm z9 => ?_
  refine wpAny_tok (splitN1 (fr_cut hm) (news_rest s.heap X.env.locals) (by refine rwE hy ?_; rfl) (fun l h' k hl F' N' ht => ?_) (by refine rwE sizeLine_eq ?_; lia))
  have K' := rest_keeps N' (fun p hp => .tail _ hp)
  have R' := R.ext' prL hm F'.ns K' (Nat.le_trans R.tok ht)
  refine ⟨_, fun z9 z9 => get_snoc, ?_, R'.adopt R.offSize (N' _ (.head _)).1 ⟨_, 0, rfl, ?_⟩ R.size⟩
  . exact .obj (by refine rwB R.len ?_; exact get_last)
  . refine rwB hl ?_; exact VCs.strs

theorem OC.ofSeq {xs : List AV} {its : Array Value} {vs : List Value} {n : Nat} (e : its = vs.toArray) (h : VCs φ xs vs) : OC w φ (.list xs) (seqObj "list" its n) := ⟨vs, n, by exact rwE e rfl, h⟩
theorem append_sound (R : Rel w X φ st s₀ s) {n : Nat} {xs : List AV} {a : Addr} {x : AV} {x' : Value} (hx : st.hp[n]? = some (.list xs)) (ha : φ[n]? = some a) (hv : VC φ x x') (hz : xs.length <= 1000) {A : Around} {Q : Value -> Shared -> Prop}
    (h : ∀ s', Rel w X φ ⟨st.hp.set n (.list (xs ++ [x])), st.lc⟩ s₀ s' -> Q .none s') : wpAny (M w) A (call (.builtin "list.append") [.ref a, x']) Q E s := by
  refine xEEA (R.list hx ha) fun vs k h1 h2 => ?_
  refine call_meets F.slot_list_append (isList_of h1).typeIs F.entry_list_append (F.args_list_append_2 _ _) (AutoListH.list_append_list_val_0 a vs.toArray k x' (by refine rwE List.size_toArray (rwE h2.length (rwE sizeLine_eq ?_)); exact Nat.le_trans ‹_› (by decide))) ⟨h1, ?_⟩
  refine h _ (R.upd (o' := .list (xs ++ [x])) hx rfl ha (Heap.SameBut.update _ _ _).extBut (get?_update_seq h1 _) (OC.ofSeq (by simp) (h2.append (.cons hv .nil))) R.tok)

end
noncomputable def BI (o : AV) (m : Str) (h : Hp) (T id : String) : Prop := ∀ ⦃w : World⦄ ⦃X : Fx⦄ ⦃φ : List Addr⦄ ⦃lc : Loc⦄ ⦃s₀ s : Shared⦄ ⦃v : Value⦄, Rel w X φ ⟨h, lc⟩ s₀ s -> VC φ o v -> BiAt s v m T id
noncomputable def MB (o : AV) (id : String) (args : List AV) (h : Hp) (r : AV) (h' : Hp) : Prop := ∀ ⦃w : World⦄ ⦃K : Frag⦄ ⦃mg mb : Str -> Option Value⦄ ⦃X : Fx⦄ ⦃φ : List Addr⦄ ⦃lc : Loc⦄ ⦃s₀ s : Shared⦄ ⦃E : Value -> Shared -> Prop⦄ ⦃v : Value⦄ ⦃as : List Value⦄, Good w K mg mb X -> Rel w X φ ⟨h, lc⟩ s₀ s -> VC φ o v -> VCs φ args as -> wpAny (M w) X.A (call (.builtin id) (v :: as)) (Post w X φ s₀ r ⟨h', lc⟩) E s
section
variable {h : Hp} {n : Nat} {m : Str} {id : String} {x y : Str}
theorem BI.str (sl : Slot "str" m id) (ty : typeOf (.builtin id) = pure (.type "method_descriptor")) : BI (.str x) m h "str" id := by
  intro w X φ lc s₀ s v R hv
  exact VC.strE hv fun z9 => ⟨F.plainAttrs_str, sl, ty, typeIs_str _ _ _, fun z9 e => nomatch e⟩
theorem BI.list {xs : List AV} (hn : h[n]? = some (.list xs)) (sl : Slot "list" m id) (ty : typeOf (.builtin id) = pure (.type "method_descriptor")) : BI (.obj n) m h "list" id := by
  intro w X φ lc s₀ s v R hv
  exact VC.objE hv fun z9 pa => xEEA (R.list hn pa) fun z9 z9 h1 z9 => ⟨F.plainAttrs_list, sl, ty, (isList_of h1).typeIs, fun z9 e => by cases e; exact ⟨_, h1, rfl⟩⟩
theorem BI.dict {es : List (Str × AV)} (hn : h[n]? = some (.dict es)) (sl : Slot "dict" m id) (ty : typeOf (.builtin id) = pure (.type "method_descriptor")) : BI (.obj n) m h "dict" id := by
  intro w X φ lc s₀ s v R hv
  exact VC.objE hv fun z9 pa => xEA (R.dict hn pa) fun z9 h1 z9 => xEA (Heap.dictOf_iff.mp h1) fun ob g1 g2 => ⟨F.plainAttrs_dict, sl, ty, h1.typeIs, fun z9 e => by cases e; exact ⟨ob, g1, g2.choose_spec.choose_spec.1.2.1⟩⟩
theorem BI.set {xs : List Str} (hn : h[n]? = some (.set xs)) (sl : Slot "set" m id) (ty : typeOf (.builtin id) = pure (.type "method_descriptor")) : BI (.obj n) m h "set" id := by
  intro w X φ lc s₀ s v R hv
  exact VC.objE hv fun z9 pa => ⟨F.plainAttrs_set, sl, ty, (R.setOf hn pa).typeIs, (R.setOf hn pa).noDict⟩
theorem MB.s1 {r : AV} {h' : Hp} (k : ∀ {w : World} {K : Frag} {mg mb : Str -> Option Value} {X : Fx} {φ : List Addr} {lc : Loc} {s₀ s : Shared} {E : Value -> Shared -> Prop} (t u : Tok), Good w K mg mb X -> Rel w X φ ⟨h, lc⟩ s₀ s -> wpAny (M w) X.A (call (.builtin id) [.str x t, .str y u]) (Post w X φ s₀ r ⟨h', lc⟩) E s) : MB (.str x) id [.str y] h r h' := by
  intro w K mg mb X φ lc s₀ s E v as G R hv ha
  (refine xEA ha.one fun a hz p => ?_; subst hz)
  exact VC.strE hv fun t => VC.strE p fun u => k t u G R
theorem MB.find : MB (.str x) "str.find" [.str y] h (.int (Txt.find x y)) h := .s1 fun z9 z9 z9 R => SC.find (Post.mk (.int _ _) (R.toks (Nat.le_add_left ..)))
theorem MB.count : MB (.str x) "str.count" [.str y] h (.int (Txt.count x y)) h := .s1 fun z9 z9 z9 R => SC.count (Post.mk (.int _ _) (R.toks (Nat.le_add_left ..)))
theorem MB.index {i : Nat} {r : List Nat} (ho : PySem.Builtin.Str.occurrences x y 0 x.length 1 = i :: r) : MB (.str x) "str.index" [.str y] h (.int i) h := .s1 fun z9 z9 z9 R => SC.index ho (Post.mk (.int _ _) (R.toks (Nat.le_add_left ..)))
theorem MB.split (hy : y.length = 1) (hx : x.length <= 100) : MB (.str x) "str.split" [.str y] h (.obj h.length) (h ++ [.list ((Txt.split x y).map .str)]) := .s1 fun z9 z9 G R => split_sound G.prL R hy hx
theorem MB.find3 {i : Int} : MB (.str x) "str.find" [.str y, .int i] h (.int (Txt.find3 x y i)) h := by
  intro w K mg mb X φ lc s₀ s E v as G R hv ha
  cases ha with | cons p ha =>
  (refine xEA ha.one fun a hz q => ?_; subst hz)
  exact VC.strE hv fun t => VC.strE p fun u => VC.intE q fun z => SC.find3 (Post.mk (.int _ _) (R.toks (Nat.le_add_left ..)))
theorem MB.append {xs : List AV} {v : AV} (hn : h[n]? = some (.list xs)) (hz : xs.length <= 1000) : MB (.obj n) "list.append" [v] h .none (h.set n (.list (xs ++ [v]))) := by
  intro w K mg mb X φ lc s₀ s E v as G R hv ha
  (refine xEA ha.one fun a hz q => ?_; subst hz)
  exact VC.objE hv fun z9 pa => append_sound R hn pa q hz fun s' R' => Post.mk .none R'
theorem MB.get {es : List (Str × AV)} (hn : h[n]? = some (.dict es)) : MB (.obj n) "dict.get" [.str x] h ((es.lookup x).getD .none) h := by
  intro w K mg mb X φ lc s₀ s E v as G R hv ha
  (refine xEA ha.one fun a hz q => ?_; subst hz)
  refine VC.objE hv fun d pa => VC.strE q fun t => xEA (R.dict hn pa) fun kvs h1 h2 => ?_
  refine call_meetsIn F.slot_dict_get h1.typeIs F.entry_dict_get (F.args_dict_get_2 _ _) (meets_dict_get (sk w) _ (k := x) (strKind_is _ w _ _) (R.notMods pa)) ⟨_, h1.mapOf, ?_⟩
  refine rwE (valueAt_lookup ..) ?_
  refine Post.mk ?_ (R.toks (Nat.le_add_left ..))
  have := h2.lookup x
  cases q1 : es.lookup x <;> cases q2 : kvs.lookup x <;> rw [q1, q2] at this
  . exact .none
  . exact this.elim
  . exact this.elim
  . exact this
theorem MB.add {xs : List Str} (hn : h[n]? = some (.set xs)) (hk : x ∉ xs) (hz : xs.length <= 5) : MB (.obj n) "set.add" [.str x] h .none (h.set n (.set (xs ++ [x]))) := by
  intro w K mg mb X φ lc s₀ s E v as G R hv ha
  (refine xEA ha.one fun a hz q => ?_; subst hz)
  refine VC.objE hv fun d pa => VC.strE q fun t => ?_
  refine call_set_add (k := x) (strKind_is _ w _ _) rfl (R.setOf hn pa) (by show xs.length + 1 < scanBound; have : scanBound = scanBound := rfl; unfold scanBound; lia) fun h' hs hS => ?_
  refine xEEEEAAAAAAA (hS) fun ob es ep tt g1 g2 g3 g4 g5 g6 g7 g8 => ?_
  refine Post.mk .none (R.upd (o' := .set (xs ++ [x])) hn rfl pa hs.extBut g1 ⟨es, ep, tt, g2, g3, g4, fun k => ?_, g6, g7, ?_⟩ (Nat.le_add_left ..))
  . refine rwB (propext (g5 k)) ?_; simp
  . refine rwE g8 ?_; simp [hk]
theorem MB.pop {xs : List AV} {r : AV} (hn : h[n]? = some (.list (xs ++ [r]))) (hz : xs.length < 1000) : MB (.obj n) "list.pop" [] h r (h.set n (.list xs)) := by
  intro w K mg mb X φ lc s₀ s E v as G R hv ha
  cases ha
  refine VC.objE hv fun d pa => xEEA (R.list hn pa) fun vs k h1 h2 => xEA (h2.get (List.getElem?_concat_length ..)) fun y' g1 g2 => ?_
  have hl : vs.length = xs.length + 1 := by refine rwE h2.length (rwE List.length_append ?_); rfl
  refine PyProof.Rows.Copied.pop_at h1 (y := y') (by refine rwE List.size_toArray (rwE hl (rwE (List.getElem?_toArray) ?_)); exact g1) (fun h' hs ho => ?_) (by refine rwE List.size_toArray (rwE hl (rwE sizeLine_eq ?_)); exact Nat.lt_of_lt_of_le ‹_› (by decide))
  have h3 := h2.dropLast
  rw [List.dropLast_concat] at h3
  exact Post.mk g2 (R.upd (o' := .list xs) hn rfl pa hs.extBut ho ⟨vs.dropLast, _, by exact rwE (List.pop_toArray ..) rfl, h3⟩ R.tok)
theorem MB.clear {xs : List AV} (hn : h[n]? = some (.list xs)) (hz : xs.length <= 1000) : MB (.obj n) "list.clear" [] h .none (h.set n (.list [])) := by
  intro w K mg mb X φ lc s₀ s E v as G R hv ha
  cases ha
  refine VC.objE hv fun d pa => xEEA (R.list hn pa) fun vs k h1 h2 => ?_
  refine call_meets F.slot_list_clear (isList_of h1).typeIs F.entry_list_clear (F.args_list_clear_1 _) (AutoSeq1.list_clear_list_0 _ vs.toArray k (by refine rwE List.size_toArray (rwE h2.length (rwE sizeLine_eq ?_)); lia)) ⟨h1, ?_⟩
  exact Post.mk .none (R.upd (o' := .list []) hn rfl pa (Heap.SameBut.update _ _ _).extBut (get?_update_seq h1 _) (OC.ofSeq rfl .nil) R.tok)
end
end Mine
end
section
open PySem PySem.W PyProof.Rows PySem.Calls
namespace Mine

structure KAttr (K : Frag) : Prop where
  get : plainGet K 188 "" = true
  dict : hasDictIn K 188 = true
  over : plainOver K 188 = true
  set : findIn K (.ref 188) "__setattr__" = some (some (.builtin "object.__setattr__"))
  own : ∀ a ∈ attrNames, findIn K (.ref 188) a = some none
  nget : plainGet K 91 "" = true
  ncls : (W.clsIn K 91).isSome = true
  nover : plainOver K 91 = true
  nset : findIn K (.ref 91) "__setattr__" = some (some (.builtin "object.__setattr__"))
  slot : ∀ a i, slotsOf.idxOf? a = some i -> ∃ p, findIn K (.ref 91) a = some (some (.ref p)) /\ specialIn K (.ref p) "__get__" = some (some (.builtin "member_descriptor.__get__")) /\ takesIn K (.ref p) = some true /\ slotIn K p 91 = some i /\ typeIn K (.ref p) = some (.type "member_descriptor")

section
variable {w : World} {X Y : Fx} {φ ψ : List Addr} {st st' : St} {s₀ s s' : Shared} {K : Frag} {mg mb : Str -> Option Value} {E : Value -> Shared -> Prop}

theorem isStr_str {x y : Str} {t : Tok} : (Value.str x t).isStr y = decide (x = y) := by
  refine (?_ : (x == y) = _)
  by_cases q : x = y <;> rfl
theorem ACs.getL {as : List (Str × AV)} {es : List DictEntry} (h : ACs φ as es) (k : Str) : (es.any (·.refKey)) = false /\ ∃ r, W.getL k es = some r /\ OptC φ (as.lookup k) r := by
  induction h with
  | nil => exact ⟨rfl, none, rfl, trivial⟩
  | @cons k' hs t a v as es hv _ ih =>
    refine xAEA (ih) fun h1 r h2 h3 => ?_
    refine ⟨by refine rwE List.any_cons (rwE h1 ?_); rfl, ?_⟩
    by_cases q : k' = k
    . subst q
      refine ⟨some v, ?_, ?_⟩
      . unfold W.getL
        exact rwE (List.find?_cons) (rwE isStr_str (rwE (decide_eq_true rfl) rfl))
      . simp [List.lookup]; exact hv
    . refine ⟨r, ?_, ?_⟩
      . unfold W.getL at h2 ⊢
        refine rwE (List.find?_cons) (rwE isStr_str (rwE (decide_eq_false q) ?_))
        simp only
        refine rwE (List.any_cons ..) (rwE (show DictEntry.refKey ⟨hs, .str k' t, v⟩ = false from rfl) (rwE (Bool.false_or ..) ?_))
        exact h2
      . simp only [List.lookup, show (k == k') = false from by simpa using fun z => q z.symm]
        exact h3
theorem ACs.putL {as : List (Str × AV)} {es : List DictEntry} (h : ACs φ as es) {k : Str} {hs : Int} {t : Tok} {a : AV} {v : Value} (hv : VC φ a v) : ACs φ (putA k a as) (W.putL k hs (.str k t) v es) := by
  induction h with
  | nil => exact .cons hv .nil
  | @cons k' hs' t' a' v' as es hv' hr ih =>
    unfold putA W.putL
    refine rwE isStr_str ?_
    by_cases q : k' = k
    . refine rwE (if_pos q) (rwE (decide_eq_true q) (rwE (if_pos rfl) ?_)); exact .cons hv hr
    . refine rwE (if_neg q) (rwE (decide_eq_false q) (rwE (if_neg (by exact Bool.false_ne_true)) ?_)); exact .cons hv' ih
theorem ACs.length {as : List (Str × AV)} {es : List DictEntry} (h : ACs φ as es) : es.length = as.length := by
  induction h with
  | nil => rfl
  | cons _ _ ih => simp [ih]
theorem putL_length (k : Str) (hs : Int) (key v : Value) : ∀ es : List DictEntry, (W.putL k hs key v es).length <= es.length + 1
  | [] => by exact Nat.succ_pos _
  | e :: r => by
    unfold W.putL
    split
    . simp
    . simp; exact putL_length k hs key v r

theorem Rel.attrs (R : Rel w X φ st s₀ s) {n : Nat} {as : List (Str × AV)} (e : st.hp[n]? = some (.attrs as)) {a : Addr} (ha : φ[n]? = some a) : ∃ es k, s.heap.get? a = some (dictOf es k) /\ ACs φ as es := by
  (refine xEEAAEEA (R.objs _ _ e) fun b ob h1 h2 es k hz6 h4 => ?_; subst hz6)
  rw [ha] at h1; cases h1
  exact ⟨es, k, h2, h4⟩
theorem Rel.inst (R : Rel w X φ st s₀ s) {n : Nat} {c d : Nat} (e : st.hp[n]? = some (.inst c d)) {a : Addr} (ha : φ[n]? = some a) : ∃ dx, s.heap.get? a = some (instObj c dx) /\ φ[d]? = some dx := by
  (refine xEEAAEA (R.objs _ _ e) fun b ob h1 h2 dx h3 hz6 => ?_; subst hz6)
  rw [ha] at h1; cases h1
  exact ⟨dx, h2, h3⟩
theorem Rel.node (R : Rel w X φ st s₀ s) {n : Nat} {c d : Nat} {sl : List (Option AV)} (e : st.hp[n]? = some (.node c sl d)) {a : Addr} (ha : φ[n]? = some a) : ∃ (dx : Addr) (vs : List (Option Value)), φ[d]? = some dx /\ s.heap.get? a = some ⟨.ref c, some dx, .plain, List.toArray vs⟩ /\ ∀ i : Nat, OptC φ (sl[i]?).join (vs[i]?).join := by
  (refine xEEAAEEAA (R.objs _ _ e) fun b ob h1 h2 dx vs h0 hz7 h4 => ?_; subst hz7)
  rw [ha] at h1; cases h1
  exact ⟨dx, vs, h0, h2, h4⟩

theorem plainV_handed {v : AV} {v' : Value} (h : VC φ v v') (e : plainV v = true) : handedIn v' = true := by
  cases h <;> first | rfl | cases e

theorem getAttr_node (KA : KAttr K) (X₀ : K.In s.heap) {x dx : Addr} {vs : List (Option Value)} {od : Obj} (hx : s.heap.get? x = some ⟨.ref 91, some dx, .plain, List.toArray vs⟩) (hd : s.heap.get? dx = some od) {name : Str} {i : Nat} (hi : slotsOf.idxOf? name = some i) {v : Value} (hv : (vs[i]?).join = some v) (hh : handedIn v = true) {A : Around} {b : Bool} {Q : Value -> Shared -> Prop}
    (h : Q v { s with toks := s.toks + 1 }) : wpAny (M w) A (getAttr (.ref x) name b) Q E s := by
  refine xEAAAA (KA.slot _ _ hi) fun p a1 a2 a3 a4 a5 => ?_
  have I : W.InstAt s.heap x ⟨.ref 91, some dx, .plain, List.toArray vs⟩ 91 (some od) := ⟨hx, rfl, rfl, hd⟩
  have g := plainGet_of (name := "") KA.nget
  refine get_bind X₀ I g.1 (findObj_data KA.ncls a1 a2 a3) g.2 (wpAny_call ?_)
  exact slot_get (s := { s with toks := s.toks + 1 }) X₀ I a4 (by simpa using hv) (handed_on hh h)

theorem getAttr_inst (KA : KAttr K) (X₀ : K.In s.heap) {x dx : Addr} {es : List DictEntry} {n : Nat} (hx : s.heap.get? x = some (instObj 188 dx)) (hd : s.heap.get? dx = some (dictOf es n)) {name : Str} (hi : name ∈ attrNames) {v : Value} (hv : W.getL name es = some (some v)) (hh : handedIn v = true) {A : Around} {b : Bool} {Q : Value -> Shared -> Prop}
    (h : Q v { s with toks := s.toks + 1 }) : wpAny (M w) A (getAttr (.ref x) name b) Q E s := by
  have I : W.InstAt s.heap x (instObj 188 dx) 188 (some (dictOf es n)) := ⟨hx, rfl, rfl, hd⟩
  have g := plainGet_of (name := "") KA.get
  exact get_value X₀ I g.1 (findObj_own KA.dict (KA.own _ hi) rfl hv) hh h
end
end Mine
end
section
open PySem PySem.W PyProof.Rows PySem.Calls
namespace Mine
namespace Nx
theorem ga : Slot "list_iterator" "__getattribute__" "object.__getattribute__" :=
  .of (owner := "object") (n := "__getattribute__") (by refine rwE (typeLookup_type ..) (rwE (builtinLookup_eq_fast ..) ?_); kernel_rfl) (by decide +kernel) (by decide +kernel) (by decide +kernel)
    (by first | exact .inl (by decide +kernel) | exact .inr (by decide +kernel)) (by refine rwE (isSubtype_type ..) ?_; kernel_rfl)
theorem nx : typeLookup (.type "list_iterator") "__next__" = pure (some (.builtin "list_iterator.__next__")) := by refine rwE (typeLookup_type ..) (rwE (builtinLookup_eq_fast ..) ?_); kernel_rfl
theorem wget : Slot "wrapper_descriptor" "__get__" "wrapper_descriptor.__get__" :=
  .of (owner := "wrapper_descriptor") (n := "__get__") (by refine rwE (typeLookup_type ..) (rwE (builtinLookup_eq_fast ..) ?_); kernel_rfl) (by decide +kernel) (by decide +kernel) (by decide +kernel)
    (by first | exact .inl (by decide +kernel) | exact .inr (by decide +kernel)) (by refine rwE (isSubtype_type ..) ?_; kernel_rfl)
theorem wset : typeLookup (.type "wrapper_descriptor") "__set__" = pure none := by refine rwE (typeLookup_type ..) (rwE (builtinLookup_eq_fast ..) ?_); kernel_rfl
theorem wdel : typeLookup (.type "wrapper_descriptor") "__delete__" = pure none := by refine rwE (typeLookup_type ..) (rwE (builtinLookup_eq_fast ..) ?_); kernel_rfl
theorem tnx : typeOf (.builtin "list_iterator.__next__") = pure (.type "wrapper_descriptor") := by refine (?_ : builtinType _ = _); refine rwE builtinType_eq_fast ?_; kernel_rfl
theorem entry_ga : entryFor table "object.__getattribute__" = some Builtin.«object.__getattribute__» := entryFor_of_tree (by kernel_rfl)
theorem entry_wget : entryFor table "wrapper_descriptor.__get__" = some Builtin.«wrapper_descriptor.__get__» := entryFor_of_tree (by kernel_rfl)
theorem args_ga (a b : Value) : argsOk "object.__getattribute__" ⟨[a, b], []⟩ := by unfold argsOk; kernel_rfl
theorem args_wget (a b c : Value) : argsOk "wrapper_descriptor.__get__" ⟨[a, b, c], []⟩ := by unfold argsOk; kernel_rfl
theorem owner : (".".intercalate ("list_iterator.__next__".cutAt '.').dropLast) = "list_iterator" := by
  have e0 : "list_iterator.__next__".cutAt '.' = ["list_iterator", "__next__"] := by first | rfl | decide +kernel
  refine rwE e0 ?_; decide +kernel
theorem sub : isSubtype (.type "list_iterator") (.type "list_iterator") = pure true := by refine rwE (isSubtype_type ..) ?_; kernel_rfl
end Nx
section
variable {prog : Program} {w : World} {A : Around} {E : Value -> Shared -> Prop} {h : Heap} {g : Array GenState} {d : Drawn} {t : Nat} {os : OsState} {a : Addr} {o : Obj}

theorem nx_get {R : Result -> Shared -> Prop} (hx : h.get? a = some o) (hc : o.cls = .type "list_iterator")
    (hq : R (.ok (.ret (.ref h.objs.size))) ⟨h.push { cls := .type "method-wrapper", data := .fields #[.builtin "list_iterator.__next__", .ref a] }, g, d, t, os⟩) :
    codeAny (model prog w) A (.call (.builtin "wrapper_descriptor.__get__") ⟨[.builtin "list_iterator.__next__", .ref a, .type "list_iterator"], []⟩) R ⟨h, g, d, t, os⟩ := by
  have hT : (⟨h, g, d, t, os⟩ : Shared).TypeIs (.ref a) "list_iterator" := ⟨_, hx, hc⟩
  have hT5 : (⟨h, g, d, t, os⟩ : Shared).TypeIs (.builtin "list_iterator.__next__") "wrapper_descriptor" := Nx.tnx
  have f8 : isSubtype (.type "list_iterator") (.type (".".intercalate ("list_iterator.__next__".cutAt '.').dropLast)) = pure true := by refine rwE Nx.owner ?_; exact Nx.sub
  refine codeAny_call_builtin Nx.wget.plain Nx.entry_wget (Nx.wget.check _ _ _ _ _ _ _ _ hT5 (Nx.args_wget _ _ _) ?_)
  repeat (any_goals (first | assumption | wp_step))

theorem nx_entry {tk : Tok} {Q : Fin -> Shared -> Prop} {vs : Array Value} (hx : h.get? a = some ⟨.type "list_iterator", none, .fields vs, #[]⟩)
    (hq : Q (.done (.ret (.ref h.objs.size))) ⟨h.push { cls := .type "method-wrapper", data := .fields #[.builtin "list_iterator.__next__", .ref a] }, g, d, t, os⟩) :
    wpAny (model prog w) A (Builtin.«object.__getattribute__» ⟨[.ref a, .str "__next__" tk], []⟩) Q E ⟨h, g, d, t, os⟩ := by
  have hT : (⟨h, g, d, t, os⟩ : Shared).TypeIs (.ref a) "list_iterator" := ⟨_, hx, rfl⟩
  have hT5 : (⟨h, g, d, t, os⟩ : Shared).TypeIs (.builtin "list_iterator.__next__") "wrapper_descriptor" := Nx.tnx
  have f4 := Nx.nx
  have f5 := Nx.tnx
  have f6 := Nx.wget.lookup
  have f7 := Nx.wset
  have f8 := Nx.wdel
  repeat (any_goals (first | assumption | wp_step))
  refine nx_get hx rfl ?_
  repeat (any_goals (first | assumption | wp_step))

theorem nx_call {tk : Tok} {R : Result -> Shared -> Prop} {vs : Array Value} (hx : h.get? a = some ⟨.type "list_iterator", none, .fields vs, #[]⟩)
    (hq : R (.ok (.ret (.ref h.objs.size))) ⟨h.push { cls := .type "method-wrapper", data := .fields #[.builtin "list_iterator.__next__", .ref a] }, g, d, t, os⟩) :
    codeAny (model prog w) A (.call (.builtin "object.__getattribute__") ⟨[.ref a, .str "__next__" tk], []⟩) R ⟨h, g, d, t, os⟩ :=
  codeAny_call_builtin Nx.ga.plain Nx.entry_ga (Nx.ga.check _ _ _ _ _ _ _ _ (show (⟨h, g, d, t, os⟩ : Shared).TypeIs (.ref a) "list_iterator" from ⟨_, hx, rfl⟩) (Nx.args_ga _ _) (nx_entry hx hq))

theorem nx_by {tk : Tok} {fill expr : Bool} {Q : Value -> Shared -> Prop} {vs : Array Value} (hx : h.get? a = some ⟨.type "list_iterator", none, .fields vs, #[]⟩)
    (hq : Q (.ref h.objs.size) ⟨h.push { cls := .type "method-wrapper", data := .fields #[.builtin "list_iterator.__next__", .ref a] }, g, d, t, os⟩) : wpAny (model prog w) A (getAttrBy (.ref a) (.str "__next__" tk) fill expr) Q E ⟨h, g, d, t, os⟩ := by
  have hT : (⟨h, g, d, t, os⟩ : Shared).TypeIs (.ref a) "list_iterator" := ⟨_, hx, rfl⟩
  have f2 := Nx.ga.lookup
  have f3 := Nx.ga.bind (.ref a)
  have hx0 : (expr && onTheHeap (Value.builtin "object.__getattribute__")) = false := by cases expr <;> rfl
  repeat (any_goals (first | assumption | wp_step))
  refine nx_call hx ?_
  repeat (any_goals (first | assumption | wp_step))

theorem nx_attr {expr : Bool} {Q : Value -> Shared -> Prop} {vs : Array Value} (hx : h.get? a = some ⟨.type "list_iterator", none, .fields vs, #[]⟩)
    (hq : Q (.ref h.objs.size) ⟨h.push { cls := .type "method-wrapper", data := .fields #[.builtin "list_iterator.__next__", .ref a] }, g, d, t + 1, os⟩) : wpAny (model prog w) A (getAttr (.ref a) "__next__" expr) Q E ⟨h, g, d, t, os⟩ := by
  unfold getAttr
  repeat (any_goals (first | assumption | with_reducible apply nx_by hx | wp_step))
end
end Mine
end
section
open PySem PySem.W PyProof.Rows PySem.Calls
namespace Mine
section
variable {w : World} {X Y : Fx} {φ ψ : List Addr} {st st' : St} {s₀ s s' : Shared} {K : Frag} {mg mb : Str -> Option Value} {E : Value -> Shared -> Prop}

theorem getAttrV_sound (KA : KAttr K) (G : Good w K mg mb X) (R : Rel w X φ st s₀ s) {o v : AV} {o' : Value} {a : Str} {hp : Hp} (ho : VC φ o o') (e : GA st.hp o a v hp) {b : Bool} :
    wpAny (M w) X.A (getAttr o' a b) (Post w X φ s₀ v ⟨hp, st.lc⟩) E s := by
  cases e with
  | inst hx hd ha hv hp =>
    refine VC.objE ho fun x pa => xEA (R.inst hx pa) fun dx h1 h2 => xEEA (R.attrs hd h2) fun ents k h3 h4 => xAEA (h4.getL a) fun z9 r g1 g2 => ?_
    rw [hv] at g2
    cases r with
    | none => exact g2.elim
    | some r => exact getAttr_inst KA (R.ground G).inK h1 h3 ha g1 (plainV_handed g2 hp) (Post.mk g2 (R.toks (Nat.le_add_left ..)))
  | @node n d i _ _ _ _ hx hdd hi hv hp =>
    refine VC.objE ho fun x pa => xEEAA (R.node hx pa) fun dx vs h0 h1 h2 => xEEA (R.attrs hdd h0) fun dents dk hdx z9 => ?_
    have g2 := h2 i
    rw [hv] at g2
    cases hr : (vs[i]?).join with
    | none => rw [hr] at g2; exact g2.elim
    | some r => rw [hr] at g2; exact getAttr_node KA (R.ground G).inK h1 hdx hi hr (plainV_handed g2 hp) (Post.mk g2 (R.toks (Nat.le_add_left ..)))
  | next hx =>
    refine VC.objE ho fun x pa => ?_
    obtain ⟨y, ob, h1, h2, la, h3, rfl⟩ := R.objs _ _ hx
    cases pa.symm.trans h1
    refine nx_attr h2 ⟨_, fun z9 z9 => get_snoc, ?_, R.push rfl ⟨x, get_snoc pa, rfl⟩ (Nat.le_add_left ..)⟩
    exact .obj (by refine rwB R.len ?_; exact get_last)

set_option tactic.hygienic true in
theorem Rel.upd' (R : Rel w X φ st s₀ s) (prL : X.pr.get? X.env.locals = none) {n : Nat} {a : Addr} {o o' : AO} {ob' : Obj} {h' : Heap} {tk : Nat} {m : Str -> Option Value} (hm : s.heap.Ns X.env.locals m) (hm' : h'.Ns X.env.locals m) (hx : st.hp[n]? = some o) (hno : o.isFro = false) (ha : φ[n]? = some a)
    (k : ∀ b ob, b ≠ X.env.locals -> b ≠ a -> s.heap.get? b = some ob -> h'.get? b = some ob) (hob : h'.get? a = some ob') (hc : OC w φ o' ob') (ht : 1 <= tk) :
    Rel w X φ ⟨st.hp.set n o', st.lc⟩ s₀ { s with heap := h', toks := tk } where
  keep := R.keep.step fun b o e hb => k b o (fun q => hb (q ▸ prL)) (fun q => hb (by refine rwE q ?_; exact R.offp n a _ ha hx hno)) e
  loc := by
    refine xEA (R.loc) fun m2 h1 h2 => ?_
    refine ⟨m, hm', ?_⟩
    refine xEEEAAA (h1) fun o1 es1 ep1 a1 a2 a3 a4 => ?_
    refine xEEEAAA (hm) fun o2 es2 ep2 b1 b2 b3 b4 => ?_
    rw [a1] at b1; cases b1
    rw [a2] at b2; cases b2
    have : m = m2 := funext fun n => (b4 n).symm.trans (a4 n)
    refine rwE this ?_; exact h2
  objs := fun i o e => by
    rw [List.getElem?_set] at e
    split at e
    . rename_i q
      split at e
      . cases e; exact ⟨a, ob', q ▸ ha, hob, hc⟩
      . cases e
    . rename_i q
      refine xEEAA (R.objs i o e) fun b ob h1 h2 h3 => ?_
      exact ⟨b, ob, h1, k b ob (R.offL (mem_of_get h1)) (fun z => q (nodup_get R.inj ha (z ▸ h1))) h2, h3⟩
  inj := R.inj
  len := by exact rwE R.len (rwE List.length_set rfl)
  off := fun b hb => by
    refine xAA (R.off b hb) fun h1 h3 h4 => ?_
    refine ⟨h1, ?_, h4⟩
    by_cases q : b = a
    . refine rwE q ?_; refine (?_ : (h'.get? a).isSome = true); refine rwE hob ?_; rfl
    . obtain ⟨o, ho⟩ := Option.isSome_iff_exists.mp h3
      refine (?_ : (h'.get? b).isSome = true)
      refine rwE (k b o (R.offL hb) q ho) ?_; rfl
  offp := fun i b x hb hx' hf => by
    rw [List.getElem?_set] at hx'
    split at hx'
    . rename_i q; subst q
      rw [ha] at hb; cases hb
      exact R.offp _ a _ ha hx hno
    . exact R.offp i b x hb hx' hf
  lls := ⟨R.lls.1, fun L hL => by
    obtain ⟨o, ho⟩ := Option.isSome_iff_exists.mp (R.lls.2 L hL)
    refine (?_ : (h'.get? L).isSome = true)
    by_cases q : L = X.env.locals
    . refine xEEEA (hm') fun o' _ _ h2 _ => ?_; refine rwE q (rwE h2 ?_); rfl
    . refine rwE (k L o q (fun z => (R.off a (mem_of_get ha)).1 (z ▸ hL)) ho) ?_; rfl⟩
  cells := R.cells
  lowL := R.lowL
  tok := ht
  gens := R.gens
  os := R.os
  drawn := R.drawn

theorem slots_set {sl : List (Option AV)} {vs : List (Option Value)} (h : ∀ i : Nat, OptC φ (sl[i]?).join (vs[i]?).join) {i : Nat} (hi : i < sl.length) {v : AV} {v' : Value} (hv : VC φ v v') :
    ∃ us : List (Option Value), (vs.toArray ++ Array.replicate (i + 1 - vs.toArray.size) none).setIfInBounds i (some v') = us.toArray /\ ∀ j : Nat, OptC φ ((sl.set i (some v))[j]?).join (us[j]?).join := by
  refine ⟨(vs ++ List.replicate (i + 1 - vs.length) none).set i (some v'), ?_, fun j => ?_⟩
  . apply Array.toList_inj.mp
    exact rwE Array.toList_setIfInBounds (rwE Array.toList_append (rwE Array.toList_replicate (rwE List.size_toArray rfl)))
  . refine rwE (List.getElem?_set) (rwE (List.getElem?_set) ?_)
    by_cases q : i = j
    . subst q
      refine rwE (if_pos rfl) (rwE (if_pos hi) (rwE (if_pos rfl) (rwE (if_pos (by simp; omega)) ?_)))
      exact hv
    . refine rwE (if_neg q) (rwE (if_neg q) ?_)
      by_cases z : j < vs.length
      . refine rwE (List.getElem?_append_left z) ?_; exact h j
      . have e1 : ((vs ++ List.replicate (i + 1 - vs.length) none)[j]?).join = none := by
          refine rwE (List.getElem?_append_right (Nat.not_lt.mp ‹_›)) (rwE (List.getElem?_replicate) ?_)
          split <;> rfl
        have e2 : (vs[j]?).join = none := by refine rwE (List.getElem?_eq_none_iff.mpr (by omega)) ?_; rfl
        refine rwE e1 (rwB e2 ?_); exact h j

theorem setAttrV_sound (KA : KAttr K) (G : Good w K mg mb X) (R : Rel w X φ st s₀ s) {o v : AV} {o' v' : Value} {a : Str} {hp : Hp} (ho : VC φ o o') (hv : VC φ v v') (e : SA st.hp o a v hp) {Q : Unit -> Shared -> Prop} (h : ∀ s', Rel w X φ ⟨hp, st.lc⟩ s₀ s' -> Q () s') :
    wpAny (M w) X.A (setAttr o' a v') Q E s := by
  have X₀ := (R.ground G).inK
  refine xEA (R.loc) fun m hm z9 => ?_
  cases e with
  | inst hx hd ha hz =>
    refine VC.objE ho fun x pa => xEA (R.inst hx pa) fun dx h1 h2 => xEEA (R.attrs hd h2) fun ents k h3 h4 => xAEA (h4.getL a) fun z9 r g1 g2 => ?_
    have I : W.InstAt s.heap x (instObj 188 dx) 188 (some (dictOf ents k)) := ⟨h1, rfl, rfl, h3⟩
    refine set_plain X₀ I KA.set (osa_dict (s := { s with toks := s.toks + 1 }) (fr_cut hm) (news_at (R.offL (mem_of_get h2)) h3) X₀ I rfl KA.over (by unfold takerIn; refine rwE (KA.own _ ha) ?_; rfl) KA.dict (by refine rwE (lookIn_dict ..) (rwE (g1 ..) ?_); rfl) (fun z9 h => (nomatch h)) (fun p hp => by simpa using (List.mem_filter.mp hp).2) (by exact rwE (putName_dict ..) rfl) rfl
      (Nat.le_trans (putL_length ..) (by refine rwE h4.length ?_; exact Nat.lt_of_le_of_lt hz (by decide))) fun h' F' N' => ?_)
    exact h _ (R.upd' G.prL hm F'.ns hd rfl h2 (at_keeps N') (N' _ (.head _)).1 ⟨_, _, rfl, h4.putL hv⟩ (Nat.le_add_left ..))
  | @node _ _ i _ _ _ _ hx hdd hi hlt =>
    refine VC.objE ho fun x pa => xEEAA (R.node hx pa) fun dx vs h0 h1 h2 => xEEA (R.attrs hdd h0) fun dents dk hdx z9 => xEAAAA (KA.slot _ _ hi) fun p a1 a2 a3 a4 a5 => xEA (slots_set h2 hlt hv) fun us u1 u2 => ?_
    have I : W.InstAt s.heap x ⟨.ref 91, some dx, .plain, List.toArray vs⟩ 91 (some (dictOf dents dk)) := ⟨h1, rfl, rfl, hdx⟩
    refine set_plain X₀ I KA.nset (osa_descr (s := { s with toks := s.toks + 1 }) KF.slot_mset X₀ I KA.nover (by unfold takerIn; refine rwE a1 ?_; refine (?_ : (takesIn K (.ref p)).map _ = _); refine rwE a3 ?_; rfl) a5
      (slot_set (s := { s with toks := s.toks + 1 }) (fr_cut hm) (news_at (R.offL (mem_of_get pa)) h1) X₀ I a4 (Nat.lt_trans (List.idxOf?_eq_some_iff.mp hi).1 (by decide)) (fun z9 h => (nomatch h)) (fun p hp => by simpa using (List.mem_filter.mp hp).2) rfl rfl fun h' F' N' => ?_))
    exact h _ (R.upd' G.prL hm F'.ns hx rfl pa (at_keeps N') (N' _ (.head _)).1 ⟨dx, us, h0, by exact rwB u1 rfl, u2⟩ (Nat.le_add_left ..))
end
end Mine
end
section
open PySem PySem.W PyProof.Rows PySem.Calls
namespace Mine

inductive ItAt (w : World) (X : Fx) (φ : List Addr) (h : Heap) (I : Addr) (i : Nat) (s : Src) : Prop
  | list {n : Nat} {l : Addr} {xs : List AV} : s.kind = .list n -> φ[n]? = some l -> s.keep = some (n, .list xs) -> s.items = xs.map .one -> h.IsListIter I l i -> ItAt w X φ h I i s
  | tup {n : Nat} {l : Addr} {xs : List AV} : s.kind = .tup n -> φ[n]? = some l -> s.keep = some (n, .tup xs) -> s.items = xs.map .one -> h.IsTupleIter I l i -> ItAt w X φ h I i s
  | str {x : Str} {t : Tok} : s.kind = .str x -> s.items = x.cps.toList.map (fun c => .one (.str ⟨#[c]⟩)) -> h.IsStrIter I "str_ascii_iterator" x t i -> ItAt w X φ h I i s
  | rng {a c : Int} : s.kind = .rng a c -> (∀ j, j < s.items.length -> s.items[j]? = some (.one (.int (a + (j : Nat) * c)))) -> IsRangeIter h I (a + (i : Nat) * c) ((s.items.length : Int) - (i : Nat)) c -> ItAt w X φ h I i s
  | enum {n : Nat} {l it : Addr} {xs : List AV} {old : Value} : s.kind = .enum n -> φ[n]? = some l -> s.keep = some (n, .list xs) -> s.items = enumIts 0 xs -> IsEnum h I it i old -> h.IsListIter it l i -> I ≠ it -> Off X φ it -> ItAt w X φ h I i s
  | dkey {n : Nat} {d : Addr} {kvs : List (Str × Value)} {es : List (Str × AV)} {ep : Nat} : s.kind = .dkey n -> d ∉ X.fr -> DCs φ es kvs -> X.pr.DictAt (sk w) d kvs ep -> s.items = es.map (fun p => .one (.str p.1)) -> h.IsKeyIter I d i kvs.length ep -> ItAt w X φ h I i s
  | dval {n : Nat} {d : Addr} {kvs : List (Str × Value)} {es : List (Str × AV)} {ep : Nat} : s.kind = .dval n -> d ∉ X.fr -> DCs φ es kvs -> X.pr.DictAt (sk w) d kvs ep -> s.items = es.map (fun p => .one p.2) -> h.IsValIter I d i kvs.length ep -> ItAt w X φ h I i s
  | ditem {n : Nat} {d : Addr} {kvs : List (Str × Value)} {es : List (Str × AV)} {ep : Nat} {ok ov : Value} : s.kind = .ditem n -> d ∉ X.fr -> DCs φ es kvs -> X.pr.DictAt (sk w) d kvs ep -> s.items = es.map (fun p => .two (.str p.1) p.2) -> IsItemIter h I d i kvs.length ep ok ov -> ItAt w X φ h I i s

noncomputable def ItC (φ : List Addr) (h : Heap) : It -> Value -> Prop
  | .one a, v => VC φ a v
  | .two a b, v => ∃ T x y, v = .ref T /\ h.get? T = some { cls := .type "tuple", data := .seq #[x, y] } /\ VC φ a x /\ VC φ b y

section
variable {w : World} {X Y : Fx} {φ ψ : List Addr} {st st' : St} {s₀ s s' : Shared} {K : Frag} {mg mb : Str -> Option Value} {E : Value -> Shared -> Prop} {I : Addr} {i : Nat} {src : Src}

theorem enumIts_get : ∀ (xs : List AV) (k i : Nat), (enumIts k xs)[i]? = (xs[i]?).map fun x => .two (.int ((k + i : Nat) : Int)) x
  | [], _, _ => rfl
  | x :: r, k, 0 => rfl
  | x :: r, k, i + 1 => by
    refine (?_ : (enumIts (k + 1) r)[i]? = _)
    refine rwE (enumIts_get r (k + 1) i) ?_
    simp only [List.getElem?_cons_succ]
    exact rwE (show k + 1 + i = k + (i + 1) from by lia) rfl
theorem DCs.get {es : List (Str × AV)} {kvs : List (Str × Value)} (h : DCs φ es kvs) : ∀ {i : Nat} {k : Str} {a : AV}, es[i]? = some (k, a) -> ∃ v, kvs[i]? = some (k, v) /\ VC φ a v := by
  induction h with
  | nil => intro i k a e; cases e
  | cons hv _ ih =>
    intro i k a e
    cases i with
    | zero => cases e; exact ⟨_, rfl, hv⟩
    | succ i => exact ih e
theorem dictAt_of (R : Rel w X φ st s₀ s) {d : Addr} {kvs : List (Str × Value)} {ep : Nat} (h : X.pr.DictAt (sk w) d kvs ep) (hd : d ∉ X.fr) : s.heap.DictAt (sk w) d kvs ep := by
  refine xEEA (h) fun o es h1 h2 => ?_
  exact ⟨o, es, R.keep.exact h1 hd, h2⟩
theorem str_is {k : Str} {v : Value} (h : (sk w).is k v = true) : VC φ (.str k) v := by
  cases v with
  | str x t =>
    have : x = k := by simpa [PySem.strKind, Value.isStrOf] using h
    subst this; exact .str x t
  | _ => simp [PySem.strKind, Value.isStrOf] at h
theorem kept_at {n : Nat} {o : AO} {h : Hp} (hk : kept src h = true) (e : src.keep = some (n, o)) : h[n]? = some o := by
  unfold kept at hk
  rw [e] at hk
  exact @of_decide_eq_true _ (Classical.propDecidable _) hk

theorem map_some {α β : Type} {f : α -> β} {l : List β} {xs : List α} {y : β} (e : l = xs.map f) (h : l[i]? = some y) : ∃ x, xs[i]? = some x /\ f x = y := by
  rw [e, List.getElem?_map] at h; exact Option.map_eq_some_iff.mp h
theorem arr_some {α : Type} {l : List α} {y : α} (h : l[i]? = some y) : l.toArray[i]? = some y := by refine rwE (List.getElem?_toArray) ?_; exact h
theorem arr_none {α β : Type} {l : List α} {xs : List β} (e : l.length = xs.length) (h : xs.length <= i) : l.toArray[i]? = none := by refine rwE (List.getElem?_toArray) (rwE (propext (List.getElem?_eq_none_iff)) (rwE e ?_)); exact h
theorem len_map {α β : Type} {f : α -> β} {l : List β} {xs : List α} (e : l = xs.map f) (h : l.length <= i) : xs.length <= i := by rw [e, List.length_map] at h; exact h
theorem enumIts_some {l : List It} {xs : List AV} {y : It} (e : l = enumIts 0 xs) (h : l[i]? = some y) : ∃ x, xs[i]? = some x /\ .two (.int ((0 + i : Nat) : Int)) x = y := by
  rw [e, enumIts_get] at h; exact Option.map_eq_some_iff.mp h
theorem enumIts_len {l : List It} {xs : List AV} (e : l = enumIts 0 xs) (h : l.length <= i) : xs.length <= i := by
  rw [e, ← List.getElem?_eq_none_iff, enumIts_get, Option.map_eq_none_iff, List.getElem?_eq_none_iff] at h; exact h
theorem next_end (hh : X.A.handled = none) (R : Rel w X φ st s₀ s) (hI : Off X φ I) (At : ItAt w X φ s.heap I i src) (hk : kept src st.hp = true) (hx : src.items[i]? = none) {Q : Option Value -> Shared -> Prop} (h : ∀ s', Rel w X φ st s₀ s' -> Q none s') :
    wpAny (M w) X.A (pyNext (.ref I)) Q E s := by
  have key : ∀ h', Heap.ExtBut I s.heap h' -> Q none { s with heap := h' } := fun h' hs => h _ (R.garb1 hI hs R.tok)
  have hx := List.getElem?_eq_none_iff.mp hx
  cases At with
  | list hkd h1 h2 h3 h4 => exact xEEA (R.list (kept_at hk h2) h1) fun z9 z9 g1 g2 => wpAny_pyNext_list_end hh h4 (isList_of g1) (arr_none g2.length (len_map h3 hx)) key
  | tup hkd h1 h2 h3 h4 => exact xEEA (R.tup (kept_at hk h2) h1) fun z9 z9 g1 g2 => wpAny_pyNext_tuple_end hh h4 (isTuple_of g1) (arr_none g2.length (len_map h3 hx)) key
  | str hkd h1 h2 => exact wpAny_pyNext_ascii_end hh h2 (by simpa using len_map h1 hx) key
  | rng hkd h1 h2 => exact wpAny_pyNext_range_end hh h2 (by lia) key
  | enum hkd h1 h2 h3 h4 h5 h6 h7 => exact xEEA (R.list (kept_at hk h2) h1) fun z9 z9 g1 g2 => wpAny_pyNext_enum_end hh h4 h5 (isList_of g1) (arr_none g2.length (enumIts_len h3 hx)) fun z9 hs => h _ (R.garb1 h7 hs R.tok)
  | dkey hkd h1 h2 h3 h4 h5 => exact wpAny_pyNext_dict_end hh h5 (dictAt_of R h3 h1) (List.getElem?_eq_none_iff.mpr (h2.length ▸ len_map h4 hx)) key
  | dval hkd h1 h2 h3 h4 h5 => exact wpAny_pyNext_values_end hh h5 (dictAt_of R h3 h1) (List.getElem?_eq_none_iff.mpr (h2.length ▸ len_map h4 hx)) key
  | ditem hkd h1 h2 h3 h4 h5 => exact wpAny_pyNext_items_end hh h5 (dictAt_of R h3 h1) (List.getElem?_eq_none_iff.mpr (h2.length ▸ len_map h4 hx)) key

theorem letGo_plain {target : Expr} {n : String} {o : Obj} (ho : s.heap.get? I = some o) (hc : o.cls = .type n) (hn : ["enumerate", "zip", "dict_itemiterator", "dict_reverseitemiterator", "odict_iterator", "itertools.zip_longest", "itertools.pairwise"].contains n = false) {v : Value} {A : Around} {Q : Unit -> Shared -> Prop} (h : Q () s) :
    wpAny (M w) A (letOwnedTupleGo target (.ref I) v) Q E s := by
  unfold letOwnedTupleGo
  split
  . cases v <;> first | exact wpAny_pure h | skip
    refine wpAny_bind (wpAny_load ho ?_)
    refine rwE hc ?_
    cases o.data <;> first | exact wpAny_pure h | skip
    simp only [hn, Bool.false_and, Bool.false_eq_true, if_false]
    exact wpAny_pure h
  . cases v <;> first | exact wpAny_pure h | skip
    refine wpAny_bind (wpAny_load ho ?_)
    refine rwE hc ?_
    cases o.data <;> first | exact wpAny_pure h | skip
    simp only [hn, Bool.false_and, Bool.false_eq_true, if_false]
    exact wpAny_pure h
  . exact wpAny_pure h

theorem next_item (R : Rel w X φ st s₀ s) (hI : Off X φ I) (At : ItAt w X φ s.heap I i src) (hk : kept src st.hp = true) {it : It} (hx : src.items[i]? = some it) {target : Expr} (ht : ∀ a b, it = .two a b -> ∃ ts k p, target = .Tuple ts k p) {Q : Option Value -> Shared -> Prop}
    (h : ∀ v s', (∀ (Q' : Unit -> Shared -> Prop) E', (∀ s'', Rel w X φ st s₀ s'' -> ItAt w X φ s''.heap I (i + 1) src -> ItC φ s''.heap it v -> Q' () s'') -> wpAny (M w) X.A (letOwnedTupleGo target (.ref I) v) Q' E' s') -> Q (some v) s') :
    wpAny (M w) X.A (pyNext (.ref I)) Q E s := by
  have go : ∀ {n : String} {o : Obj} {s' : Shared} {v : Value}, s'.heap.get? I = some o -> o.cls = .type n -> ["enumerate", "zip", "dict_itemiterator", "dict_reverseitemiterator", "odict_iterator", "itertools.zip_longest", "itertools.pairwise"].contains n = false ->
      Rel w X φ st s₀ s' -> ItAt w X φ s'.heap I (i + 1) src -> ItC φ s'.heap it v -> Q (some v) s' := fun ho hc hn h1 h2 h3 => h _ _ fun Q' E' hq => letGo_plain ho hc hn (hq _ h1 h2 h3)
  cases At with
  | @list _ l xs hkd h1 h2 h3 h4 =>
    refine xEEA (R.list (kept_at hk h2) h1) fun vs k g1 g2 => ?_
    refine xEA (map_some h3 hx) fun x hx e => ?_
    refine xEA (g2.get hx) fun v u1 u2 => ?_
    refine wpAny_pyNext_list_item h4 (isList_of g1) (arr_some u1) fun h' hit' hs => ?_
    refine xEAA (id hit') fun o ho hc hd => ?_
    refine go ho hc (by decide) (R.garb1 hI hs.extBut R.tok) (.list hkd h1 h2 h3 hit') (e ▸ u2)
  | @tup _ l xs hkd h1 h2 h3 h4 =>
    refine xEEA (R.tup (kept_at hk h2) h1) fun vs k g1 g2 => ?_
    refine xEA (map_some h3 hx) fun x hx e => ?_
    refine xEA (g2.get hx) fun v u1 u2 => ?_
    refine wpAny_pyNext_tuple_item h4 (isTuple_of g1) (arr_some u1) fun h' hit' hs => ?_
    refine xEAA (id hit') fun o ho hc hd => ?_
    refine go ho hc (by decide) (R.garb1 hI hs.extBut R.tok) (.tup hkd h1 h2 h3 hit') (e ▸ u2)
  | @str x t hkd h1 h2 =>
    refine xEA (map_some h1 hx) fun c hx e => ?_
    refine wpAny_pyNext_ascii_item h2 (c := c) (by simpa using hx) fun h' hit' hs => ?_
    refine xEAA (id hit') fun o ho hc hd => ?_
    refine go ho hc (by decide) (R.garb1 hI hs.extBut (Nat.le_add_left ..)) (.str hkd h1 hit') (e ▸ VC.str _ _)
  | @rng a c hkd h1 h2 =>
    have hlt : i < src.items.length := (List.getElem?_eq_some_iff.mp hx).1
    have e := Option.some.inj ((h1 i hlt).symm.trans hx)
    refine wpAny_pyNext_range_item h2 (by lia) fun h' hit' hs => ?_
    refine go hit' rfl (by decide) (R.garb1 hI hs.extBut (Nat.le_add_left ..)) (.rng hkd h1 ?_) (e ▸ VC.int _ _)
    have e1 : a + ((i + 1 : Nat) : Int) * c = a + (i : Int) * c + c := by push_cast; exact rwE (Int.add_mul ..) (rwE (Int.one_mul ..) (rwE (Int.add_assoc ..) rfl))
    have e2 : (src.items.length : Int) - ((i + 1 : Nat) : Int) = (src.items.length : Int) - (i : Int) - 1 := by push_cast; lia
    refine rwE e1 (rwE e2 ?_); exact hit'
  | @enum _ l it' xs old hkd h1 h2 h3 h4 h5 h6 h7 =>
    refine xEEA (R.list (kept_at hk h2) h1) fun vs k g1 g2 => ?_
    refine xEA (enumIts_some h3 hx) fun x hx e => ?_
    refine xEA (g2.get hx) fun v u1 u2 => ?_
    refine xEEE (ht _ _ e.symm) fun ts k' p hz3 => ?_
    rw [hz3] at h
    refine wpAny_pyNext_enum_item h4 h5 (isList_of g1) (arr_some u1) h6 fun h' ho hit' hT hsz hk' => ?_
    refine h _ _ fun Q' E' hq => wpAny_letOwnedTupleGo_enum ho fun h'' he hs => ?_
    have hlt : ∀ b o, s.heap.get? b = some o -> b ≠ s.heap.objs.size := fun b o e => Nat.ne_of_lt (Heap.lt_size e)
    have hTI : s.heap.objs.size ≠ I := fun q => hlt I _ h4 q.symm
    have hTit : it' ≠ s.heap.objs.size := by obtain ⟨o5, q5, _⟩ := h5; exact hlt _ _ q5
    have R1 : Rel w X φ st s₀ { s with heap := h', toks := s.toks + 1 } := R.garb (wr := [I, it']) (fun c hc => by
      rcases List.mem_cons.mp hc with rfl | hc
      . exact ⟨hI.phi, hI.lls, hI.pr⟩
      . cases List.mem_singleton.mp hc; exact ⟨h7.phi, h7.lls, h7.pr⟩) (fun b o hb e => hk' b o (fun q => hb (by simp [q])) (fun q => hb (by simp [q])) e) (Nat.le_add_left ..)
    refine hq _ (R1.garb1 hI hs.extBut R1.tok) (.enum hkd h1 h2 h3 (by simpa using he) (hit'.at fun o e => (hs.2 _ h6.symm).trans e) h6 h7) (e ▸ ⟨_, _, _, rfl, (hs.2 _ hTI).trans hT, ?_, u2⟩)
    refine rwE (Nat.zero_add ..) ?_; exact .int _ _
  | @dkey _ d kvs es ep hkd h1 h2 h3 h4 h5 =>
    refine xEA (map_some h4 hx) fun x hx e => ?_
    refine xEA (h2.get hx) fun v u1 u2 => ?_
    refine wpAny_pyNext_dict_item h5 (dictAt_of R h3 h1) u1 fun key h' hkey hit' hs => ?_
    refine xEAA (id hit') fun o ho hc hd => ?_
    refine go ho hc (by decide) (R.garb1 hI hs.extBut R.tok) (.dkey hkd h1 h2 h3 h4 hit') (e ▸ str_is hkey)
  | @dval _ d kvs es ep hkd h1 h2 h3 h4 h5 =>
    refine xEA (map_some h4 hx) fun x hx e => ?_
    refine xEA (h2.get hx) fun v u1 u2 => ?_
    refine wpAny_pyNext_values_item h5 (dictAt_of R h3 h1) u1 fun h' hit' hs => ?_
    refine xEAA (id hit') fun o ho hc hd => ?_
    refine go ho hc (by decide) (R.garb1 hI hs.extBut R.tok) (.dval hkd h1 h2 h3 h4 hit') (e ▸ u2)
  | @ditem _ d kvs es ep ok ov hkd h1 h2 h3 h4 h5 =>
    refine xEA (map_some h4 hx) fun x hx e => ?_
    refine xEA (h2.get hx) fun v u1 u2 => ?_
    refine xEEE (ht _ _ e.symm) fun ts k' p hz3 => ?_
    rw [hz3] at h
    refine wpAny_pyNext_items_item h5 (dictAt_of R h3 h1) u1 fun key h' hkey ho hT hsz hk' => ?_
    refine h _ _ fun Q' E' hq => wpAny_letOwnedTupleGo_items ho fun h'' he hs => ?_
    have hTI : s.heap.objs.size ≠ I := fun q => Nat.ne_of_lt (Heap.lt_size h5) q.symm
    have R1 : Rel w X φ st s₀ { s with heap := h', toks := s.toks } := R.garb1 hI (fun b o hb e => hk' b o hb e) R.tok
    refine hq _ (R1.garb1 hI hs.extBut R1.tok) (.ditem hkd h1 h2 h3 h4 he) (e ▸ ⟨_, _, _, rfl, (hs.2 _ hTI).trans hT, str_is hkey, u2⟩)
end
end Mine
end
section
open PySem PySem.W PyProof.Rows PySem.Calls
namespace Mine
section
variable {w : World} {X Y : Fx} {φ ψ : List Addr} {st st' : St} {s₀ s s' : Shared} {K : Frag} {mg mb : Str -> Option Value} {E : Value -> Shared -> Prop} {I : Addr} {i : Nat} {src : Src}

theorem ItAt.mono {h h' : Heap} (At : ItAt w X φ h I i src) (hI : Off X φ I) (l : Le φ ψ) (k : ∀ b o, Off X φ b -> h.get? b = some o -> h'.get? b = some o) (ho : ∀ b o, Off X φ b -> h.get? b = some o -> o.cls ≠ .type "dict" /\ o.cls ≠ .type "list" -> Off X ψ b) : ItAt w X ψ h' I i src /\ Off X ψ I := by
  cases At with
  | list hkd h1 h2 h3 h4 => exact xEAA h4 fun o h4 h5 h6 => ⟨.list hkd (l _ _ h1) h2 h3 ⟨o, k _ _ hI h4, h5, h6⟩, ho _ _ hI h4 (h5 ▸ ⟨by decide, by decide⟩)⟩
  | tup hkd h1 h2 h3 h4 => exact xEAA h4 fun o h4 h5 h6 => ⟨.tup hkd (l _ _ h1) h2 h3 ⟨o, k _ _ hI h4, h5, h6⟩, ho _ _ hI h4 (h5 ▸ ⟨by decide, by decide⟩)⟩
  | str hkd h1 h2 => exact xEAA h2 fun o h4 h5 h6 => ⟨.str hkd h1 ⟨o, k _ _ hI h4, h5, h6⟩, ho _ _ hI h4 (h5 ▸ ⟨by decide, by decide⟩)⟩
  | rng hkd h1 h2 => exact ⟨.rng hkd h1 (k _ _ hI h2), ho _ _ hI h2 ⟨show Value.type "range_iterator" ≠ Value.type "dict" by decide, show Value.type "range_iterator" ≠ Value.type "list" by decide⟩⟩
  | enum hkd h1 h2 h3 h4 h5 h8 h9 => exact xEAA h5 fun o h5 h6 h7 => ⟨.enum hkd (l _ _ h1) h2 h3 (k _ _ hI h4) ⟨o, k _ _ h9 h5, h6, h7⟩ h8 (ho _ _ h9 h5 (h6 ▸ ⟨by decide, by decide⟩)), ho _ _ hI h4 ⟨show Value.type "enumerate" ≠ Value.type "dict" by decide, show Value.type "enumerate" ≠ Value.type "list" by decide⟩⟩
  | dkey hkd h1 h2 h3 h4 h5 => exact xEAA h5 fun o h5 h6 h7 => ⟨.dkey hkd h1 (h2.mono l) h3 h4 ⟨o, k _ _ hI h5, h6, h7⟩, ho _ _ hI h5 (h6 ▸ ⟨by decide, by decide⟩)⟩
  | dval hkd h1 h2 h3 h4 h5 => exact xEAA h5 fun o h5 h6 h7 => ⟨.dval hkd h1 (h2.mono l) h3 h4 ⟨o, k _ _ hI h5, h6, h7⟩, ho _ _ hI h5 (h6 ▸ ⟨by decide, by decide⟩)⟩
  | ditem hkd h1 h2 h3 h4 h5 => exact ⟨.ditem hkd h1 (h2.mono l) h3 h4 (k _ _ hI h5), ho _ _ hI h5 ⟨show Value.type "dict_itemiterator" ≠ Value.type "dict" by decide, show Value.type "dict_itemiterator" ≠ Value.type "list" by decide⟩⟩

theorem Good.offFr (G : Good w K mg mb X) (R : Rel w X φ st s₀ s) {b : Addr} (hb : Off X φ b) : b ∉ X.fr := fun q => by
  refine xEA (List.mem_filterMap.mp q) fun e he hf => ?_
  refine xAEA (G.around e he) fun z9 L h1 h2 => ?_
  rw [h1] at hf; cases hf
  rcases h2 with rfl | ⟨o, h3, _⟩
  . exact hb.lls R.lls.1
  . rw [hb.pr] at h3; cases h3
theorem prot_keeps (G : Good w K mg mb X) (R : Rel w X φ st s₀ s) (R' : Rel w (X.prot st.hp φ s.heap) ψ st' s₀ s') {b : Addr} {o : Obj} (hb : Off X φ b) (e : s.heap.get? b = some o) : s'.heap.get? b = some o := by
  refine R'.keep.exact (hideAll_get _ e fun q => ?_) (G.offFr R hb)
  rcases List.mem_cons.mp q with rfl | q
  . exact hb.lls R.lls.1
  . refine xEEAA (openA_mem q) fun n x h3 h4 h5 => ?_
    exact hb.phi (mem_of_get h3)
theorem prot_off (G : Good w K mg mb X) (R : Rel w X φ st s₀ s) (R' : Rel w (X.prot st.hp φ s.heap) ψ st' s₀ s') {b : Addr} {o : Obj} (hb : Off X φ b) (e : s.heap.get? b = some o) (hc : o.cls ≠ .type "dict" /\ o.cls ≠ .type "list") : Off X ψ b where
  phi := fun q => by
    obtain ⟨n, hn⟩ := List.getElem?_of_mem q
    have hlt : n < st'.hp.length := by refine rwB R'.len ?_; exact (List.getElem?_eq_some_iff.mp hn).1
    have hx := List.getElem?_eq_getElem hlt
    have hp : (X.prot st.hp φ s.heap).pr.get? b = some o := hideAll_get _ e fun q => by
      rcases List.mem_cons.mp q with rfl | q
      . exact hb.lls R.lls.1
      . refine xEEAA (openA_mem q) fun n x h3 h4 h5 => ?_
        exact hb.phi (mem_of_get h3)
    cases hf : (st'.hp[n]).isFro with
    | false => rw [R'.offp n b _ hn hx hf] at hp; cases hp
    | true =>
      refine xEEAA (R'.objs n _ hx) fun a ob h1 h2 h3 => ?_
      rw [hn] at h1; cases h1
      rw [prot_keeps G R R' hb e] at h2; cases h2
      cases hq : st'.hp[n] with
      | fro es =>
        rw [hq] at h3
        obtain ⟨kvs, ⟨es, ep, h4, _⟩, _⟩ := h3
        exact hc.1 h4.1
      | flist xs =>
        rw [hq] at h3
        refine xEEA (h3) fun vs k h4 z9 => ?_
        exact hc.2 (by exact rwE h4 rfl)
      | _ => rw [hq] at hf; cases hf
  lls := hb.lls
  pr := hb.pr
end
end Mine
end
section
open PySem PySem.W PyProof.Rows PySem.Calls
namespace Mine
theorem sub_ri_reversed : isSubtype (.type "range_iterator") (.type "reversed") = pure false := by refine rwE (isSubtype_type ..) ?_; kernel_rfl
section
variable {prog : Program} {w : World} {A : Around} {E : Value -> Shared -> Prop} {s : Shared}

theorem range_size (n : Int) (h0 : 0 <= n) : Builtin.Range.rangeSize 0 n 1 = n := by
  unfold Builtin.Range.rangeSize
  refine rwE (if_pos (by decide)) ?_
  split
  . lia
  . lia

theorem call_range_reversed {l : Addr} {n : Int} {t u v : Tok} {Q : Value -> Shared -> Prop} (hl : IsRange s.heap l 0 n 1 t u v) (h0 : 0 <= n) (h1 : n <= 1000)
    (h : Q (.ref s.heap.objs.size) { s with heap := s.heap.push { cls := .type "range_iterator", data := .fields #[rawInt (n - 1), rawInt n, rawInt (-1)] } }) : wpAny (model prog w) A (call (.builtin "range.__reversed__") [.ref l]) Q E s := by
  have hT : s.TypeIs (.ref l) "range" := ⟨_, hl, rfl⟩
  refine wpAny_call_entry F.slot_range_reversed hT F.entry_range_reversed ?_ (F.args_range_reversed_1 _)
  unfold Builtin.«range.__reversed__»
  refine wpAny_bind (wpAny_of_eq (a := Value.ref l) rfl ?_)
  refine wpAny_bind ?_
  unfold Builtin.Range.rangeFields
  refine wpAny_bind (wpAny_field hl rfl (x := .int 0 t) rfl (wpAny_bind (wpAny_of_eq (a := some 0) rfl ?_)))
  refine wpAny_bind (wpAny_field hl rfl (x := .int n u) rfl (wpAny_bind (wpAny_of_eq (a := some n) rfl ?_)))
  refine wpAny_bind (wpAny_field hl rfl (x := .int 1 v) rfl (wpAny_bind (wpAny_of_eq (a := some 1) rfl ?_)))
  refine wpAny_pure ?_
  dsimp only
  refine rwE (range_size n h0) ?_
  have hs : (Builtin.Range.rangeFitsLong 0 && Builtin.Range.rangeFitsLong n && Builtin.Range.rangeFitsLong 1 && Builtin.Range.rangeFitsLong (-1) && Builtin.Range.rangeFitsLong (0 - 1) && Builtin.Range.rangeFitsLong n) = true := by
    have : Builtin.Range.rangeFitsLong n = true := by unfold Builtin.Range.rangeFitsLong; simp; lia
    refine rwE this ?_; decide
  refine rwE hs ?_
  simp only [Bool.not_true, Bool.false_eq_true, if_false, if_true]
  refine rwE (show (0 : Int) + (n - 1) * 1 = n - 1 from by lia) ?_
  exact wpAny_bind (wpAny_newObj_type (wpAny_pure ⟨_, rfl, h⟩))

theorem call_reversed_range {l : Addr} {n : Int} {t u v : Tok} {Q : Value -> Shared -> Prop} (hl : IsRange s.heap l 0 n 1 t u v) (h0 : 0 <= n) (h1 : n <= 1000)
    (h : Q (.ref s.heap.objs.size) { s with heap := s.heap.push { cls := .type "range_iterator", data := .fields #[rawInt (n - 1), rawInt n, rawInt (-1)] } }) : wpAny (model prog w) A (call (.type "reversed") [.ref l]) Q E s := by
  have hT : s.TypeIs (.ref l) "range" := ⟨_, hl, rfl⟩
  refine callType_other (U := "range_iterator") (Q₁ := fun obj s₁ => obj = .ref s.heap.objs.size /\ s₁ = { s with heap := s.heap.push { cls := .type "range_iterator", data := .fields #[rawInt (n - 1), rawInt n, rawInt (-1)] } }) (by decide +kernel) F.create_reversed ⟨_, _, F.mro_reversed⟩ F.made_reversed sub_ri_reversed (F.typeCall_reversed_1 _) ?_ ?_
  . refine codeAny_of_tree ?_
    refine (?_ : wpAny _ _ (do checkBuiltinCall "reversed.__new__" ⟨[.type "reversed", .ref l], []⟩; again (.builtin "reversed.__new__" ⟨[.type "reversed", .ref l], []⟩)) _ _ s)
    refine wpAny_bind (wpAny_of_eq (F.newCall_reversed_1 _) (wpAny_pure ⟨plainId_quiet F.plain_reversed_new _, codeAny_builtin F.entry_reversed_new ?_⟩))
    refine rwE (Around.under_plainId F.plain_reversed_new _) ?_
    unfold Builtin.«reversed.__new__»
    refine wpAny_bind (wpAny_of_eq (newClass_reversed _) ?_)
    try dsimp only
    refine wpAny_bind (wpAny_of_eq (a := ()) (by first | rfl | kernel_rfl) ?_)
    refine wpAny_bind (wpAny_of_eq (a := ()) (by first | rfl | kernel_rfl) ?_)
    try dsimp only
    refine wpAny_bind (wpAny_specialOf hT F.slot_range_reversed.lookup ?_)
    try dsimp only
    refine wpAny_bind (wpAny_of_eq (F.slot_range_reversed.bind _) ?_)
    try dsimp only
    refine rwE (if_neg (show ¬ ((Value.builtin "range.__reversed__" == Value.none) = true) from Bool.false_ne_true)) ?_
    refine wpAny_bind (wpAny_rule ?_)
    refine wpAny_bind (m := runValue (.call (.builtin "range.__reversed__") ⟨[.ref l], []⟩)) (show wpAny _ _ (call (.builtin "range.__reversed__") [.ref l]) _ _ _ from call_range_reversed hl h0 h1 ?_)
    first
    | exact wpAny_pure ⟨rfl, rfl⟩
    | exact wpAny_bind (wpAny_pure (wpAny_pure ⟨rfl, rfl⟩))
  . rintro obj s₁ ⟨rfl, rfl⟩
    exact ⟨⟨_, Heap.get?_push_size _ rfl, rfl⟩, h⟩
end
end Mine
end
section
open PySem PySem.W PyProof.Rows PySem.Calls
namespace Mine

inductive SrcV (w : World) (X : Fx) (φ : List Addr) (st : St) (s : Shared) (src : Src) : Value -> Prop
  | list {n : Nat} {l : Addr} {xs : List AV} : src.kind = .list n -> φ[n]? = some l -> st.hp[n]? = some (.list xs) -> src.keep = some (n, .list xs) -> src.items = xs.map .one -> SrcV w X φ st s src (.ref l)
  | tup {n : Nat} {l : Addr} {xs : List AV} : src.kind = .tup n -> φ[n]? = some l -> st.hp[n]? = some (.tup xs) -> src.keep = some (n, .tup xs) -> src.items = xs.map .one -> SrcV w X φ st s src (.ref l)
  | str {y : Str} {t : Tok} : src.kind = .str y -> y.cps.all (· < 128) = true -> src.items = y.cps.toList.map (fun c => .one (.str ⟨#[c]⟩)) -> SrcV w X φ st s src (.str y t)
  | rng {a c b : Int} {r : Addr} {t u v : Tok} : src.kind = .rng a c -> (∀ j, j < src.items.length -> src.items[j]? = some (.one (.int (a + (j : Nat) * c)))) -> IsRange s.heap r a b c t u v -> Builtin.Range.small a b c = true -> Builtin.Range.rangeSize a b c = src.items.length -> SrcV w X φ st s src (.ref r)
  | rngi {a c : Int} {I : Addr} : src.kind = .rng a c -> (∀ j, j < src.items.length -> src.items[j]? = some (.one (.int (a + (j : Nat) * c)))) -> Off X φ I -> IsRangeIter s.heap I a src.items.length c -> SrcV w X φ st s src (.ref I)
  | enum {n : Nat} {e : Addr} : src.kind = .enum n -> Off X φ e -> ItAt w X φ s.heap e 0 src -> SrcV w X φ st s src (.ref e)
  | dkey {n : Nat} {d : Addr} {es : List (Str × AV)} : src.kind = .dkey n -> φ[n]? = some d -> st.hp[n]? = some (.dict es) -> src.items = es.map (fun p => .one (.str p.1)) -> SrcV w X φ st s src (.ref d)
  | dval {n : Nat} {v d : Addr} {es : List (Str × AV)} : src.kind = .dval n -> s.heap.IsValuesView v d -> φ[n]? = some d -> st.hp[n]? = some (.dict es) -> src.items = es.map (fun p => .one p.2) -> SrcV w X φ st s src (.ref v)
  | ditem {n : Nat} {v d : Addr} {es : List (Str × AV)} : src.kind = .ditem n -> s.heap.IsItemsView v d -> φ[n]? = some d -> st.hp[n]? = some (.dict es) -> src.items = es.map (fun p => .two (.str p.1) p.2) -> SrcV w X φ st s src (.ref v)

section
variable {w : World} {X Y : Fx} {φ ψ : List Addr} {st st' : St} {s₀ s s' : Shared} {K : Frag} {mg mb : Str -> Option Value} {E : Value -> Shared -> Prop} {I : Addr} {i : Nat} {src : Src}

theorem freeze_dict (G : Good w K mg mb X) (R : Rel w X φ st s₀ s) {n : Nat} {d : Addr} {es : List (Str × AV)} (hd : φ[n]? = some d) (hx : st.hp[n]? = some (.dict es)) :
    ∃ p kvs ep, Sub X.fr X.pr p /\ Good w K mg mb { X with pr := p } /\ Rel w { X with pr := p } φ ⟨froze n st.hp, st.lc⟩ s₀ s /\ d ∉ X.fr /\ DCs φ es kvs /\ p.DictAt (sk w) d kvs ep /\ s.heap.DictAt (sk w) d kvs ep /\ X.pr.get? d = none := by
  have RF := R.froze n
  have hpd : X.pr.get? d = none := R.offp n d _ hd hx rfl
  refine xEA (R.dict hx hd) fun kvs h1 h2 => ?_
  refine xEEEA (h1) fun o es' ep g1 g2 => ?_
  refine ⟨hideAll s.heap (X.env.locals :: openA (froze n st.hp) φ), kvs, ep, RF.sub_prot G.prL, G.prot RF, RF.prot, fun q => ?_, h2, ⟨o, es', hideAll_get _ g1 fun q => ?_, g2⟩, ⟨o, es', g1, g2⟩, hpd⟩
  . refine xEA (List.mem_filterMap.mp q) fun e he hf => ?_
    refine xAEA (G.around e he) fun z9 L u1 u2 => ?_
    rw [u1] at hf; cases hf
    rcases u2 with rfl | ⟨o, u3, _⟩
    . exact R.offL (mem_of_get hd) rfl
    . rw [hpd] at u3; cases u3
  . rcases List.mem_cons.mp q with q | q
    . exact R.offL (mem_of_get hd) q
    . refine xEEAA (openA_mem q) fun m y u1 u2 u3 => ?_
      have : m = n := nodup_get R.inj u1 hd
      subst this
      unfold froze at u2
      rw [hx] at u2
      simp only [List.getElem?_set] at u2
      rw [if_pos trivial] at u2
      split at u2
      . cases u2; cases u3
      . cases u2

theorem dkOf_none {k : SK} (e : src.kind = k) (h : (⟨k, [], none⟩ : Src).dict? = none) : src.dict? = none := by unfold Src.dict? at h ⊢; refine rwE e ?_; exact h
theorem dkOf_some {k : SK} {n : Nat} (e : src.kind = k) (h : (⟨k, [], none⟩ : Src).dict? = some n) : src.dict? = some n := by unfold Src.dict? at h ⊢; refine rwE e ?_; exact h
theorem freeze_some {n : Nat} {h : Hp} (e : src.dict? = some n) : freeze src h = froze n h := by unfold freeze; exact rwE e rfl
theorem only {n : Nat} {d : Addr} {P : Addr -> Prop} (e : src.dict? = some n) (h : φ[n]? = some d) (p : P d) : ∀ m a, src.dict? = some m -> φ[m]? = some a -> P a := fun m a q1 q2 => by
  rw [e] at q1; cases q1; rw [h] at q2; cases q2; exact p
theorem SrcV.iter (G : Good w K mg mb X) (R : Rel w X φ st s₀ s) {x : Value} (V : SrcV w X φ st s src x) {Q : Value -> Shared -> Prop}
    (h : ∀ I s' p, Sub X.fr X.pr p -> Good w K mg mb { X with pr := p } -> Rel w { X with pr := p } φ ⟨freeze src st.hp, st.lc⟩ s₀ s' -> Off { X with pr := p } φ I -> ItAt w { X with pr := p } φ s'.heap I 0 src -> (∀ n a, src.dict? = some n -> φ[n]? = some a -> X.pr.get? a = none) -> Q (.ref I) s') :
    wpAny (M w) X.A (pyIter x) Q E s := by
  have plain : src.dict? = none -> ∀ I s', Rel w X φ st s₀ s' -> Off X φ I -> ItAt w X φ s'.heap I 0 src -> Q (.ref I) s' := fun hn I s' h1 h2 h3 =>
    h I s' X.pr (fun b o e => ⟨o.slots, e, fun z9 => rfl⟩) G (by unfold freeze; refine rwE hn ?_; exact h1) h2 h3 fun n a hd => by rw [hn] at hd; cases hd
  have push : ∀ {ob : Obj}, ∀ b o, s.heap.get? b = some o -> (s.heap.push ob).get? b = some o := fun b o e => Heap.get?_push_of_some _ e
  cases V with
  | list hk h2 h1 h3 h4 => exact xEEA (R.list h1 h2) fun z9 z9 g1 z9 => wpAny_pyIter_list (isList_of g1) (plain (dkOf_none hk rfl) _ _ (R.ext push R.tok) R.offSize (.list hk h2 h3 h4 ⟨_, Heap.get?_push_size _ rfl, rfl, rfl⟩))
  | tup hk h2 h1 h3 h4 => exact xEEA (R.tup h1 h2) fun z9 z9 g1 z9 => wpAny_pyIter_tuple (isTuple_of g1) (plain (dkOf_none hk rfl) _ _ (R.ext push R.tok) R.offSize (.tup hk h2 h3 h4 ⟨_, Heap.get?_push_size _ rfl, rfl, rfl⟩))
  | str hk h1 h2 => exact wpAny_pyIter_ascii h1 (plain (dkOf_none hk rfl) _ _ (R.ext push R.tok) R.offSize (.str hk h2 ⟨_, Heap.get?_push_size _ rfl, rfl, rfl⟩))
  | @rng a c _ _ _ _ _ hk h1 h3 h4 h5 =>
    refine wpAny_pyIter_range h3 h4 (plain (dkOf_none hk rfl) _ _ (R.ext push R.tok) R.offSize (.rng hk h1 ?_))
    refine rwE h5 ?_
    refine (?_ : (s.heap.push _).get? _ = _)
    refine rwE (Heap.get?_push_size _ rfl) ?_
    lia
  | @rngi a c _ hk h1 h3 h4 =>
    refine wpAny_pyIter_rangeiter h4 (plain (dkOf_none hk rfl) _ _ R h3 (.rng hk h1 ?_))
    refine rwE (Int.natCast_zero ..) (rwE (Int.zero_mul ..) (rwE (Int.add_zero ..) (rwE (Int.sub_zero ..) ?_))); exact h4
  | enum hk h1 h2 =>
    have h2' := h2
    cases h2' with
    | enum _ _ _ _ g4 => exact wpAny_pyIter_enum g4 (plain (dkOf_none hk rfl) _ _ R h1 h2)
    | list q => cases hk.symm.trans q
    | tup q => cases hk.symm.trans q
    | str q => cases hk.symm.trans q
    | rng q => cases hk.symm.trans q
    | dkey q => cases hk.symm.trans q
    | dval q => cases hk.symm.trans q
    | ditem q => cases hk.symm.trans q
  | dkey hk h1 h2 h3 =>
    refine xEEEAAAAAAA (freeze_dict G R h1 h2) fun p kvs ep a1 a2 a3 a4 a5 a6 a7 a8 => ?_
    exact wpAny_pyIter_dict (R.notMods h1) a7 (h _ _ p a1 a2 (by refine rwE (freeze_some (dkOf_some hk rfl)) ?_; exact a3.ext push a3.tok) a3.offSize (.dkey hk a4 a5 a6 h3 ⟨_, Heap.get?_push_size _ rfl, rfl, rfl⟩) (only (dkOf_some hk rfl) h1 a8))
  | dval hk hv h1 h2 h3 =>
    refine xEEEAAAAAAA (freeze_dict G R h1 h2) fun p kvs ep a1 a2 a3 a4 a5 a6 a7 a8 => ?_
    exact wpAny_pyIter_values hv a7 (h _ _ p a1 a2 (by refine rwE (freeze_some (dkOf_some hk rfl)) ?_; exact a3.ext push a3.tok) a3.offSize (.dval hk a4 a5 a6 h3 ⟨_, Heap.get?_push_size _ rfl, rfl, rfl⟩) (only (dkOf_some hk rfl) h1 a8))
  | ditem hk hv h1 h2 h3 =>
    refine xEEEAAAAAAA (freeze_dict G R h1 h2) fun p kvs ep a1 a2 a3 a4 a5 a6 a7 a8 => ?_
    exact wpAny_pyIter_items hv a7 (h _ _ p a1 a2 (by refine rwE (freeze_some (dkOf_some hk rfl)) ?_; exact a3.ext push a3.tok) a3.offSize (.ditem hk a4 a5 a6 h3 (Heap.get?_push_size _ rfl)) (only (dkOf_some hk rfl) h1 a8))
end
end Mine
end
section
open PySem PySem.W PyProof.Rows PySem.Calls
namespace Mine
section
variable {w : World} {X Y : Fx} {φ ψ : List Addr} {st st' : St} {s₀ s s' : Shared} {K : Frag} {mg mb : Str -> Option Value} {E : Value -> Shared -> Prop} {I : Addr} {i : Nat} {src : Src}

theorem thaw_eq {n : Nat} (h : src.dict? = some n) (hp : Hp) : thaw src hp = thawed n hp := by
  unfold thaw; exact rwE h rfl
theorem thaw_none (h : src.dict? = none) (hp : Hp) : thaw src hp = hp := by
  unfold thaw; exact rwE h rfl
theorem Rel.back {p : Heap} (R' : Rel w { X with pr := p } ψ st' s₀ s') (S : Sub X.fr X.pr p) (l : Le φ ψ) (hlen : ∀ n, src.dict? = some n -> n < φ.length) (ht : ∀ n a, src.dict? = some n -> φ[n]? = some a -> X.pr.get? a = none) : Rel w X ψ ⟨thaw src st'.hp, st'.lc⟩ s₀ s' := by
  have R1 : Rel w X ψ st' s₀ s' := R'.unprot S rfl rfl rfl rfl
  cases q : src.dict? with
  | none => refine rwE (thaw_none q ..) ?_; exact R1
  | some n =>
    refine rwE (thaw_eq q ..) ?_
    refine R1.thawed n fun a ha => ?_
    have hn := List.getElem?_eq_getElem (hlen n q)
    have := l _ _ hn
    rw [ha] at this; cases this
    exact ht n _ q hn

theorem entry_itemiter_iter : entryFor table "dict_itemiterator.__iter__" = some Builtin.«dict_keyiterator.__iter__» :=
  entryFor_alias (id' := "dict_keyiterator.__iter__") (by kernel_rfl) (by first | rfl | decide +kernel) (by decide +kernel) (by kernel_rfl)
theorem pyIter_itemiter {d n ep : Nat} {ok ov : Value} (he : IsItemIter s.heap I d i n ep ok ov) {A : Around} {Q : Value -> Shared -> Prop} (h : Q (.ref I) s) : wpAny (M w) A (pyIter (.ref I)) Q E s := by
  have hT : s.TypeIs (.ref I) "dict_itemiterator" := ⟨_, he, rfl⟩
  refine wpAny_pyIter_slot hT F.slot_dict_itemiterator_iter (wpAny_call_entry F.slot_dict_itemiterator_iter hT entry_itemiter_iter ?_ (F.args_dict_itemiterator_iter_1 _))
  refine (?_ : wpAny _ _ (ret (.ref I)) _ _ s)
  exact wpAny_pure ⟨_, rfl, "dict_itemiterator", _, hT, F.slot_dict_itemiterator_next.lookup, h⟩

theorem ItAt.self (At : ItAt w X φ s.heap I i src) {A : Around} {Q : Value -> Shared -> Prop} (h : Q (.ref I) s) : wpAny (M w) A (pyIter (.ref I)) Q E s := by
  cases At with
  | list hkd h1 h2 h3 h4 => exact wpAny_pyIter_listiter h4 h
  | tup hkd h1 h2 h3 h4 => exact wpAny_pyIter_tupleiter h4 h
  | str hkd h1 h4 => exact wpAny_pyIter_striter_ascii h4 h
  | rng hkd h1 h4 => exact wpAny_pyIter_rangeiter h4 h
  | enum hkd g1 g2 g3 g4 g5 g6 g7 => exact wpAny_pyIter_enum g4 h
  | dkey hkd h1 h2 h3 h4 h5 => exact wpAny_pyIter_keyiter h5 h
  | dval hkd h1 h2 h3 h4 h5 => exact wpAny_pyIter_valiter h5 h
  | ditem hkd h1 h2 h3 h4 h5 => exact pyIter_itemiter h5 h

set_option tactic.hygienic true in
theorem srcOf_sound (R : Rel w X φ st s₀ s) {v : AV} {x : Value} (hv : VC φ v x) (e : srcOf v st.hp = some src) : SrcV w X φ st s src x /\ ∀ n, src.dict? = some n -> n < φ.length := by
  unfold srcOf at e
  split at e
  . split at e
    . rename_i y q
      cases e
      cases hv with | str _ t =>
      exact ⟨.str rfl q.2 rfl, fun n hn => by cases hn⟩
    . cases e
  . rename_i n
    cases hv with | obj hv =>
    split at e
    . rename_i xs hx
      split at e
      . cases e; exact ⟨.list rfl hv hx rfl rfl, fun n hn => by cases hn⟩
      . cases e
    . rename_i xs hx
      split at e
      . cases e; exact ⟨.tup rfl hv hx rfl rfl, fun n hn => by cases hn⟩
      . cases e
    . rename_i es hx
      split at e
      . cases e; exact ⟨.dkey rfl hv hx rfl, fun n hn => by cases hn; exact (List.getElem?_eq_some_iff.mp hv).1⟩
      . cases e
    . cases e
  . cases e

theorem upto_length (n : Nat) : (upto n).length = n := by simp [upto]
theorem upto_get (n j : Nat) (h : j < n) : (upto n)[j]? = some (.one (.int (j : Int))) := by simp [upto, h]
theorem upto_rev (n j : Nat) (h : j < n) : (upto n).reverse[j]? = some (.one (.int ((n : Int) - 1 + (j : Nat) * (-1)))) := by
  rw [List.getElem?_reverse (by refine rwE (upto_length ..) ?_; exact h), upto_length, upto_get _ _ (by omega)]
  congr 3
  omega

theorem range_sound (R : Rel w X φ st s₀ s) {k : Int} {t : Tok} (h0 : 0 <= k) (h1 : k <= 1000) {A : Around} {Q : Value -> Shared -> Prop}
    (h : ∀ r s', Rel w X φ st s₀ s' -> (∃ t u v, IsRange s'.heap r 0 k 1 t u v) -> SrcV w X φ st s' ⟨.rng 0 1, upto k.toNat, none⟩ (.ref r) -> Q (.ref r) s') : wpAny (M w) A (call (.type "range") [.int k t]) Q E s := by
  refine call_range_1 ?_
  have hr : IsRange (s.heap.push { cls := .type "range", data := .fields #[.int 0 s.toks, .int k t, .int 1 (s.toks + 1)] }) s.heap.objs.size 0 k 1 s.toks t (s.toks + 1) := Heap.get?_push_size _ rfl
  refine h _ _ (R.ext (fun z9 z9 e => Heap.get?_push_of_some _ e) (Nat.le_add_left ..)) ⟨_, _, _, hr⟩ (.rng rfl (fun j hj => ?_) hr ?_ ?_)
  . rw [show (⟨.rng 0 1, upto k.toNat, none⟩ : Src).items = upto k.toNat from rfl, upto_length] at hj
    refine (?_ : (upto k.toNat)[j]? = _)
    refine rwE (upto_get _ _ hj) ?_
    lia
  . unfold Builtin.Range.small; unfold Builtin.Range.rangeFitsLong; refine rwE (range_size k h0) ?_; simp; omega
  . refine (?_ : Builtin.Range.rangeSize 0 k 1 = ((upto k.toNat).length : Int))
    refine rwE (range_size k h0 ..) (rwE (upto_length ..) ?_); lia

theorem reversed_sound (R : Rel w X φ st s₀ s) {k : Int} {r : Addr} {t u v : Tok} (hr : IsRange s.heap r 0 k 1 t u v) (h0 : 0 <= k) (h1 : k <= 1000) {A : Around} {Q : Value -> Shared -> Prop}
    (h : ∀ x s', Rel w X φ st s₀ s' -> SrcV w X φ st s' ⟨.rng (k - 1) (-1), (upto k.toNat).reverse, none⟩ x -> Q x s') : wpAny (M w) A (call (.type "reversed") [.ref r]) Q E s := by
  refine call_reversed_range hr h0 h1 ?_
  refine h _ _ (R.ext (fun z9 z9 e => Heap.get?_push_of_some _ e) R.tok) (.rngi rfl (fun j hj => ?_) R.offSize ?_)
  . rw [show (⟨.rng (k - 1) (-1), (upto k.toNat).reverse, none⟩ : Src).items = (upto k.toNat).reverse from rfl, List.length_reverse, upto_length] at hj
    refine (?_ : (upto k.toNat).reverse[j]? = _)
    exact rwE (upto_rev _ _ hj) (rwE (show ((k.toNat : Nat) : Int) = k from by lia) rfl)
  . refine (?_ : (s.heap.push _).get? _ = _)
    refine rwE (Heap.get?_push_size _ rfl) ?_
    refine (?_ : some (⟨_, none, .fields #[rawInt (k - 1), rawInt k, rawInt (-1)], #[]⟩ : Obj) = some ⟨_, none, .fields #[rawInt (k - 1), rawInt (((upto k.toNat).reverse.length : Nat) : Int), rawInt (-1)], #[]⟩)
    exact rwE (List.length_reverse ..) (rwE (upto_length ..) (rwE (show ((k.toNat : Nat) : Int) = k from by lia) rfl))

theorem enumerate_sound (R : Rel w X φ st s₀ s) {n : Nat} {l : Addr} {xs : List AV} (hl : φ[n]? = some l) (hx : st.hp[n]? = some (.list xs)) {A : Around} {Q : Value -> Shared -> Prop}
    (h : ∀ x s', Rel w X φ st s₀ s' -> SrcV w X φ st s' ⟨.enum n, enumIts 0 xs, some (n, .list xs)⟩ x -> Q x s') : wpAny (M w) A (call (.type "enumerate") [.ref l]) Q E s := by
  refine xEEA (R.list hx hl) fun vs k g1 g2 => ?_
  refine call_enumerate_list (isList_of g1) fun h' a1 a2 a3 a4 => ?_
  have o1 : Off X φ s.heap.objs.size := R.offSize
  have o2 : Off X φ (s.heap.objs.size + 1) := R.offNew (Heap.get?_none_of_le (Nat.le_succ _))
  exact h _ _ (R.ext a4 R.tok) (.enum rfl o2 (.enum rfl hl rfl rfl a1 a2 (Nat.succ_ne_self _) o1))
end
end Mine
end
section
open PySem PySem.W PyProof.Rows PySem.Calls
namespace Mine
section
variable {w : World} {X Y : Fx} {φ ψ : List Addr} {st st' : St} {s₀ s s' : Shared} {K : Frag} {mg mb : Str -> Option Value} {E : Value -> Shared -> Prop} {I : Addr} {i : Nat} {src : Src} {env : Env} {A : Around} {Q : Value -> Shared -> Prop}

theorem views_sound (R : Rel w X φ st s₀ s) {n : Nat} {d : Addr} {es : List (Str × AV)} (hd : φ[n]? = some d) (hx : st.hp[n]? = some (.dict es)) :
    (∀ {Q : Value -> Shared -> Prop}, (∀ x s', Rel w X φ st s₀ s' -> SrcV w X φ st s' ⟨.ditem n, es.map fun p => .two (.str p.1) p.2, none⟩ x -> Q x s') -> wpAny (M w) A (call (.builtin "dict.items") [.ref d]) Q E s) /\
    (∀ {Q : Value -> Shared -> Prop}, (∀ x s', Rel w X φ st s₀ s' -> SrcV w X φ st s' ⟨.dval n, es.map fun p => .one p.2, none⟩ x -> Q x s') -> wpAny (M w) A (call (.builtin "dict.values") [.ref d]) Q E s) := by
  refine xEA (R.dict hx hd) fun kvs h1 h2 => ?_
  constructor
  . intro Q h
    refine call_meetsIn F.slot_dict_items h1.typeIs F.entry_dict_items (F.args_dict_items_1 _) (meets_dict_items (sk w) d (R.notMods hd)) ⟨⟨kvs, h1⟩, ?_⟩
    exact h _ _ (R.ext (fun z9 z9 e => Heap.get?_push_of_some _ e) R.tok) (.ditem rfl ⟨_, Heap.get?_push_size _ rfl, rfl, rfl⟩ hd hx rfl)
  . intro Q h
    refine call_meetsIn F.slot_dict_values h1.typeIs F.entry_dict_values (F.args_dict_values_1 _) (meets_dict_values (sk w) d (R.notMods hd)) ⟨⟨kvs, h1⟩, ?_⟩
    exact h _ _ (R.ext (fun z9 z9 e => Heap.get?_push_of_some _ e) R.tok) (.dval rfl ⟨_, Heap.get?_push_size _ rfl, rfl, rfl⟩ hd hx rfl)

theorem base_plain {o : Expr} {m : Str} (h : plainBase o = true) {t : Sem Value} : attributeBase o m env t = t := by
  cases o with
  | Call f as ks pos =>
    cases as with
    | nil => cases h
    | cons a r => cases f <;> rfl
  | _ => rfl
theorem base_of {o : Expr} {m : Str} {apos pos : Pos} {n : Nat} (h : methForm o apos pos n = true) {t : Sem Value} : attributeBase o m env t = t :=
  base_plain (Bool.and_eq_true_iff.mp (Bool.and_eq_true_iff.mp h).1).1
theorem methForm_line {o : Expr} {apos pos : Pos} {n : Nat} (h : methForm o apos pos n = true) : (apos.endLine == pos.line) = true /\ n < 20 := by
  unfold methForm at h
  simp only [Bool.and_eq_true, decide_eq_true_eq] at h
  exact ⟨h.1.2, h.2⟩

noncomputable def noStar : List Expr -> Bool
  | [] => true
  | .Starred _ _ :: _ => false
  | _ :: r => noStar r
theorem starEach_plain : ∀ {args : List Expr}, noStar args = true -> starEach args env = args.map fun e => (false, eval e env)
  | [], _ => rfl
  | e :: r, h => by
    cases e <;> first | (simp only [noStar] at h; cases h; done) | (simp only [starEach, List.map_cons]; exact rwE (starEach_plain (args := r) h) rfl)
theorem backTo_plain {pos : Pos} : ∀ (args : List Expr), backTo pos (args.map fun e => (false, eval e env)) = args.map fun e => (false, eval e env)
  | [] => rfl
  | e :: r => by
    refine (?_ : (false, eval e env) :: backTo pos (r.map fun e => (false, eval e env)) = _)
    refine rwE (backTo_plain r) ?_; rfl
theorem all_plain (args : List Expr) : ((args.map fun e => (false, eval e env)).all fun x => !x.1) = true := by simp
theorem any_plain (args : List Expr) : ((args.map fun e => (false, eval e env)).any fun x => x.1) = false := by simp

theorem method_call {o : Expr} {m : Str} {apos pos : Pos} {args : List Expr} (hf : methForm o apos pos args.length = true) (hs : noStar args = true)
    (h : wpAny (M w) A (eval o env) (fun ov s₁ => ∃ fv first, (∀ {Q' : Value × List Value -> Shared -> Prop} {pl}, Q' (fv, first) s₁ -> wpAny (M w) A (getMethod ov m pl) Q' E s₁) /\
      wpAny (M w) A (callWith pos fv first (args.map fun e => (false, eval e env)) []) Q E s₁) E s) :
    wpAny (M w) A (eval (.Call (.Attribute o m apos) args [] pos) env) Q E s := by
  refine rwE (arm_eval_Call ..) (rwE (base_of hf ..) ?_)
  refine wpAny_bind (wpAny_mono h (fun ov s₁ h₁ => ?_) fun z9 z9 e => e)
  refine xEEA (h₁) fun fv first g hc => ?_
  refine wpAny_bind (wpAny_standAt ?_)
  refine rwE (starEach_plain hs ..) (rwE (backTo_plain ..) ?_)
  have hform : methodCallForm (args.length + ([] : List Keyword).length) (args.map fun e => (false, eval e env)) (backToKw pos (keywordEach [] env)) = true := by
    unfold methodCallForm
    refine rwE (all_plain ..) ?_
    have := (methForm_line hf).2
    simp [backToKw, keywordEach]; exact Nat.lt_of_lt_of_le ‹_› (by decide)
  have hpos : methodCallPos true o env apos pos = pure pos := by unfold methodCallPos; simp [(methForm_line hf).1]
  unfold methodCall
  refine rwE hform ?_
  refine wpAny_bind (wpAny_holding ?_)
  unfold calleeOf
  refine rwE (if_pos rfl) ?_
  refine g ?_
  exact wpAny_bind (wpAny_of_eq hpos hc)

theorem args_plain {f : Value} {args : List Expr} {Q : Args -> Shared -> Prop} (h : wpAny (M w) A (spliced (args.map fun e => (false, eval e env))) (fun vs s' => Q ⟨vs, []⟩ s') E s) : wpAny (M w) A (evalArgs f true (args.map fun e => (false, eval e env)) []) Q E s := by
  cases args with
  | nil =>
    unfold evalArgs
    refine (?_ : wpAny (M w) A (spliced [] >>= _) Q E s)
    refine wpAny_bind (wpAny_mono h (fun vs s' h' => ?_) fun z9 z9 x => x)
    refine wpAny_bind (wpAny_pure ?_)
    refine wpAny_holding ?_
    exact wpAny_bind (wpAny_pure (wpAny_bind (wpAny_pure (wpAny_pure h'))))
  | cons e r => exact evalArgs_plain h
theorem call_built {pos : Pos} {id : String} {first : List Value} {args : List Expr} (h : wpAny (M w) A (spliced (args.map fun e => (false, eval e env))) (fun vs s₁ => wpAny (M w) A (call (.builtin id) (first ++ vs)) Q E s₁) E s) :
    wpAny (M w) A (callWith pos (.builtin id) first (args.map fun e => (false, eval e env)) []) Q E s := by
  exact callWith_builtin (any_plain args) (args_plain h)
theorem call_type {pos : Pos} {T : String} {args : List Expr} (h : wpAny (M w) A (spliced (args.map fun e => (false, eval e env))) (fun vs s₁ => wpAny (M w) A (call (.type T) vs) Q E s₁) E s) :
    wpAny (M w) A (callWith pos (.type T) [] (args.map fun e => (false, eval e env)) []) Q E s :=
  PySem.callWith_type (any_plain args) (args_plain h)
theorem call_fn {pos : Pos} {a : Addr} {o : Obj} {fd : FuncData} {first : List Value} {args : List Expr}
    (h : wpAny (M w) A (spliced (args.map fun e => (false, eval e env))) (fun vs s₁ => (s₁.heap.get? a = some o /\ o.data = .func fd) /\ wpAny (M w) A (call (.ref a) (first ++ vs)) Q E s₁) E s) :
    wpAny (M w) A (callWith pos (.ref a) first (args.map fun e => (false, eval e env)) []) Q E s :=
  callWith_function (args_plain h)
end
end Mine
end
section
open PySem PySem.W PyProof.Rows PySem.Calls
namespace Mine
section
variable {w : World} {X Y : Fx} {φ ψ : List Addr} {st st' : St} {s₀ s s' : Shared} {K : Frag} {mg mb : Str -> Option Value} {E : Value -> Shared -> Prop} {A : Around}

theorem zip_lookup : ∀ {names : List Str} {vs : List Value}, names.Nodup -> names.length <= vs.length -> names.filterMap (fun n => ((names.zip vs).lookup n).map (n, ·)) = names.zip vs
  | [], vs, _, _ => rfl
  | n :: r, [], _, h => by simp at h
  | n :: r, v :: vs, hn, h => by
    have hr := (List.nodup_cons.mp hn)
    simp only [List.zip_cons_cons, List.filterMap_cons]
    have e1 : List.lookup n ((n, v) :: r.zip vs) = some v := by simp
    refine rwE e1 ?_
    simp only [Option.map_some]
    congr 1
    have ih := zip_lookup (names := r) (vs := vs) hr.2 (by simpa using h)
    refine Eq.trans ?_ ih
    have key : ∀ l : List Str, (∀ m ∈ l, m ≠ n) -> l.filterMap (fun m => (((n, v) :: r.zip vs).lookup m).map (m, ·)) = l.filterMap (fun m => ((r.zip vs).lookup m).map (m, ·)) := fun l hl => by
      induction l with
      | nil => rfl
      | cons m l ih =>
        have : (m == n) = false := by simpa using hl m (.head _)
        have e2 : ((n, v) :: r.zip vs).lookup m = (r.zip vs).lookup m := by simp only [List.lookup, this]
        exact rwE List.filterMap_cons (rwE List.filterMap_cons (rwE e2 (rwE (ih fun k hk => hl k (.tail _ hk)) rfl)))
    exact key r fun m hm q => hr.1 (q ▸ hm)
theorem lookup_some : ∀ {names : List Str} {vs : List Value}, names.length <= vs.length -> ∀ n ∈ names, ((names.zip vs).lookup n).isNone = false
  | n :: r, [], h, m, hm => by simp at h
  | n :: r, v :: vs, h, m, hm => by
    dsimp only [List.zip_cons_cons, List.lookup]
    cases q : m == n with
    | true => rfl
    | false =>
      rcases List.mem_cons.mp hm with rfl | hm
      . simp at q
      . exact lookup_some (by simpa using h) m hm

theorem bind_sound {f : FuncData} {vs : List Value} {ds : Option (Array Value)} (h1 : f.params.posonlyargs = []) (h2 : f.params.kwonlyargs = []) (h3 : f.params.kwarg = none) (hn : (f.params.args.map (·.arg)).Nodup)
    (hd : ∀ {Q : Option (Array Value) -> Shared -> Prop}, Q ds s -> wpAny (M w) A (seqItems? f.defaults) Q E s) (hl : (f.params.args.map (·.arg)).length <= vs.length) (hv : f.params.vararg.isNone = true -> vs.length = (f.params.args.map (·.arg)).length)
    {Q : List (Str × Value) -> Shared -> Prop}
    (h : match f.params.vararg with
      | none => Q ((f.params.args.map (·.arg)).zip vs) s
      | some a => wpAny (M w) A (newTuple (vs.drop (f.params.args.map (·.arg)).length)) (fun t s' => Q ((f.params.args.map (·.arg)).zip vs ++ [(a.arg, t)]) s') E s) :
    wpAny (M w) A (bindArgs f ⟨vs, []⟩) Q E s := by
  unfold bindArgs
  simp only [h1, h2, h3, List.map_nil, List.nil_append, List.append_nil, List.forIn_nil, pure_bind]
  refine wpAny_bind (hd ?_)
  generalize hN : f.params.args.map (·.arg) = names at *
  have hmiss : ∀ l : List Str, (∀ n ∈ l, n ∈ names) -> l.filter (fun n => ((names.zip vs).lookup n).isNone) = [] := fun l hlm => by
    refine rwE (propext List.filter_eq_nil_iff) ?_
    intro n hn'
    refine rwE (lookup_some hl n (hlm n hn')) ?_
    exact Bool.false_ne_true
  have hc1 : ¬ ((decide (vs.length > names.length) && f.params.vararg.isNone) = true) := by
    intro q
    simp only [Bool.and_eq_true, decide_eq_true_eq] at q
    have := hv q.2
    lia
  refine rwE (if_neg hc1) (rwE (hmiss _ (fun n hn' => List.mem_of_mem_take hn')) ?_)
  simp only [List.isEmpty_nil, Bool.not_true, Bool.false_eq_true, if_false]
  refine wpAny_bind (wpAny_forIn_list _ (fun l c s' => c = names.zip vs /\ s' = s /\ ∀ x ∈ l, x.1 ∈ names) _ (fun x rest c s' hI => ?_) (fun c s' hI => ?_) _ _ ⟨rfl, rfl, fun x hx => ?_⟩)
  . (refine xAA (hI) fun hz0 hz1 hm => ?_; subst hz0; subst hz1)
    rw [if_neg (by refine rwE (lookup_some hl _ (hm x (.head _))) ?_; exact Bool.false_ne_true)]
    exact wpAny_pure ⟨rfl, rfl, fun y hy => hm y (.tail _ hy)⟩
  . (refine xAA (hI) fun hz0 hz1 z9 => ?_; subst hz0; subst hz1)
    refine rwE (zip_lookup hn hl) ?_
    cases hva : f.params.vararg with
    | none => rw [hva] at h; exact wpAny_pure h
    | some a =>
      rw [hva] at h
      exact wpAny_bind (wpAny_mono h (fun t s' ht => wpAny_pure ht) fun z9 z9 e => e)
  . exact List.mem_of_mem_drop (List.of_mem_zip hx).1
end
end Mine
end
section
open PySem PySem.W PyProof.Rows PySem.Calls
namespace Mine
section
variable {w : World} {X Y : Fx} {φ ψ : List Addr} {st st' : St} {s₀ s s' : Shared} {K : Frag} {mg mb : Str -> Option Value} {E : Value -> Shared -> Prop} {A : Around}

noncomputable def Fx.callee (X : Fx) (hp : Hp) (φ : List Addr) (h : Heap) (B : Around) (env : Env) (fe : FE) : Fx :=
  { pr := hideAll h (openA hp φ), gd := X.gd, fe := fe, env := env, A := B.deeper env, frames := env :: X.frames, lls := env.locals :: X.lls }

theorem Rel.sub_callee (R : Rel w X φ st s₀ s) : Sub X.fr X.pr (hideAll s.heap (openA st.hp φ)) := fun b o e => by
  refine xEA (R.keep b o e) fun sl h1 h2 => ?_
  refine ⟨sl, hideAll_get _ h1 fun q => ?_, h2⟩
  refine xEEAA (openA_mem q) fun n x h3 h4 h5 => ?_
  rw [R.offp n b x h3 h4 h5] at e; cases e

structure CallRoom (X : Fx) (B : Around) : Prop where
  hh : B.handled = none
  frm : B.frames = X.A.frames
  depth : B.depth <= X.A.depth + 1
  units : B.units <= X.A.units + 12

theorem Good.callee (G : Good w K mg mb X) (R : Rel w X φ st s₀ s) {B : Around} (hB : CallRoom X B) {env : Env} {fe : FE} (hL : s.heap.get? env.locals = none) (hk : env.scope.kind = .function) (hn : env.scope.names = fe.names) (hg : env.globals = mainGlobals) (hb : env.builtins = builtinsNs) (hf : env.frame = some env.locals)
    (hd : X.fe.dep = fe.dep + 1) : Good w K mg mb (X.callee st.hp φ s.heap B env fe) := by
  have S := R.sub_callee
  have hfr : (X.callee st.hp φ s.heap B env fe).fr = env.locals :: X.fr := by
    refine (?_ : (env :: X.frames).filterMap (·.frame) = _)
    refine rwE List.filterMap_cons (rwE hf ?_); rfl
  have hgd : ∀ b o, X.gd.get? b = some o -> s.heap.get? b = some o := R.gd G
  constructor
  . exact G.ground
  . intro b o e
    refine xEA (S b o (G.gdpr b o e)) fun sl h1 h2 => ?_
    rw [h2 (fun hb => by have e' : X.gd.get? b = some o := e; rw [G.gdfr b hb] at e'; cases e')] at h1
    exact h1
  . intro b hb'
    rw [hfr] at hb'
    rcases List.mem_cons.mp hb' with rfl | hb'
    . refine (?_ : X.gd.get? _ = none)
      cases q : X.gd.get? env.locals with
      | none => rfl
      | some o => rw [hgd _ _ q] at hL; cases hL
    . exact G.gdfr b hb'
  . exact hB.hh
  . refine (?_ : (B.deeper env).frames = _)
    simp only [Around.deeper, hB.frm, G.frm]; rfl
  . exact hk
  . exact hn
  . exact hg
  . exact hb
  . refine (?_ : (hideAll s.heap (openA st.hp φ)).get? env.locals = none)
    cases q : (hideAll s.heap (openA st.hp φ)).get? env.locals with
    | none => rfl
    | some o => rw [of_hideAll _ q] at hL; cases hL
  . refine (?_ : B.depth + 1 + 4 * fe.dep < recursionLimit)
    have := G.room; have := hB.depth; lia
  . refine (?_ : B.units + 3 + 16 * fe.dep + 128 < cLine)
    have := G.units; have := hB.units; lia
  . intro _
    exact ⟨X.frames, rfl, hf⟩
  . intro e he
    rcases List.mem_cons.mp he with rfl | he
    . exact ⟨by refine rwE hk ?_; decide, _, hf, .inl rfl⟩
    . refine xAEA (G.around e he) fun h1 L h2 h3 => ?_
      refine ⟨h1, L, h2, .inr ?_⟩
      rcases h3 with rfl | ⟨o, h4, es, ep, h5⟩
      . obtain ⟨m, ⟨o, es, ep, g1, g2, _⟩, _⟩ := R.loc
        refine ⟨o, hideAll_get _ g1 fun q => ?_, es, ep, g2⟩
        refine xEEAA (openA_mem q) fun n x u3 u4 u5 => ?_
        exact R.offL (mem_of_get u3) rfl
      . refine xEA (S L o h4) fun sl h6 z9 => ?_
        exact ⟨_, h6, es, ep, h5⟩
  . exact ⟨_, hf, by refine rwE hfr ?_; exact .head _⟩
  . intro b hb'
    rw [hfr] at hb'
    rcases List.mem_cons.mp hb' with rfl | hb'
    . exact .head _
    . exact .tail _ (G.frl b hb')

theorem Rel.callee (R : Rel w X φ st s₀ s) {B : Around} {env : Env} {fe : FE} {c : Value} (hL : env.locals = s.heap.objs.size) (hc : fe.cells = []) :
    Rel w (X.callee st.hp φ s.heap B env fe) φ ⟨st.hp, []⟩ s₀ { s with heap := s.heap.push { cls := c, data := .dict #[] } } where
  keep := fun b o e => ⟨o.slots, Heap.get?_push_of_some _ (of_hideAll _ e), fun z9 => rfl⟩
  loc := ⟨_, by refine (?_ : Heap.Ns _ env.locals _); refine rwE hL ?_; exact Heap.Ns.new s.heap c, fun x v e => by cases e⟩
  objs := fun n o e => let ⟨a, ob, h1, h2, h3⟩ := R.objs n o e; ⟨a, ob, h1, Heap.get?_push_of_some _ h2, h3⟩
  inj := R.inj
  len := R.len
  off := fun a ha => by
    refine xAA (R.off a ha) fun h1 h3 h4 => ?_
    refine ⟨fun q => ?_, some_keeps h3 fun b o e => Heap.get?_push_of_some _ e, h4⟩
    rcases List.mem_cons.mp q with q | q
    . rw [hL] at q
      rw [q, Heap.get?_none_of_le (Nat.le_refl _)] at h3; cases h3
    . exact h1 q
  offp := fun n a o h1 h2 h3 => hideAll_none _ (mem_openA h1 h2 h3)
  lls := ⟨.head _, fun L hL' => by
    rcases List.mem_cons.mp hL' with q | q
    . refine rwE q (rwE hL (rwE (Heap.get?_push_size _ rfl) ?_)); rfl
    . exact some_keeps (R.lls.2 L q) fun b o e => Heap.get?_push_of_some _ e⟩
  lowL := by refine (?_ : 1 < env.locals); refine rwE hL ?_; exact R.size
  cells := fun x k e => by
    have e' : fe.cells.lookup x = some k := e
    rw [hc] at e'; cases e'
  tok := R.tok
  gens := R.gens
  os := R.os
  drawn := R.drawn

theorem Rel.ret (R : Rel w X φ st s₀ s) {B : Around} {env : Env} {fe : FE} (hL : s.heap.get? env.locals = none) (hf : env.frame = some env.locals) (l : Le φ ψ) (R' : Rel w (X.callee st.hp φ s.heap B env fe) ψ st' s₀ s') : Rel w X ψ ⟨st'.hp, st.lc⟩ s₀ s' where
  keep := fun b o e => by
    refine xEA (R.sub_callee b o e) fun sl h1 h2 => ?_
    refine xEA (R'.keep b _ h1) fun sl' h3 h4 => ?_
    refine ⟨sl', h3, fun hb => (h4 fun q => ?_).trans (h2 hb)⟩
    refine xEA (List.mem_filterMap.mp q) fun e' he hf' => ?_
    rcases List.mem_cons.mp he with rfl | he
    . rw [hf] at hf'; cases hf'
      rw [of_hideAll _ h1] at hL; cases hL
    . exact hb (List.mem_filterMap.mpr ⟨e', he, hf'⟩)
  loc := by
    obtain ⟨m, ⟨o, es, ep, g1, g2, g3⟩, h2⟩ := R.loc
    have hp : (hideAll s.heap (openA st.hp φ)).get? X.env.locals = some o := hideAll_get _ g1 fun q => by
      refine xEEAA (openA_mem q) fun n x u3 u4 u5 => ?_
      exact R.offL (mem_of_get u3) rfl
    refine xEA (R'.keep _ _ hp) fun sl h3 z9 => ?_
    exact ⟨m, ⟨_, es, ep, h3, g2, g3⟩, fun x v e => let ⟨v', a1, a2⟩ := h2 x v e; ⟨v', a1, a2.mono l⟩⟩
  objs := R'.objs
  inj := R'.inj
  len := R'.len
  off := fun a ha => let ⟨h1, h3, h4⟩ := R'.off a ha; ⟨fun q => h1 (.tail _ q), h3, h4⟩
  offp := fun n a o h1 h2 h3 => by
    cases q : X.pr.get? a with
    | none => rfl
    | some x =>
      refine xEA (R.sub_callee a x q) fun sl h4 z9 => ?_
      have := R'.offp n a o h1 h2 h3
      have h5 : (hideAll s.heap (openA st.hp φ)).get? a = none := this
      rw [h5] at h4; cases h4
  lls := ⟨R.lls.1, fun L hL' => R'.lls.2 L (.tail _ hL')⟩
  lowL := R.lowL
  cells := fun x c e => let ⟨b, h1, h2⟩ := R.cells x c e; ⟨b, h1, l _ _ h2⟩
  tok := R'.tok
  gens := R'.gens
  os := R'.os
  drawn := R'.drawn
end
end Mine
end
section
open PySem PySem.W PyProof.Rows PySem.Calls
namespace Mine

noncomputable def Fx.cellsTo (X : Fx) (cs : List (Str × Nat)) (as : List (Str × Addr)) : Fx := { X with env := { X.env with cells := as }, fe := { X.fe with cells := cs } }

section
variable {w : World} {X Y : Fx} {φ ψ : List Addr} {st st' : St} {s₀ s s' : Shared} {K : Frag} {mg mb : Str -> Option Value} {E : Value -> Shared -> Prop} {A : Around}

theorem Rel.addCell {cs : List (Str × Nat)} {as : List (Str × Addr)} (R : Rel w (X.cellsTo cs as) φ st s₀ s) (x : Str) :
    Rel w (X.cellsTo ((x, st.hp.length) :: cs) ((x, s.heap.objs.size) :: as)) (φ ++ [s.heap.objs.size]) ⟨st.hp ++ [.cell none], st.lc⟩ s₀ { s with heap := s.heap.push { cls := .type "cell", data := .cell none } } := by
  have R1 := R.push (o := .cell none) (ob := { cls := .type "cell", data := .cell none }) (tk := s.toks) rfl ⟨none, rfl, trivial⟩ R.tok
  exact { R1 with
    cells := fun y c e => by
      have e' : ((x, st.hp.length) :: cs).lookup y = some c := e
      refine (?_ : ∃ a, ((x, s.heap.objs.size) :: as).lookup y = some a /\ _)
      simp only [List.lookup] at e' ⊢
      cases q : y == x with
      | true => rw [q] at e'; cases e'; exact ⟨_, rfl, by refine rwB R.len ?_; exact get_last⟩
      | false =>
        rw [q] at e'
        refine xEA (R.cells y c e') fun a h1 h2 => ?_
        exact ⟨a, h1, get_snoc h2⟩ }

theorem cells_sound : ∀ (names : List (Str × NameKind)) {cs : List (Str × Nat)} {as : List (Str × Addr)} {φ : List Addr} {st : St} {s : Shared}, Rel w (X.cellsTo cs as) φ st s₀ s -> ∀ {Q : List (Str × Addr) -> Shared -> Prop},
    (∀ as' φ' s', Le φ φ' -> Rel w (X.cellsTo (newCells names st.hp cs).2 as') φ' ⟨(newCells names st.hp cs).1, st.lc⟩ s₀ s' -> Q as' s') ->
    wpAny (M w) A (forIn names as fun x r => match x with | (name, kind) => if (kind == NameKind.cell) = true then (do let a ← alloc { cls := .type "cell", data := .cell none }; pure (ForInStep.yield ((name, a) :: r))) else pure (ForInStep.yield r)) Q E s
  | [], cs, as, φ, st, s, R, Q, h => by
    refine rwE List.forIn_nil ?_
    exact wpAny_pure (h as φ s (Le.refl _) R)
  | (n, k) :: r, cs, as, φ, st, s, R, Q, h => by
    refine rwE (List.forIn_cons ..) ?_
    refine wpAny_bind ?_
    cases hk : k == NameKind.cell with
    | true =>
      have : k = .cell := by simpa using hk
      subst this
      simp only [hk, if_true]
      refine wpAny_bind (wpAny_alloc (wpAny_pure ?_))
      exact cells_sound r (R.addCell n) fun as' φ' s' l R' => h as' φ' s' (Le.trans (fun z9 z9 => get_snoc) l) R'
    | false =>
      simp only [hk, Bool.false_eq_true, if_false]
      refine wpAny_pure ?_
      have e : newCells ((n, k) :: r) st.hp cs = newCells r st.hp cs := by cases k <;> first | rfl | (simp at hk)
      rw [e] at h
      exact cells_sound r R h

inductive BCs (φ : List Addr) : List (Str × AV) -> List (Str × Value) -> Prop where
  | nil : BCs φ [] []
  | cons {k : Str} {a : AV} {v : Value} {as : List (Str × AV)} {vs : List (Str × Value)} : VC φ a v -> BCs φ as vs -> BCs φ ((k, a) :: as) ((k, v) :: vs)
theorem BCs.mono (h : Le φ ψ) {a : List (Str × AV)} {v : List (Str × Value)} (x : BCs φ a v) : BCs ψ a v := by
  induction x with
  | nil => exact .nil
  | cons y _ ih => exact .cons (y.mono h) ih
theorem BCs.zip : ∀ {names : List Str} {as : List AV} {vs : List Value}, VCs φ as vs -> BCs φ (names.zip as) (names.zip vs)
  | [], _, _, _ => .nil
  | _ :: _, _, _, .nil => .nil
  | _ :: _, _, _, .cons h t => .cons h (BCs.zip t)
theorem BCs.append {a b : List (Str × AV)} {v u : List (Str × Value)} (x : BCs φ a v) (y : BCs φ b u) : BCs φ (a ++ b) (v ++ u) := by
  induction x with
  | nil => exact y
  | cons h _ ih => exact .cons h ih
set_option tactic.hygienic true in
theorem putName_any (hkd : X.env.scope.kind = .function) (hnm : X.env.scope.names = X.fe.names) (prL : X.pr.get? X.env.locals = none) (R : Rel w X φ st s₀ s) {x : Str} {v : AV} {v' : Value} {st' : St} (hv : VC φ v v') (e : putName X.fe x v st = some st') {Q : Unit -> Shared -> Prop} (h : ∀ s', Rel w X φ st' s₀ s' -> Q () s') :
    wpAny (M w) A (storeName X.env x v') Q E s := by
  have hk : ∀ k, X.fe.names.lookup x = some k -> X.env.kindOf x = some k := fun k q => by unfold Env.kindOf; refine rwE hnm ?_; exact q
  unfold putName at e
  split at e
  . rename_i q
    cases e
    refine xEA (R.loc) fun m h1 h2 => ?_
    refine wpAny_storeName_local (hk _ q) h1 (fun h' hn hs => h _ ?_) (by refine rwE hkd ?_; rfl)
    refine R.setLoc prL hv (fun m' hm' => ?_) hs (Nat.le_add_left ..)
    refine xEEEAAA (h1) fun o1 es1 ep1 a1 a2 a3 a4 => ?_
    refine xEEEAAA (hm') fun o2 es2 ep2 b1 b2 b3 b4 => ?_
    rw [a1] at b1; cases b1
    rw [a2] at b2; cases b2
    have : m = m' := funext fun n => (a4 n).symm.trans (b4 n)
    refine rwB this ?_; exact hn
  . rename_i q
    split at e
    . rename_i c hc
      refine xEA (R.cells _ _ hc) fun a h1 h2 => ?_
      split at e
      . rename_i v0 ho
        cases e
        refine xEEAAEA (R.objs _ _ ho) fun b ob h3 h4 v1 h5 h6 => ?_
        rw [h2] at h3; cases h3
        refine wpAny_storeName_cell hkd (hk _ q) h1 ⟨ob, h4, h5⟩ fun h' hc' hs => ?_
        refine xEA (hc') fun ob' h7 h8 => ?_
        exact h _ (R.upd ho rfl h2 hs.extBut h7 ⟨_, h8, hv⟩ R.tok)
      . cases e
    . cases e
  . cases e
theorem binds_sound (hkd : X.env.scope.kind = .function) (hnm : X.env.scope.names = X.fe.names) (prL : X.pr.get? X.env.locals = none) {binds : List (Str × AV)} {vs : List (Str × Value)} (b : BCs φ binds vs) : ∀ {st st' : St} {s : Shared}, Rel w X φ st s₀ s -> bindAll X.fe binds st = some st' -> ∀ {Q : Unit -> Shared -> Prop}, (∀ s', Rel w X φ st' s₀ s' -> Q () s') ->
    wpAny (M w) A (forIn vs () fun x z9 => match x with | (name, v) => (do storeName X.env name v; pure (ForInStep.yield ()))) (fun z9 s' => Q () s') E s := by
  induction b with
  | nil =>
    intro st st' s R e Q h
    cases e
    rw [List.forIn_nil]
    exact wpAny_pure (h s R)
  | cons hv _ ih =>
    intro st st' s R e Q h
    rw [List.forIn_cons]
    refine wpAny_bind ?_
    refine xEA (Option.bind_eq_some_iff.mp e) fun st1 e1 e2 => ?_
    exact wpAny_bind (putName_any hkd hnm prL R hv e1 fun s1 R1 => wpAny_pure (ih R1 e2 h))
end
end Mine
end
section
open PySem PySem.W PyProof.Rows PySem.Calls
namespace Mine

structure FnAt (K : Frag) (a : Addr) (fd : FD) : Prop where
  ex : ∃ (o : Obj) (f : FuncData) (c : Addr) (oc : Obj) (vs : Array Value) (t : Tok), K.lookup a = some o /\ o.data = .func f /\ f.params = fd.params /\ f.body = .stmts fd.body /\ f.scope = fd.scope /\ f.globals = mainGlobals /\ f.closure = [] /\ f.builtins = builtinsNs /\
    f.code = .ref c /\ K.lookup c = some oc /\ oc.data = .fields vs /\ vs[1]? = some (.str f.qualname t) /\ (f.defaults = .none ∨ ∃ (T : Addr) (ot : Obj) (its : Array Value) (n : Nat), f.defaults = .ref T /\ K.lookup T = some ot /\ ot.data = .seq its n)
  co : fd.scope.isCoroutine = false
  gen : fd.scope.isGenerator = false
  kind : fd.scope.kind = .function
  pos : fd.params.posonlyargs = []
  kwo : fd.params.kwonlyargs = []
  kwa : fd.params.kwarg = none
  nod : (fd.params.args.map (·.arg)).Nodup

noncomputable def FlC (φ : List Addr) : Fl -> Flow -> Prop
  | .next, .next => True
  | .brk, .brk => True
  | .cont, .cont => True
  | .ret v, .ret v' => VC φ v v'
  | _, _ => False

noncomputable def Runs (w : World) (K : Frag) (mg mb : Str -> Option Value) (fe : FE) (ss : List Stmt) (st : St) (P : Fl -> St -> Prop) : Prop :=
  ∀ {Y : Fx} {ψ : List Addr} {s₀ s : Shared} {E : Value -> Shared -> Prop} {Q : Flow -> Shared -> Prop}, Good w K mg mb Y -> Y.fe = fe -> Rel w Y ψ st s₀ s ->
    (∀ {f st' ψ' fl s'}, P f st' -> Le ψ ψ' -> FlC ψ' f fl -> Rel w Y ψ' st' s₀ s' -> Q fl s') -> wpAny (M w) Y.A (execs ss Y.env) Q E s
noncomputable def retP (P : AV -> Hp -> Prop) (f : Fl) (st : St) : Prop := match f with
  | .ret v => P v st.hp
  | .next => P .none st.hp
  | _ => False

section
variable {w : World} {X Y : Fx} {φ ψ : List Addr} {st st' : St} {s₀ s s' : Shared} {K : Frag} {mg mb : Str -> Option Value} {E : Value -> Shared -> Prop} {A : Around}

theorem CallRoom.in1 {B : Around} (h : CallRoom X B) (hu : B.in1.units <= X.A.units + 12) : CallRoom X B.in1 := ⟨h.hh, h.frm, h.depth, hu⟩

noncomputable def bindOf (fd : FD) (vs : List AV) (h : Hp) : Option (List (Str × AV) × Hp) := match fd.params.vararg with
  | none => if vs.length = (fd.params.args.map (·.arg)).length then some ((fd.params.args.map (·.arg)).zip vs, h) else none
  | some a => if (fd.params.args.map (·.arg)).length <= vs.length /\ vs.length <= 1000 then some ((fd.params.args.map (·.arg)).zip (vs.take (fd.params.args.map (·.arg)).length) ++ [(a.arg, AV.obj h.length)], h ++ [.tup (vs.drop (fd.params.args.map (·.arg)).length)]) else none
set_option tactic.hygienic true in
theorem call_sound (G : Good w K mg mb X) (R : Rel w X φ st s₀ s) {a : Addr} {fd : FD} (F : FnAt K a fd) {B : Around} (hB : CallRoom X B) (hB1 : B.in1.units <= X.A.units + 12) {args : List AV} {vs : List Value} (hv : VCs φ args vs) {d : Nat} (hd : X.fe.dep = d + 1) {binds : List (Str × AV)} {h1 : Hp} {st1 : St} {P : AV -> Hp -> Prop}
    (e1 : bindOf fd args st.hp = some (binds, h1)) (e2 : bindAll ⟨fd.scope.names, (newCells fd.scope.names h1 []).2, d, true⟩ binds ⟨(newCells fd.scope.names h1 []).1, []⟩ = some st1) (body : Runs w K mg mb ⟨fd.scope.names, (newCells fd.scope.names h1 []).2, d, true⟩ fd.body st1 (retP P))
    {Q : Result -> Shared -> Prop} (h : ∀ {r hp φ' v s'}, P r hp -> Le φ φ' -> VC φ' r v -> Rel w X φ' ⟨hp, st.lc⟩ s₀ s' -> Q (.ok (.ret v)) s') : codeAny (M w) B (.call (.ref a) ⟨vs, []⟩) Q s := by
  refine xEEEEEEAAAAAAAAAAAA (F.ex) fun o fn c oc cvs t f1 f2 f3 f4 f5 f6 f7 f8 f9 f10 f11 f12 f13 => ?_
  have X₀ := (R.ground G).inK
  have gr := R.ground G
  have hdep : B.depth < recursionLimit := by have := G.room; have := hB.depth; rw [hd] at *; lia
  refine codeAny_call_function hdep (X₀ _ _ f1) f2 (by refine rwE f5 ?_; exact F.co) (by refine rwE f5 ?_; exact F.gen) f4 ⟨c, oc, cvs, t, f9, X₀ _ _ f10, f11, f12⟩ ?_
  have hdef : ∃ ds, ∀ {E : Value -> Shared -> Prop} {Q : Option (Array Value) -> Shared -> Prop}, Q ds s -> wpAny (M w) B.in1 (seqItems? fn.defaults) Q E s := by
    rcases f13 with q | ⟨T, ot, its, k, q1, q2, q3⟩
    . exact ⟨none, fun hq => by refine rwE q ?_; exact wpAny_pure hq⟩
    . exact ⟨some its, fun hq => by refine rwE q1 ?_; exact wpAny_seqItems (X₀ _ _ q2) q3 hq⟩
  obtain ⟨ds, hds⟩ := hdef
  have bound : ∀ {E : Value -> Shared -> Prop}, wpAny (M w) B.in1 (bindArgs fn ⟨vs, []⟩) (fun bv s1 => ∃ φ1, Le φ φ1 /\ Rel w X φ1 ⟨h1, st.lc⟩ s₀ s1 /\ BCs φ1 binds bv) E s := fun {E} => by
    unfold bindOf at e1
    refine bind_sound (ds := ds) (by refine rwE f3 ?_; exact F.pos) (by refine rwE f3 ?_; exact F.kwo) (by refine rwE f3 ?_; exact F.kwa) (by refine rwE f3 ?_; exact F.nod) hds ?_ ?_ ?_
    . refine rwE f3 (rwE hv.length ?_)
      split at e1
      . split at e1
        . exact Nat.le_of_eq (Eq.symm ‹_›)
        . cases e1
      . split at e1
        . rename_i q; exact q.1
        . cases e1
    . refine rwE f3 (rwE hv.length ?_)
      intro q
      split at e1
      . split at e1
        . assumption
        . cases e1
      . rename_i q'; rw [q'] at q; cases q
    . refine rwE f3 ?_
      split at e1
      . rename_i q
        (try refine rwE q ?_)
        (try dsimp only)
        split at e1
        . cases e1; exact ⟨φ, Le.refl _, R, BCs.zip hv⟩
        . cases e1
      . rename_i va q
        (try refine rwE q ?_)
        (try dsimp only)
        split at e1
        . rename_i q2
          cases e1
          refine wpAny_newTuple ?_ (by refine rwE List.length_drop (rwE hv.length (rwE sizeLine_eq ?_)); lia)
          refine ⟨_, fun _ _ => get_snoc, R.push rfl ⟨_, 0, rfl, (hv.drop _).mono fun _ _ => get_snoc⟩ R.tok, ?_⟩
          refine BCs.append ?_ (.cons (.obj (by refine rwB R.len ?_; exact get_last)) .nil)
          have := BCs.zip (names := fd.params.args.map (·.arg)) ((hv.take (fd.params.args.map (·.arg)).length).mono (ψ := φ ++ [s.heap.objs.size]) fun _ _ => get_snoc)
          have ez : ∀ (ns : List Str) (us : List Value), ns.zip (us.take ns.length) = ns.zip us := fun ns => by
            induction ns with
            | nil => intro us; rfl
            | cons n ns ih => intro us; cases us with | nil => rfl | cons u us => simp [ih]
          rw [ez] at this
          exact this
        . cases e1
  refine wpAny_mono bound (fun bv s1 hb => ?_) fun _ _ x => x
  refine xEAA (hb) fun φ1 l1 R1 hbc => ?_
  have G1 : Good w K mg mb X := G
  unfold newFunctionEnv
  dsimp only
  refine wpAny_bind (wpAny_alloc ?_)
  let env0 : Env := { scope := fn.scope, locals := s1.heap.objs.size, globals := fn.globals, cells := [], qual := fn.qualname ++ ".<locals>.", func := some a, code := fn.code, frame := some s1.heap.objs.size, builtins := fn.builtins }
  let fe0 : FE := ⟨fd.scope.names, [], d, true⟩
  have hLn : s1.heap.get? s1.heap.objs.size = none := Heap.get?_none_of_le (Nat.le_refl _)
  have RC : Rel w ((X.callee h1 φ1 s1.heap B env0 fe0).cellsTo [] []) φ1 ⟨h1, []⟩ s₀ { s1 with heap := s1.heap.push { cls := .type "frame", data := .dict #[] } } := R1.callee (B := B) (env := env0) (fe := fe0) rfl rfl
  refine rwE f7 ?_
  refine wpAny_bind ?_
  refine wpAny_mono (cells_sound (A := B.in1) fn.scope.names RC (Q := fun as' s' => ∃ φ', Le φ1 φ' /\ Rel w ((X.callee h1 φ1 s1.heap B env0 fe0).cellsTo (newCells fn.scope.names h1 []).2 as') φ' ⟨(newCells fn.scope.names h1 []).1, []⟩ s₀ s') fun as' φ' s' l R' => ⟨φ', l, R'⟩) (fun as' s2 hq => ?_) fun _ _ x => x
  refine xEA (hq) fun φ2 l2 R2 => ?_
  rw [f5] at R2
  let env1 : Env := { env0 with cells := as' }
  let fe1 : FE := ⟨fd.scope.names, (newCells fd.scope.names h1 []).2, d, true⟩
  have R3 : Rel w (X.callee h1 φ1 s1.heap B env1 fe1) φ2 ⟨(newCells fd.scope.names h1 []).1, []⟩ s₀ s2 := { R2 with }
  have GY : Good w K mg mb (X.callee h1 φ1 s1.heap B env1 fe1) := G.callee R1 hB hLn (by refine (?_ : fn.scope.kind = _); refine rwE f5 ?_; exact F.kind) (by refine (?_ : fn.scope.names = _); exact rwE f5 rfl) f6 f8 rfl hd
  refine wpAny_bind ?_
  refine wpAny_mono (binds_sound (A := B.in1) GY.kind GY.names GY.prL (hbc.mono l2) R3 e2 (Q := fun _ s' => Rel w (X.callee h1 φ1 s1.heap B env1 fe1) φ2 st1 s₀ s') fun s' R' => R') (fun _ s3 R4 => ?_) fun _ _ x => x
  refine wpAny_pure ⟨(R4.ground GY).lim, codeAny_func ?_⟩
  refine body GY rfl R4 fun {f st2 ψ fl s4} hP l4 hfc R5 => ?_
  have R6 := R1.ret (B := B) (env := env1) (fe := fe1) hLn rfl (l2.trans l4) R5
  cases f <;> cases fl <;> first | exact hP.elim | exact hfc.elim | skip
  . exact h hP ((l1.trans l2).trans l4) .none R6
  . exact h hP ((l1.trans l2).trans l4) hfc R6
end
end Mine
end
section
open PySem PySem.W PyProof.Rows PySem.Calls
namespace Mine

structure KMeth (K : Frag) : Prop where
  meth : ∀ m a, methAt m = some a -> findIn K (.ref 188) m = some (some (.ref a)) /\ typeIn K (.ref a) = some (.type "function")

section
variable {w : World} {X Y : Fx} {φ ψ : List Addr} {st st' : St} {s₀ s s' : Shared} {K : Frag} {mg mb : Str -> Option Value} {E : Value -> Shared -> Prop} {A : Around}

theorem getMethod_inst (KA : KAttr K) (KM : KMeth K) (X₀ : K.In s.heap) {x dx : Addr} {es : List DictEntry} {n : Nat} (hx : s.heap.get? x = some (instObj 188 dx)) (hd : s.heap.get? dx = some (dictOf es n)) {name : Str} {a : Addr} (hm : methAt name = some a) (hv : W.getL name es = some none) {pl : Sem Bool} {Q : Value × List Value -> Shared -> Prop}
    (h : Q (.ref a, [.ref x]) s) : wpAny (M w) A (getMethod (.ref x) name pl) Q E s := by
  have I : W.InstAt s.heap x (instObj 188 dx) 188 (some (dictOf es n)) := ⟨hx, rfl, rfl, hd⟩
  have g := plainGet_of (name := "") KA.get
  obtain ⟨m1, m2⟩ := KM.meth _ _ hm
  have T : Looks (M w) s.heap (typeOf (.ref x)) (.ref 188) := I.type
  have S : ∀ {nm : Str} {r : Option Value}, findIn K (.ref 188) nm = some r -> Looks (M w) s.heap (specialOf (.ref x) nm) r := fun e => T.andThen (looks_findIn X₀ e)
  unfold getMethod
  refine wpAny_bind ((S g.1).here ?_)
  dsimp only
  refine rwE (if_neg (by decide +kernel)) ?_
  refine wpAny_bind ((S g.2).here ?_)
  simp only [Option.isSome_none, Bool.false_eq_true, if_false]
  refine wpAny_bind ((S m1).here ?_)
  dsimp only
  refine wpAny_bind ((looks_typeIn X₀ m2).here ?_)
  refine rwE (if_neg (by decide)) ?_
  refine wpAny_bind (wpAny_loadPart hx ?_)
  refine (?_ : wpAny _ _ (nsGet dx name >>= _) _ _ _)
  refine wpAny_bind ?_
  unfold nsGet
  refine wpAny_bind (wpAny_loadPart hd ?_)
  refine rwE (nsLook_of (show lookIn name (dictOf es n) = some none from hv)) ?_
  refine wpAny_pure ?_
  simp only [Option.isSome_none, Bool.false_eq_true, if_false]
  exact wpAny_bind (wpAny_rule (wpAny_pure h))

theorem RFn.at (R : Rel w X φ st s₀ s) {ov : AV} {v : Value} {m : Str} {a : Nat} (hv : VC φ ov v) (e : RFn st.hp ov m a) : ∃ x dx ents k, v = .ref x /\ s.heap.get? x = some (instObj 188 dx) /\ s.heap.get? dx = some (dictOf ents k) /\ methAt m = some a /\ W.getL m ents = some none := by
  cases e with | mk hx hd hn hm =>
  refine VC.objE hv fun x ho => xEA (R.inst hx ho) fun dx h1 h2 => xEEA (R.attrs hd h2) fun ents k h3 h4 => xAEA (h4.getL m) fun z9 r g1 g2 => ⟨x, dx, ents, k, rfl, h1, h3, hm, ?_⟩
  rw [hn] at g2
  cases r with
  | some _ => exact g2.elim
  | none => exact g1
theorem recv_fn (KA : KAttr K) (KM : KMeth K) (G : Good w K mg mb X) (R : Rel w X φ st s₀ s) {ov : AV} {v : Value} {m : Str} {a : Nat} (hv : VC φ ov v) (e : RFn st.hp ov m a) {pl : Sem Bool} {Q : Value × List Value -> Shared -> Prop} (h : Q (.ref a, [v]) s) :
    wpAny (M w) A (getMethod v m pl) Q E s := by
  obtain ⟨x, dx, ents, k, rfl, h1, h2, h3, h4⟩ := e.at R hv
  exact getMethod_inst KA KM (R.ground G).inK h1 h2 h3 h4 h
end
end Mine
end
section
open PySem PySem.W PyProof.Rows PySem.Calls
namespace Mine

structure KMake (K : Frag) : Prop where
  s1 : makesIn K 188 = true
  s2 : findIn K (.ref 188) "__init__" = some (some (.ref 124))
  s3 : typeIn K (.ref 124) = some (.type "function")
  n1 : makesIn K 91 = true
  n2 : findIn K (.ref 91) "__init__" = some (some (.ref 87))
  n3 : typeIn K (.ref 87) = some (.type "function")

section
variable {w : World} {X Y : Fx} {φ ψ : List Addr} {st st' : St} {s₀ s s' : Shared} {K : Frag} {mg mb : Str -> Option Value} {E : Value -> Shared -> Prop} {A : Around}

theorem room_typeCall (hh : X.A.handled = none) (C : Addr) (rest : List Value) : CallRoom X (X.A.under (.builtin "type.__call__" ⟨.ref C :: rest, []⟩)) /\ (X.A.under (.builtin "type.__call__" ⟨.ref C :: rest, []⟩)).in1.units <= X.A.units + 12 := by
  have h1 : (Code.builtin "type.__call__" ⟨.ref C :: rest, []⟩).weight = 1 := rfl
  have h2 : (Code.builtin "type.__call__" ⟨.ref C :: rest, []⟩).envs = [] := rfl
  have h3 : (Code.builtin "type.__call__" ⟨.ref C :: rest, []⟩).cUnits <= 2 := by
    have : (Code.builtin "type.__call__" ⟨.ref C :: rest, []⟩).cUnits = 1 ∨ (Code.builtin "type.__call__" ⟨.ref C :: rest, []⟩).cUnits = 2 ∨ (Code.builtin "type.__call__" ⟨.ref C :: rest, []⟩).cUnits = 0 := by first | exact .inl rfl | exact .inr (.inl rfl) | exact .inr (.inr rfl)
    exact Nat.succ_pos _
  refine ⟨⟨hh, ?_, ?_, ?_⟩, ?_⟩
  . refine (?_ : pushEnvs (Code.builtin "type.__call__" ⟨.ref C :: rest, []⟩).envs X.A.frames = _)
    refine rwE h2 ?_; cases X.A.frames <;> rfl
  . refine (?_ : X.A.depth + (Code.builtin "type.__call__" ⟨.ref C :: rest, []⟩).weight <= _)
    refine rwE h1 ?_; exact Nat.le_refl _
  . refine (?_ : X.A.units + (Code.builtin "type.__call__" ⟨.ref C :: rest, []⟩).cUnits <= _)
    exact Nat.lt_add_of_pos_right (by decide)
  . refine (?_ : X.A.units + (Code.builtin "type.__call__" ⟨.ref C :: rest, []⟩).cUnits + 1 <= _)
    lia

theorem get_snoc2 {a b : Addr} {n : Nat} {c : Addr} (e : φ[n]? = some c) : (φ ++ [a] ++ [b])[n]? = some c := get_snoc (get_snoc e)

theorem make_inst (G : Good w K mg mb X) (R : Rel w X φ st s₀ s) {C fI : Addr} (m1 : makesIn K C = true) (m2 : findIn K (.ref C) "__init__" = some (some (.ref fI))) (m3 : typeIn K (.ref fI) = some (.type "function")) {o : AO} (ho : ∀ ψ dx, ψ[st.hp.length]? = some dx -> OC w ψ o (instObj C dx)) {fd : FD} (F : FnAt K fI fd)
    {args : List AV} {vs : List Value} (hv : VCs φ args vs) {P : AV -> Hp -> Prop}
    (body : ∀ {Y : Fx} {φ : List Addr} {lc : Loc} {s₀ s : Shared} {B : Around} {vs : List Value} {Q : Result -> Shared -> Prop}, Good w K mg mb Y -> Y.fe.dep = X.fe.dep -> Rel w Y φ ⟨st.hp ++ [.attrs [], o], lc⟩ s₀ s -> CallRoom Y B -> B.in1.units <= Y.A.units + 12 -> VCs φ (.obj (st.hp.length + 1) :: args) vs ->
      (∀ {r hp φ' v s'}, r = .none /\ P (.obj (st.hp.length + 1)) hp -> Le φ φ' -> VC φ' r v -> Rel w Y φ' ⟨hp, lc⟩ s₀ s' -> Q (.ok (.ret v)) s') -> codeAny (M w) B (.call (.ref fI) ⟨vs, []⟩) Q s)
    {Q : Value -> Shared -> Prop} (h : ∀ {r hp φ' v s'}, P r hp -> Le φ φ' -> VC φ' r v -> Rel w X φ' ⟨hp, st.lc⟩ s₀ s' -> Q v s') :
    wpAny (M w) X.A (call (.ref C) vs) Q E s := by
  have X₀ := (R.ground G).inK
  have R1 := R.push (o := .attrs []) (ob := emptyDict) (tk := s.toks) rfl ⟨[], 0, rfl, .nil⟩ R.tok
  have R2 := R1.push (o := o) (ob := instObj C s.heap.objs.size) (tk := s.toks) rfl (ho _ _ (by refine rwB R.len ?_; exact get_snoc get_last)) R.tok
  refine wpAny_call ?_
  obtain ⟨hh, g, dr, t, os⟩ := s
  refine make_core (makes_of X₀ m1) (looks_findIn X₀ m2) (fun self => bind_fn X₀ self m3) (.inl rfl) ?_
  have hrm := room_typeCall (X := X) G.hh C vs
  have hsz : (hh.push emptyDict).objs.size = hh.objs.size + 1 := Heap.size_push ..
  have R2' : Rel w X (φ ++ [hh.objs.size] ++ [hh.objs.size + 1]) ⟨st.hp ++ [.attrs [], o], st.lc⟩ s₀ ⟨(hh.push emptyDict).push (instObj C hh.objs.size), g, dr, t, os⟩ := by
    have := R2
    simp only [List.append_assoc, List.cons_append, List.nil_append] at this ⊢
    refine rwB hsz ?_
    exact this
  have hself : VC (φ ++ [hh.objs.size] ++ [hh.objs.size + 1]) (.obj (st.hp.length + 1)) (.ref (hh.objs.size + 1)) := by
    refine .obj ?_
    have : st.hp.length + 1 = (φ ++ [hh.objs.size]).length := by simp [R.len]
    refine rwE this ?_; exact get_last
  refine body G rfl R2' hrm.1 hrm.2 (.cons hself (hv.mono fun z9 z9 => get_snoc2)) fun {r hp ψ v s'} hP l hv' R3 => ?_
  obtain ⟨rfl, hP⟩ := hP
  cases hv'
  exact ⟨rfl, h hP (Le.trans (fun z9 z9 => get_snoc2) l) (hself.mono l) R3⟩
end
end Mine
end
section
open PySem PySem.W PyProof.Rows PySem.Calls
namespace Mine
structure KBnd (K : Frag) : Prop where
  add : specialIn K (.ref 138) "__get__" = some (some (.builtin "function.__get__")) /\ takesIn K (.ref 138) = some false
section
variable {w : World} {X Y : Fx} {φ ψ : List Addr} {st st' : St} {s₀ s s' : Shared} {K : Frag} {mg mb : Str -> Option Value} {E : Value -> Shared -> Prop} {A : Around} {env : Env}

theorem getAttr_bound (KA : KAttr K) (KM : KMeth K) (KB : KBnd K) (X₀ : K.In s.heap) {x dx : Addr} {es : List DictEntry} {n : Nat} (hx : s.heap.get? x = some (instObj 188 dx)) (hd : s.heap.get? dx = some (dictOf es n)) (hv : W.getL "add" es = some none) {b : Bool} {Q : Value -> Shared -> Prop}
    (h : Q (.ref s.heap.objs.size) { s with heap := s.heap.push (methodObj (.ref 138) (.ref x)), toks := s.toks + 1 }) : wpAny (M w) A (getAttr (.ref x) "add" b) Q E s := by
  have I : W.InstAt s.heap x (instObj 188 dx) 188 (some (dictOf es n)) := ⟨hx, rfl, rfl, hd⟩
  have g := plainGet_of (name := "") KA.get
  obtain ⟨m1, m2⟩ := KM.meth "add" 138 rfl
  refine get_bind X₀ I g.1 (findObj_fn KA.dict m1 KB.add.1 KB.add.2 (by decide +kernel) (by exact rwE (lookIn_dict ..) (rwE (hv ..) rfl))) g.2 (wpAny_call (fn_get (s := { s with toks := s.toks + 1 }) X₀ m2 (handed_on rfl ?_)))
  exact h

theorem spliced_star {t : Sem Value} {Q : List Value -> Shared -> Prop} (h : wpAny (M w) A t (fun v s₁ => ∃ l vs, v = .ref l /\ s₁.heap.IsList l (List.toArray vs) /\ vs.length <= 1000 /\
    ∀ h', (∀ b o, s₁.heap.get? b = some o -> h'.get? b = some o) -> Q vs { s₁ with heap := h' }) E s) : wpAny (M w) A (spliced [(true, t)]) Q E s := by
  rw [spliced]
  refine wpAny_bind (wpAny_mono h (fun v s₁ h₁ => ?_) fun z9 z9 x => x)
  (refine xEEAAA (h₁) fun l vs hz2 hl hz hq => ?_; subst hz2)
  refine rwE (if_pos rfl) ?_
  refine wpAny_bind (wpAny_bind ?_)
  refine wpAny_specialOf hl.typeIs slot_list_iter.lookup ?_
  simp only [Option.isSome_some, if_true]
  refine wpAny_pure ?_
  simp only [Bool.false_eq_true, if_false]
  refine wpAny_bind (collect_list hl ?_ (by refine rwE sizeLine_eq ?_; exact Nat.le_trans ‹_› (by decide)))
  refine wpAny_bind (wpAny_holding ?_)
  rw [spliced]
  refine wpAny_pure (wpAny_pure ?_)
  refine rwE (List.append_nil ..) ?_
  refine hq _ fun b o e => ?_
  have hlt : b < s₁.heap.objs.size := Heap.lt_size e
  refine rwE (Heap.get?_update_ne _ _ _ _ (Nat.ne_of_lt hlt)) (rwE (Heap.get?_push_ne _ _ _ (Nat.ne_of_lt hlt)) ?_)
  exact e

theorem star_call {o x b : Expr} {bp : Pos} {apos pos : Pos} {Q : Value -> Shared -> Prop} (hf : methForm o apos pos 2 = true) (hx : starEach [x, .Starred b bp] env = [(false, eval x env), (true, eval b env)])
    (h : wpAny (M w) A (eval o env) (fun ov s₁ => wpAny (M w) A (getAttr ov "add" true) (fun f s₂ => ∃ q fo self, f = .ref q /\
      wpAny (M w) A (eval x env) (fun v s₃ => wpAny (M w) A (eval b env) (fun lv s₄ => ∃ l vs, lv = .ref l /\ s₄.heap.IsList l (List.toArray vs) /\ vs.length <= 1000 /\
        ∀ h', (∀ b o, s₄.heap.get? b = some o -> h'.get? b = some o) -> h'.get? q = some (methodObj (.ref fo) self) /\ (∃ of fd, h'.get? fo = some of /\ of.data = .func fd) /\ codeAny (M w) A (.call (.ref fo) ⟨self :: v :: vs, []⟩) (fun r s' => match r with | .ok (.ret v) => Q v s' | .ok _ => False | .error e => E e s') { s₄ with heap := h' }) E s₃) E s₂) E s₁) E s) :
    wpAny (M w) A (eval (.Call (.Attribute o "add" apos) [x, .Starred b bp] [] pos) env) Q E s := by
  refine rwE (arm_eval_Call ..) (rwE (base_of hf ..) ?_)
  refine wpAny_bind (wpAny_mono h (fun ov s₁ h₁ => ?_) fun z9 z9 e => e)
  refine wpAny_bind (wpAny_standAt ?_)
  refine rwE hx ?_
  have hform : methodCallForm ([x, Expr.Starred b bp].length + ([] : List Keyword).length) (backTo pos [(false, eval x env), (true, eval b env)]) (backToKw pos (keywordEach [] env)) = false := rfl
  unfold methodCall
  refine rwE hform ?_
  refine wpAny_bind (wpAny_holding ?_)
  unfold calleeOf
  refine rwE (if_neg (by exact Bool.false_ne_true)) ?_
  refine wpAny_bind (wpAny_mono h₁ (fun f s₂ h₂ => ?_) fun z9 z9 e => e)
  obtain ⟨q, fo, self, rfl, h₂⟩ := h₂
  refine wpAny_pure ?_
  refine wpAny_bind (wpAny_of_eq (show methodCallPos false o env apos pos = pure pos by unfold methodCallPos; rfl) ?_)
  unfold callWith
  refine wpAny_bind (wpAny_holding ?_)
  refine (?_ : wpAny _ _ (evalArgs (.ref q) true ((false, eval x env) :: [(true, do let v ← eval b env; standAt pos; pure v)]) []) _ _ _)
  refine evalArgs_plain (spliced_cons (wpAny_mono h₂ (fun v s₃ h₃ => ?_) fun z9 z9 e => e))
  refine spliced_star (wpAny_bind (wpAny_mono h₃ (fun lv s₄ h₄ => wpAny_bind (wpAny_standAt (wpAny_pure ?_))) fun z9 z9 e => e))
  (refine xEEAAA (h₄) fun l vs hz2 g1 g2 g3 => ?_; subst hz2)
  refine ⟨l, vs, rfl, g1, g2, fun h' hk => ?_⟩
  obtain ⟨g4, ⟨of, fd, g5, g6⟩, g7⟩ := g3 h' hk
  refine wpAny_bind (wpAny_standAt ?_)
  refine wpAny_bind ?_
  unfold keeperOf
  refine wpAny_bind (wpAny_load g4 ?_)
  refine (?_ : wpAny _ _ (load fo >>= _) _ _ _)
  refine wpAny_bind (wpAny_load g5 ?_)
  refine rwE g6 ?_
  refine wpAny_pure ?_
  refine wpAny_bind (wpAny_operate' (wpAny_call (PySem.W.method_call g4 (codeAny_mono g7 fun r s' z => ?_))))
  rcases r with e | (v | _ | _ | _) <;> first | exact z | exact z.elim | exact wpAny_bind (wpAny_holding (wpAny_point (wpAny_pure z)))
end
end Mine
end
section
open PySem PySem.W PyProof.Rows PySem.Calls
namespace Mine
section
variable {w : World} {X Y : Fx} {φ ψ : List Addr} {st st' : St} {s₀ s s' : Shared} {K : Frag} {mg mb : Str -> Option Value} {E : Value -> Shared -> Prop} {A : Around}

noncomputable def Fx.loose (X : Fx) (h : Heap) : List Addr := (List.range h.objs.size).filter fun b => (X.pr.get? b).isNone && b != X.env.locals
noncomputable def Fx.inner (X : Fx) (h : Heap) (env : Env) (fe : FE) : Fx :=
  { pr := hideAll h (X.loose h), gd := X.gd, fe := fe, env := env, A := X.A, frames := X.frames, lls := env.locals :: X.lls }

theorem loose_not {h : Heap} {b : Addr} (hb : b ∈ X.loose h) : X.pr.get? b = none /\ b ≠ X.env.locals := by
  have := (List.mem_filter.mp hb).2
  simpa using this
theorem mem_loose {h : Heap} {b : Addr} {o : Obj} (e : h.get? b = some o) (h1 : X.pr.get? b = none) (h2 : b ≠ X.env.locals) : b ∈ X.loose h :=
  List.mem_filter.mpr ⟨List.mem_range.mpr (Heap.lt_size e), by simp [h1, h2]⟩
theorem Rel.sub_inner (R : Rel w X φ st s₀ s) (prL : X.pr.get? X.env.locals = none) : Sub X.fr X.pr (hideAll s.heap (X.loose s.heap)) := fun b o e => by
  refine xEA (R.keep b o e) fun sl h1 h2 => ?_
  refine ⟨sl, hideAll_get _ h1 fun q => ?_, h2⟩
  rw [(loose_not q).1] at e; cases e
theorem loose_none {h : Heap} {b : Addr} (h1 : X.pr.get? b = none) (h2 : b ≠ X.env.locals) : (hideAll h (X.loose h)).get? b = none := by
  cases q : (hideAll h (X.loose h)).get? b with
  | none => rfl
  | some o =>
    have : (hideAll h (X.loose h)).get? b = none := hideAll_none _ (mem_loose (of_hideAll _ q) h1 h2)
    rw [q] at this; cases this

theorem Good.inner (G : Good w K mg mb X) (R : Rel w X φ st s₀ s) {env : Env} {fe : FE} (hL : s.heap.get? env.locals = none) (hk : env.scope.kind = .function) (hn : env.scope.names = fe.names) (hg : env.globals = mainGlobals) (hb : env.builtins = builtinsNs) (hf : env.frame = X.env.frame)
    (hd : fe.dep = X.fe.dep) (ho : fe.own = false) : Good w K mg mb (X.inner s.heap env fe) := by
  have S := R.sub_inner G.prL
  have hgd : ∀ b o, X.gd.get? b = some o -> s.heap.get? b = some o := R.gd G
  constructor
  . exact G.ground
  . intro b o e
    refine xEA (S b o (G.gdpr b o e)) fun sl h1 h2 => ?_
    rw [h2 (fun hb => by have e' : X.gd.get? b = some o := e; rw [G.gdfr b hb] at e'; cases e')] at h1
    exact h1
  . exact G.gdfr
  . exact G.hh
  . exact G.frm
  . exact hk
  . exact hn
  . exact hg
  . exact hb
  . refine (?_ : (hideAll s.heap (X.loose s.heap)).get? env.locals = none)
    cases q : (hideAll s.heap (X.loose s.heap)).get? env.locals with
    | none => rfl
    | some o => rw [of_hideAll _ q] at hL; cases hL
  . refine (?_ : X.A.depth + 4 * fe.dep < recursionLimit)
    have := G.room; refine rwE hd ?_; exact this
  . refine (?_ : X.A.units + 16 * fe.dep + 128 < cLine)
    have := G.units; refine rwE hd ?_; exact this
  . intro q
    have q' : fe.own = true := q
    rw [ho] at q'; cases q'
  . intro e he
    refine xAEA (G.around e he) fun h1 L h2 h3 => ?_
    refine ⟨h1, L, h2, .inr ?_⟩
    rcases h3 with rfl | ⟨o, h4, es, ep, h5⟩
    . obtain ⟨m, ⟨o, es, ep, g1, g2, _⟩, _⟩ := R.loc
      exact ⟨o, hideAll_get _ g1 fun q => (loose_not q).2 rfl, es, ep, g2⟩
    . refine xEA (S L o h4) fun sl h6 z9 => ?_
      exact ⟨_, h6, es, ep, h5⟩
  . refine xEA (G.somefr) fun L h1 h2 => ?_
    exact ⟨L, hf.trans h1, h2⟩
  . exact fun b hb' => .tail _ (G.frl b hb')

theorem Rel.inner (R : Rel w X φ st s₀ s) {env : Env} {fe : FE} {c : Value} (hL : env.locals = s.heap.objs.size) (hc : ∀ x k, fe.cells.lookup x = some k -> ∃ a, env.cells.lookup x = some a /\ φ[k]? = some a) :
    Rel w (X.inner s.heap env fe) φ ⟨st.hp, []⟩ s₀ { s with heap := s.heap.push { cls := c, data := .dict #[] } } where
  keep := fun b o e => ⟨o.slots, Heap.get?_push_of_some _ (of_hideAll _ e), fun z9 => rfl⟩
  loc := ⟨_, by refine (?_ : Heap.Ns _ env.locals _); refine rwE hL ?_; exact Heap.Ns.new s.heap c, fun x v e => by cases e⟩
  objs := fun n o e => let ⟨a, ob, h1, h2, h3⟩ := R.objs n o e; ⟨a, ob, h1, Heap.get?_push_of_some _ h2, h3⟩
  inj := R.inj
  len := R.len
  off := fun a ha => by
    refine xAA (R.off a ha) fun h1 h3 h4 => ?_
    refine ⟨fun q => ?_, some_keeps h3 fun b o e => Heap.get?_push_of_some _ e, h4⟩
    rcases List.mem_cons.mp q with q | q
    . rw [hL] at q
      rw [q, Heap.get?_none_of_le (Nat.le_refl _)] at h3; cases h3
    . exact h1 q
  offp := fun n a o h1 h2 h3 => loose_none (R.offp n a o h1 h2 h3) (R.offL (mem_of_get h1))
  lls := ⟨.head _, fun L hL' => by
    rcases List.mem_cons.mp hL' with q | q
    . refine rwE q (rwE hL (rwE (Heap.get?_push_size _ rfl) ?_)); rfl
    . exact some_keeps (R.lls.2 L q) fun b o e => Heap.get?_push_of_some _ e⟩
  lowL := by refine (?_ : 1 < env.locals); refine rwE hL ?_; exact R.size
  cells := hc
  tok := R.tok
  gens := R.gens
  os := R.os
  drawn := R.drawn

theorem Rel.outer (R : Rel w X φ st s₀ s) (prL : X.pr.get? X.env.locals = none) {env : Env} {fe : FE} (l : Le φ ψ) (R' : Rel w (X.inner s.heap env fe) ψ st' s₀ s') : Rel w X ψ ⟨st'.hp, st.lc⟩ s₀ s' where
  keep := fun b o e => by
    refine xEA (R.sub_inner prL b o e) fun sl h1 h2 => ?_
    refine xEA (R'.keep b _ h1) fun sl' h3 h4 => ?_
    exact ⟨sl', h3, fun hb => (h4 hb).trans (h2 hb)⟩
  loc := by
    obtain ⟨m, ⟨o, es, ep, g1, g2, g3⟩, h2⟩ := R.loc
    have hp : (hideAll s.heap (X.loose s.heap)).get? X.env.locals = some o := hideAll_get _ g1 fun q => (loose_not q).2 rfl
    refine xEA (R'.keep _ _ hp) fun sl h3 z9 => ?_
    exact ⟨m, ⟨_, es, ep, h3, g2, g3⟩, fun x v e => let ⟨v', a1, a2⟩ := h2 x v e; ⟨v', a1, a2.mono l⟩⟩
  objs := R'.objs
  inj := R'.inj
  len := R'.len
  off := fun a ha => let ⟨h1, h3, h4⟩ := R'.off a ha; ⟨fun q => h1 (.tail _ q), h3, h4⟩
  offp := fun n a o h1 h2 h3 => by
    cases q : X.pr.get? a with
    | none => rfl
    | some x =>
      refine xEA (R.sub_inner prL a x q) fun sl h4 z9 => ?_
      have := R'.offp n a o h1 h2 h3
      have h5 : (hideAll s.heap (X.loose s.heap)).get? a = none := this
      rw [h5] at h4; cases h4
  lls := ⟨R.lls.1, fun L hL' => R'.lls.2 L (.tail _ hL')⟩
  lowL := R.lowL
  cells := fun x c e => let ⟨b, h1, h2⟩ := R.cells x c e; ⟨b, h1, l _ _ h2⟩
  tok := R'.tok
  gens := R'.gens
  os := R'.os
  drawn := R'.drawn

theorem Rel.innerOff (R : Rel w X φ st s₀ s) {env : Env} {fe : FE} (hL : s.heap.get? env.locals = none) (R' : Rel w (X.inner s.heap env fe) ψ st' s₀ s') : Off X ψ env.locals where
  phi := fun q => (R'.off _ q).1 (.head _)
  lls := fun q => by have := R.lls.2 _ q; rw [hL] at this; cases this
  pr := by
    cases q : X.pr.get? env.locals with
    | none => rfl
    | some o => refine xEA (R.keep _ _ q) fun sl h1 z9 => ?_; rw [hL] at h1; cases h1
end

section
variable {w : World} {X Y : Fx} {φ ψ : List Addr} {st st' : St} {s₀ s s' : Shared} {K : Frag} {mg mb : Str -> Option Value} {E : Value -> Shared -> Prop} {A : Around} {I : Addr} {i : Nat} {src : Src}
theorem Off.inner (hb : Off X φ I) {env : Env} {fe : FE} (hL : I ≠ env.locals) (hl : X.env.locals ∈ X.lls) : Off (X.inner s.heap env fe) φ I where
  phi := hb.phi
  lls := fun q => by
    rcases List.mem_cons.mp q with q | q
    . exact hL q
    . exact hb.lls q
  pr := loose_none hb.pr fun q => hb.lls (q ▸ hl)
theorem DictAt.inner (R : Rel w X φ st s₀ s) {d : Addr} {kvs : List (Str × Value)} {ep : Nat} (h : X.pr.DictAt (sk w) d kvs ep) (hd : d ∉ X.fr) {env : Env} {fe : FE} : (X.inner s.heap env fe).pr.DictAt (sk w) d kvs ep := by
  refine xEEA (h) fun o es h1 h2 => ?_
  refine ⟨o, es, hideAll_get _ (R.keep.exact h1 hd) fun q => ?_, h2⟩
  rw [(loose_not q).1] at h1; cases h1
theorem ItAt.inner (R : Rel w X φ st s₀ s) {env : Env} {fe : FE} (hL : s.heap.get? env.locals = none) (At : ItAt w X φ s.heap I i src) : ItAt w (X.inner s.heap env fe) φ s.heap I i src := by
  cases At with
  | list hkd h1 h2 h3 h4 => exact .list hkd h1 h2 h3 h4
  | tup hkd h1 h2 h3 h4 => exact .tup hkd h1 h2 h3 h4
  | str hkd h1 h2 => exact .str hkd h1 h2
  | rng hkd h1 h2 => exact .rng hkd h1 h2
  | enum hkd g1 g2 g3 g4 g5 g6 g7 =>
    refine .enum hkd g1 g2 g3 g4 g5 g6 (g7.inner (fun q => ?_) R.lls.1)
    obtain ⟨o, ho, _⟩ := g5
    rw [q, hL] at ho; cases ho
  | dkey hkd h1 h2 h3 h4 h5 => exact .dkey hkd h1 h2 (DictAt.inner R h3 h1) h4 h5
  | dval hkd h1 h2 h3 h4 h5 => exact .dval hkd h1 h2 (DictAt.inner R h3 h1) h4 h5
  | ditem hkd h1 h2 h3 h4 h5 => exact .ditem hkd h1 h2 (DictAt.inner R h3 h1) h4 h5

theorem isSome_ex {α : Type} {x : Option α} {P : α -> Prop} (h : ∃ o, x = .some o /\ P o) : x.isSome := h.elim fun z9 q => Option.isSome_of_eq_some q.1
theorem ItAt.some {h : Heap} (At : ItAt w X φ h I i src) : (h.get? I).isSome := by
  cases At with
  | list hkd h1 h2 h3 h4 => exact isSome_ex h4
  | tup hkd h1 h2 h3 h4 => exact isSome_ex h4
  | str hkd h1 h2 => exact isSome_ex h2
  | rng hkd h1 h2 => exact Option.isSome_of_eq_some h2
  | enum hkd h1 h2 h3 h4 h5 h8 h9 => exact Option.isSome_of_eq_some h4
  | dkey hkd h1 h2 h3 h4 h5 => exact isSome_ex h5
  | dval hkd h1 h2 h3 h4 h5 => exact isSome_ex h5
  | ditem hkd h1 h2 h3 h4 h5 => exact Option.isSome_of_eq_some h5

end
theorem froze_append {n : Nat} {h r : Hp} (hn : n < h.length) : froze n (h ++ r) = froze n h ++ r := by
  unfold froze
  refine rwE (List.getElem?_append_left hn) ?_
  cases h[n]? with
  | none => rfl
  | some o => cases o <;> first | rfl | (dsimp only; exact rwE (List.set_append_left _ _ hn) rfl)
theorem froze_length (n : Nat) (h : Hp) : (froze n h).length = h.length := by
  unfold froze; split <;> simp
theorem freeze_append {s : Src} {h r : Hp} (hn : ∀ n, s.dict? = some n -> n < h.length) : freeze s (h ++ r) = freeze s h ++ r := by
  unfold freeze
  cases q : s.dict? with
  | none => rfl
  | some n => exact froze_append (hn n q)
theorem freeze_length (s : Src) (h : Hp) : (freeze s h).length = h.length := by
  unfold freeze
  cases s.dict? with
  | none => rfl
  | some n => exact froze_length _ _
theorem newCells_freeze {s : Src} : ∀ (names : List (Str × NameKind)) {h : Hp} (cs : List (Str × Nat)), (∀ n, s.dict? = some n -> n < h.length) ->
    newCells names (freeze s h) cs = (freeze s (newCells names h cs).1, (newCells names h cs).2)
  | [], h, cs, _ => rfl
  | (x, k) :: r, h, cs, hn => by
    have hn' : ∀ n, s.dict? = some n -> n < (h ++ [AO.cell none]).length := fun n e => by have := hn n e; simp; exact Nat.lt_succ_of_lt ‹_›
    cases k <;> simp only [newCells]
    case cell => refine rwB (freeze_append hn ..) (rwE (freeze_length ..) ?_); exact newCells_freeze r _ hn'
    all_goals exact newCells_freeze r _ hn
end Mine
end
section
open PySem PySem.W PyProof.Rows PySem.Calls
namespace Mine
section
variable {w : World} {X Y : Fx} {φ ψ : List Addr} {st st' : St} {s₀ s s' : Shared} {K : Frag} {mg mb : Str -> Option Value} {E : Value -> Shared -> Prop} {A : Around}

theorem assignNames_len : ∀ {ts : List Expr} {vs : List AV} {fe : FE} {st st' : St}, assignNames fe ts vs st = some st' -> ts.length = vs.length
  | [], [], _, _, _, _ => rfl
  | [], _ :: _, _, _, _, e => by simp [assignNames] at e
  | t :: ts, [], _, _, _, e => by cases t <;> simp [assignNames] at e
  | t :: ts, v :: vs, fe, st, st', e => by
    cases t <;> simp only [assignNames] at e <;> first | cases e | skip
    refine xEA (Option.bind_eq_some_iff.mp e) fun st1 e1 e2 => ?_
    simp [assignNames_len e2]
theorem assignEach_len (env : Env) : ∀ (ts : List Expr), (assignEach ts env).length = ts.length
  | [] => rfl
  | t :: ts => by cases t <;> simp [assignEach, assignEach_len env ts]
theorem assignNames_noStar (env : Env) : ∀ {ts : List Expr} {vs : List AV} {fe : FE} {st st' : St}, assignNames fe ts vs st = some st' -> (assignEach ts env).findIdx? (·.1) = none
  | [], [], _, _, _, _ => rfl
  | [], _ :: _, _, _, _, e => by simp [assignNames] at e
  | t :: ts, [], _, _, _, e => by cases t <;> simp [assignNames] at e
  | t :: ts, v :: vs, fe, st, st', e => by
    cases t <;> simp only [assignNames] at e <;> first | cases e | skip
    refine xEA (Option.bind_eq_some_iff.mp e) fun st1 e1 e2 => ?_
    simp only [assignEach, List.findIdx?_cons]
    refine rwE (assignNames_noStar env e2) ?_; rfl
theorem assignNames_sound (G : Good w K mg mb X) : ∀ {ts : List Expr} {as : List AV} {vs : List Value} {st st' : St} {s : Shared}, VCs φ as vs -> Rel w X φ st s₀ s -> assignNames X.fe ts as st = some st' -> ∀ {Q : Unit -> Shared -> Prop}, (∀ s', Rel w X φ st' s₀ s' -> Q () s') ->
    wpAny (M w) X.A (assignInOrder ((assignEach ts X.env).map (·.2)) vs) Q E s
  | [], _, _, st, st', s, .nil, R, e, Q, h => by
    cases e
    exact wpAny_assignInOrder_none (h _ R)
  | [], _, _, st, st', s, .cons _ _, R, e, Q, h => by simp [assignNames] at e
  | t :: ts, _, _, st, st', s, .nil, R, e, Q, h => by cases t <;> simp [assignNames] at e
  | t :: ts, _, _, st, st', s, .cons hv hvs, R, e, Q, h => by
    cases t <;> simp only [assignNames] at e <;> first | cases e | skip
    refine xEA (Option.bind_eq_some_iff.mp e) fun st1 e1 e2 => ?_
    exact wpAny_assignInOrder_more (wpAny_assign_Name (putName_sound G R hv e1 fun s1 R1 => assignNames_sound G hvs R1 e2 h))

set_option tactic.hygienic true in
theorem assignPlain_sound (G : Good w K mg mb X) (R : Rel w X φ st s₀ s) {t : Expr} {v : AV} {v' : Value} (hv : VC φ v v') (e : assignPlain X.fe t v st = some st') {Q : Unit -> Shared -> Prop} (h : ∀ s', Rel w X φ st' s₀ s' -> Q () s') :
    wpAny (M w) X.A (assign t X.env v') Q E s := by
  unfold assignPlain at e
  split at e
  . exact wpAny_assign_Name (putName_sound G R hv e h)
  . split at e
    . rename_i n
      split at e
      . rename_i xs hx
        cases hv with | obj ha =>
        refine xEEA (R.tup hx ha) fun vs k h1 h2 => ?_
        refine wpAny_assign_Tuple G.hh (isTuple_of h1) ?_ (assignNames_noStar _ e) fun h' k' => ?_
        . refine rwE (assignEach_len ..) (rwE (assignNames_len e ..) (rwB (h2.length ..) ?_)); rfl
        . exact assignNames_sound G h2 (R.garb1 R.offSize k' R.tok) e h
      . cases e
    . cases e
  . cases e

theorem assignIt_sound (G : Good w K mg mb X) (R : Rel w X φ st s₀ s) {t : Expr} {it : It} {v' : Value} (hv : ItC φ s.heap it v') (e : assignIt X.fe t it st = some st') {Q : Unit -> Shared -> Prop} (h : ∀ s', Rel w X φ st' s₀ s' -> Q () s') :
    wpAny (M w) X.A (assign t X.env v') Q E s := by
  unfold assignIt at e
  split at e
  . exact assignPlain_sound G R hv e h
  . split at e
    . (refine xEEEAAA (hv) fun T x y hz3 h1 h2 h3 => ?_; subst hz3)
      refine wpAny_assign_Tuple G.hh (items := #[x, y]) ⟨_, h1, rfl, _, rfl⟩ ?_ (assignNames_noStar _ e) fun h' k' => ?_
      . refine rwE (assignEach_len ..) (rwE (assignNames_len e ..) ?_); rfl
      . exact assignNames_sound G (.cons h2 (.cons h3 .nil)) (R.garb1 R.offSize k' R.tok) e h
    . cases e
end
end Mine
end
section
open PySem PySem.W PyProof.Rows PySem.Calls
namespace Mine

structure KAll (K : Frag) : Prop where
  glob : KGlob K
  attr : KAttr K
  meth : KMeth K
  make : KMake K
  bnd : KBnd K
  fns : ∀ a fd, fdAt a = some fd -> FnAt K a fd
  keep : ∀ a, a = 188 ∨ a = 91 ∨ (fdAt a).isSome = true -> keepIn K (.ref a) = true

noncomputable def emitOf (e : Expr) (acc : Value) (env : Env) : Sem Unit := match e with
  | .ListComp elt _ _ _ => do let _ ← call (.builtin "list.append") [acc, ← eval elt env]
  | .DictComp k v _ _ _ => do
        let kv ← eval k env
        let vv ← holding [kv] (eval v env)
        match acc with
        | .ref d => do
          standAt { k.pos with endLine := v.pos.endLine, endCol := v.pos.endCol }
          holding [kv, vv] (dictSet d kv vv)
        | _ => unsupported "internal:dictcomp"
  | _ => unsupported "internal:not-a-comprehension"

noncomputable def IsCompE (e : Expr) : Prop := isComp e = true
@[elab_as_elim] theorem IsCompE.cs {C : Expr -> Prop} {e : Expr} (he : IsCompE e) (h1 : ∀ elt gens sc p, C (.ListComp elt gens sc p)) (h2 : ∀ k v gens sc p, C (.DictComp k v gens sc p)) : C e := by
  cases e <;> first | exact h1 .. | exact h2 .. | cases he
structure Cx (fe : FE) (w : World) (K : Frag) (mg mb : Str -> Option Value) (X : Fx) : Prop where
  ka : KAll K
  good : Good w K mg mb X
  fe : X.fe = fe

noncomputable def BC (_ : List Addr) (a b : Bool) : Prop := a = b
noncomputable def UC (_ : List Addr) (_ _ : Unit) : Prop := True

noncomputable def Run {α β : Type} (C : List Addr -> α -> β -> Prop) (fe : FE) (st : St) (m : Fx -> Sem β) (P : α -> St -> Prop) : Prop :=
  ∀ ⦃w : World⦄ ⦃K : Frag⦄ ⦃mg mb : Str -> Option Value⦄ ⦃X : Fx⦄ ⦃φ : List Addr⦄ ⦃s₀ s : Shared⦄ ⦃E : Value -> Shared -> Prop⦄ ⦃Q : β -> Shared -> Prop⦄, Cx fe w K mg mb X -> Rel w X φ st s₀ s ->
    (∀ {a st' φ' v s'}, P a st' -> Le φ φ' -> C φ' a v -> Rel w X φ' st' s₀ s' -> Q v s') -> wpAny (M w) X.A (m X) Q E s
theorem Run.at {α β : Type} {C : List Addr -> α -> β -> Prop} {fe : FE} {st : St} {m : Fx -> Sem β} {P : α -> St -> Prop} (h : Run C fe st m P) {w : World} {K : Frag} {mg mb : Str -> Option Value} {X : Fx} {φ : List Addr} {s₀ s : Shared} {E : Value -> Shared -> Prop} {Q : β -> Shared -> Prop} (c : Cx fe w K mg mb X) (R : Rel w X φ st s₀ s)
    (k : ∀ {a st' φ' v s'}, P a st' -> Le φ φ' -> C φ' a v -> Rel w X φ' st' s₀ s' -> Q v s') : wpAny (M w) X.A (m X) Q E s := h c R k
theorem Run.mono {α β : Type} {C : List Addr -> α -> β -> Prop} {fe : FE} {st : St} {m : Fx -> Sem β} {P P' : α -> St -> Prop} (h : Run C fe st m P) (hp : ∀ a st', P a st' -> P' a st') : Run C fe st m P' := by
  intro w K mg mb X φ s₀ s E Q c R k
  exact h c R fun p => k (hp _ _ p)

noncomputable def okE (e : Expr) : Bool := !(List.elem e.ctorIdx [7, 9, 22, 26])
noncomputable def okTg (e : Expr) : Bool := !(List.elem e.ctorIdx [22, 24])
noncomputable def okC : AV -> Prop
  | .con (.builtin _) => True
  | .con (.type _) => True
  | .con (.ref a) => a = 188 ∨ a = 91 ∨ (fdAt a).isSome = true
  | _ => False

noncomputable def EV (fe : FE) (e : Expr) (st : St) (P : AV -> St -> Prop) : Prop := okE e = true /\ Run VC fe st (fun X => eval e X.env) P
noncomputable def EVO (fe : FE) (e : Option Expr) (st : St) (P : AV -> St -> Prop) : Prop := Run VC fe st (fun X => valueOrNone (evalOpt e X.env)) P
noncomputable def EVS (fe : FE) (es : List Expr) (st : St) (P : List AV -> St -> Prop) : Prop := noStar es = true /\ Run VCs fe st (fun X => spliced (es.map fun e => (false, eval e X.env))) P
noncomputable def BL (fe : FE) (op : BoolOp) (es : List Expr) (st : St) (P : AV -> St -> Prop) : Prop := ∀ pos, Run VC fe st (fun X => boolOp pos op (evalEach es X.env)) P
noncomputable def TR (fe : FE) (e : Expr) (st : St) (P : Bool -> St -> Prop) : Prop := Run BC fe st (fun X => isTrue e X.env (eval e X.env)) P
noncomputable def TRS (fe : FE) (op : BoolOp) (es : List Expr) (st : St) (P : Bool -> St -> Prop) : Prop := Run BC fe st (fun X => allTrue op es X.env) P
noncomputable def IFS (fe : FE) (es : List Expr) (st : St) (P : Bool -> St -> Prop) : Prop :=
  Run BC fe st (fun X => forIn es true fun c r => if r = true then do let ok ← isTrue c X.env (eval c X.env); pure (ForInStep.yield ok) else pure (ForInStep.yield r)) P
noncomputable def EXS (fe : FE) (cs : List Stmt) (st : St) (P : Fl -> St -> Prop) : Prop := Run FlC fe st (fun X => execs cs X.env) P
noncomputable def EX (fe : FE) (c : Stmt) (st : St) (P : Fl -> St -> Prop) : Prop := Run FlC fe st (fun X => exec c X.env) P
noncomputable def SRC (fe : FE) (e : Expr) (st : St) (P : Src -> St -> Prop) : Prop := (∀ env x, foldedSetIterable e env x = pure x) /\
  ∀ ⦃w : World⦄ ⦃K : Frag⦄ ⦃mg mb : Str -> Option Value⦄ ⦃X : Fx⦄ ⦃φ : List Addr⦄ ⦃s₀ s : Shared⦄ ⦃E : Value -> Shared -> Prop⦄ ⦃Q : Value -> Shared -> Prop⦄, Cx fe w K mg mb X -> Rel w X φ st s₀ s ->
    (∀ {sc st' φ' v s'}, P sc st' -> Le φ φ' -> SrcV w X φ' st' s' sc v -> (∀ m, sc.dict? = some m -> m < φ'.length) -> Rel w X φ' st' s₀ s' -> Q v s') -> wpAny (M w) X.A (eval e X.env) Q E s
noncomputable def LOOPC (fe : FE) (e : Expr) (gens : List Comprehension) (a : Nat) (sc : Src) (its : List It) (st : St) (P : St -> Prop) : Prop :=
  ∀ ⦃w : World⦄ ⦃K : Frag⦄ ⦃mg mb : Str -> Option Value⦄ ⦃X : Fx⦄ ⦃φ : List Addr⦄ ⦃s₀ s : Shared⦄ ⦃Q : Result -> Shared -> Prop⦄ ⦃d i : Nat⦄ ⦃D I : Addr⦄, Cx fe w K mg mb X -> Rel w X φ st s₀ s ->
    IsCompE e -> (clausesOf e).drop d = gens -> (gens.all fun g => g.is_async == 0) = true -> φ[a]? = some D -> Off X φ I -> ItAt w X φ s.heap I i sc -> its = sc.items.drop i ->
    (∀ {st' φ' s'}, P st' -> Le φ φ' -> Rel w X φ' st' s₀ s' -> Q (.ok .next) s') -> codeAny (M w) X.A (.compLoop e d (.ref I) (.ref D) X.env) Q s
noncomputable def EMIT (fe : FE) (e : Expr) (a : Nat) (st : St) (P : St -> Prop) : Prop :=
  ∀ ⦃D : Addr⦄ ⦃w : World⦄ ⦃K : Frag⦄ ⦃mg mb : Str -> Option Value⦄ ⦃X : Fx⦄ ⦃φ : List Addr⦄ ⦃s₀ s : Shared⦄ ⦃E : Value -> Shared -> Prop⦄ ⦃Q : Unit -> Shared -> Prop⦄, Cx fe w K mg mb X -> Rel w X φ st s₀ s -> φ[a]? = some D ->
    (∀ {st' φ' s'}, P st' -> Le φ φ' -> Rel w X φ' st' s₀ s' -> Q () s') -> wpAny (M w) X.A (emitOf e (.ref D) X.env) Q E s
noncomputable def ASG (fe : FE) (t : Expr) (v : AV) (st : St) (P : St -> Prop) : Prop := okTg t = true /\
  ∀ ⦃v' : Value⦄ ⦃w : World⦄ ⦃K : Frag⦄ ⦃mg mb : Str -> Option Value⦄ ⦃X : Fx⦄ ⦃φ : List Addr⦄ ⦃s₀ s : Shared⦄ ⦃E : Value -> Shared -> Prop⦄ ⦃Q : Unit -> Shared -> Prop⦄, Cx fe w K mg mb X -> Rel w X φ st s₀ s -> VC φ v v' ->
    (∀ {st' φ' s'}, P st' -> Le φ φ' -> Rel w X φ' st' s₀ s' -> Q () s') -> wpAny (M w) X.A (assign t X.env v') Q E s
noncomputable def ASGS (fe : FE) : List Expr -> AV -> St -> (St -> Prop) -> Prop
  | [], _, st, P => P st
  | t :: r, v, st, P => ASG fe t v st fun st1 => ASGS fe r v st1 P
noncomputable def WHILE (fe : FE) (t : Expr) (b o : List Stmt) (st : St) (P : Fl -> St -> Prop) : Prop :=
  ∀ ⦃w : World⦄ ⦃K : Frag⦄ ⦃mg mb : Str -> Option Value⦄ ⦃X : Fx⦄ ⦃φ : List Addr⦄ ⦃s₀ s : Shared⦄ ⦃Q : Result -> Shared -> Prop⦄, Cx fe w K mg mb X -> Rel w X φ st s₀ s ->
    (∀ {f st' φ' fl s'}, P f st' -> Le φ φ' -> FlC φ' f fl -> Rel w X φ' st' s₀ s' -> Q (.ok fl) s') -> codeAny (M w) X.A (.whileLoop t b o X.env) Q s
noncomputable def FORL (fe : FE) (t : Expr) (b : List Stmt) (sc : Src) (its : List It) (st : St) (P : Fl -> St -> Prop) : Prop :=
  ∀ ⦃w : World⦄ ⦃K : Frag⦄ ⦃mg mb : Str -> Option Value⦄ ⦃X : Fx⦄ ⦃φ : List Addr⦄ ⦃s₀ s : Shared⦄ ⦃Q : Result -> Shared -> Prop⦄ ⦃i : Nat⦄ ⦃I : Addr⦄, Cx fe w K mg mb X -> Rel w X φ st s₀ s ->
    Off X φ I -> ItAt w X φ s.heap I i sc -> its = sc.items.drop i ->
    (∀ {f st' φ' fl s'}, P f st' -> Le φ φ' -> FlC φ' f fl -> Rel w X φ' st' s₀ s' -> Q (.ok fl) s') -> codeAny (M w) X.A (.forLoop t (.ref I) b [] X.env) Q s
noncomputable def CALLV (d : Nat) (f : AV) (args : List AV) (h : Hp) (P : AV -> Hp -> Prop) : Prop := okC f /\
  ∀ ⦃w : World⦄ ⦃K : Frag⦄ ⦃mg mb : Str -> Option Value⦄ ⦃X : Fx⦄ ⦃φ : List Addr⦄ ⦃lc : Loc⦄ ⦃s₀ s : Shared⦄ ⦃f' : Value⦄ ⦃vs : List Value⦄ ⦃E : Value -> Shared -> Prop⦄ ⦃Q : Value -> Shared -> Prop⦄, KAll K -> Good w K mg mb X -> X.fe.dep = d -> Rel w X φ ⟨h, lc⟩ s₀ s -> VC φ f f' -> VCs φ args vs ->
    (∀ {r hp φ' v s'}, P r hp -> Le φ φ' -> VC φ' r v -> Rel w X φ' ⟨hp, lc⟩ s₀ s' -> Q v s') -> wpAny (M w) X.A (call f' vs) Q E s
noncomputable def CALL (d : Nat) (fd : FD) (args : List AV) (h : Hp) (P : AV -> Hp -> Prop) : Prop :=
  ∀ ⦃w : World⦄ ⦃K : Frag⦄ ⦃mg mb : Str -> Option Value⦄ ⦃X : Fx⦄ ⦃φ : List Addr⦄ ⦃lc : Loc⦄ ⦃s₀ s : Shared⦄ ⦃a : Addr⦄ ⦃B : Around⦄ ⦃vs : List Value⦄ ⦃Q : Result -> Shared -> Prop⦄, KAll K -> Good w K mg mb X -> X.fe.dep = d -> Rel w X φ ⟨h, lc⟩ s₀ s -> FnAt K a fd -> CallRoom X B -> B.in1.units <= X.A.units + 12 -> VCs φ args vs ->
    (∀ {r hp φ' v s'}, P r hp -> Le φ φ' -> VC φ' r v -> Rel w X φ' ⟨hp, lc⟩ s₀ s' -> Q (.ok (.ret v)) s') -> codeAny (M w) B (.call (.ref a) ⟨vs, []⟩) Q s
noncomputable def compE (e : Expr) (env : Env) (use : Option (Value -> Sem Unit)) : Sem Value := match e with
  | .ListComp _ gens sc pos => comprehension e sc env (firstIterPos gens pos) (newList []) (firstAsync gens) (firstIter gens env) use
  | .DictComp _ _ gens sc pos => comprehension e sc env (firstIterPos gens pos) newDict (firstAsync gens) (firstIter gens env) use
  | _ => unsupported "internal:not-a-comprehension"
noncomputable def EVC (fe : FE) (e : Expr) (st : St) (P : AV -> St -> Prop) : Prop := IsCompE e /\
  ∀ ⦃w : World⦄ ⦃K : Frag⦄ ⦃mg mb : Str -> Option Value⦄ ⦃X : Fx⦄ ⦃φ : List Addr⦄ ⦃s₀ s : Shared⦄ ⦃E : Value -> Shared -> Prop⦄ ⦃Q : Value -> Shared -> Prop⦄ (use : Option (Value -> Sem Unit)), Cx fe w K mg mb X -> Rel w X φ st s₀ s ->
    (match use with
      | none => ∀ {a st' φ' v s'}, P a st' -> Le φ φ' -> VC φ' a v -> Rel w X φ' st' s₀ s' -> Q v s'
      | some u => ∃ x p, u = assign (.Name x p) X.env /\ ∀ {a st'}, P a st' -> ∃ st'', putName fe x a st' = some st'' /\ ∀ {φ' s'}, Le φ φ' -> Rel w X φ' st'' s₀ s' -> Q .none s') -> wpAny (M w) X.A (compE e X.env use) Q E s

noncomputable def Skip (p : Prop) : Prop := p
theorem Skip.mk {p : Prop} (h : p) : Skip p := h
noncomputable def ASGC (fe : FE) (x : Str) (v : AV) (st : St) (P : St -> Prop) : Prop := ∃ st2, putName fe x v st = some st2 /\ P st2
theorem ASGC.mk {fe : FE} {x : Str} {v : AV} {st st2 : St} {P : St -> Prop} (e : putName fe x v st = some st2) (h : P st2) : ASGC fe x v st P := ⟨st2, e, h⟩

section
variable {fe : FE} {st : St}
theorem SRC.mono {e : Expr} {P P' : Src -> St -> Prop} (x : SRC fe e st P) (hp : ∀ s st', P s st' -> P' s st') : SRC fe e st P' := by
  obtain ⟨x1, x2⟩ := x
  refine ⟨x1, ?_⟩
  intro w K mg mb X φ s₀ s E Q c R k
  exact x2 c R fun p => k (hp _ _ p)
theorem IFS.mono {e : List Expr} {P P' : Bool -> St -> Prop} (x : IFS fe e st P) (hq : ∀ v h', P v h' -> P' v h') : IFS fe e st P' := Run.mono x hq
theorem EMIT.mono {e : Expr} {a : Nat} {P P' : St -> Prop} (x : EMIT fe e a st P) (hp : ∀ st', P st' -> P' st') : EMIT fe e a st P' := by
  intro D w K mg mb X φ s₀ s E Q c R ha k
  exact x c R ha fun p => k (hp _ p)
theorem LOOPC.mono {e : Expr} {g : List Comprehension} {a : Nat} {sc : Src} {its : List It} {P P' : St -> Prop} (x : LOOPC fe e g a sc its st P) (hp : ∀ st', P st' -> P' st') : LOOPC fe e g a sc its st P' := by
  intro w K mg mb X φ s₀ s Q d i D I c R he hg ha hD hI At hi k
  exact x c R he hg ha hD hI At hi fun p => k (hp _ p)
theorem EV.mono {e : Expr} {P Q : AV -> St -> Prop} (h : EV fe e st P) (hq : ∀ v st', P v st' -> Q v st') : EV fe e st Q := ⟨h.1, Run.mono h.2 hq⟩
theorem EXS.mono {cs : List Stmt} {P Q : Fl -> St -> Prop} (x : EXS fe cs st P) (hq : ∀ v h', P v h' -> Q v h') : EXS fe cs st Q := Run.mono x hq
theorem TR.mono {e : Expr} {P Q : Bool -> St -> Prop} (x : TR fe e st P) (hq : ∀ v h', P v h' -> Q v h') : TR fe e st Q := Run.mono x hq
theorem CALL.mono {d : Nat} {fd : FD} {vs : List AV} {h : Hp} {P Q : AV -> Hp -> Prop} (x : CALL d fd vs h P) (hq : ∀ v h', P v h' -> Q v h') : CALL d fd vs h Q := by
  intro w K mg mb X φ lc s₀ s a B us Q' KA G hd R F hB hB1 hv k
  exact x KA G hd R F hB hB1 hv fun p => k (hq _ _ p)
end
end Mine
end
section
open PySem PySem.W PyProof.Rows PySem.Calls
namespace Mine
section
variable {w : World} {X : Fx} {φ ψ : List Addr} {st' : St} {s₀ s s' : Shared} {K : Frag} {mg mb : Str -> Option Value} {E : Value -> Shared -> Prop} {A : Around}
theorem okE.star {e : Expr} (h : okE e = true) : ∀ u p, e ≠ .Starred u p := by rintro u p rfl; cases h
theorem okE.set {e : Expr} (h : okE e = true) : ∀ a b c, e ≠ .Set a b c := by rintro a b c rfl; cases h
theorem okE.slice {e : Expr} (h : okE e = true) : ∀ a b c d, e ≠ .Slice a b c d := by rintro a b c d rfl; cases h
theorem noStar_cons {x : Expr} {r : List Expr} (h : ∀ u p, x ≠ .Starred u p) : noStar (x :: r) = noStar r := by
  cases x <;> first | rfl | exact absurd rfl (h _ _)
theorem notMarks {op : CmpOp} {e : Expr} (h : ∀ a b c, e ≠ .Set a b c) : behindInMarks op e = false := by
  cases e <;> first | rfl | exact absurd rfl (h _ _ _)
theorem notFolded {env : Env} {e : Expr} (h : ∀ a b c, e ≠ .Set a b c) (x : Value) : foldedSetIterable e env x = pure x := by
  cases e <;> first | rfl | exact absurd rfl (h _ _ _)
theorem starEach_map {es : List Expr} {env : Env} {pos : Pos} (h : noStar es = true) : backTo pos (starEach es env) = es.map fun e => (false, eval e env) := by
  exact rwE (starEach_plain h ..) (rwE (backTo_plain ..) rfl)
theorem OC.dictNil : OC w φ (.dict []) { cls := .type "dict", data := .dict #[] } :=
  ⟨[], ⟨#[], 0, ⟨rfl, rfl, rfl⟩, rfl, (fun e he => absurd he (by simp)), .nil, .nil⟩, .nil⟩
theorem ifs_false : ∀ (es : List Expr) {env : Env} {Q : Bool -> Shared -> Prop}, Q false s -> wpAny (M w) A (forIn es false fun c r => if r = true then do let ok ← isTrue c env (eval c env); pure (ForInStep.yield ok) else pure (ForInStep.yield r)) Q E s
  | [], _, Q, h => by refine rwE List.forIn_nil ?_; exact wpAny_pure h
  | c :: r, _, Q, h => by
    refine rwE (List.forIn_cons ..) ?_
    simp only [Bool.false_eq_true, if_false]
    exact wpAny_bind (wpAny_pure (ifs_false r h))
theorem neg_sound {st : St} (R : Rel w X φ st s₀ s) {i : Int} {t : Tok} {Q : Value -> Shared -> Prop} (h : ∀ t' s', Rel w X φ st s₀ s' -> Q (.int (-i) t') s') : wpAny (M w) A (unaryOp .USub (.int i t)) Q E s := by
  refine wpAny_tok (unaryOp_gives (T := "int") rfl rfl F.slot_int_neg F.entry_int_neg (F.args_int_neg_1 _) (gives_int_neg i t) ?_)
  exact fun hk => h _ _ (R.toks (Nat.le_trans R.tok hk))
theorem attr_eval {v : Expr} {a : Str} {pos : Pos} {env : Env} (hb : plainBase v = true) {Q : Value -> Shared -> Prop} (h : wpAny (M w) A (eval v env) (fun o s₁ => wpAny (M w) A (getAttr o a true) Q E s₁) E s) : wpAny (M w) A (eval (.Attribute v a pos) env) Q E s := by
  refine rwE (arm_eval_Attribute ..) ?_
  have e : attributeBase v a env (eval v env) = eval v env := base_plain hb
  refine rwE e ?_
  exact wpAny_bind (wpAny_mono h (fun o s₁ h₁ => wpAny_bind (wpAny_standAt (wpAny_bind (wpAny_holding (wpAny_mono h₁ (fun r s₂ h₂ => wpAny_bind (wpAny_letTemporaryGo (wpAny_pure h₂))) fun z9 z9 x => x))))) fun z9 z9 x => x)
end

section
variable {fe : FE} {st : St} {P : AV -> St -> Prop} {pos : Pos}
theorem EV.none {k : Nat} (h : P .none st) : EV fe (.Constant .none k pos) st P := ⟨rfl, by
  intro w K mg mb X φ s₀ s E Q c R k
  exact wpAny_Constant_none (k h (Le.refl _) .none R)⟩
theorem EV.bool {b : Bool} {k : Nat} (h : P (.bool b) st) : EV fe (.Constant (.bool b) k pos) st P := ⟨rfl, by
  intro w K mg mb X φ s₀ s E Q c R k
  exact wpAny_Constant_bool (k h (Le.refl _) (.bool _) R)⟩
theorem EV.int {i : Int} {k : Nat} (h : P (.int i) st) : EV fe (.Constant (.int i) k pos) st P := ⟨rfl, by
  intro w K mg mb X φ s₀ s E Q c R k
  exact wpAny_Constant_int (k h (Le.refl _) (.int _ _) (R.toks (Nat.le_add_left ..)))⟩
theorem EV.str {x : Str} {k : Nat} (h : P (.str x) st) : EV fe (.Constant (.str x) k pos) st P := ⟨rfl, by
  intro w K mg mb X φ s₀ s E Q c R k
  exact wpAny_Constant_str (k h (Le.refl _) (.str _ _) (R.toks (Nat.le_add_left ..)))⟩
theorem EV.name {x : Str} {v : AV} (hd : x ≠ "__debug__") (hg : getName fe x st = some v) (h : P v st) : EV fe (.Name x pos) st P := ⟨rfl, by
  intro w K mg mb X φ s₀ s E Q c R k
  exact wpAny_Name (getName_sound c.ka.glob c.good R (c.fe.symm ▸ hg) fun v' hv => k h (Le.refl _) hv R) (by simpa using hd)⟩
theorem EV.boolop {op : BoolOp} {vs : List Expr} (h : BL fe op vs st P) : EV fe (.BoolOp op vs pos) st P := ⟨rfl, by
  intro w K mg mb X φ s₀ s E Q c R k
  exact h pos c R k⟩
theorem EV.named {x : Str} {p : Pos} {e : Expr} (h : EV fe e st fun a st1 => ∃ st2, putName fe x a st1 = some st2 /\ P a st2) : EV fe (.NamedExpr (.Name x p) e pos) st P := ⟨rfl, by
  intro w K mg mb X φ s₀ s E Q c R k
  exact wpAny_NamedExpr (h.2 c R fun h1 l1 hv R1 => let ⟨st2, q, hp⟩ := h1; wpAny_assign_Name (putName_sound c.good R1 hv (c.fe.symm ▸ q) fun s2 R2 => k hp l1 hv R2))⟩
theorem EV.binop {l r : Expr} {op : Operator} (h : EV fe l st fun a st1 => EV fe r st1 fun b st2 => ∃ v h, BIN op a b st2.hp v h /\ P v ⟨h, st2.lc⟩) : EV fe (.BinOp l op r pos) st P := ⟨rfl, by
  intro w K mg mb X φ s₀ s E Q c R k
  exact wpAny_BinOp (h.2 c R fun h1 l1 hv R1 => h1.2 c R1 fun h2 l2 hv2 R2 => let ⟨v, hp, q, h3⟩ := h2; wpAny_mono (q R2 (hv.mono l2) hv2) (fun z9 z9 p => let ⟨φ3, l3, hv3, R3⟩ := p; k h3 ((l1.trans l2).trans l3) hv3 R3) fun z9 z9 x => x)⟩
theorem EV.neg {x : Expr} (h : EV fe x st fun a st1 => ∃ i, a = .int i /\ P (.int (-i)) st1) : EV fe (.UnaryOp .USub x pos) st P := ⟨rfl, by
  intro w K mg mb X φ s₀ s E Q c R k
  refine (?_ : wpAny (M w) X.A (eval _ X.env) Q E s)
  refine rwE (arm_eval_UnaryOp ..) ?_
  refine wpAny_bind (h.2 c R fun h1 l1 hv R1 => ?_)
  obtain ⟨i, rfl, h1⟩ := h1
  cases hv with | int _ t =>
  exact wpAny_bind (wpAny_standAt (wpAny_holding (neg_sound R1 fun t' s2 R2 => k h1 l1 (.int _ _) R2)))⟩
theorem EV.ifexp {t b o : Expr} (h : TR fe t st fun c st1 => if c then EV fe b st1 P else EV fe o st1 P) : EV fe (.IfExp t b o pos) st P := ⟨rfl, by
  intro w K mg mb X φ s₀ s E Q c R k
  refine wpAny_IfExp (h c R fun {b st' φ' v s'} h1 l1 hv R1 => ?_)
  cases hv
  cases b with
  | true => exact h1.2 c R1 fun h2 l2 => k h2 (l1.trans l2)
  | false => exact h1.2 c R1 fun h2 l2 => k h2 (l1.trans l2)⟩
theorem EV.dict0 (h : P (.obj st.hp.length) ⟨st.hp ++ [.dict []], st.lc⟩) : EV fe (.Dict [] [] pos) st P := ⟨rfl, by
  intro w K mg mb X φ s₀ s E Q c R k
  exact wpAny_Dict_empty (k h (fun z9 z9 => get_snoc) (.obj (by refine rwB R.len ?_; exact get_last)) (R.push rfl OC.dictNil R.tok))⟩
theorem EV.list {es : List Expr} (h : EVS fe es st fun vs st1 => vs.length <= 1000 /\ P (.obj st1.hp.length) ⟨st1.hp ++ [.list vs], st1.lc⟩) : EV fe (.List es pos) st P := ⟨rfl, by
  intro w K mg mb X φ s₀ s E Q c R k
  refine wpAny_List ?_
  refine rwE (starEach_map h.1) ?_
  exact h.2 c R fun {vs st1 φ1 us s1} h1 l1 hv R1 => ⟨by have := h1.1; refine rwE hv.length (rwE sizeLine_eq ?_); exact Nat.le_trans ‹_› (by decide), k h1.2 (l1.trans fun z9 z9 => get_snoc) (.obj (by refine rwB R1.len ?_; exact get_last)) (R1.push rfl ⟨us, 0, rfl, hv.mono fun z9 z9 => get_snoc⟩ R1.tok)⟩⟩
theorem EV.tuple {es : List Expr} {k : Nat} (h : EVS fe es st fun vs st1 => vs.length <= 1000 /\ P (.obj st1.hp.length) ⟨st1.hp ++ [.tup vs], st1.lc⟩) : EV fe (.Tuple es k pos) st P := ⟨rfl, by
  intro w K mg mb X φ s₀ s E Q c R k
  refine wpAny_Tuple ?_
  refine rwE (starEach_map h.1) ?_
  exact h.2 c R fun {vs st1 φ1 us s1} h1 l1 hv R1 => ⟨by have := h1.1; refine rwE hv.length (rwE sizeLine_eq ?_); exact Nat.le_trans ‹_› (by decide), k h1.2 (l1.trans fun z9 z9 => get_snoc) (.obj (by refine rwB R1.len ?_; exact get_last)) (R1.push rfl ⟨us, 0, rfl, hv.mono fun z9 z9 => get_snoc⟩ R1.tok)⟩⟩
theorem EV.compare {l r : Expr} {op : CmpOp} (h : EV fe l st fun a st1 => EV fe r st1 fun b st2 => ∃ c, CMP op a b st2.hp c /\ P (.bool c) st2) (hr : okE r = true := by rfl) : EV fe (.Compare l [op] [r] pos) st P := ⟨rfl, by
  intro w K mg mb X φ s₀ s E Q c R k
  exact wpAny_Compare1 (h.2 c R fun h1 l1 hv R1 => h1.2 c R1 fun h2 l2 hv2 R2 => let ⟨b, q, hp⟩ := h2; q R2 (by have := c.good.units; lia) (hv.mono l2) hv2 fun s3 R3 => k hp (l1.trans l2) (.bool _) R3) (notMarks (okE.set hr))⟩
theorem EV.attr {o : Expr} {a : Str} (hb : plainBase o = true) (h : EV fe o st fun ov st1 => ∃ r h, GA st1.hp ov a (r) (h) /\ P r ⟨h, st1.lc⟩) : EV fe (.Attribute o a pos) st P := ⟨rfl, by
  intro w K mg mb X φ s₀ s E Q c R k
  exact attr_eval hb (h.2 c R fun h1 l1 hv R1 => let ⟨v, hp, q, h3⟩ := h1; wpAny_mono (getAttrV_sound c.ka.attr c.good R1 hv q) (fun z9 z9 p => let ⟨φ3, l3, hv3, R3⟩ := p; k h3 (l1.trans l3) hv3 R3) fun z9 z9 x => x)⟩
theorem EVO.none (h : P .none st) : EVO fe none st P := by
  intro w K mg mb X φ s₀ s E Q c R k
  exact wpAny_pure (k h (Le.refl _) .none R)
theorem EVO.some {e : Expr} (h : EV fe e st P) : EVO fe (some e) st P := h.2
theorem EVS.nil {P : List AV -> St -> Prop} (h : P [] st) : EVS fe [] st P := ⟨rfl, by
  intro w K mg mb X φ s₀ s E Q c R k
  exact spliced_nil (k h (Le.refl _) .nil R)⟩
theorem EVS.cons {e : Expr} {r : List Expr} {P : List AV -> St -> Prop} (h : EV fe e st fun a st1 => EVS fe r st1 fun vs st2 => P (a :: vs) st2) (hn : noStar r = true := by rfl) : EVS fe (e :: r) st P := ⟨(noStar_cons (okE.star h.1)).trans hn, by
  intro w K mg mb X φ s₀ s E Q c R k
  exact spliced_cons (h.2 c R fun h1 l1 hv R1 => h1.2 c R1 fun h2 l2 hvs R2 => k h2 (l1.trans l2) (.cons (hv.mono l2) hvs) R2)⟩
theorem BL.one {op : BoolOp} {e : Expr} (h : EV fe e st P) : BL fe op [e] st P := fun z9 => h.2
theorem BL.and {e y : Expr} {r : List Expr} (h : EV fe e st fun a st1 => ∃ b, TRU a st1.hp b /\ if b then BL fe .And (y :: r) st1 P else P a st1) : BL fe .And (e :: y :: r) st P := by
  intro pos
  intro w K mg mb X φ s₀ s E Q c R k
  refine (?_ : wpAny _ _ (eval e X.env >>= _) _ _ _)
  refine wpAny_bind (h.2 c R fun h1 l1 hv R1 => ?_)
  refine xEA (h1) fun b q h2 => ?_
  refine wpAny_bind (wpAny_standAt (wpAny_bind (wpAny_holding (q R1 hv fun s2 R2 => ?_))))
  cases b with
  | false => exact wpAny_pure (k h2 l1 hv R2)
  | true => exact h2 pos c R2 fun h3 l2 => k h3 (l1.trans l2)
theorem BL.or {e y : Expr} {r : List Expr} (h : EV fe e st fun a st1 => ∃ b, TRU a st1.hp b /\ if b then P a st1 else BL fe .Or (y :: r) st1 P) : BL fe .Or (e :: y :: r) st P := by
  intro pos
  intro w K mg mb X φ s₀ s E Q c R k
  refine (?_ : wpAny _ _ (eval e X.env >>= _) _ _ _)
  refine wpAny_bind (h.2 c R fun h1 l1 hv R1 => ?_)
  refine xEA (h1) fun b q h2 => ?_
  refine wpAny_bind (wpAny_standAt (wpAny_bind (wpAny_holding (q R1 hv fun s2 R2 => ?_))))
  cases b with
  | true => exact wpAny_pure (k h2 l1 hv R2)
  | false => exact h2 pos c R2 fun h3 l2 => k h3 (l1.trans l2)
end

section
variable {fe : FE} {st : St} {P : Bool -> St -> Prop} {pos : Pos}
theorem TR.not {x : Expr} (h : TR fe x st fun b st1 => P (!b) st1) : TR fe (.UnaryOp .Not x pos) st P := by
  intro w K mg mb X φ s₀ s E Q c R k
  exact wpAny_isTrue_Not (h c R fun h1 l1 hv R1 => by cases hv; exact k h1 l1 rfl R1)
theorem TR.boolop {op : BoolOp} {vs : List Expr} (h : TRS fe op vs st P) : TR fe (.BoolOp op vs pos) st P := by
  intro w K mg mb X φ s₀ s E Q c R k
  exact wpAny_isTrue_BoolOp (h c R k)
theorem TR.compare {l r : Expr} {op : CmpOp} (h : EV fe l st fun a st1 => EV fe r st1 fun b st2 => ∃ c, CMP op a b st2.hp c /\ P c st2) (hr : okE r = true := by rfl) : TR fe (.Compare l [op] [r] pos) st P := by
  intro w K mg mb X φ s₀ s E Q c R k
  exact wpAny_isTrue_Compare1 (h.2 c R fun h1 l1 hv R1 => h1.2 c R1 fun h2 l2 hv2 R2 => let ⟨b, q, hp⟩ := h2; q R2 (by have := c.good.units; lia) (hv.mono l2) hv2 fun s3 R3 => wpAny_truthy_bool (k hp (l1.trans l2) rfl R3)) (notMarks (okE.set hr))
noncomputable def plainTest (e : Expr) : Bool := !(List.elem e.ctorIdx [0, 3, 5, 15])
theorem TR.value {e : Expr} (he : plainTest e = true) (h : EV fe e st fun a st1 => ∃ b, TRU a st1.hp b /\ P b st1) : TR fe e st P := by
  intro w K mg mb X φ s₀ s E Q c R k
  have hq : isTrue e X.env (eval e X.env) = (do let v ← eval e X.env; standAt e.pos; holding [v] (truthy v)) := by
    cases e <;> first | rfl | (cases he; done)
  exact wpAny_isTrue_value (h.2 c R fun h1 l1 hv R1 => let ⟨b, q, hp⟩ := h1; q R1 hv fun s2 R2 => k hp l1 rfl R2) hq
theorem TRS.andNil (h : P true st) : TRS fe .And [] st P := by
  intro w K mg mb X φ s₀ s E Q c R k
  exact wpAny_pure (k h (Le.refl _) rfl R)
theorem TRS.orNil (h : P false st) : TRS fe .Or [] st P := by
  intro w K mg mb X φ s₀ s E Q c R k
  exact wpAny_pure (k h (Le.refl _) rfl R)
theorem TRS.and {e : Expr} {r : List Expr} (h : TR fe e st fun b st1 => if b then TRS fe .And r st1 P else P false st1) : TRS fe .And (e :: r) st P := by
  intro w K mg mb X φ s₀ s E Q c R k
  refine wpAny_allTrue_And_cons (h c R fun {b st' φ' v s'} h1 l1 hv R1 => ?_)
  cases hv
  cases b with
  | false => exact k h1 l1 rfl R1
  | true => exact h1 c R1 fun h2 l2 => k h2 (l1.trans l2)
theorem TRS.or {e : Expr} {r : List Expr} (h : TR fe e st fun b st1 => if b then P true st1 else TRS fe .Or r st1 P) : TRS fe .Or (e :: r) st P := by
  intro w K mg mb X φ s₀ s E Q c R k
  refine wpAny_allTrue_Or_cons (h c R fun {b st' φ' v s'} h1 l1 hv R1 => ?_)
  cases hv
  cases b with
  | true => exact k h1 l1 rfl R1
  | false => exact h1 c R1 fun h2 l2 => k h2 (l1.trans l2)
theorem IFS.nil (h : P true st) : IFS fe [] st P := by
  intro w K mg mb X φ s₀ s E Q c R k
  dsimp only
  refine rwE List.forIn_nil ?_
  exact wpAny_pure (k h (Le.refl _) rfl R)
theorem IFS.cons {t : Expr} {r : List Expr} (h : TR fe t st fun b st1 => if b then IFS fe r st1 P else P false st1) : IFS fe (t :: r) st P := by
  intro w K mg mb X φ s₀ s E Q c R k
  dsimp only
  refine rwE (List.forIn_cons ..) ?_
  simp only [if_true]
  refine wpAny_bind (wpAny_bind (h c R fun {b st' φ' v s'} h1 l1 hv R1 => wpAny_pure ?_))
  cases hv
  cases b with
  | true => exact h1 c R1 fun h2 l2 => k h2 (l1.trans l2)
  | false => exact ifs_false r (k h1 l1 rfl R1)
end
section
variable {fe : FE} {st : St} {P : St -> Prop} {pos : Pos} {a : Nat}
theorem EMIT.list {elt : Expr} {g : List Comprehension} {sc : Scope} (h : EV fe elt st fun v st1 => ∃ xs, st1.hp[a]? = some (.list xs) /\ xs.length <= 1000 /\ P ⟨st1.hp.set a (.list (xs ++ [v])), st1.lc⟩) : EMIT fe (.ListComp elt g sc pos) a st P := by
  intro D w K mg mb X φ s₀ s E Q c R ha k
  refine (?_ : wpAny _ _ (eval _ X.env >>= _) _ _ _)
  exact wpAny_bind (h.2 c R fun h1 l1 hv R1 => let ⟨xs, hx, hz, hp⟩ := h1; wpAny_bind (append_sound R1 hx (l1 _ _ ha) hv hz fun s2 R2 => wpAny_pure (k hp l1 R2)))
theorem EMIT.dict {e v : Expr} {g : List Comprehension} {sc : Scope} (h : EV fe e st fun kv st1 => EV fe v st1 fun vv st2 => ∃ x es, kv = .str x /\ st2.hp[a]? = some (.dict es) /\ es.length <= 1000 /\ P ⟨st2.hp.set a (.dict (putD x vv es)), st2.lc⟩) : EMIT fe (.DictComp e v g sc pos) a st P := by
  intro D w K mg mb X φ s₀ s E Q c R ha k
  refine (?_ : wpAny _ _ (eval _ X.env >>= _) _ _ _)
  refine wpAny_bind (h.2 c R fun h1 l1 hv R1 => wpAny_bind (wpAny_holding (h1.2 c R1 fun h2 l2 hv2 R2 => ?_)))
  (refine xEEAAA (h2) fun x es hz2 hx hz hp => ?_; subst hz2)
  have hD := l2 _ _ (l1 _ _ ha)
  refine xEA (R2.dict hx hD) fun kvs g1 g2 => ?_
  cases hv with | str _ t =>
  refine wpAny_bind (wpAny_standAt (wpAny_holding (wpAny_dictSet_pairs (k := x) ?_ g1 (fun h' hd hs => ?_) (by refine rwE g2.length (rwE sizeLine_eq ?_); exact Nat.le_trans ‹_› (by decide)))))
  . simp [PySem.strKind, Value.isStrOf]
  . refine xEA (Heap.dictOf_iff.mp hd) fun o' h3 h4 => ?_
    exact k hp (l1.trans l2) (R2.upd hx rfl hD hs.extBut h3 ⟨_, h4, g2.stored hv2⟩ (Nat.le_add_left ..))
end
end Mine
end
section
open PySem PySem.W PyProof.Rows PySem.Calls
namespace Mine
section
variable {w : World} {X : Fx} {φ ψ : List Addr} {st st' : St} {s₀ s s' : Shared} {K : Frag} {mg mb : Str -> Option Value} {E : Value -> Shared -> Prop} {A : Around}
theorem CallRoom.self (G : Good w K mg mb X) : CallRoom X X.A /\ X.A.in1.units <= X.A.units + 12 := ⟨⟨G.hh, rfl, Nat.le_succ _, Nat.le_add_right _ _⟩, Nat.add_le_add_left (by decide) _⟩

set_option tactic.hygienic true in
theorem sub_eval {value slice : Expr} {pos : Pos} {env : Env} {Q : Value -> Shared -> Prop}
    (h : wpAny (M w) A (eval value env) (fun o s₁ => wpAny (M w) A (eval slice env) (fun i s₂ => (∃ T id, s₂.TypeIs o T /\ typeLookup (.type T) "__getitem__" = pure (some (.builtin id))) /\ wpAny (M w) A (getItem o i) Q E s₂) E s₁) E s) :
    wpAny (M w) A (eval (.Subscript value slice pos) env) Q E s := by
  refine rwE (eval_Subscript ..) ?_
  refine wpAny_bind (wpAny_mono h (fun o s₁ h₁ => wpAny_bind (wpAny_holding (wpAny_mono h₁ (fun i s₂ h₂ => wpAny_bind (wpAny_standAt ?_)) fun _ _ x => x))) fun _ _ x => x)
  obtain ⟨⟨T, id, hT, hl⟩, hg⟩ := h₂
  refine wpAny_bind ?_
  refine rwE (getitemInPython_of_ne hT.not_modules) ?_
  refine wpAny_bind (wpAny_specialOf hT hl (wpAny_pure (wpAny_bind ?_)))
  have fin : ∀ l, wpAny (M w) A (operate l (getItem o i)) (fun r s₃ => wpAny (M w) A (letTemporaryGo value o r >>= fun _ => pure r) Q E s₃) E s₂ := fun l =>
    wpAny_operate' (wpAny_mono hg (fun r s₃ h₃ => wpAny_bind (wpAny_letTemporaryGo (wpAny_pure h₃))) fun _ _ x => x)
  unfold subscripted
  split
  . exact fin _
  . rename_i q; cases q
  . exact fin _

theorem replace_sound (R : Rel w X φ st s₀ s) {x y z : Str} {t : Tok} (hyz : y ≠ z) (hz : z.length <= 2) (hx : x.length <= 1000000) {Q : Value -> Shared -> Prop} (h : ∀ t' s', Rel w X φ st s₀ s' -> Q (.str (Txt.replace x y z) t') s') :
    wpAny (M w) A (call (.builtin "str.replace") [.str x t, .str y s.toks, .str z (s.toks + 1)]) Q E { s with toks := s.toks + 2 } := by
  have ht := R.tok
  have hm := Nat.mul_le_mul (Nat.succ_le_succ hx) hz
  refine wpAny_tok (SC.replace (x := x) (y := y) (z := z) (u := s.toks) (v := s.toks + 1) (show ¬ (s.toks : Nat) = 0 by exact Nat.ne_of_gt ‹_›) (show ¬ (s.toks + 1 : Nat) = 0 by lia) (show ¬ (s.toks : Nat) = s.toks + 1 by exact (Nat.succ_ne_self _).symm) (by simpa using hyz) (by simp only [Nat.succ_eq_add_one] at hm; lia) fun t' k hk => ?_)
  exact h _ _ (R.toks (s := s) (Nat.le_trans (show 1 <= s.toks + 2 by exact Nat.succ_pos _) hk))

theorem getAttr_add (KA : KAll K) (G : Good w K mg mb X) (R : Rel w X φ st s₀ s) {ov : AV} {v : Value} {a : Nat} (hv : VC φ ov v) (e : RFn st.hp ov "add" a) {b : Bool} {Q : Value -> Shared -> Prop}
    (h : a = 138 -> Q (.ref s.heap.objs.size) { s with heap := s.heap.push (methodObj (.ref 138) v), toks := s.toks + 1 }) : wpAny (M w) A (getAttr v "add" b) Q E s := by
  obtain ⟨x, dx, ents, k, rfl, h1, h2, h3, h4⟩ := e.at R hv
  exact getAttr_bound KA.attr KA.meth KA.bnd (R.ground G).inK h1 h2 h4 (h (Option.some.inj (h3.symm.trans (by kernel_rfl))))
theorem range3_sound (R : Rel w X φ st s₀ s) {t u v : Tok} {A : Around} {Q : Value -> Shared -> Prop} (h : ∀ x s', Rel w X φ st s₀ s' -> SrcV w X φ st s' ⟨.rng 4 (-1), (upto 5).reverse, none⟩ x -> Q x s') :
    wpAny (M w) A (call (.type "range") [.int 4 t, .int (-1) u, .int (-1) v]) Q E s := by
  refine call_range_3 (by decide) ?_
  refine h _ _ (R.ext (fun z9 z9 e => Heap.get?_push_of_some _ e) R.tok) (.rng rfl (fun j hj => ?_) (b := -1) (t := t) (u := u) (v := v) (Heap.get?_push_size _ rfl) (by decide +kernel) (by decide +kernel))
  have hj' : j < 5 := by simpa [upto_length] using hj
  refine (?_ : (upto 5).reverse[j]? = _)
  refine rwE (upto_rev 5 j hj') ?_
  rfl


theorem type_call {fe : FE} (c : Cx fe w K mg mb X) (R : Rel w X φ st s₀ s) {f : Str} {p pos : Pos} {T : String} {args : List Expr} (hd : (f == ("__debug__" : Str)) = false) (q : getName fe f st = some (.con (.type T))) (hs : noStar args = true) {Q : Value -> Shared -> Prop}
    (h : wpAny (M w) X.A (spliced (args.map fun e => (false, eval e X.env))) (fun vs s₁ => wpAny (M w) X.A (call (.type T) vs) Q E s₁) E s) : wpAny (M w) X.A (eval (.Call (.Name f p) args [] pos) X.env) Q E s := by
  refine PyProof.Rows.Call_Name (starEach_map hs) (wpAny_Name (getName_sound c.ka.glob c.good R (c.fe.symm ▸ q) fun v' hv => ?_) hd)
  cases hv
  exact call_type h
theorem CALL.fn {d a : Nat} {fd : FD} {args : List AV} {h : Hp} {lc : Loc} {P : AV -> Hp -> Prop} (hf : fdAt a = some fd) (x : CALL d fd args h P) {vs : List Value} {Q : Value -> Shared -> Prop} (KA : KAll K) (G : Good w K mg mb X) (hd : X.fe.dep = d) (R : Rel w X φ ⟨h, lc⟩ s₀ s) (hv : VCs φ args vs)
    (k : ∀ {r hp φ' v s'}, P r hp -> Le φ φ' -> VC φ' r v -> Rel w X φ' ⟨hp, lc⟩ s₀ s' -> Q v s') : wpAny (M w) X.A (call (.ref a) vs) Q E s :=
  wpAny_call (x KA G hd R (KA.fns a fd hf) (CallRoom.self G).1 (CallRoom.self G).2 hv k)
end

section
variable {fe : FE} {st : St} {P : AV -> St -> Prop} {pos : Pos}
theorem EV.item {v i : Expr} (h : EV fe v st fun o st1 => EV fe i st1 fun k st2 => ∃ r, ITEM o k st2.hp r /\ P r st2) : EV fe (.Subscript v i pos) st P := ⟨rfl, by
  intro w K mg mb X φ s₀ s E Q c R k
  exact sub_eval (h.2 c R fun h1 l1 hv R1 => h1.2 c R1 fun h2 l2 hv2 R2 => let ⟨r, q, hp⟩ := h2; let ⟨q1, q2⟩ := q R2 (hv.mono l2) hv2; ⟨q1, q2 fun v' s3 hv3 R3 => k hp (l1.trans l2) hv3 R3⟩)⟩
theorem EV.slice {v : Expr} {l u t : Option Expr} {p : Pos} (h : EV fe v st fun o st1 => EVO fe l st1 fun a st2 => EVO fe u st2 fun b st3 => EVO fe t st3 fun c st4 => ∃ r h, SLC o a b c st4.hp r h /\ P r ⟨h, st4.lc⟩) : EV fe (.Subscript v (.Slice l u t p) pos) st P := ⟨rfl, by
  intro w K mg mb X φ s₀ s E Q c R k
  refine sub_eval (h.2 c R fun h1 l1 hv R1 => wpAny_Slice (h1 c R1 fun {_ _ _ v2 _} h2 l2 hv2 R2 => h2 c R2 fun {_ _ _ v3 _} h3 l3 hv3 R3 => h3 c R3 fun {d st4 φ4 v4 s4} h4 l4 hv4 R4 => ?_))
  refine xEEA (h4) fun r hp q h5 => ?_
  have R5 := R4.ext (h' := s4.heap.push { cls := .type "slice", data := .fields #[v2, v3, v4] }) (fun z9 z9 e => Heap.get?_push_of_some _ e) R4.tok
  have hv' := hv.mono ((l2.trans l3).trans l4)
  obtain ⟨q1, q2⟩ := q R5 hv' (hv2.mono (l3.trans l4)) (hv3.mono l4) hv4 (Heap.get?_push_size _ rfl)
  exact ⟨q1, wpAny_mono (q2 (E := E)) (fun z9 z9 p => let ⟨φ5, l5, hv5, R5⟩ := p; k h5 ((((l1.trans l2).trans l3).trans l4).trans l5) hv5 R5) fun z9 z9 x => x⟩⟩
theorem EV.meth {o : Expr} {m : Str} {apos : Pos} {args : List Expr} (hf : methForm o apos pos args.length = true)
    (h : EV fe o st fun ov st1 => ∃ a fd, RFn st1.hp ov m a /\ fdAt a = some fd /\ EVS fe args st1 fun vs st2 => CALL fe.dep fd (ov :: vs) st2.hp fun r h => P r ⟨h, st2.lc⟩) (hs : noStar args = true := by rfl) : EV fe (.Call (.Attribute o m apos) args [] pos) st P := ⟨rfl, by
  intro w K mg mb X φ s₀ s E Q c R k
  refine Mine.method_call hf hs (h.2 c R fun {ov st1 φ1 v0 s1} h1 l1 hv0 R1 => ?_)
  refine xEEAA (h1) fun a fd hr hfd h1 => ?_
  refine ⟨.ref a, [v0], fun hq => recv_fn c.ka.attr c.ka.meth c.good R1 hv0 hr hq, ?_⟩
  refine xEEEEEEAA ((c.ka.fns a fd hfd).ex) fun of fnd z9 z9 z9 z9 f1 f2 z9 => ?_
  exact call_fn (o := of) (fd := fnd) (h1.2 c R1 fun h2 l2 hvs R2 => ⟨⟨(R2.ground c.good).inK _ _ f1, f2⟩, h2.fn hfd c.ka c.good (by exact rwE c.fe rfl) R2 (.cons (hv0.mono l2) hvs) fun h3 l3 => k h3 ((l1.trans l2).trans l3)⟩)⟩
theorem EV.star {o : Expr} {apos : Pos} {x b : Expr} {bp : Pos} (hf : methForm o apos pos 2 = true)
    (h : EV fe o st fun ov st1 => ∃ a fd, RFn st1.hp ov "add" a /\ fdAt a = some fd /\ EV fe x st1 fun av st2 => EV fe b st2 fun bv st3 => ∃ j xs, bv = .obj j /\ st3.hp[j]? = some (.list xs) /\ xs.length <= 1000 /\
      CALL fe.dep fd (ov :: av :: xs) st3.hp fun r h => P r ⟨h, st3.lc⟩) (hx : okE x = true := by rfl) : EV fe (.Call (.Attribute o "add" apos) [x, .Starred b bp] [] pos) st P := ⟨rfl, by
  intro w K mg mb X φ s₀ s E Q c R k
  have hxs : starEach [x, .Starred b bp] X.env = [(false, eval x X.env), (true, eval b X.env)] := by
    have := okE.star hx
    cases x <;> first | rfl | exact absurd rfl (this _ _)
  have G := c.good
  refine star_call hf hxs (h.2 c R fun {ov st1 φ1 v0 s1} h1 l1 hv0 R1 => ?_)
  refine xEEAA (h1) fun a fd hr hfd h1 => ?_
  refine getAttr_add c.ka G R1 hv0 hr fun ha => ?_
  subst ha
  have R2 : Rel w X φ1 st1 s₀ { s1 with heap := s1.heap.push (methodObj (.ref 138) v0), toks := s1.toks + 1 } := R1.ext (fun z9 z9 e => Heap.get?_push_of_some _ e) (Nat.le_add_left ..)
  have hoff : Off X φ1 s1.heap.objs.size := R1.offSize
  have hq : ({ s1 with heap := s1.heap.push (methodObj (.ref 138) v0), toks := s1.toks + 1 } : Shared).heap.get? s1.heap.objs.size = some (methodObj (.ref 138) v0) := Heap.get?_push_size _ rfl
  refine ⟨_, 138, v0, rfl, ?_⟩
  have cp : Cx fe w K mg mb (X.prot st1.hp φ1 (s1.heap.push (methodObj (.ref 138) v0))) := ⟨c.ka, G.prot R2, c.fe⟩
  refine Run.at (X := X.prot st1.hp φ1 (s1.heap.push (methodObj (.ref 138) v0))) h1.2 cp R2.prot fun {av st3 φ3 v1 s3} h3 l3 hv1 R3 => Run.at (X := X.prot st1.hp φ1 (s1.heap.push (methodObj (.ref 138) v0))) h3.2 cp R3 fun {bv st4 φ4 v2 s4} h4 l4 hv2 R4 => ?_
  obtain ⟨j, xs, rfl, hx, hz, h4⟩ := h4
  cases hv2 with | @obj _ l hl =>
  obtain ⟨vs, n, g1, g2⟩ := R4.list hx hl
  refine ⟨l, vs, rfl, isList_of g1, by refine rwE g2.length ?_; exact hz, fun h' hk => ?_⟩
  have R5 : Rel w X φ4 st4 s₀ s4 := R4.unprot (R2.sub_prot G.prL) rfl rfl rfl rfl
  have R6 := R5.ext hk R5.tok
  have hfn := c.ka.fns 138 fd hfd
  obtain ⟨of, fnd, _, _, _, _, f1, f2, _⟩ := hfn.ex
  exact ⟨hk _ _ (prot_keeps G R2 R4 hoff hq), ⟨of, fnd, (R6.ground G).inK _ _ f1, f2⟩,
    h4 c.ka G (by exact rwE c.fe rfl) R6 hfn (CallRoom.self G).1 (CallRoom.self G).2 (.cons (hv0.mono (l3.trans l4)) (.cons (hv1.mono l4) g2)) fun h5 l5 => k h5 (((l1.trans l3).trans l4).trans l5)⟩⟩
theorem EV.bmeth {o : Expr} {m : Str} {apos : Pos} {args : List Expr} (hf : methForm o apos pos args.length = true)
    (h : EV fe o st fun ov st1 => ∃ T id, BI ov m st1.hp T id /\ EVS fe args st1 fun vs st2 => ∃ r h, MB ov id vs st2.hp r h /\ P r ⟨h, st2.lc⟩) (hs : noStar args = true := by rfl) : EV fe (.Call (.Attribute o m apos) args [] pos) st P := ⟨rfl, by
  intro w K mg mb X φ s₀ s E Q c R k
  refine Mine.method_call hf hs (h.2 c R fun {ov st1 φ1 v0 s1} h1 l1 hv0 R1 => ?_)
  refine xEEA (h1) fun T id hr h1 => ?_
  have B := hr R1 hv0
  refine ⟨.builtin id, [v0], fun hq => getMethod_builtin B.is B.pa B.slot B.ty B.nod hq, ?_⟩
  exact call_built (h1.2 c R1 fun h2 l2 hvs R2 => let ⟨r, hp, q, h3⟩ := h2; wpAny_mono (q c.good R2 (hv0.mono l2) hvs) (fun z9 z9 p => let ⟨φ3, l3, hv3, R3⟩ := p; k h3 ((l1.trans l2).trans l3) hv3 R3) fun z9 z9 x => x)⟩
theorem EV.replace {o : Expr} {apos : Pos} {y z : Str} {n n' : Nat} {p p' : Pos} (hf : methForm o apos pos 2 = true) (hyz : y ≠ z) (hz : z.length <= 2)
    (h : EV fe o st fun ov st1 => ∃ s, ov = .str s /\ s.length <= 1000000 /\ P (.str (Txt.replace s y z)) st1) : EV fe (.Call (.Attribute o "replace" apos) [.Constant (.str y) n p, .Constant (.str z) n' p'] [] pos) st P := ⟨rfl, by
  intro w K mg mb X φ s₀ s E Q c R k
  refine Mine.method_call hf rfl (h.2 c R fun {ov st1 φ1 v0 s1} h1 l1 hv0 R1 => ?_)
  (refine xEAA (h1) fun x hz1 hx hp => ?_; subst hz1)
  cases hv0 with | str _ t =>
  refine ⟨.builtin "str.replace", [.str x t], fun hq => GM.replace hq, ?_⟩
  refine call_built (spliced_cons (wpAny_Constant_str (spliced_cons (wpAny_Constant_str (spliced_nil ?_)))))
  exact replace_sound R1 hyz hz hx fun t' s' R' => k hp l1 (.str _ _) R'⟩
theorem EV.call {x : Str} {p : Pos} {args : List Expr} (hd : x ≠ "__debug__") {f : AV} (hk : fe.names.lookup x = some .globalImplicit) (hl : globs.lookup x = some f) (hc : okC f) (h : Skip (EVS fe args st fun vs st2 => CALLV fe.dep f vs st2.hp fun r h => P r ⟨h, st2.lc⟩)) (hs : noStar args = true := by rfl) : EV fe (.Call (.Name x p) args [] pos) st P := ⟨rfl, by
  intro w K mg mb X φ s₀ s E Q c R k
  refine PyProof.Rows.Call_Name (starEach_map hs) (wpAny_Name (getName_sound c.ka.glob c.good R (c.fe.symm ▸ show getName fe x st = some f from by unfold getName; refine rwE hk ?_; exact hl) fun f' hf => ?_) (by simpa using hd))
  have h : EVS fe args st fun vs st2 => CALLV fe.dep f vs st2.hp fun r h => P r ⟨h, st2.lc⟩ := h
  have fin : ∀ {us : List Value} {vs : List AV} {st2 : St} {φ2 : List Addr} {s2 : Shared} {E : Value -> Shared -> Prop}, CALLV fe.dep f vs st2.hp (fun r h => P r ⟨h, st2.lc⟩) -> Le φ φ2 -> VCs φ2 vs us -> Rel w X φ2 st2 s₀ s2 -> wpAny (M w) X.A (PySem.call f' us) Q E s2 := fun h2 l2 hvs R2 =>
    h2.2 c.ka c.good (by exact rwE c.fe rfl) R2 (hf.mono l2) hvs fun h3 l3 => k h3 (l2.trans l3)
  cases f with
  | con v =>
    cases hf
    cases f' with
    | builtin id => exact call_built (h.2 c R fun h2 l2 hvs R2 => fin h2 l2 hvs R2)
    | type T => exact call_type (h.2 c R fun h2 l2 hvs R2 => fin h2 l2 hvs R2)
    | ref a => exact callWith_of (P := fun h => K.In h) (by refine rwE (any_plain ..) ?_; rfl) (keeps_K (c.ka.keep a hc)) (args_plain (h.2 c R fun h2 l2 hvs R2 => ⟨(R2.ground c.good).inK, fin h2 l2 hvs R2⟩))
    | _ => exact hc.elim
  | _ => exact hc.elim⟩
end
section
variable {d : Nat} {h : Hp} {vs : List AV} {P : AV -> Hp -> Prop}
theorem CALLV.builtin {v : Value} (hv : okC (.con v)) (x : ∃ r h', CAL v vs h r h' /\ P r h') : CALLV d (.con v) vs h P := ⟨hv, by
  intro w K mg mb X φ lc s₀ s f' us E Q KA G hd R hf hvs k
  cases hf
  refine xEEA (x) fun r hp q h3 => ?_
  exact wpAny_mono (q G R hvs) (fun z9 z9 p => let ⟨φ3, l3, hv3, R3⟩ := p; k h3 l3 hv3 R3) fun z9 z9 x => x⟩
theorem CALLV.fn {a : Nat} {fd : FD} (hf : fdAt a = some fd) (x : CALL d fd vs h P) : CALLV d (.con (.ref a)) vs h P := ⟨.inr (.inr (by refine rwE hf ?_; rfl)), by
  intro w K mg mb X φ lc s₀ s f' us E Q KA G hd R hf' hvs k
  cases hf'
  exact x.fn hf KA G hd R hvs k⟩
theorem CALLV.sorter {fd : FD} (hf : fdAt 124 = some fd) (x : CALL d fd (.obj (h.length + 1) :: vs) (h ++ [.attrs [], .inst 188 h.length]) fun r h' => r = .none /\ P (.obj (h.length + 1)) h') : CALLV d (.con (.ref 188)) vs h P := ⟨.inl rfl, by
  intro w K mg mb X φ lc s₀ s f' us E Q KA G hd R hf' hvs k
  cases hf'
  subst hd
  exact make_inst G R KA.make.s1 KA.make.s2 KA.make.s3 (o := .inst 188 h.length) (fun ψ dx h => ⟨dx, h, rfl⟩) (KA.fns _ _ hf) hvs (fun G' hd' R' hB hB1 hv' k' => x KA G' hd' R' (KA.fns _ _ hf) hB hB1 hv' k') k⟩
theorem CALLV.node {fd : FD} (hf : fdAt 87 = some fd) (x : CALL d fd (.obj (h.length + 1) :: vs) (h ++ [.attrs [], .node 91 [none, none, none] h.length]) fun r h' => r = .none /\ P (.obj (h.length + 1)) h') : CALLV d (.con (.ref 91)) vs h P := ⟨.inr (.inl rfl), by
  intro w K mg mb X φ lc s₀ s f' us E Q KA G hd R hf' hvs k
  cases hf'
  subst hd
  refine make_inst G R KA.make.n1 KA.make.n2 KA.make.n3 (o := .node 91 [none, none, none] h.length) (fun ψ dx h => ⟨dx, [], h, rfl, fun i => ?_⟩) (KA.fns _ _ hf) hvs (fun G' hd' R' hB hB1 hv' k' => x KA G' hd' R' (KA.fns _ _ hf) hB hB1 hv' k') k
  rcases i with _ | _ | _ | i <;> trivial⟩
theorem CALL.intro {fd : FD} {binds : List (Str × AV)} {h1 : Hp} (hb : bindOf fd vs h = some (binds, h1)) {st1 : St} (h2 : bindAll ⟨fd.scope.names, (newCells fd.scope.names h1 []).2, d, true⟩ binds ⟨(newCells fd.scope.names h1 []).1, []⟩ = some st1)
    (x : EXS ⟨fd.scope.names, (newCells fd.scope.names h1 []).2, d, true⟩ fd.body st1 (retP P)) : CALL (d + 1) fd vs h P := by
  intro w K mg mb X φ lc s₀ s a B us Q KA G hd R F hB hB1 hv k
  exact call_sound G R F hB hB1 hv hd hb h2 (fun G' hf R' k' => x ⟨KA, G', hf⟩ R' k') k
end
end Mine
end
section
open PySem PySem.W PyProof.Rows PySem.Calls
namespace Mine
section
variable {w : World} {X : Fx} {φ ψ : List Addr} {st st' : St} {s₀ s s' : Shared} {K : Frag} {mg mb : Str -> Option Value} {E : Value -> Shared -> Prop} {A : Around}

theorem dict_view {fe : FE} (c : Cx fe w K mg mb X) (R : Rel w X φ st s₀ s) {o : Expr} {m : Str} {apos pos : Pos} {id : String} {P : AV -> St -> Prop} (hf : methForm o apos pos 0 = true) (slot : Slot "dict" m id) (ty : typeOf (.builtin id) = pure (.type "method_descriptor"))
    (h : EV fe o st P) {Q : Value -> Shared -> Prop} (k : ∀ {a st1 φ1 s1 v}, P a st1 -> Le φ φ1 -> VC φ1 a v -> Rel w X φ1 st1 s₀ s1 -> ∃ n d es, a = .obj n /\ v = .ref d /\ st1.hp[n]? = some (.dict es) /\ (φ1[n]? = some d -> wpAny (M w) X.A (call (.builtin id) [.ref d]) Q E s1)) :
    wpAny (M w) X.A (eval (.Call (.Attribute o m apos) [] [] pos) X.env) Q E s := by
  refine Mine.method_call hf rfl (h.2 c R fun {a st1 φ1 v0 s1} h1 l1 hv0 R1 => ?_)
  (refine xEEEAAA (k h1 l1 hv0 R1) fun n d es hz3 hz4 hx kk => ?_; subst hz3; subst hz4)
  cases hv0 with | obj hd =>
  refine xEA (R1.dict hx hd) fun kvs g1 g2 => ?_
  refine xEA (Heap.dictOf_iff.mp g1) fun ob g3 g4 => ?_
  refine ⟨.builtin id, [.ref d], fun hq => getMethod_builtin g1.typeIs F.plainAttrs_dict slot ty (fun b e => by cases e; exact ⟨ob, g3, g4.choose_spec.choose_spec.1.2.1⟩) hq, ?_⟩
  exact call_built (spliced_nil (kk hd))
noncomputable def CompNext (w : World) (A : Around) (e : Expr) (d : Nat) (it acc : Value) (env : Env) (R : Result -> Shared -> Prop) (E : Value -> Shared -> Prop) (s : Shared) : Option Comprehension -> Prop
  | some g' => wpAny (M w) A (eval g'.iter env) (fun x s₅ => (∀ x, foldedSetIterable g'.iter env x = pure x) /\ wpAny (M w) A (pyIter x) (fun it' s₆ => codeAny (M w) A (.compStart e (d + 1) it' acc env) (fun r s₇ => r = .ok .next /\ codeAny (M w) A (.compLoop e d it acc env) R s₇) s₆) E s₅) E s
  | none => wpAny (M w) A (emitOf e acc env) (fun z9 s₅ => codeAny (M w) A (.compLoop e d it acc env) R s₅) E s

set_option tactic.hygienic true in
theorem loop_tail {e : Expr} {d : Nat} {it acc : Value} {env : Env} {R : Result -> Shared -> Prop} {n : Nat} {sz : Shared} (hq : (Code.compLoop e d it acc env).quiet = true) {s' : Shared} {E : Value -> Shared -> Prop} (hc : codeAny (M w) A (.compLoop e d it acc env) R s') : wpAny (M w) A (again (.compLoop e d it acc env)) (fun fin s'' => match fin with
      | .done f => R (.ok f) s'' | .again c' => (c' = .compLoop e d it acc env /\ ∃ m, m < n /\ s'' = sz) ∨ (c'.quiet = true /\ codeAny (M w) A c' R s'')) E s' := wpAny_pure (.inr ⟨hq, hc⟩)
theorem loop_nest {e : Expr} {d : Nat} {it acc : Value} {env : Env} {R : Result -> Shared -> Prop} {s' : Shared} {E : Value -> Shared -> Prop} {it' : Value} (hc : codeAny (M w) A (.compStart e (d + 1) it' acc env) (fun r s₇ => r = .ok .next /\ codeAny (M w) A (.compLoop e d it acc env) R s₇) s') : wpAny (M w) A (runOwn (.compStart e (d + 1) it' acc env) env) (fun z9 s₇ => codeAny (M w) A (.compLoop e d it acc env) R s₇) E s' :=
  wpAny_runOwn (codeAny_mono hc fun r s₇ hr => by obtain ⟨rfl, hr⟩ := hr; exact hr)
theorem listTurn {elt : Expr} {gens : List Comprehension} {sc : Scope} {p : Pos} {d : Nat} {it acc : Value} {env : Env} {target iter : Expr} {ifs : List Expr} {R : Result -> Shared -> Prop}  (hg : (clausesOf (.ListComp elt gens sc p))[d]? = some ⟨target, iter, ifs, 0⟩) (ha : ∀ g', (clausesOf (.ListComp elt gens sc p))[d + 1]? = some g' -> g'.is_async = 0)
    (h : wpAny (M w) A (pyNext it) (fun r s₁ => match r with
      | none => R (.ok .next) s₁
      | some v => wpAny (M w) A (letOwnedTupleGo target it v) (fun z9 s₂ => wpAny (M w) A (assign target env v) (fun z9 s₃ =>
          wpAny (M w) A (forIn ifs true fun c r => if r = true then do let ok ← PySem.isTrue c env (eval c env); pure (ForInStep.yield ok) else pure (ForInStep.yield r)) (fun ok s₄ =>
            if ok = true then CompNext w A (.ListComp elt gens sc p) d it acc env R (notedBy (M w) A env fun e s' => R (.error e) s') s₄ ((clausesOf (.ListComp elt gens sc p))[d + 1]?)
            else codeAny (M w) A (.compLoop (.ListComp elt gens sc p) d it acc env) R s₄) (notedBy (M w) A env fun e s' => R (.error e) s') s₃) (notedBy (M w) A env fun e s' => R (.error e) s') s₂) (notedBy (M w) A env fun e s' => R (.error e) s') s₁) (notedBy (M w) A env fun e s' => R (.error e) s') s) :
    codeAny (M w) A (.compLoop (.ListComp elt gens sc p) d it acc env) R s := by
  refine codeAny_loop' rfl (fun z9 s' => s' = s) (fun n sz hs => ?_) 0 rfl
  subst hs
  refine (?_ : wpAny _ A ((compTurn (.ListComp elt gens sc p) d it acc env).onRaise (fun x => do noteFrame x env; theTreesLotGoes x)) _ _ sz)
  refine wpAny_noted ?_
  unfold compTurn
  dsimp only
  refine rwE (show gens[d]? = some ⟨target, iter, ifs, 0⟩ from hg) ?_
  dsimp only
  refine wpAny_bind (wpAny_standAt (wpAny_bind (wpAny_mono h (fun r s₁ h₁ => ?_) fun z9 z9 x => x)))
  cases r with
  | none => exact wpAny_pure h₁
  | some v =>
    refine wpAny_bind (wpAny_mono h₁ (fun z9 s₂ h₂ => wpAny_bind (wpAny_mono h₂ (fun z9 s₃ h₃ => wpAny_bind (wpAny_mono h₃ (fun ok s₄ h₄ => ?_) fun z9 z9 x => x)) fun z9 z9 x => x)) fun z9 z9 x => x)
    cases ok with
    | false => exact loop_tail rfl h₄
    | true =>
      rw [if_pos rfl] at h₄
      refine rwE (if_pos rfl) ?_
      change CompNext w A _ d it acc env R _ s₄ (gens[d + 1]?) at h₄
      have ha' : ∀ g', gens[d + 1]? = some g' -> g'.is_async = 0 := ha
      cases hg' : gens[d + 1]? with
      | none =>
        rw [hg'] at h₄
        exact wpAny_bind (wpAny_mono h₄ (fun z9 s₅ h₅ => loop_tail rfl h₅) fun z9 z9 x => x)
      | some g' =>
        rw [hg'] at h₄
        obtain ⟨t', i', f', a'⟩ := g'
        have : a' = 0 := ha' _ hg'
        subst this
        refine wpAny_bind (wpAny_mono h₄ (fun x s₅ h₅ => wpAny_bind (wpAny_standAt ?_)) fun z9 z9 x => x)
        refine wpAny_bind (m := foldedSetIterable i' env x) (wpAny_of_eq (h₅.1 x) ?_)
        exact wpAny_bind (wpAny_holding (wpAny_mono h₅.2 (fun it' s₆ h₆ => wpAny_bind (wpAny_mono (loop_nest h₆) (fun z9 s₇ h₇ => loop_tail rfl h₇) fun z9 z9 x => x)) fun z9 z9 x => x))
theorem dictTurn {k u : Expr} {gens : List Comprehension} {sc : Scope} {p : Pos} {d : Nat} {it acc : Value} {env : Env} {target iter : Expr} {ifs : List Expr} {R : Result -> Shared -> Prop}  (hg : (clausesOf (.DictComp k u gens sc p))[d]? = some ⟨target, iter, ifs, 0⟩) (ha : ∀ g', (clausesOf (.DictComp k u gens sc p))[d + 1]? = some g' -> g'.is_async = 0)
    (h : wpAny (M w) A (pyNext it) (fun r s₁ => match r with
      | none => R (.ok .next) s₁
      | some v => wpAny (M w) A (letOwnedTupleGo target it v) (fun z9 s₂ => wpAny (M w) A (assign target env v) (fun z9 s₃ =>
          wpAny (M w) A (forIn ifs true fun c r => if r = true then do let ok ← PySem.isTrue c env (eval c env); pure (ForInStep.yield ok) else pure (ForInStep.yield r)) (fun ok s₄ =>
            if ok = true then CompNext w A (.DictComp k u gens sc p) d it acc env R (notedBy (M w) A env fun e s' => R (.error e) s') s₄ ((clausesOf (.DictComp k u gens sc p))[d + 1]?)
            else codeAny (M w) A (.compLoop (.DictComp k u gens sc p) d it acc env) R s₄) (notedBy (M w) A env fun e s' => R (.error e) s') s₃) (notedBy (M w) A env fun e s' => R (.error e) s') s₂) (notedBy (M w) A env fun e s' => R (.error e) s') s₁) (notedBy (M w) A env fun e s' => R (.error e) s') s) :
    codeAny (M w) A (.compLoop (.DictComp k u gens sc p) d it acc env) R s := by
  refine codeAny_loop' rfl (fun z9 s' => s' = s) (fun n sz hs => ?_) 0 rfl
  subst hs
  refine (?_ : wpAny _ A ((compTurn (.DictComp k u gens sc p) d it acc env).onRaise (fun x => do noteFrame x env; theTreesLotGoes x)) _ _ sz)
  refine wpAny_noted ?_
  unfold compTurn
  dsimp only
  refine rwE (show gens[d]? = some ⟨target, iter, ifs, 0⟩ from hg) ?_
  dsimp only
  refine wpAny_bind (wpAny_standAt (wpAny_bind (wpAny_mono h (fun r s₁ h₁ => ?_) fun z9 z9 x => x)))
  cases r with
  | none => exact wpAny_pure h₁
  | some v =>
    refine wpAny_bind (wpAny_mono h₁ (fun z9 s₂ h₂ => wpAny_bind (wpAny_mono h₂ (fun z9 s₃ h₃ => wpAny_bind (wpAny_mono h₃ (fun ok s₄ h₄ => ?_) fun z9 z9 x => x)) fun z9 z9 x => x)) fun z9 z9 x => x)
    cases ok with
    | false => exact loop_tail rfl h₄
    | true =>
      rw [if_pos rfl] at h₄
      refine rwE (if_pos rfl) ?_
      change CompNext w A _ d it acc env R _ s₄ (gens[d + 1]?) at h₄
      have ha' : ∀ g', gens[d + 1]? = some g' -> g'.is_async = 0 := ha
      cases hg' : gens[d + 1]? with
      | none =>
        rw [hg'] at h₄
        exact wpAny_bind (wpAny_mono h₄ (fun z9 s₅ h₅ => loop_tail rfl h₅) fun z9 z9 x => x)
      | some g' =>
        rw [hg'] at h₄
        obtain ⟨t', i', f', a'⟩ := g'
        have : a' = 0 := ha' _ hg'
        subst this
        refine wpAny_bind (wpAny_mono h₄ (fun x s₅ h₅ => wpAny_bind (wpAny_standAt ?_)) fun z9 z9 x => x)
        refine wpAny_bind (m := foldedSetIterable i' env x) (wpAny_of_eq (h₅.1 x) ?_)
        exact wpAny_bind (wpAny_holding (wpAny_mono h₅.2 (fun it' s₆ h₆ => wpAny_bind (wpAny_mono (loop_nest h₆) (fun z9 s₇ h₇ => loop_tail rfl h₇) fun z9 z9 x => x)) fun z9 z9 x => x))
theorem compLoop_turn {e : Expr} {d : Nat} {it acc : Value} {env : Env} {target iter : Expr} {ifs : List Expr} {R : Result -> Shared -> Prop} (he : IsCompE e) (hg : (clausesOf e)[d]? = some ⟨target, iter, ifs, 0⟩) (ha : ∀ g', (clausesOf e)[d + 1]? = some g' -> g'.is_async = 0)
    (h : wpAny (M w) A (pyNext it) (fun r s₁ => match r with
      | none => R (.ok .next) s₁
      | some v => wpAny (M w) A (letOwnedTupleGo target it v) (fun z9 s₂ => wpAny (M w) A (assign target env v) (fun z9 s₃ =>
          wpAny (M w) A (forIn ifs true fun c r => if r = true then do let ok ← PySem.isTrue c env (eval c env); pure (ForInStep.yield ok) else pure (ForInStep.yield r)) (fun ok s₄ =>
            if ok = true then CompNext w A e d it acc env R (notedBy (M w) A env fun e s' => R (.error e) s') s₄ ((clausesOf e)[d + 1]?)
            else codeAny (M w) A (.compLoop e d it acc env) R s₄) (notedBy (M w) A env fun e s' => R (.error e) s') s₃) (notedBy (M w) A env fun e s' => R (.error e) s') s₂) (notedBy (M w) A env fun e s' => R (.error e) s') s₁) (notedBy (M w) A env fun e s' => R (.error e) s') s) :
    codeAny (M w) A (.compLoop e d it acc env) R s :=
  he.cs (C := fun e => ((clausesOf e)[d]? = some ⟨target, iter, ifs, 0⟩) -> (∀ g', (clausesOf e)[d + 1]? = some g' -> g'.is_async = 0) -> (wpAny (M w) A (pyNext it) (fun r s₁ => match r with
      | none => R (.ok .next) s₁
      | some v => wpAny (M w) A (letOwnedTupleGo target it v) (fun z9 s₂ => wpAny (M w) A (assign target env v) (fun z9 s₃ =>
          wpAny (M w) A (forIn ifs true fun c r => if r = true then do let ok ← PySem.isTrue c env (eval c env); pure (ForInStep.yield ok) else pure (ForInStep.yield r)) (fun ok s₄ =>
            if ok = true then CompNext w A e d it acc env R (notedBy (M w) A env fun e s' => R (.error e) s') s₄ ((clausesOf e)[d + 1]?)
            else codeAny (M w) A (.compLoop e d it acc env) R s₄) (notedBy (M w) A env fun e s' => R (.error e) s') s₃) (notedBy (M w) A env fun e s' => R (.error e) s') s₂) (notedBy (M w) A env fun e s' => R (.error e) s') s₁) (notedBy (M w) A env fun e s' => R (.error e) s') s) -> codeAny (M w) A (.compLoop e d it acc env) R s) (fun z9 z9 z9 z9 => listTurn) (fun z9 z9 z9 z9 z9 => dictTurn) hg ha h
theorem compStart_rule {e : Expr} {d : Nat} {it acc : Value} {env : Env} {R : Result -> Shared -> Prop} (he : IsCompE e) {g : Comprehension} (hg : (clausesOf e)[d]? = some g) (ha : g.is_async = 0) (h0 : codeAny (M w) A (.compLoop e d it acc env) R s)
    (h : wpAny (M w) A (pyIter it) (fun it' s' => codeAny (M w) A (.compLoop e d it' acc env) R s') (notedBy (M w) A env fun x s' => R (.error x) s') s) : codeAny (M w) A (.compStart e d it acc env) R s := by
  have hq : ∀ it', (Code.compLoop e d it' acc env).quiet = true := fun it' => he.cs (fun z9 z9 z9 z9 => rfl) fun z9 z9 z9 z9 z9 => rfl
  have go : wpAny (M w) A (compStart e d it acc env) (fun fin s' => match fin with
      | .done f => R (.ok f) s' | .again c' => c'.quiet = true /\ codeAny (M w) A c' R s') (notedBy (M w) A env fun x s' => R (.error x) s') s := by
    unfold compStart
    refine rwE hg ?_
    simp only [Option.elim, ha]
    refine wpAny_bind (wpAny_askSetting (wpAny_ite ?_))
    split
    . first
        | exact wpAny_bind (wpAny_pure (wpAny_pure (And.intro (hq _) h0)))
        | exact wpAny_pure (And.intro (hq _) h0)
    . exact wpAny_bind (wpAny_rule (wpAny_bind (wpAny_standAt (wpAny_bind (wpAny_mono h (fun it' s' h' => wpAny_pure (And.intro (hq _) h')) fun z9 z9 x => x)))))
  refine codeAny_of_tree ?_
  cases e <;> first | exact wpAny_notedAt go | (cases he; done)
theorem assignIt_two {fe : FE} {t : Expr} {a b : AV} (e : assignIt fe t (.two a b) st = some st') : ∃ ts k p, t = .Tuple ts k p := by
  unfold assignIt at e
  dsimp only at e
  split at e
  . exact ⟨_, _, _, rfl⟩
  . cases e
theorem drop_cons {α : Type} {l : List α} {d : Nat} {g : α} {more : List α} (h : l.drop d = g :: more) : l[d]? = some g /\ l.drop (d + 1) = more := by
  constructor
  . have := congrArg (·[0]?) h; simpa using this
  . have : (l.drop d).drop 1 = more := by refine rwE h ?_; rfl
    rw [List.drop_drop] at this; exact this
theorem drop_nil {α : Type} {l : List α} {d : Nat} (h : l.drop d = []) : l[d]? = none := by
  have := congrArg (·[0]?) h; simpa using this


theorem asy0 {g : Comprehension} {more : List Comprehension} (h : ((g :: more).all fun g => g.is_async == 0) = true) : g.is_async = 0 /\ (more.all fun g => g.is_async == 0) = true := by
  rw [List.all_cons, Bool.and_eq_true] at h
  exact ⟨by simpa using h.1, h.2⟩
end

section
variable {fe : FE} {st : St} {P : Src -> St -> Prop} {pos : Pos}
theorem SRC.gen {e : Expr} (h : EV fe e st fun v st1 => ∃ s, srcOf v st1.hp = some s /\ P s st1) : SRC fe e st P := ⟨fun env x => notFolded (okE.set h.1) x, by
  intro w K mg mb X φ s₀ s E Q c R k
  exact h.2 c R fun h1 l1 hv R1 => let ⟨_, q, hp⟩ := h1; k hp l1 (srcOf_sound R1 hv q).1 (srcOf_sound R1 hv q).2 R1⟩
theorem SRC.range {p q : Pos} {a : Expr} (hg : getName fe "range" st = some (.con (.type "range"))) (h : EV fe a st fun v st1 => ∃ k : Int, v = .int k /\ 0 <= k /\ k <= 1000 /\ P ⟨.rng 0 1, upto k.toNat, none⟩ st1) : SRC fe (.Call (.Name "range" p) [a] [] q) st P := ⟨fun z9 z9 => rfl, by
  intro w K mg mb X φ s₀ s E Q c R k
  refine type_call c R (by decide) hg ((noStar_cons (okE.star h.1)).trans rfl) (spliced_cons (h.2 c R fun h1 l1 hv R1 => spliced_nil ?_))
  (refine xEAAA (h1) fun n hz1 h0 h2 hp => ?_; subst hz1)
  cases hv with | int _ t =>
  exact range_sound R1 h0 h2 fun r s' R' z9 V => k hp l1 V (fun m hm => by cases hm) R'⟩
theorem SRC.enum {p q : Pos} {a : Expr} (hg : getName fe "enumerate" st = some (.con (.type "enumerate"))) (h : EV fe a st fun v st1 => ∃ k xs, v = .obj k /\ st1.hp[k]? = some (.list xs) /\ xs.length <= 1000 /\ P ⟨.enum k, enumIts 0 xs, some (k, .list xs)⟩ st1) : SRC fe (.Call (.Name "enumerate" p) [a] [] q) st P := ⟨fun z9 z9 => rfl, by
  intro w K mg mb X φ s₀ s E Q c R k
  refine type_call c R (by decide) hg ((noStar_cons (okE.star h.1)).trans rfl) (spliced_cons (h.2 c R fun h1 l1 hv R1 => spliced_nil ?_))
  (refine xEEAAA (h1) fun n xs hz2 hx z9 hp => ?_; subst hz2)
  cases hv with | obj hl =>
  exact enumerate_sound R1 hl hx fun x s' R' V => k hp l1 V (fun m hm => by cases hm) R'⟩
theorem SRC.rev {p q p2 q2 : Pos} {b : Expr} (hg : getName fe "reversed" st = some (.con (.type "reversed"))) (hg2 : getName fe "range" st = some (.con (.type "range"))) (h : EV fe b st fun v st1 => ∃ k : Int, v = .int k /\ 0 <= k /\ k <= 1000 /\ P ⟨.rng (k - 1) (-1), (upto k.toNat).reverse, none⟩ st1) :
    SRC fe (.Call (.Name "reversed" p) [.Call (.Name "range" p2) [b] [] q2] [] q) st P := ⟨fun z9 z9 => rfl, by
  intro w K mg mb X φ s₀ s E Q c R k
  refine type_call c R (by decide) hg rfl (spliced_cons (type_call c R (by decide) hg2 ((noStar_cons (okE.star h.1)).trans rfl) (spliced_cons (h.2 c R fun h1 l1 hv R1 => spliced_nil ?_))))
  (refine xEAAA (h1) fun n hz1 h0 h2 hp => ?_; subst hz1)
  cases hv with | int _ t =>
  refine range_sound R1 h0 h2 fun r s' R' hr z9 => spliced_nil ?_
  refine xEEE (hr) fun t u v hr => ?_
  exact reversed_sound R' hr h0 h2 fun x s'' R'' V => k hp l1 V (fun m hm => by cases hm) R''⟩
theorem SRC.down {p q p1 p2 p3 p4 p5 : Pos} {k1 k2 k3 : Nat} (hg : getName fe "range" st = some (.con (.type "range"))) (h : P ⟨.rng 4 (-1), (upto 5).reverse, none⟩ st) :
    SRC fe (.Call (.Name "range" p) [.Constant (.int 4) k1 p1, .UnaryOp .USub (.Constant (.int 1) k2 p2) p3, .UnaryOp .USub (.Constant (.int 1) k3 p4) p5] [] q) st P := ⟨fun z9 z9 => rfl, by
  intro w K mg mb X φ s₀ s E Q c R k
  refine type_call c R (by decide) hg rfl ?_
  have neg1 : ∀ {p p' : Pos} {n : Nat} {P : AV -> St -> Prop}, P (.int (-1)) st -> EV fe (.UnaryOp .USub (.Constant (.int 1) n p) p') st P := fun h => .neg (.int ⟨1, rfl, h⟩)
  refine spliced_cons (wpAny_Constant_int (spliced_cons ?_))
  refine (neg1 (P := fun a st' => a = .int (-1) /\ st' = st) ⟨rfl, rfl⟩).2 c (R.toks (tk := s.toks + 1) (Nat.le_add_left ..)) fun h1 l1 hv1 R1 => spliced_cons ?_
  obtain ⟨rfl, rfl⟩ := h1
  refine (neg1 (P := fun a st' => a = .int (-1) /\ st' = _) ⟨rfl, rfl⟩).2 c R1 fun h2 l2 hv2 R2 => spliced_nil ?_
  obtain ⟨rfl, rfl⟩ := h2
  cases hv1
  cases hv2
  exact range3_sound R2 fun x s' R' V => k h (l1.trans l2) V (fun m hm => by cases hm) R'⟩
theorem SRC.items {o : Expr} {p q : Pos} (hf : methForm o p q 0 = true) (h : EV fe o st fun v st1 => ∃ k es, v = .obj k /\ st1.hp[k]? = some (.dict es) /\ es.length <= 1000 /\ P ⟨.ditem k, es.map fun p => .two (.str p.1) p.2, none⟩ st1) : SRC fe (.Call (.Attribute o "items" p) [] [] q) st P := ⟨fun z9 z9 => rfl, by
  intro w K mg mb X φ s₀ s E Q c R k
  refine dict_view c R hf F.slot_dict_items F.type_dict_items h fun {a st1 φ1 s1 v} h1 l1 hv R1 => ?_
  (refine xEEAAA (h1) fun n es hz2 hx z9 hp => ?_; subst hz2)
  cases hv with | obj hd =>
  exact ⟨n, _, es, rfl, rfl, hx, fun hd => (views_sound R1 hd hx).1 fun x s' R' V => k hp l1 V (fun m hm => by cases hm; exact (List.getElem?_eq_some_iff.mp hd).1) R'⟩⟩
theorem SRC.values {o : Expr} {p q : Pos} (hf : methForm o p q 0 = true) (h : EV fe o st fun v st1 => ∃ k es, v = .obj k /\ st1.hp[k]? = some (.dict es) /\ es.length <= 1000 /\ P ⟨.dval k, es.map fun p => .one p.2, none⟩ st1) : SRC fe (.Call (.Attribute o "values" p) [] [] q) st P := ⟨fun z9 z9 => rfl, by
  intro w K mg mb X φ s₀ s E Q c R k
  refine dict_view c R hf F.slot_dict_values F.type_dict_values h fun {a st1 φ1 s1 v} h1 l1 hv R1 => ?_
  (refine xEEAAA (h1) fun n es hz2 hx z9 hp => ?_; subst hz2)
  cases hv with | obj hd =>
  exact ⟨n, _, es, rfl, rfl, hx, fun hd => (views_sound R1 hd hx).2 fun x s' R' V => k hp l1 V (fun m hm => by cases hm; exact (List.getElem?_eq_some_iff.mp hd).1) R'⟩⟩
end

section
variable {fe : FE} {st : St} {pos : Pos} {P : St -> Prop} {e : Expr} {a : Nat} {sc : Src}
noncomputable def NEXTC (fe : FE) (e : Expr) (a : Nat) (st : St) (P : St -> Prop) : List Comprehension -> Prop
  | [] => EMIT fe e a st P
  | g' :: m => SRC fe g'.iter st fun s' st3 => LOOPC fe e (g' :: m) a s' s'.items ⟨freeze s' st3.hp, st3.lc⟩ fun st4 => P ⟨thaw s' st4.hp, st4.lc⟩
theorem LOOPC.nil {g : Comprehension} {more : List Comprehension} (hk : kept sc st.hp = true) (h : P st) : LOOPC fe e (g :: more) a sc [] st P := by
  intro w K mg mb X φ s₀ s Q d i D I c R he hgen hasy hD hI At hits k
  obtain ⟨hg, hmore⟩ := drop_cons hgen
  obtain ⟨target, iter, ifs, asy⟩ := g
  obtain ⟨h0, ham⟩ := asy0 hasy
  have h0 : asy = 0 := h0
  subst h0
  refine compLoop_turn he hg (fun g' h => ?_) (next_end c.good.hh R hI At hk (drop_nil hits.symm) fun s' R' => k h (Le.refl _) R')
  cases more with
  | nil => rw [drop_nil hmore] at h; cases h
  | cons g2 m2 => rw [(drop_cons hmore).1] at h; cases h; exact (asy0 ham).1
theorem LOOPC.cons {g : Comprehension} {more : List Comprehension} {i : It} {r : List It} (hk : kept sc st.hp = true)
    (h : ∃ st1, assignIt fe g.target i st = some st1 /\ IFS fe g.ifs st1 fun b st2 => if b then NEXTC fe e a st2 (fun st3 => LOOPC fe e (g :: more) a sc r st3 P) more else LOOPC fe e (g :: more) a sc r st2 P) : LOOPC fe e (g :: more) a sc (i :: r) st P := by
  intro w K mg mb X φ s₀ s Q d n D I c R he hgen hasy hD hI At hits k
  obtain ⟨hg, hmore⟩ := drop_cons hgen
  obtain ⟨target, iter, ifs, asy⟩ := g
  obtain ⟨h0, ham⟩ := asy0 hasy
  have h0 : asy = 0 := h0
  subst h0
  have hnx : ∀ g', (clausesOf e)[d + 1]? = some g' -> g'.is_async = 0 := fun g' hh => by
    cases more with
    | nil => rw [drop_nil hmore] at hh; cases hh
    | cons g2 m2 => rw [(drop_cons hmore).1] at hh; cases hh; exact (asy0 ham).1
  obtain ⟨hit, hr⟩ := drop_cons hits.symm
  refine xEA (h) fun st1 q1 h => ?_
  have G := c.good
  refine compLoop_turn he hg hnx (next_item R hI At hk hit (target := target) (fun a b h => by subst h; exact assignIt_two q1) fun v s1 letgo => ?_)
  refine letgo _ _ fun s2 R2 At2 hv2 => ?_
  have cp : Cx fe w K mg mb (X.prot st.hp φ s2.heap) := ⟨c.ka, G.prot R2, c.fe⟩
  have fin : ∀ {φ5 : List Addr} {st3 : St} {s5 : Shared}, LOOPC fe e (⟨target, iter, ifs, 0⟩ :: more) a sc r st3 P -> Le φ φ5 -> Rel w (X.prot st.hp φ s2.heap) φ5 st3 s₀ s5 -> codeAny (M w) X.A (.compLoop e d (.ref I) (.ref D) X.env) Q s5 := fun {φ5 st3 s5} h l R5 => by
    obtain ⟨At5, hI5⟩ := At2.mono (h' := s5.heap) hI l (fun b o hb e => prot_keeps G R2 R5 hb e) (fun b o hb e hc => prot_off G R2 R5 hb e hc)
    have R5' : Rel w X φ5 st3 s₀ s5 := R5.unprot (R2.sub_prot G.prL) rfl rfl rfl rfl
    exact h c R5' he hgen hasy (l _ _ hD) hI5 At5 hr.symm fun hp l2 => k hp (l.trans l2)
  refine assignIt_sound (X := X.prot st.hp φ s2.heap) cp.good R2.prot hv2 (c.fe.symm ▸ q1) fun s3 R3 => ?_
  refine Run.at (X := X.prot st.hp φ s2.heap) h cp R3 fun {b st4 φ4 ok s4} h4 l4 hb R4 => ?_
  cases hb
  cases b with
  | false => exact fin h4 l4 R4
  | true =>
    refine rwE (if_pos rfl) ?_
    rw [if_pos rfl] at h4
    cases more with
    | nil =>
      refine rwE (drop_nil hmore) ?_
      exact @h4 _ _ _ _ _ (X.prot st.hp φ s2.heap) _ _ _ _ _ cp R4 (l4 _ _ hD) fun h5 l5 R5 => fin h5 (l4.trans l5) R5
    | cons g2 m2 =>
      refine rwE ((drop_cons hmore).1) ?_
      obtain ⟨hf2, h42⟩ := h4
      refine @h42 _ _ _ _ (X.prot st.hp φ s2.heap) _ _ _ _ _ cp R4 fun {sc2 st5 φ5 x s5} h5 l5 V hl R5 => ⟨hf2 _, ?_⟩
      refine SrcV.iter (X := X.prot st.hp φ s2.heap) cp.good R5 V fun I' s6 p S Gp' R6 hI' At' ht => ?_
      have loop : codeAny (M w) X.A (.compLoop e (d + 1) (.ref I') (.ref D) X.env) (fun r s7 => r = .ok .next /\ codeAny (M w) X.A (.compLoop e d (.ref I) (.ref D) X.env) Q s7) s6 :=
        @h5 _ _ _ _ { X.prot st.hp φ s2.heap with pr := p } _ _ _ _ _ 0 _ _ ⟨c.ka, Gp', c.fe⟩ R6 he hmore ham (l5 _ _ (l4 _ _ hD)) hI' At' rfl fun h7 l7 R7 => ⟨rfl, fin h7 ((l4.trans l5).trans l7) (R7.back S l7 hl ht)⟩
      exact compStart_rule he (drop_cons hmore).1 (asy0 ham).1 loop (At'.self loop)
end
end Mine
end
section
open PySem PySem.W PyProof.Rows PySem.Calls
namespace Mine
section
variable {w : World} {X : Fx} {φ ψ : List Addr} {st st' : St} {s₀ s s' : Shared} {K : Frag} {mg mb : Str -> Option Value} {E : Value -> Shared -> Prop} {A : Around}
theorem cells_keep : ∀ (names : List (Str × NameKind)) {cs : List (Str × Nat)} {as : List (Str × Addr)} {φ : List Addr} {st : St} {s : Shared}, Rel w (X.cellsTo cs as) φ st s₀ s -> ∀ {Q : List (Str × Addr) -> Shared -> Prop},
    (∀ as' φ' s', Le φ φ' -> Rel w (X.cellsTo (newCells names st.hp cs).2 as') φ' ⟨(newCells names st.hp cs).1, st.lc⟩ s₀ s' -> (∀ b o, s.heap.get? b = some o -> s'.heap.get? b = some o) -> (∀ b o, s.heap.get? b = some o -> b ∉ φ -> b ∉ φ') -> Q as' s') ->
    wpAny (M w) A (forIn names as fun x r => match x with | (name, kind) => if (kind == NameKind.cell) = true then (do let a ← alloc { cls := .type "cell", data := .cell none }; pure (ForInStep.yield ((name, a) :: r))) else pure (ForInStep.yield r)) Q E s
  | [], cs, as, φ, st, s, R, Q, h => by
    refine rwE List.forIn_nil ?_
    exact wpAny_pure (h as φ s (Le.refl _) R (fun z9 z9 e => e) fun z9 z9 z9 e => e)
  | (n, k) :: r, cs, as, φ, st, s, R, Q, h => by
    refine rwE (List.forIn_cons ..) ?_
    refine wpAny_bind ?_
    cases hk : k == NameKind.cell with
    | true =>
      have : k = .cell := by simpa using hk
      subst this
      simp only [hk, if_true]
      refine wpAny_bind (wpAny_alloc (wpAny_pure ?_))
      refine cells_keep r (R.addCell n) fun as' φ' s' l R' k1 k2 => h as' φ' s' (Le.trans (fun z9 z9 => get_snoc) l) R' (fun b o e => k1 b o (Heap.get?_push_of_some _ e)) fun b o e hb => k2 b o (Heap.get?_push_of_some _ e) fun q => ?_
      rcases List.mem_append.mp q with q | q
      . exact hb q
      . have : b = s.heap.objs.size := by simpa using q
        rw [this, Heap.get?_none_of_le (Nat.le_refl _)] at e; cases e
    | false =>
      simp only [hk, Bool.false_eq_true, if_false]
      refine wpAny_pure ?_
      have e : newCells ((n, k) :: r) st.hp cs = newCells r st.hp cs := by cases k <;> first | rfl | (simp at hk)
      rw [e] at h
      exact cells_keep r R h

set_option tactic.hygienic true in
theorem closure_sound {env : Env} (hc : ∀ x c, X.fe.cells.lookup x = some c -> ∃ a, env.cells.lookup x = some a /\ φ[c]? = some a) : ∀ (names : List (Str × NameKind)) {cs0 cs : List (Str × Nat)} {as0 : List (Str × Addr)}, closure X.fe names cs0 = some cs ->
    (∀ x c, cs0.lookup x = some c -> ∃ a, as0.lookup x = some a /\ φ[c]? = some a) ->
    ∃ as, (forIn names as0 fun x r => match x with | (name, kind) => if (kind == NameKind.free) = true then (do let a ← cellOf env name; pure (ForInStep.yield ((name, a) :: r))) else pure (ForInStep.yield r) : Sem (List (Str × Addr))) = pure as /\ ∀ x c, cs.lookup x = some c -> ∃ a, as.lookup x = some a /\ φ[c]? = some a
  | [], cs0, cs, as0, e, h => by
    cases e
    exact ⟨as0, rfl, h⟩
  | (n, k) :: r, cs0, cs, as0, e, h => by
    refine rwE (List.forIn_cons ..) ?_
    cases hk : k == NameKind.free with
    | true =>
      have : k = .free := by simpa using hk
      subst this
      simp only [closure] at e
      split at e
      . rename_i c hl
        refine xEA (hc _ _ hl) fun a h1 h2 => ?_
        obtain ⟨as, g1, g2⟩ := closure_sound hc r (as0 := (n, a) :: as0) e fun x c' hx => by
          simp only [List.lookup] at hx ⊢
          cases q : x == n with
          | true => rw [q] at hx; cases hx; exact ⟨a, rfl, h2⟩
          | false => rw [q] at hx; exact h x c' hx
        refine ⟨as, ?_, g2⟩
        have : cellOf env n = pure a := by unfold cellOf; exact rwE h1 rfl
        simp only [hk, if_true, this]
        exact g1
      . cases e
    | false =>
      have e' : closure X.fe ((n, k) :: r) cs0 = closure X.fe r cs0 := by cases k <;> first | rfl | (simp at hk)
      rw [e'] at e
      refine xEA (closure_sound hc r e h) fun as g1 g2 => ?_
      refine ⟨as, ?_, g2⟩
      simp only [hk, Bool.false_eq_true, if_false]
      exact g1

theorem compNames_eq {sc : Scope} (G : Good w K mg mb X) : (relabel sc X.env).names = compNames X.fe sc.names := by
  delta relabel compNames
  refine List.map_congr_left fun p z9 => ?_
  obtain ⟨x, k⟩ := p
  have hk : X.env.kindOf x = X.fe.names.lookup x := by unfold Env.kindOf; exact rwE G.names rfl
  dsimp only
  refine rwE hk (rwE G.kind ?_)
  by_cases h1 : k = .free <;> by_cases h2 : X.fe.names.lookup x = some .cell <;> lia
theorem acc_sound (R : Rel w X φ st s₀ s) {acc : AO} {newAcc : Sem Value} (h : acc = .list [] /\ newAcc = newList [] ∨ acc = .dict [] /\ newAcc = newDict) {Q : Value -> Shared -> Prop}
    (hq : ∀ D s', s.heap.get? D = none -> (∀ b o, s.heap.get? b = some o -> s'.heap.get? b = some o) -> Rel w X (φ ++ [D]) ⟨st.hp ++ [acc], st.lc⟩ s₀ s' -> Q (.ref D) s') : wpAny (M w) A newAcc Q E s := by
  have hn : s.heap.get? s.heap.objs.size = none := Heap.get?_none_of_le (Nat.le_refl _)
  rcases h with ⟨rfl, rfl⟩ | ⟨rfl, rfl⟩
  . refine wpAny_newObj_type ?_
    exact hq _ _ hn (fun z9 z9 e => Heap.get?_push_of_some _ e) (R.push rfl ⟨[], 0, rfl, .nil⟩ R.tok)
  . refine wpAny_newObj_type ?_
    exact hq _ _ hn (fun z9 z9 e => Heap.get?_push_of_some _ e) (R.push rfl OC.dictNil R.tok)

theorem comp_sound {fe : FE} (c : Cx fe w K mg mb X) (R : Rel w X φ st s₀ s) {e : Expr} {sc : Scope} {acc : AO} {pos : Pos} {newAcc : Sem Value} {use : Option (Value -> Sem Unit)} {Q : Value -> Shared -> Prop} {g : Comprehension} {more : List Comprehension} {P : AV -> St -> Prop} {cs : List (Str × Nat)}
    (he : IsCompE e) (hcl : clausesOf e = g :: more) (hacc : acc = .list [] /\ newAcc = newList [] ∨ acc = .dict [] /\ newAcc = newDict) (hok : compOk sc (g :: more) = true) (hcs : closure fe sc.names [] = some cs)
    (h : SRC fe g.iter st fun s st1 => LOOPC ⟨compNames fe sc.names, (newCells sc.names (st1.hp ++ [acc]) cs).2, fe.dep, false⟩ e (g :: more) st1.hp.length s s.items ⟨freeze s (newCells sc.names (st1.hp ++ [acc]) cs).1, []⟩ fun st2 => P (.obj st1.hp.length) ⟨thaw s st2.hp, st1.lc⟩)
    (hu : match use with
      | none => ∀ {a st' φ' v s'}, P a st' -> Le φ φ' -> VC φ' a v -> Rel w X φ' st' s₀ s' -> Q v s'
      | some u => ∃ x p, u = assign (.Name x p) X.env /\ ∀ {a st'}, P a st' -> ∃ st'', putName fe x a st' = some st'' /\ ∀ {φ' s'}, Le φ φ' -> Rel w X φ' st'' s₀ s' -> Q .none s') :
    wpAny (M w) X.A (comprehension e sc X.env pos newAcc (firstAsync (g :: more)) (firstIter (g :: more) X.env) use) Q E s := by
  obtain ⟨KA, G, rfl⟩ := c
  have hasy : ((g :: more).all fun g => g.is_async == 0) = true := by
    unfold compOk at hok; rw [Bool.and_eq_true] at hok; exact hok.2
  have hkind : sc.kind = .function := by
    unfold compOk at hok; simp only [Bool.and_eq_true, beq_iff_eq] at hok; exact hok.1.1
  have hnames : ∀ x ∈ sc.names, x.2 = .local -> sc.names.lookup x.1 = some .local := fun x hx hl => by
    unfold compOk at hok; simp only [Bool.and_eq_true] at hok
    have := (List.all_eq_true.mp hok.1.2) x hx
    simpa [hl] using this
  obtain ⟨target, iter, ifs, asy⟩ := g
  have h0 : asy = 0 := by simpa using (List.all_eq_true.mp hasy) _ (List.mem_cons_self ..)
  subst h0
  refine xEA (closure_sound (φ := φ) (env := X.env) R.cells sc.names (as0 := []) hcs fun x c h => by cases h) fun cl hcl1 hcl2 => ?_
  have hclos : closureFor sc X.env = pure cl := by
    unfold closureFor
    have := congrArg (fun t : Sem (List (Str × Addr)) => t >>= fun cs => pure cs) hcl1
    exact this
  refine (?_ : wpAny (M w) X.A (comprehension e sc X.env pos newAcc false (eval iter X.env) use) Q E s)
  obtain ⟨hfold, hsrc⟩ := h
  refine wpAny_comprehension_free hcl (hfold _) hclos hkind hnames (hsrc ⟨KA, G, rfl⟩ R fun {src st1 φ1 x s1} h1 l1 V hlen R1 => ?_)
  refine SrcV.iter G R1 V fun I s2 p S Gp R2 hI At ht => ?_
  refine acc_sound R2 hacc fun D s3 hDn k3 R3 => ?_
  have hIs := At.some
  have offD : ∀ {b : Addr} {o : Obj}, Off { X with pr := p } φ1 b -> s2.heap.get? b = some o -> Off { X with pr := p } (φ1 ++ [D]) b := fun {b o} hb e => by
    refine ⟨fun q => ?_, hb.lls, hb.pr⟩
    rcases List.mem_append.mp q with q | q
    . exact hb.phi q
    . have : b = D := by simpa using q
      rw [this, hDn] at e; cases e
  obtain ⟨At3, hI3⟩ := At.mono (ψ := φ1 ++ [D]) (h' := s3.heap) hI (fun z9 z9 => get_snoc) (fun b o z9 e => k3 b o e) (fun b o hb e z9 => offD hb e)
  unfold newFunctionEnv
  dsimp only
  refine wpAny_bind (wpAny_alloc ?_)
  have hCn : s3.heap.get? s3.heap.objs.size = none := Heap.get?_none_of_le (Nat.le_refl _)
  let env0 : Env := { scope := relabel sc X.env, locals := s3.heap.objs.size, globals := X.env.globals, cells := cl, qual := X.env.qual, func := none, code := X.env.code, frame := X.env.frame, builtins := X.env.builtins }
  let fe0 : FE := ⟨compNames X.fe sc.names, cs, X.fe.dep, false⟩
  have hcells : ∀ x k, cs.lookup x = some k -> ∃ a, cl.lookup x = some a /\ (φ1 ++ [D])[k]? = some a := fun x k h => let ⟨a, h1, h2⟩ := hcl2 x k h; ⟨a, h1, get_snoc (l1 _ _ h2)⟩
  have RC : Rel w (((({ X with pr := p } : Fx).inner s3.heap env0 fe0)).cellsTo cs cl) (φ1 ++ [D]) ⟨freeze src st1.hp ++ [acc], []⟩ s₀ { s3 with heap := s3.heap.push { cls := .type "dict", data := .dict #[] } } := R3.inner (env := env0) (fe := fe0) rfl hcells
  refine wpAny_bind ?_
  refine cells_keep sc.names RC fun as' φ4 s4 l4 R4 k4 o4 => ?_
  refine wpAny_bind ?_
  refine rwE List.forIn_nil ?_
  refine wpAny_pure (wpAny_pure ?_)
  have hl1 : ∀ m, src.dict? = some m -> m < st1.hp.length := fun m hm => by refine rwB R1.len ?_; exact hlen m hm
  have hNC : newCells sc.names (freeze src st1.hp ++ [acc]) cs = (freeze src (newCells sc.names (st1.hp ++ [acc]) cs).1, (newCells sc.names (st1.hp ++ [acc]) cs).2) := by
    refine rwB (freeze_append hl1) ?_
    exact newCells_freeze sc.names cs fun m hm => by have := hl1 m hm; simp; exact Nat.lt_succ_of_lt ‹_›
  dsimp only at R4
  rw [hNC] at R4
  let env1 : Env := { env0 with cells := as' }
  let fe1 : FE := ⟨compNames X.fe sc.names, (newCells sc.names (st1.hp ++ [acc]) cs).2, X.fe.dep, false⟩
  have R4' : Rel w (({ X with pr := p } : Fx).inner s3.heap env1 fe1) φ4 ⟨freeze src (newCells sc.names (st1.hp ++ [acc]) cs).1, []⟩ s₀ s4 := { R4 with }
  have GY : Good w K mg mb (({ X with pr := p } : Fx).inner s3.heap env1 fe1) := Gp.inner R3 hCn hkind (compNames_eq G) G.glb G.bns rfl rfl rfl
  have hIne : I ≠ s3.heap.objs.size := fun h => by
    have := At3.some; rw [h, hCn] at this; cases this
  have kp : ∀ b o, s3.heap.get? b = some o -> s4.heap.get? b = some o := fun b o e => k4 b o (Heap.get?_push_of_some _ e)
  obtain ⟨At4, hI4⟩ := (At3.inner R3 (env := env1) (fe := fe1) hCn).mono (ψ := φ4) (h' := s4.heap) (hI3.inner (s := s3) (env := env1) (fe := fe1) hIne R3.lls.1) l4 (fun b o z9 e => kp b o e) (fun b o hb e z9 => ⟨o4 b o (Heap.get?_push_of_some _ e) hb.phi, hb.lls, hb.pr⟩)
  have hD : (φ1 ++ [D])[st1.hp.length]? = some D := by refine rwB R1.len ?_; exact get_last
  have loop : codeAny (M w) X.A (.compLoop e 0 (.ref I) (.ref D) env1) (compPost (M w) X.A E use Q (.ref D) s3.heap.objs.size) s4 := by
    refine @h1 _ _ _ _ (({ X with pr := p } : Fx).inner s3.heap env1 fe1) _ _ _ _ _ 0 _ _ ⟨KA, GY, rfl⟩ R4' he (by refine rwE hcl ?_; rfl) hasy (l4 _ _ hD) hI4 At4 rfl fun {st5 φ5 s5} hP l5 R5 => ?_
    have lle : Le φ1 φ5 := (Le.trans (fun z9 z9 => get_snoc) l4).trans l5
    have R6 := R3.outer Gp.prL (l4.trans l5) R5
    have offC : Off { X with pr := p } φ5 s3.heap.objs.size := R3.innerOff (env := env1) (fe := fe1) hCn R5
    refine xEA (R5.loc) fun m hns z9 => ?_
    have hob : VC φ5 (.obj st1.hp.length) (.ref D) := .obj (l5 _ _ (l4 _ _ hD))
    unfold compPost
    cases use with
    | none =>
      exact ⟨m, hns, fun h' hs => hu hP (l1.trans lle) hob ((R6.garb1 offC hs.extBut R6.tok).back S lle hlen ht)⟩
    | some u =>
      obtain ⟨x, px, rfl, hu⟩ := hu
      obtain ⟨st'', hput, hu⟩ := hu hP
      have R7 : Rel w X φ5 ⟨thaw src st5.hp, st1.lc⟩ s₀ s5 := R6.back S lle hlen ht
      have offX : Off X φ5 s3.heap.objs.size := ⟨offC.phi, offC.lls, by
        cases h : X.pr.get? s3.heap.objs.size with
        | none => rfl
        | some o => refine xEA (S _ _ h) fun sl h1 z9 => ?_; rw [offC.pr] at h1; cases h1⟩
      have GP := G.prot R7
      refine wpAny_assign_Name (putName_any (X := X.prot (thaw src st5.hp) φ5 s5.heap) GP.kind GP.names GP.prL R7.prot hob hput fun s6 R8 => ?_)
      refine xEEEA (hns) fun oC es ep c1 c2 => ?_
      have c1' := prot_keeps G R7 R8 offX c1
      have R9 : Rel w X φ5 st'' s₀ s6 := R8.unprot (R7.sub_prot G.prL) rfl rfl rfl rfl
      exact ⟨m, ⟨oC, es, ep, c1', c2⟩, fun h' hs => hu (l1.trans lle) (R9.garb1 offX hs.extBut R9.tok)⟩
  exact compStart_rule he (by refine rwE hcl ?_; rfl) rfl loop (At4.self loop)
end
section
variable {fe : FE} {st : St} {P : AV -> St -> Prop} {pos : Pos}
theorem EVC.list {elt : Expr} {g : Comprehension} {more : List Comprehension} {sc : Scope} (hok : compOk sc (g :: more) = true) (hcs : (closure fe sc.names []).isSome = true)
    (h : SRC fe g.iter st fun s st1 => ∃ cs, closure fe sc.names [] = some cs /\ LOOPC ⟨compNames fe sc.names, (newCells sc.names (st1.hp ++ [.list []]) cs).2, fe.dep, false⟩ (.ListComp elt (g :: more) sc pos) (g :: more) st1.hp.length s s.items ⟨freeze s (newCells sc.names (st1.hp ++ [.list []]) cs).1, []⟩ fun st2 => P (.obj st1.hp.length) ⟨thaw s st2.hp, st1.lc⟩) :
    EVC fe (.ListComp elt (g :: more) sc pos) st P := ⟨rfl, by
  intro w K mg mb X φ s₀ s E Q use c R k
  obtain ⟨cs, hcs⟩ := Option.isSome_iff_exists.mp hcs
  exact comp_sound c R rfl rfl (.inl ⟨rfl, rfl⟩) hok hcs (h.mono fun z9 z9 h => by refine xEA (h) fun cs' e h => ?_; rw [hcs] at e; cases e; exact h) k⟩
theorem EVC.dict {e v : Expr} {g : Comprehension} {more : List Comprehension} {sc : Scope} (hok : compOk sc (g :: more) = true) (hcs : (closure fe sc.names []).isSome = true)
    (h : SRC fe g.iter st fun s st1 => ∃ cs, closure fe sc.names [] = some cs /\ LOOPC ⟨compNames fe sc.names, (newCells sc.names (st1.hp ++ [.dict []]) cs).2, fe.dep, false⟩ (.DictComp e v (g :: more) sc pos) (g :: more) st1.hp.length s s.items ⟨freeze s (newCells sc.names (st1.hp ++ [.dict []]) cs).1, []⟩ fun st2 => P (.obj st1.hp.length) ⟨thaw s st2.hp, st1.lc⟩) :
    EVC fe (.DictComp e v (g :: more) sc pos) st P := ⟨rfl, by
  intro w K mg mb X φ s₀ s E Q use c R k
  obtain ⟨cs, hcs⟩ := Option.isSome_iff_exists.mp hcs
  exact comp_sound c R rfl rfl (.inr ⟨rfl, rfl⟩) hok hcs (h.mono fun z9 z9 h => by refine xEA (h) fun cs' e h => ?_; rw [hcs] at e; cases e; exact h) k⟩
theorem EV.comp {e : Expr} (h : EVC fe e st P) : EV fe e st P := by
  have key : okE e = true /\ ∀ env, eval e env = compE e env Option.none := h.1.cs (fun z9 z9 z9 z9 => ⟨rfl, fun z9 => by refine rwE (eval_ListComp ..) ?_; rfl⟩) fun z9 z9 z9 z9 z9 => ⟨rfl, fun z9 => by refine rwE (arm_eval_DictComp ..) ?_; rfl⟩
  refine ⟨key.1, ?_⟩
  intro w K mg mb X φ s₀ s E Q c R k
  refine (?_ : wpAny _ _ (eval e X.env) _ _ _)
  refine rwE (key.2 ..) ?_
  exact h.2 Option.none c R @k
end
end Mine
end
section
open PySem PySem.W PyProof.Rows PySem.Calls
namespace Mine
section
variable {w : World} {X : Fx} {φ ψ : List Addr} {st st' : St} {s₀ s s' : Shared} {K : Frag} {mg mb : Str -> Option Value} {E : Value -> Shared -> Prop} {A : Around}
theorem filterMap_len {α β : Type} (f : α -> Option β) : ∀ (l : List α), (l.filterMap f).length = l.length -> ∀ x ∈ l, (f x).isSome
  | [], _, x, hx => by cases hx
  | a :: l, h, x, hx => by
    have hle := List.length_filterMap_le f l
    cases hf : f a with
    | none => rw [List.filterMap_cons_none hf] at h; simp only [List.length_cons] at h; lia
    | some b =>
      rw [List.filterMap_cons_some hf] at h
      rcases List.mem_cons.mp hx with rfl | hx
      . refine rwE hf ?_; rfl
      . exact filterMap_len f l (by simpa using h) x hx

set_option tactic.hygienic true in
theorem notSwapped_none (G : Good w K mg mb X) {ts : List Expr} {k : Nat} {p : Pos} {value : Expr} (h : notSwapped X.fe ts value = true) : swappedStores [.Tuple ts k p] value X.env = pure none := by
  have hk : ∀ x, X.env.kindOf x = X.fe.names.lookup x := fun x => by unfold Env.kindOf; exact rwE G.names rfl
  unfold notSwapped at h
  unfold swappedStores
  cases value <;> first | rfl | skip
  rename_i vs k2 p2
  dsimp only at h ⊢
  split
  . rfl
  split
  . rfl
  have hne : ¬ (ts.filterMap fun
      | .Name id pos => if (X.env.kindOf id == some .local && pos.line == (ts.head?.map (·.pos.line)).getD 0) = true then some id else none
      | _ => none).length = ts.length := fun hl => by
    have := filterMap_len _ ts hl
    have hall : (ts.all fun t => match t with
        | .Name x _ => X.fe.names.lookup x == some .local
        | _ => false) = true := List.all_eq_true.mpr fun t ht => by
      have := this t ht
      cases t <;> dsimp only at this ⊢ <;> first | (cases this; done) | skip
      split at this
      . rename_i hc
        rw [Bool.and_eq_true, hk] at hc
        exact hc.1
      . cases this
    have h' := (Bool.not_eq_true' _).mp h
    exact Bool.noConfusion (h'.symm.trans hall)
  split
  . rfl
  . rename_i hc
    exfalso
    apply hc
    simp only [Bool.or_eq_true, bne_iff_ne, ne_eq]
    exact .inl hne


theorem plain_swaps {value : Expr} {t : Option Expr} {line : Nat} {env : Env} (h1 : isComp value = false) (h2 : okE value = true) : swapsWith value t line env = pure false := by
  cases value <;> first | rfl | (cases h1; done) | (cases h2; done)
noncomputable def plainStore (ts : List Expr) (v : Expr) : Bool := match ts with
  | [.Name _ _] => !isComp v
  | _ => true
theorem comp_forms {v : Expr} (h : isComp v = true) : (∃ a b c d, v = .ListComp a b c d) ∨ ∃ a b c d e, v = .DictComp a b c d e := by
  exact IsCompE.cs (C := fun v => (∃ a b c d, v = .ListComp a b c d) ∨ ∃ a b c d e, v = .DictComp a b c d e) h (fun z9 z9 z9 z9 => .inl ⟨_, _, _, _, rfl⟩) fun z9 z9 z9 z9 z9 => .inr ⟨_, _, _, _, _, rfl⟩
theorem plain_sole {value : Expr} {ts : List Expr} {line : Nat} {env : Env} (h1 : plainStore ts value = true) (h2 : okE value = true) : swapsWithSole ts value line env = pure false := by
  rcases ts with _ | ⟨t, _ | ⟨u, r⟩⟩
  . rfl
  . by_cases hc : isComp value = false
    . exact plain_swaps hc h2
    . rcases comp_forms ((Bool.not_eq_false _).mp hc) with ⟨a, b, c, d, rfl⟩ | ⟨a, b, c, d, e, rfl⟩ <;> cases t <;> first | rfl | (cases h1; done)
  . rfl
noncomputable def oneT (e : Expr) : Bool := !(List.elem e.ctorIdx [22, 24, 25])
theorem oneT_stores {t value : Expr} {env : Env} (h : oneT t = true) : swappedStores [t] value env = pure none := by
  cases t <;> first | rfl | (cases h; done) | (cases value <;> rfl)
theorem allT_stores {ts : List Expr} {value : Expr} {env : Env} (h : ts.all oneT = true) : swappedStores ts value env = pure none := by
  rcases ts with _ | ⟨t, _ | ⟨u, r⟩⟩
  . rfl
  . exact oneT_stores (by simpa using h)
  . rw [List.all_cons, Bool.and_eq_true] at h
    have := h.1
    cases t <;> first | rfl | (cases this; done) | (cases value <;> rfl)
end

section
variable {fe : FE} {st : St} {P : Fl -> St -> Prop} {pos : Pos}
theorem EXS.nil (h : P .next st) : EXS fe [] st P := by
  intro w K mg mb X φ s₀ s E Q c R k
  exact wpAny_pure (k h (Le.refl _) trivial R)
theorem EXS.cons {t : Stmt} {r : List Stmt} (h : EX fe t st fun f st1 => match f with | .next => EXS fe r st1 P | f => P f st1) : EXS fe (t :: r) st P := by
  intro w K mg mb X φ s₀ s E Q c R k
  dsimp only
  refine rwE (arm_execs_cons ..) ?_
  refine wpAny_bind (h c R fun {f st1 φ1 fl s1} h1 l1 hf R1 => ?_)
  cases f <;> cases fl <;> first | exact hf.elim | skip
  . exact h1 c R1 fun h2 l2 => k h2 (l1.trans l2)
  . exact wpAny_pure (k h1 l1 hf R1)
  . exact wpAny_pure (k h1 l1 hf R1)
  . exact wpAny_pure (k h1 l1 hf R1)
theorem EX.expr {e : Expr} (hc : isComp e = false) (h : EV fe e st fun z9 st1 => P .next st1) : EX fe (.Expr e pos) st P := by
  intro w K mg mb X φ s₀ s E Q c R k
  dsimp only
  rw [exec_Expr X.env _ _ (by unfold interactive; refine rwE c.good.kind ?_; rfl) (plain_swaps hc h.1)]
  exact wpAny_bind (wpAny_standAt (wpAny_bind (h.2 c R fun h1 l1 hv R1 => wpAny_dropValue (k h1 l1 trivial R1))))
theorem EX.brk (h : P .brk st) : EX fe (.Break pos) st P := by
  intro w K mg mb X φ s₀ s E Q c R k
  dsimp only
  refine rwE (arm_exec_Break ..) ?_; exact wpAny_bind (wpAny_standAt (wpAny_pure (k h (Le.refl _) trivial R)))
theorem EX.cont (h : P .cont st) : EX fe (.Continue pos) st P := by
  intro w K mg mb X φ s₀ s E Q c R k
  dsimp only
  refine rwE (arm_exec_Continue ..) ?_; exact wpAny_bind (wpAny_standAt (wpAny_pure (k h (Le.refl _) trivial R)))
theorem EX.ret0 (h : P (.ret .none) st) : EX fe (.Return none pos) st P := by
  intro w K mg mb X φ s₀ s E Q c R k
  exact wpAny_Return_none (k h (Le.refl _) .none R)
theorem EX.ret {e : Expr} (h : EV fe e st fun v st1 => P (.ret v) st1) : EX fe (.Return (some e) pos) st P := by
  intro w K mg mb X φ s₀ s E Q c R k
  exact wpAny_Return_some (h.2 c R fun h1 l1 hv R1 => k h1 l1 hv R1)
theorem ASG.name {x : Str} {p : Pos} {v : AV} {P : St -> Prop} (h : ∃ st', putName fe x v st = some st' /\ P st') : ASG fe (.Name x p) v st P := ⟨rfl, by
  intro v' w K mg mb X φ s₀ s E Q c R hv k
  exact wpAny_assign_Name (putName_sound c.good R hv (c.fe.symm ▸ h.choose_spec.1) fun s' R' => k h.choose_spec.2 (Le.refl _) R')⟩
theorem ASG.tuple {ts : List Expr} {n : Nat} {p : Pos} {v : AV} {P : St -> Prop} (h : ∃ st', assignPlain fe (.Tuple ts n p) v st = some st' /\ P st') : ASG fe (.Tuple ts n p) v st P := ⟨rfl, by
  intro v' w K mg mb X φ s₀ s E Q c R hv k
  exact assignPlain_sound c.good R hv (c.fe.symm ▸ h.choose_spec.1) fun s' R' => k h.choose_spec.2 (Le.refl _) R'⟩
theorem ASG.attr {o : Expr} {a : Str} {p : Pos} {v : AV} {P : St -> Prop} (h : EV fe o st fun ov st1 => ∃ h, SA st1.hp ov a v h /\ P ⟨h, st1.lc⟩) : ASG fe (.Attribute o a p) v st P := ⟨rfl, by
  intro v' w K mg mb X φ s₀ s E Q c R hv k
  refine rwE (arm_assign_Attribute ..) ?_
  exact wpAny_bind (wpAny_holding (h.2 c R fun h1 l1 ho R1 => wpAny_bind (wpAny_standAt (wpAny_bind (wpAny_holding (setAttrV_sound c.ka.attr c.good R1 ho (hv.mono l1) h1.choose_spec.1 fun s2 R2 => wpAny_release (k h1.choose_spec.2 l1 R2)))))))⟩
theorem ASG.item {o i : Expr} {p : Pos} {v : AV} {P : St -> Prop} (h : EV fe o st fun ov st1 => EV fe i st1 fun iv st2 => ∃ h, SETI ov iv v st2.hp h /\ P ⟨h, st2.lc⟩) : ASG fe (.Subscript o i p) v st P := ⟨rfl, by
  intro v' w K mg mb X φ s₀ s E Q c R hv k
  refine rwE (arm_assign_Subscript ..) ?_
  exact wpAny_bind (wpAny_holding (h.2 c R fun h1 l1 ho R1 => wpAny_bind (wpAny_holding (h1.2 c R1 fun h2 l2 hi R2 => wpAny_bind (wpAny_standAt (wpAny_bind (wpAny_holding (h2.choose_spec.1 R2 (ho.mono l2) hi (hv.mono (l1.trans l2)) fun s2 R3 => wpAny_release (k h2.choose_spec.2 (l1.trans l2) R3)))))))))⟩
theorem ASGS.nil {v : AV} {P : St -> Prop} (h : P st) : ASGS fe [] v st P := h
theorem ASGS.cons {t : Expr} {r : List Expr} {v : AV} {P : St -> Prop} (h : ASG fe t v st fun st1 => ASGS fe r v st1 P) : ASGS fe (t :: r) v st P := h
theorem ASGS.run {w : World} {K : Frag} {mg mb : Str -> Option Value} {X : Fx} {s₀ : Shared} {E : Value -> Shared -> Prop} (c : Cx fe w K mg mb X) {v : AV} {v' : Value} {P : St -> Prop} : ∀ {ts : List Expr} {φ : List Addr} {st : St} {s : Shared} {Q : Unit -> Shared -> Prop}, ASGS fe ts v st P -> Rel w X φ st s₀ s -> VC φ v v' ->
    (∀ {st' φ' s'}, P st' -> Le φ φ' -> Rel w X φ' st' s₀ s' -> Q () s') -> wpAny (M w) X.A (assignAll v' ((assignEach ts X.env).map (·.2))) Q E s
  | [], φ, st, s, Q, h, R, hv, k => wpAny_pure (k h (Le.refl _) R)
  | t :: r, φ, st, s, Q, h, R, hv, k => by
    obtain ⟨h0, h2⟩ := h
    have he : (assignEach (t :: r) X.env).map (·.2) = assign t X.env :: (assignEach r X.env).map (·.2) := by
      have := h0
      cases t <;> first | rfl | (cases this; done)
    refine rwE he ?_
    cases r with
    | nil => exact h2 c R hv k
    | cons t2 r2 =>
      have rest : ∀ {st1 φ1 s1}, ASGS fe (t2 :: r2) v st1 P -> Le φ φ1 -> Rel w X φ1 st1 s₀ s1 -> wpAny (M w) X.A (assignAll v' ((assignEach (t2 :: r2) X.env).map (·.2))) Q E s1 := fun h1 l1 R1 => ASGS.run c h1 R1 (hv.mono l1) fun hp l2 => k hp (l1.trans l2)
      cases hr : (assignEach (t2 :: r2) X.env).map (·.2) with
      | nil =>
        have := congrArg List.length hr
        rw [List.length_map, assignEach_len] at this
        cases this
      | cons t3 r3 =>
        rw [hr] at rest
        refine (?_ : wpAny (M w) X.A (holding [v'] (assign t X.env v') >>= fun z9 => assignAll v' (t3 :: r3)) _ E s)
        exact wpAny_bind (wpAny_holding (h2 c R hv fun h1 l1 R1 => rest h1 l1 R1))
theorem EX.assignT {ts : List Expr} {n : Nat} {p : Pos} {v : Expr} (hn : notSwapped fe ts v = true) (h : EV fe v st fun a st1 => ASG fe (.Tuple ts n p) a st1 fun st2 => P .next st2) : EX fe (.Assign [.Tuple ts n p] v pos) st P := by
  intro w K mg mb X φ s₀ s E Q c R k
  have hsw : swapsWithSole [.Tuple ts n p] v pos.line X.env = pure false := by cases v <;> rfl
  exact Assign_Tuple (h.2 c R fun h1 l1 hv R1 => h1.2 c R1 hv fun h2 l2 R2 => k h2 (l1.trans l2) trivial R2) hsw (notSwapped_none c.good (c.fe.symm ▸ hn))
set_option tactic.hygienic true in
theorem EX.assign {ts : List Expr} {v : Expr} (h : EV fe v st fun a st1 => ASGS fe ts a st1 fun st2 => P .next st2) (ht : ts.all oneT = true := by rfl) (hc : plainStore ts v = true := by rfl) : EX fe (.Assign ts v pos) st P := by
  intro w K mg mb X φ s₀ s E Q c R k
  exact wpAny_Assign_stores (h.2 c R fun h1 l1 hv R1 => ASGS.run (P := fun st2 => P .next st2) c h1 R1 hv fun h2 l2 R2 => k h2 (l1.trans l2) trivial R2) (plain_sole hc h.1) (allT_stores ht)
set_option tactic.hygienic true in
theorem EX.assignC {x : Str} {p : Pos} {v : Expr} (h : EVC fe v st fun a st1 => ASGC fe x a st1 fun st2 => P .next st2) : EX fe (.Assign [.Name x p] v pos) st P := by
  intro w K mg mb X φ s₀ s E Q c R k
  have plain : swapsWith v (some (.Name x p)) pos.line X.env = pure false -> wpAny (M w) X.A (exec (.Assign [.Name x p] v pos) X.env) Q E s := fun hs =>
    wpAny_Assign_stores ((EV.comp h).2 c R fun h1 l1 hv R1 => ASGS.run (ts := [.Name x p]) (P := fun st2 => P .next st2) c (ASG.name h1) R1 hv fun h2 l2 R2 => k h2 (l1.trans l2) trivial R2) hs (oneT_stores rfl)
  have used : swapsWith v (some (.Name x p)) pos.line X.env = pure true -> (∀ u, evalThenUse v X.env u = (do let _ ← compE v X.env (some u))) -> wpAny (M w) X.A (exec (.Assign [.Name x p] v pos) X.env) Q E s := fun hs hu => by
    refine rwE (exec_Assign_Name_used _ _ _ _ hs ..) (rwE (hu ..) ?_)
    refine wpAny_bind (wpAny_standAt (wpAny_bind (wpAny_bind ?_)))
    exact h.2 (some (PySem.assign (.Name x p) X.env)) c R ⟨x, p, rfl, fun h1 => ⟨_, h1.choose_spec.1, fun l1 R1 => wpAny_pure (wpAny_pure (k h1.choose_spec.2 l1 trivial R1))⟩⟩
  have key : ∃ b, swapsWith v (some (.Name x p)) pos.line X.env = pure b /\ (b = true -> ∀ u, evalThenUse v X.env u = (do let _ ← compE v X.env (some u))) :=
    h.1.cs (fun z9 z9 z9 z9 => ⟨_, rfl, fun z9 z9 => rfl⟩) fun z9 z9 z9 z9 z9 => ⟨_, rfl, fun z9 z9 => rfl⟩
  obtain ⟨b, hb, hu⟩ := key
  cases b with
  | false => exact plain hb
  | true => exact used hb (hu rfl)
theorem EX.augName {x : Str} {p : Pos} {op : Operator} {v : Expr} (h : ∃ a, getName fe x st = some a /\ EV fe v st fun b st1 => ∃ r h, AUG op a b st1.hp r h /\ ∃ st2, putName fe x r ⟨h, st1.lc⟩ = some st2 /\ P .next st2) : EX fe (.AugAssign (.Name x p) op v pos) st P := by
  intro w K mg mb X φ s₀ s E Q c R k
  refine xEA (h) fun a q h => ?_
  refine wpAny_AugAssign_Name (getName_sound c.ka.glob c.good R (c.fe.symm ▸ q) fun v0 hv0 => h.2 c R fun h1 l1 hv R1 => ?_)
  refine xEEAEA (h1) fun r hp q1 st2 q2 h2 => ?_
  exact wpAny_mono (q1 R1 (hv0.mono l1) hv) (fun z9 z9 p => let ⟨φ2, l2, hv2, R2⟩ := p; putName_sound c.good R2 hv2 (c.fe.symm ▸ q2) fun s3 R3 => k h2 (l1.trans l2) trivial R3) fun z9 z9 x => x
theorem EX.augAttr {o : Expr} {a : Str} {p : Pos} {op : Operator} {v : Expr} (h : EV fe o st fun ov st1 => ∃ old h1, GA st1.hp ov a (old) (h1) /\ EV fe v ⟨h1, st1.lc⟩ fun b st2 => ∃ r h2, AUG op old b st2.hp r h2 /\ ∃ h3, SA h2 ov a r h3 /\ P .next ⟨h3, st2.lc⟩) : EX fe (.AugAssign (.Attribute o a p) op v pos) st P := by
  intro w K mg mb X φ s₀ s E Q c R k
  refine wpAny_AugAssign_AttributeAny (h.2 c R fun h1 l1 hv1 R1 => ?_)
  refine xEEA (h1) fun old hp q1 h1 => ?_
  refine wpAny_mono (getAttrV_sound c.ka.attr c.good R1 hv1 q1) (fun v2 s2 p2 => ?_) fun z9 z9 x => x
  refine xEAA (p2) fun φ2 l2 hv2 R2 => ?_
  refine h1.2 c R2 fun h3 l3 hv3 R3 => ?_
  refine xEEAEA (h3) fun r hp2 q2 hp3 q3 h4 => ?_
  refine wpAny_mono (q2 R3 (hv2.mono l3) hv3) (fun v4 s4 p4 => ?_) fun z9 z9 x => x
  refine xEAA (p4) fun φ4 l4 hv4 R4 => ?_
  exact setAttrV_sound c.ka.attr c.good R4 (hv1.mono ((l2.trans l3).trans l4)) hv4 q3 fun s5 R5 => k h4 (((l1.trans l2).trans l3).trans l4) trivial R5
theorem EX.augItem {o i : Expr} {p : Pos} {op : Operator} {v : Expr} (h : EV fe o st fun ov st1 => EV fe i st1 fun iv st2 => ∃ old, ITEM ov iv st2.hp old /\ EV fe v st2 fun b st3 => ∃ r h2, AUG op old b st3.hp r h2 /\ ∃ h3, SETI ov iv r h2 h3 /\ P .next ⟨h3, st3.lc⟩) (hi : okE i = true := by rfl) : EX fe (.AugAssign (.Subscript o i p) op v pos) st P := by
  intro w K mg mb X φ s₀ s E Q c R k
  have hi : ∀ ov iv new, augStore i ov iv new = (do holding [new, ov, iv] (setItem ov iv new); release [new, ov, iv] []; pure .next) := fun ov iv new => by
    have := okE.slice hi
    cases i <;> first | rfl | exact absurd rfl (this _ _ _ _)
  refine wpAny_AugAssign_SubscriptAny (h.2 c R fun h1 l1 hv1 R1 => h1.2 c R1 fun h2 l2 hv2 R2 => ?_) hi
  refine xEA (h2) fun old q h2 => ?_
  refine (q R2 (hv1.mono l2) hv2).2 fun v3 s3 hv3 R3 => h2.2 c R3 fun h4 l4 hv4 R4 => ?_
  refine xEEAEA (h4) fun r hp2 q2 hp3 q3 h4 => ?_
  refine wpAny_mono (q2 R4 (hv3.mono l4) hv4) (fun v5 s5 p5 => ?_) fun z9 z9 x => x
  refine xEAA (p5) fun φ5 l5 hv5 R5 => ?_
  exact q3 R5 (hv1.mono ((l2.trans l4).trans l5)) (hv2.mono (l4.trans l5)) hv5 fun s6 R6 => k h4 (((l1.trans l2).trans l4).trans l5) trivial R6
theorem EX.cond {t : Expr} {b o : List Stmt} (h : TR fe t st fun c st1 => if c then EXS fe b st1 P else EXS fe o st1 P) : EX fe (.If t b o pos) st P := by
  intro w K mg mb X φ s₀ s E Q c R k
  refine wpAny_If (h c R fun {b st1 φ1 b' s1} h1 l1 hb R1 => ?_)
  cases hb
  cases b with
  | true => exact h1 c R1 fun h2 l2 => k h2 (l1.trans l2)
  | false => exact h1 c R1 fun h2 l2 => k h2 (l1.trans l2)
theorem EX.while {t : Expr} {b o : List Stmt} (h : WHILE fe t b o st P) : EX fe (.While t b o pos) st P := by
  intro w K mg mb X φ s₀ s E Q c R k
  exact wpAny_While (h c R k)
theorem EX.for {t i : Expr} {b : List Stmt} (h : SRC fe i st fun s st1 => FORL fe t b s s.items ⟨freeze s st1.hp, st1.lc⟩ fun f st2 => P f ⟨thaw s st2.hp, st2.lc⟩) : EX fe (.For t i b [] pos) st P := by
  intro w K mg mb X φ s₀ s E Q c R k
  obtain ⟨hf, h⟩ := h
  refine wpAny_For (h c R fun {sc st1 φ1 x s1} h1 l1 V hl R1 => ?_) (hf _)
  refine SrcV.iter c.good R1 V fun I s2 p S Gp R2 hI At ht => ?_
  exact @h1 _ _ _ _ { X with pr := p } _ _ _ _ 0 _ ⟨c.ka, Gp, c.fe⟩ R2 hI At rfl fun {f st3 φ3 fl s3} h3 l3 hf3 R3 => k h3 (l1.trans l3) hf3 (R3.back S l3 hl ht)
set_option tactic.hygienic true in
theorem WHILE.turn {t : Expr} {b o : List Stmt} (h : TR fe t st fun c st1 => if c then EXS fe b st1 fun f st2 => match f with | .next | .cont => WHILE fe t b o st2 P | .brk => P .next st2 | .ret v => P (.ret v) st2 else EXS fe o st1 P) : WHILE fe t b o st P := by
  intro w K mg mb X φ s₀ s Q c R k
  refine codeAny_loop' rfl (fun z9 s' => s' = s) (fun z9 sz hs => ?_) 0 rfl
  subst hs
  refine (?_ : wpAny _ X.A ((whileTurn t b o X.env).onRaise (fun x => do noteFrame x X.env; theTreesLotGoes x)) _ _ sz)
  refine wpAny_noted ?_
  simp only [whileTurn]
  refine wpAny_bind (h c R fun {v st1 φ1 c' s1} h1 l1 hv R1 => ?_)
  cases hv
  cases v with
  | false =>
    simp only [Bool.false_eq_true, if_false] at h1 ⊢
    exact wpAny_bind (h1 c R1 fun h2 l2 hf R2 => wpAny_pure (k h2 (l1.trans l2) hf R2))
  | true =>
    simp only [if_true] at h1 ⊢
    refine wpAny_bind (h1 c R1 fun {f st2 φ2 fl s2} h2 l2 hf R2 => ?_)
    cases f <;> cases fl <;> first | exact hf.elim | skip
    . exact wpAny_pure (.inr ⟨rfl, h2 c R2 fun h3 l3 => k h3 ((l1.trans l2).trans l3)⟩)
    . exact wpAny_pure (k h2 (l1.trans l2) trivial R2)
    . exact wpAny_pure (.inr ⟨rfl, h2 c R2 fun h3 l3 => k h3 ((l1.trans l2).trans l3)⟩)
    . exact wpAny_pure (k h2 (l1.trans l2) hf R2)
set_option tactic.hygienic true in
theorem WHILE.ind {t : Expr} {b o : List Stmt} (I : Nat -> St -> Prop)
    (step : ∀ k st, I k st -> TR fe t st fun c st1 => if c then EXS fe b st1 fun f st2 => match f with | .next | .cont => ∃ k', k' < k /\ I k' st2 | .brk => P .next st2 | .ret v => P (.ret v) st2 else EXS fe o st1 P) :
    ∀ k st, I k st -> WHILE fe t b o st P := by
  intro k
  induction k using Nat.strongRecOn with
  | ind k ih =>
    intro st hI
    refine WHILE.turn (TR.mono (step k st hI) fun c st1 h => ?_)
    cases c with
    | false => exact h
    | true =>
      refine EXS.mono h fun f st2 h2 => ?_
      cases f with
      | next => refine xEA (h2) fun k' hk hI' => ?_; exact ih k' hk st2 hI'
      | cont => refine xEA (h2) fun k' hk hI' => ?_; exact ih k' hk st2 hI'
      | brk => exact h2
      | ret v => exact h2
theorem FORL.nil {t : Expr} {b : List Stmt} {sc : Src} (hk : kept sc st.hp = true) (h : P .next st) : FORL fe t b sc [] st P := by
  intro w K mg mb X φ s₀ s Q i I c R hI At hits k
  refine codeAny_loop' rfl (fun z9 s' => s' = s) (fun z9 sz hs => ?_) 0 rfl
  subst hs
  refine (?_ : wpAny _ X.A ((forTurn t (.ref I) b [] X.env).onRaise (fun x => do noteFrame x X.env; theTreesLotGoes x)) _ _ sz)
  refine wpAny_noted ?_
  simp only [forTurn]
  refine wpAny_bind (wpAny_standAt (wpAny_bind (wpAny_onRaise ?_)))
  refine next_end c.good.hh R hI At hk (drop_nil hits.symm) fun s' R' => ?_
  exact wpAny_pure (.inr ⟨rfl, codeAny_block (wpAny_pure (k h (Le.refl _) trivial R'))⟩)
set_option tactic.hygienic true in
theorem FORL.cons {t : Expr} {b : List Stmt} {sc : Src} {i : It} {r : List It} (hk : kept sc st.hp = true) (h : ∃ st1, assignIt fe t i st = some st1 /\ EXS fe b st1 fun f st2 => match f with | .next | .cont => FORL fe t b sc r st2 P | .brk => P .next st2 | .ret v => P (.ret v) st2) : FORL fe t b sc (i :: r) st P := by
  intro w K mg mb X φ s₀ s Q n I c R hI At hits k
  refine codeAny_loop' rfl (fun z9 s' => s' = s) (fun z9 sz hs => ?_) 0 rfl
  subst hs
  refine (?_ : wpAny _ X.A ((forTurn t (.ref I) b [] X.env).onRaise (fun x => do noteFrame x X.env; theTreesLotGoes x)) _ _ sz)
  refine wpAny_noted ?_
  simp only [forTurn]
  refine wpAny_bind (wpAny_standAt (wpAny_bind (wpAny_onRaise ?_)))
  obtain ⟨hit, hr⟩ := drop_cons hits.symm
  refine xEA (h) fun st1 q1 h => ?_
  have G := c.good
  refine next_item R hI At hk hit (target := t) (fun a b h => by subst h; exact assignIt_two q1) fun v s1 letgo => ?_
  dsimp only
  refine wpAny_bind (letgo _ _ fun s2 R2 At2 hv2 => ?_)
  have cp : Cx fe w K mg mb (X.prot st.hp φ s2.heap) := ⟨c.ka, G.prot R2, c.fe⟩
  refine wpAny_bind (assignIt_sound (X := X.prot st.hp φ s2.heap) cp.good R2.prot hv2 (c.fe.symm ▸ q1) fun s3 R3 => ?_)
  refine wpAny_bind (Run.at (X := X.prot st.hp φ s2.heap) h cp R3 fun {f st4 φ4 fl s4} h4 l4 hf4 R4 => ?_)
  have R4' : Rel w X φ4 st4 s₀ s4 := R4.unprot (R2.sub_prot G.prL) rfl rfl rfl rfl
  have again : FORL fe t b sc r st4 P -> codeAny (M w) X.A (.forLoop t (.ref I) b [] X.env) Q s4 := fun h5 => by
    obtain ⟨At5, hI5⟩ := At2.mono (h' := s4.heap) hI l4 (fun b o hb e => prot_keeps G R2 R4 hb e) (fun b o hb e hc => prot_off G R2 R4 hb e hc)
    exact h5 c R4' hI5 At5 hr.symm fun hp l2 => k hp (l4.trans l2)
  cases f <;> cases fl <;> first | exact hf4.elim | skip
  . exact wpAny_pure (.inr ⟨rfl, again h4⟩)
  . exact wpAny_pure (k h4 l4 trivial R4')
  . exact wpAny_pure (.inr ⟨rfl, again h4⟩)
  . exact wpAny_pure (k h4 l4 hf4 R4')
set_option tactic.hygienic true in
theorem FORL.ind {t : Expr} {b : List Stmt} {s : Src} (I : List It -> St -> Prop) (nil : ∀ st, I [] st -> kept s st.hp = true /\ P .next st)
    (cons : ∀ i r st, I (i :: r) st -> kept s st.hp = true /\ ∃ st1, assignIt fe t i st = some st1 /\ EXS fe b st1 fun f st2 => match f with | .next | .cont => I r st2 | .brk => P .next st2 | .ret v => P (.ret v) st2) :
    ∀ its st, I its st -> FORL fe t b s its st P
  | [], st, h => FORL.nil (nil st h).1 (nil st h).2
  | i :: r, st, h => by
    refine xAEA (cons i r st h) fun hk st1 e1 h2 => ?_
    refine FORL.cons hk ⟨st1, e1, EXS.mono h2 fun f st2 h2 => ?_⟩
    cases f with
    | next => exact FORL.ind I nil cons r st2 h2
    | cont => exact FORL.ind I nil cons r st2 h2
    | brk => exact h2
    | ret v => exact h2
end
end Mine
end
section
open PySem PySem.W PyProof.Rows PySem.Calls
namespace Mine
noncomputable def nxtObj (it : Addr) : Obj := ⟨.type "method-wrapper", none, .fields #[.builtin "list_iterator.__next__", .ref it], #[]⟩
noncomputable def iterObj (l : Addr) (i : Nat) : Obj := ⟨.type "list_iterator", none, .fields #[.ref l, .int i 0], #[]⟩
theorem check_nx {it : Addr} : checkBoundCall "list_iterator.__next__" ⟨[.ref it], []⟩ = pure () := by first | kernel_rfl | rfl
theorem quiet_nx {it : Addr} : (Code.builtin "list_iterator.__next__" ⟨[.ref it], []⟩).quiet = true := by first | rfl | kernel_rfl
theorem if_so {α : Type} {M : Model} {A : Around} {E : Value -> Shared -> Prop} {s : Shared} {c : Bool} {a b : Sem α} {Q : α -> Shared -> Prop} (hc : c = true) (h : wpAny M A a Q E s) : wpAny M A (if c = true then a else b) Q E s := by
  subst hc
  exact h
section
variable {w : World} {E : Value -> Shared -> Prop} {A : Around} {s : Shared}

theorem nxt_code {f it : Addr} (hf : s.heap.get? f = some (nxtObj it)) {Q : Value -> Shared -> Prop} (h : ∀ {B : Around}, B.handled = A.handled -> wpAny (M w) B (Builtin.«list_iterator.__next__» ⟨[.ref it], []⟩) (fun fin s' => ∃ v, fin = .done (.ret v) /\ Q v s') E s) : wpAny (M w) A (call (.ref f) []) Q E s := by
  refine wpAny_call (codeAny_of_tree ?_)
  refine (?_ : wpAny _ A.in1 (callAny (.ref f) ⟨[], []⟩) _ _ s)
  dsimp only [callAny]
  refine wpAny_bind (wpAny_load hf ?_)
  simp only [nxtObj, show (Value.type "method-wrapper" == Value.type "method" || Value.type "method-wrapper" == Value.type "builtin_function_or_method" || Value.type "method-wrapper" == Value.type "method-wrapper") = true by decide, if_true]
  refine if_so (by decide) ?_
  refine wpAny_bind (wpAny_of_eq (a := ()) check_nx ?_)
  refine wpAny_bind (wpAny_pure (wpAny_pure ?_))
  refine ⟨quiet_nx, codeAny_builtin entry_listiter_next (wpAny_mono (h ?_) (fun fin s' q => ?_) fun z9 z9 x => x)⟩
  . rfl
  . obtain ⟨v, rfl, q⟩ := q; exact q

theorem nxt_item {f it l : Addr} {i : Nat} {items : Array Value} {x : Value} (hf : s.heap.get? f = some (nxtObj it)) (hit : s.heap.get? it = some (iterObj l i)) (hl : s.heap.IsList l items) (hx : items[i]? = some x) {Q : Value -> Shared -> Prop}
    (hQ : ∀ h', Heap.SameBut it s.heap h' -> h'.get? it = some (iterObj l (i + 1)) -> Q x { s with heap := h' }) : wpAny (M w) A (call (.ref f) []) Q E s := by
  refine nxt_code hf fun {B} _ => ?_
  refine xEAAE (hl) fun ol hol z9 nl hdl => ?_
  refine (?_ : wpAny _ _ (field (.ref it) 0 >>= _) _ _ s)
  refine wpAny_bind (wpAny_field hit rfl (x := .ref l) rfl ?_)
  refine (?_ : wpAny _ _ (if (Value.ref l == Value.none) = true then _ else _) _ _ s)
  refine rwE (if_neg (show ¬ ((Value.ref l == Value.none) = true) from Bool.false_ne_true)) ?_
  refine (?_ : wpAny _ _ (field (.ref it) 1 >>= _) _ _ s)
  refine wpAny_bind (wpAny_field hit rfl (x := .int i 0) rfl ?_)
  refine (?_ : wpAny _ _ (seqItems? (.ref l) >>= _) _ _ s)
  refine wpAny_bind (wpAny_seqItems hol hdl ?_)
  simp only [Int.toNat_natCast, hx]
  refine wpAny_bind (wpAny_setField hit rfl (by exact Nat.le_refl _) (wpAny_pure ⟨x, rfl, hQ _ (Heap.SameBut.update ..) ?_⟩))
  exact Heap.get?_update_self _ hit rfl

theorem nxt_end {f it l : Addr} {i : Nat} {items : Array Value} (hh : A.handled = none) (hf : s.heap.get? f = some (nxtObj it)) (hit : s.heap.get? it = some (iterObj l i)) (hl : s.heap.IsList l items) (hx : items[i]? = none) {Q : Value -> Shared -> Prop}
    (hE : ∀ h' e oe vs, Heap.ExtBut it s.heap h' -> (∃ ob, h'.get? it = some ob) -> s.heap.get? e = none -> h'.get? e = some oe -> oe.cls = .type "StopIteration" -> oe.data = .fields vs -> vs[1]? = some .none -> E (.ref e) { s with heap := h' }) : wpAny (M w) A (call (.ref f) []) Q E s := by
  refine nxt_code hf fun {B} hB => ?_
  have hB' : B.handled = none := hB.trans hh
  refine xEAAE (hl) fun ol hol z9 nl hdl => ?_
  refine (?_ : wpAny _ _ (field (.ref it) 0 >>= _) _ _ s)
  refine wpAny_bind (wpAny_field hit rfl (x := .ref l) rfl ?_)
  refine (?_ : wpAny _ _ (if (Value.ref l == Value.none) = true then _ else _) _ _ s)
  refine rwE (if_neg (show ¬ ((Value.ref l == Value.none) = true) from Bool.false_ne_true)) ?_
  refine (?_ : wpAny _ _ (field (.ref it) 1 >>= _) _ _ s)
  refine wpAny_bind (wpAny_field hit rfl (x := .int i 0) rfl ?_)
  refine (?_ : wpAny _ _ (seqItems? (.ref l) >>= _) _ _ s)
  refine wpAny_bind (wpAny_seqItems hol hdl ?_)
  simp only [Int.toNat_natCast, hx]
  refine wpAny_bind (wpAny_rule (wpAny_bind (wpAny_setField hit rfl (by exact Nat.succ_pos _) ?_)))
  refine (?_ : wpAny _ _ (newExc (.type "StopIteration") [] >>= _) _ _ _)
  refine wpAny_bind ?_
  simp only [newExc, newTuple]
  refine wpAny_bind (wpAny_newObj_type ?_ (by size_fits))
  refine wpAny_bind (m := firstArgMember _ _) (wpAny_of_eq (a := Value.none) (by first | rfl | (simp only [firstArgMember]; rfl)) ?_)
  refine wpAny_newObj_type (wpAny_raiseNew_none hB' ?_)
  have k : ∀ b o, b ≠ it -> s.heap.get? b = some o -> (s.heap.update it (Obj.mapFields (·.setIfInBounds 0 .none))).get? b = some o := fun b o hb e => (Heap.get?_update_other _ _ (Ne.symm hb)).trans e
  refine hE _ _ _ _ (fun b o hb e => Heap.get?_push_of_some _ (Heap.get?_push_of_some _ (k b o hb e))) ⟨_, Heap.get?_push_of_some _ (Heap.get?_push_of_some _ (Heap.get?_update_self _ hit rfl))⟩ ?_ (Heap.get?_push_size _ rfl) rfl rfl rfl
  . refine Heap.get?_none_of_le ?_
    simp [Heap.size_push]
end
end Mine
end
section
open PySem PySem.W PyProof.Rows PySem.Calls
namespace Mine
section
variable {w : World} {X Y : Fx} {φ ψ : List Addr} {st st' : St} {s₀ s s' : Shared} {K : Frag} {mg mb : Str -> Option Value} {E : Value -> Shared -> Prop} {A : Around} {n : Nat}

theorem Rel.slots (G : Good w K mg mb X) (R : Rel w X φ st s₀ s) {h' : Heap} (k : Heap.SlotsOnly X.fr s.heap h') : Rel w X φ st s₀ { s with heap := h' } where
  keep := fun b o e => by
    refine xEA (R.keep b o e) fun sl h1 h2 => ?_
    obtain ⟨sl', h3⟩ := k.2.2 b _ h1
    refine ⟨sl', h3, fun hb => ?_⟩
    have h4 := k.2.1 b hb
    rw [h1, h3] at h4
    injection h4 with h4
    have h5 : sl' = sl := congrArg Obj.slots h4
    refine rwE h5 ?_; exact h2 hb
  loc := by
    obtain ⟨m, ⟨o, es, ep, a1, a2, a3⟩, h2⟩ := R.loc
    obtain ⟨sl, h3⟩ := k.2.2 _ _ a1
    exact ⟨m, ⟨_, es, ep, h3, a2, a3⟩, h2⟩
  objs := fun n o e => by
    refine xEEAA (R.objs n o e) fun a ob h1 h2 h3 => ?_
    exact ⟨a, ob, h1, (k.2.1 a fun q => (R.off a (mem_of_get h1)).1 (G.frl a q)).trans h2, h3⟩
  inj := R.inj
  len := R.len
  off := fun a ha => by
    refine xAA (R.off a ha) fun h1 h3 h4 => ?_
    refine ⟨h1, ?_, h4⟩
    obtain ⟨o, ho⟩ := Option.isSome_iff_exists.mp h3
    obtain ⟨sl, h5⟩ := k.2.2 _ _ ho
    refine (?_ : (h'.get? a).isSome = true)
    refine rwE h5 ?_; rfl
  offp := R.offp
  lls := ⟨R.lls.1, fun L hL => by
    obtain ⟨o, ho⟩ := Option.isSome_iff_exists.mp (R.lls.2 L hL)
    obtain ⟨sl, h5⟩ := k.2.2 _ _ ho
    refine (?_ : (h'.get? L).isSome = true)
    refine rwE h5 ?_; rfl⟩
  cells := R.cells
  lowL := R.lowL
  tok := R.tok
  gens := R.gens
  os := R.os
  drawn := R.drawn

theorem funFrames (G : Good w K mg mb X) (R : Rel w X φ st s₀ s) : ∀ (l : List Env), (∀ e ∈ l, e ∈ X.frames) -> s.heap.FunFrames (cutH s.heap 0) l
  | [], _ => trivial
  | e :: r, h => by
    refine xAEA (G.around e (h e (.head _))) fun h1 L h2 h3 => ?_
    refine ⟨h1, ?_, funFrames G R r fun e' he => h e' (.tail _ he)⟩
    rcases h3 with rfl | ⟨o, h4, es, ep, h5⟩
    . obtain ⟨m, ⟨o, es, ep, a1, a2, _⟩, _⟩ := R.loc
      exact ⟨_, o, h2, cutH_none _ _ _, a1, fun vs q => by rw [a2] at q; cases q⟩
    . refine xEA (R.keep _ _ h4) fun sl h6 z9 => ?_
      exact ⟨L, _, h2, cutH_none _ _ _, h6, fun vs q => by
        have q' : o.data = .fields vs := q
        rw [h5] at q'; cases q'⟩

theorem note_sound (G : Good w K mg mb X) (own : X.fe.own = true) (R : Rel w X φ st s₀ s) {e : Addr} {oe : Obj} {vs : Array Value} (he : s.heap.get? e = some oe) (hoff : Off X φ e) (hd : oe.data = .fields vs) (h1 : vs[1]? = some .none) {Q : Unit -> Shared -> Prop}
    (h : ∀ s' tb otb tvs oe' vs', Rel w X φ st s₀ s' -> s'.heap.get? e = some oe' -> oe'.cls = oe.cls -> oe'.data = .fields vs' -> vs'[1]? = some (.ref tb) -> tb ≠ e -> Off X φ tb -> s'.heap.get? tb = some otb -> otb.data = .fields tvs -> 3 < tvs.size -> Q () s') : wpAny (M w) X.A (noteFrame (.ref e) X.env) Q E s := by
  refine xEA (G.own own) fun rest hfr hf => ?_
  have hA : X.A.frames = some (X.env :: rest) := by exact rwE G.frm (rwE hfr rfl)
  have hfe : (X.env :: rest).filterMap (·.frame) = X.fr := by refine rwB hfr ?_; rfl
  have hsz : 1 < vs.size := (Array.getElem?_eq_some_iff.mp h1).1
  unfold noteFrame
  simp only [hf]
  refine wpAny_bind (wpAny_field he hd h1 ?_)
  refine rwE (if_neg (by decide)) ?_
  refine wpAny_bind (wpAny_frameOf_fun (base := cutH s.heap 0) hA (funFrames G R _ fun e' he' => by refine rwE hfr ?_; exact he') hf fun h₁ hs₁ => ?_)
  rw [hfe] at hs₁
  have R1 := R.slots G hs₁
  have hnf : e ∉ X.fr := fun q => hoff.lls (G.frl e q)
  have he1 : h₁.get? e = some oe := (hs₁.2.1 e hnf).trans he
  refine wpAny_bind (wpAny_entryPlaceOf fun pl hpl => ?_)
  delta EntryCells.newEntry newFields
  refine wpAny_bind (wpAny_newObj_type ?_ (hpl.sizeOk5 _ _ _ _ _))
  have he₂ := Heap.get?_push_of_some (h := h₁) { cls := .type "traceback", dict := none, data := .fields ([Value.none, .ref X.env.locals, .none, rawInt X.env.locals, .none] ++ (if pl.isEmpty then List.replicate 6 Value.none else pl)).toArray } he1
  refine wpAny_setField he₂ hd hsz ?_
  have hTe : h₁.objs.size ≠ e := Nat.ne_of_gt (Heap.lt_size he1)
  have hd₃ := Obj.data_mapFields hd (·.setIfInBounds 1 (Value.ref h₁.objs.size))
  have R2 := R1.ext (h' := h₁.push { cls := .type "traceback", dict := none, data := .fields ([Value.none, .ref X.env.locals, .none, rawInt X.env.locals, .none] ++ (if pl.isEmpty then List.replicate 6 Value.none else pl)).toArray }) (tk := s.toks) (fun z9 z9 e => Heap.get?_push_of_some _ e) R.tok
  have htb : ((h₁.push { cls := .type "traceback", dict := none, data := .fields ([Value.none, .ref X.env.locals, .none, rawInt X.env.locals, .none] ++ (if pl.isEmpty then List.replicate 6 Value.none else pl)).toArray }).update e (Obj.mapFields (·.setIfInBounds 1 (.ref h₁.objs.size)))).get? h₁.objs.size =
      some { cls := .type "traceback", dict := none, data := .fields ([Value.none, .ref X.env.locals, .none, rawInt X.env.locals, .none] ++ (if pl.isEmpty then List.replicate 6 Value.none else pl)).toArray } := by
    refine rwE (Heap.get?_update_other _ _ (Ne.symm hTe)) ?_
    exact Heap.get?_push_size h₁ rfl
  refine h _ h₁.objs.size _ _ _ _ (R2.garb1 hoff (Heap.SameBut.update ..).extBut R.tok) (Heap.get?_update_self _ he₂ (Obj.isFreed_of_fields hd₃)) (Obj.cls_mapFields ..) hd₃ (by simp [hsz]) hTe R1.offSize htb rfl ?_
  exact Nat.le_of_ble_eq_true rfl

theorem pop_eval (KA : KAll K) (G : Good w K mg mb X) (R : Rel w X φ st s₀ s) {k : Str} {kp pa pc : Pos} {kk : Nat} {ks : List AV} {v : AV} (hd : (k == ("__debug__" : Str)) = false) (hk : getName X.fe k st = some (.obj kk)) (hx : st.hp[kk]? = some (.list ks)) (hl : ks.getLast? = some v) (hz : ks.length <= 1000) (hf : methForm (.Name k kp) pa pc 0 = true) {Q : Value -> Shared -> Prop}
    (h : ∀ v' s', VC φ v v' -> Rel w X φ ⟨st.hp.set kk (.list ks.dropLast), st.lc⟩ s₀ s' -> Q v' s') : wpAny (M w) A (eval (.Call (.Attribute (.Name k kp) "pop" pa) [] [] pc) X.env) Q E s := by
  refine Mine.method_call hf rfl (wpAny_Name (getName_sound KA.glob G R hk fun v0 hv0 => ?_) hd)
  cases hv0 with | @obj _ a ha =>
  refine xEEA (R.list hx ha) fun vs k1 h1 h2 => ?_
  have hty : s.TypeIs (.ref a) "list" := ⟨_, h1, rfl⟩
  refine ⟨.builtin "list.pop", [.ref a], fun hq => getMethod_builtin hty F.plainAttrs_list F.slot_list_pop F.type_list_pop (fun b e => by cases e; exact ⟨_, h1, rfl⟩) hq, ?_⟩
  refine call_built (spliced_nil ?_)
  rw [List.getLast?_eq_getElem?] at hl
  refine xEA (h2.get hl) fun y' g1 g2 => ?_
  refine PyProof.Rows.Copied.pop_at h1 (y := y') (by refine rwE List.size_toArray (rwE h2.length ?_); simpa using g1) (fun h' hs ho => ?_) (by refine rwE List.size_toArray (rwE h2.length (rwE sizeLine_eq ?_)); exact Nat.le_trans ‹_› (by decide))
  exact h _ _ g2 (R.upd (o' := .list ks.dropLast) hx rfl ha hs.extBut ho ⟨vs.dropLast, _, by exact rwE (List.pop_toArray ..) rfl, h2.dropLast⟩ R.tok)

theorem nxt_callWith {f it : Addr} {pos : Pos} {env : Env} (hf : s.heap.get? f = some (nxtObj it)) {Q : Value -> Shared -> Prop} (h : wpAny (M w) A (call (.ref f) []) Q E s) : wpAny (M w) A (callWith pos (.ref f) [] (backTo pos (starEach [] env)) []) Q E s := by
  unfold callWith
  refine wpAny_bind (wpAny_holding ?_)
  refine (?_ : wpAny _ _ (evalArgs (.ref f) true [] []) _ _ _)
  refine args_plain (args := []) (env := env) (spliced_nil (wpAny_bind (wpAny_standAt ?_)))
  refine wpAny_bind (m := keeperOf (.ref f)) ?_
  unfold keeperOf
  refine wpAny_bind (wpAny_load hf ?_)
  refine wpAny_pure ?_
  exact wpAny_bind (wpAny_mono h (fun r s₂ hr => wpAny_bind (wpAny_holding (wpAny_point (wpAny_pure hr)))) fun z9 z9 x => x)
end
end Mine
end
section
open PySem PySem.W PyProof.Rows PySem.Calls
namespace Mine
theorem eval_Call_Sub (a b : Expr) (c pos : Pos) (env : Env) : eval (.Call (.Subscript a b c) [] [] pos) env = (do callWith pos (← eval (.Subscript a b c) env) [] (backTo pos (starEach [] env)) []) := rfl
section
variable {w : World} {X Y : Fx} {φ ψ : List Addr} {st st' : St} {s₀ s s' : Shared} {K : Frag} {mg mb : Str -> Option Value} {E : Value -> Shared -> Prop} {A : Around} {n : Nat}

theorem del_sound (R : Rel w X φ st s₀ s) {k : Nat} {x : Str} {es : List (Str × AV)} {d : Addr} {t : Tok} (hd : φ[k]? = some d) (hx : st.hp[k]? = some (.dict es)) (hs : (es.lookup x).isSome = true) (hz : es.length <= 1000) {Q : Unit -> Shared -> Prop}
    (h : ∀ s', Rel w X φ ⟨st.hp.set k (.dict (es.filter fun p => p.1 ≠ x)), st.lc⟩ s₀ s' -> Q () s') : wpAny (M w) A (delItem (.ref d) (.str x t)) Q E s := by
  refine xEA (R.dict hx hd) fun kvs g1 g2 => ?_
  refine wpAny_delItem_slot g1.typeIs (by decide) F.slot_dict_delitem (call_meetsIn F.slot_dict_delitem g1.typeIs F.entry_dict_delitem (F.args_dict_delitem_2 _ _) (meets_dict_delitem_pairs (sk w) d (k := x) (key := .str x t) (by simp [PySem.strKind, Value.isStrOf])) ?_)
  refine ⟨kvs, g1, by refine rwE g2.length (rwE sizeLine_eq ?_); exact Nat.le_trans ‹_› (by decide), ?_, fun h' hd' hs' => ?_⟩
  . refine rwE (valueAt_lookup ..) ?_
    have := g2.lookup x
    cases q : es.lookup x with
    | none => rw [q] at hs; cases hs
    | some v =>
      rw [q] at this
      cases q2 : kvs.lookup x with
      | none => rw [q2] at this; exact this.elim
      | some _ => rfl
  . refine xEA (Heap.dictOf_iff.mp hd') fun o' h3 h4 => ?_
    exact h _ (R.upd hx rfl hd hs'.extBut h3 ⟨_, h4, g2.without x⟩ (Nat.le_add_left ..))

theorem stop_exc : isSubtype (.type "StopIteration") (.type "BaseException") = pure true := by refine rwE (isSubtype_type ..) ?_; kernel_rfl
theorem stop_nt : isSubtype (.type ((Manifest.find? "StopIteration").elim "type" fun x => x.metatype)) (.type "tuple") = pure false := by refine rwE (isSubtype_type ..) ?_; kernel_rfl

set_option tactic.hygienic true in
structure TryFE (fe : FE) : Prop where
  own : fe.own = true
  stop : fe.names.lookup ("StopIteration" : Str) = some .globalImplicit
  node : fe.names.lookup ("node" : Str) = some .local
  its : fe.names.lookup ("itstack" : Str) = some .local
  nst : fe.names.lookup ("node2stacki" : Str) = some .local
  stk : fe.names.lookup ("stack" : Str) = some .local
structure TryS (st : St) (l dd kk fo it sr i : Nat) (fs ks : List AV) (es : List (Str × AV)) (xs : List AV) (a : AV) : Prop where
  ly : st.lc.lookup ("itstack" : Str) = some (.obj l)
  ld : st.lc.lookup ("node2stacki" : Str) = some (.obj dd)
  lk : st.lc.lookup ("stack" : Str) = some (.obj kk)
  hl : st.hp[l]? = some (.list (fs ++ [.obj fo]))
  hd : st.hp[dd]? = some (.dict es)
  hk : st.hp[kk]? = some (.list (ks ++ [a]))
  b1 : (fs ++ [AV.obj fo]).length <= 1000
  b2 : (ks ++ [a]).length <= 1000
  b3 : es.length <= 1000
  nlk : l ≠ kk
  hf : st.hp[fo]? = some (.nxt it)
  hi : st.hp[it]? = some (.iter sr i)
  hs : st.hp[sr]? = some (.list xs)
inductive TryN (st : St) : Fl -> St -> Prop
  | item {l dd kk fo it sr i : Nat} {fs ks : List AV} {es : List (Str × AV)} {xs : List AV} {a v : AV} : TryS st l dd kk fo it sr i fs ks es xs a -> xs[i]? = some v -> TryN st .brk ⟨st.hp.set it (.iter sr (i + 1)), ("node", v) :: st.lc⟩
  | stop {l dd kk fo it sr i : Nat} {fs ks : List AV} {es : List (Str × AV)} {xs : List AV} {x : Str} : TryS st l dd kk fo it sr i fs ks es xs (.str x) -> xs.length <= i -> (es.lookup x).isSome = true ->
    TryN st .next ⟨(((st.hp.set it .gone).set kk (.list ks)).set dd (.dict (es.filter fun q => q.1 ≠ x))).set l (.list fs), st.lc⟩
theorem locOf {x : Str} {v : AV} (h1 : X.fe.names.lookup x = some .local) (h2 : st.lc.lookup x = some v) : getName X.fe x st = some v := by unfold getName; refine rwE h1 ?_; exact h2
theorem last_get {α : Type} {l : List α} {v : α} : (l ++ [v]).getLast? = some v := List.getLast?_concat
theorem try_pre (KA : KAll K) (G : Good w K mg mb X) (R : Rel w X φ st s₀ s) {l fo it sr i : Nat} {fs xs : List AV} (gy : getName X.fe "itstack" st = some (.obj l)) (hl : st.hp[l]? = some (.list (fs ++ [.obj fo]))) (b1 : (fs ++ [AV.obj fo]).length <= 1000)
    (hf : st.hp[fo]? = some (.nxt it)) (hi : st.hp[it]? = some (.iter sr i)) (hs : st.hp[sr]? = some (.list xs)) {kc : Nat} {py p1 p2 p3 pc : Pos} {Q : Value -> Shared -> Prop}
    (k : ∀ af ai asr vs kx s', Rel w X φ st s₀ s' -> φ[it]? = some ai -> φ[sr]? = some asr -> s'.heap.get? af = some (nxtObj ai) -> s'.heap.get? ai = some (iterObj asr i) -> s'.heap.get? asr = some ⟨.type "list", none, .seq (List.toArray vs) kx, #[]⟩ -> VCs φ xs vs -> wpAny (M w) X.A (call (.ref af) []) Q E s') :
    wpAny (M w) X.A (eval (.Call (.Subscript (.Name "itstack" py) (.UnaryOp .USub (.Constant (.int 1) kc p1) p2) p3) [] [] pc) X.env) Q E s := by
  refine rwE (eval_Call_Sub ..) ?_
  refine wpAny_bind (sub_eval (wpAny_Name (getName_sound KA.glob G R gy fun v0 hv0 => ?_) (by decide)))
  refine rwE (arm_eval_UnaryOp ..) ?_
  refine wpAny_bind (wpAny_Constant_int (wpAny_bind (wpAny_standAt (wpAny_holding (neg_sound (R.toks (Nat.le_add_left ..)) fun t s1 R1 => ?_)))))
  refine (fun (H : ITEM (.obj l) (.int (-1)) st.hp (.obj fo)) => ⟨(H R1 hv0 (.int _ t)).1, (H R1 hv0 (.int _ t)).2 fun v1 s2 hv1 R2 => ?_⟩) (ITEM.last hl (Nat.le_trans b1 (by decide)) last_get)
  refine VC.objE hv1 fun a1 ha1 => ?_
  obtain ⟨af, obf, f1, f2, ait, f3, f4⟩ := R2.objs _ _ hf
  obtain ⟨ai, obi, i1, i2, asr, i3, i4⟩ := R2.objs _ _ hi
  refine xEEA (R2.list hs i3) fun vs kx g1 g2 => ?_
  cases f1.symm.trans ha1
  cases f3.symm.trans i1
  exact nxt_callWith (f2.trans (congrArg some f4)) (k _ _ _ _ _ _ R2 f3 i3 (f2.trans (congrArg some f4)) (i2.trans (congrArg some i4)) g1 g2)
variable {kc : Nat} {px py pz pd kp yp pa pa' p1 p2 p3 pc ap bp pc2 ps pdel pc3 pe ph pos : Pos}
noncomputable abbrev tryStmt (kc : Nat) (px py pz pd kp yp pa pa' p1 p2 p3 pc ap bp pc2 ps pdel pc3 pe ph pos : Pos) : Stmt :=
  .Try [.Assign [.Name "node" px] (.Call (.Subscript (.Name "itstack" py) (.UnaryOp .USub (.Constant (.int 1) kc p1) p2) p3) [] [] pc) ap, .Break bp]
    [.ExceptHandler (some (.Name "StopIteration" pz)) none [.Delete [.Subscript (.Name "node2stacki" pd) (.Call (.Attribute (.Name "stack" kp) "pop" pa) [] [] pc2) ps] pdel, .Expr (.Call (.Attribute (.Name "itstack" yp) "pop" pa') [] [] pc3) pe] ph] [] [] pos
theorem try_item (KA : KAll K) (G : Good w K mg mb X) (R : Rel w X φ st s₀ s) (F : TryFE X.fe) {l fo it sr i : Nat} {fs xs : List AV} {v : AV} (ly : st.lc.lookup ("itstack" : Str) = some (.obj l)) (hl : st.hp[l]? = some (.list (fs ++ [.obj fo]))) (b1 : (fs ++ [AV.obj fo]).length <= 1000)
    (hf : st.hp[fo]? = some (.nxt it)) (hi : st.hp[it]? = some (.iter sr i)) (hs : st.hp[sr]? = some (.list xs)) (hv : xs[i]? = some v) {Q : Flow -> Shared -> Prop} (h : ∀ s', Rel w X φ ⟨st.hp.set it (.iter sr (i + 1)), ("node", v) :: st.lc⟩ s₀ s' -> Q .brk s') :
    wpAny (M w) X.A (exec (tryStmt kc px py pz pd kp yp pa pa' p1 p2 p3 pc ap bp pc2 ps pdel pc3 pe ph pos) X.env) Q E s := by
  refine wpAny_Try_except ?_
  refine rwE (arm_execs_cons ..) ?_
  refine wpAny_bind (wpAny_Assign_Name (try_pre KA G R (locOf F.its ly) hl b1 hf hi hs fun af ai asr vs kx s2 R2 h1 h2 h3 h4 h5 h6 => ?_))
  refine xEA (h6.get hv) fun u u1 u2 => ?_
  refine nxt_item h3 h4 (isList_of h5) (arr_some u1) fun h' hs' hn => ?_
  refine putName_sound G (R2.upd (o' := .iter sr (i + 1)) hi rfl h1 hs'.extBut hn ⟨_, h2, rfl⟩ R2.tok) u2 (st' := ⟨st.hp.set it (.iter sr (i + 1)), ("node", v) :: st.lc⟩) (by unfold putName; exact rwE F.node rfl) fun s4 R4 => ?_
  refine (?_ : wpAny _ _ (execs [.Break bp] X.env) _ _ s4)
  refine rwE (arm_execs_cons ..) ?_
  refine wpAny_bind ?_
  refine rwE (arm_exec_Break ..) ?_
  exact wpAny_bind (wpAny_standAt (wpAny_pure (wpAny_pure (h _ R4))))
theorem try_suite (KA : KAll K) (G : Good w K mg mb X) (R : Rel w X φ st s₀ s) (F : TryFE X.fe) {l dd kk : Nat} {fs ks : List AV} {es : List (Str × AV)} {f : AV} {x : Str} (ly : st.lc.lookup ("itstack" : Str) = some (.obj l)) (ld : st.lc.lookup ("node2stacki" : Str) = some (.obj dd)) (lk : st.lc.lookup ("stack" : Str) = some (.obj kk))
    (hl : st.hp[l]? = some (.list (fs ++ [f]))) (hd : st.hp[dd]? = some (.dict es)) (hk : st.hp[kk]? = some (.list (ks ++ [.str x]))) (b1 : (fs ++ [f]).length <= 1000) (b2 : (ks ++ [AV.str x]).length <= 1000) (b3 : es.length <= 1000) (nlk : l ≠ kk) (hx : (es.lookup x).isSome = true)
    (hf1 : methForm (.Name "stack" kp) pa pc2 0 = true) (hf2 : methForm (.Name "itstack" yp) pa' pc3 0 = true) {Q : Flow -> Shared -> Prop} (h : ∀ s', Rel w X φ ⟨((st.hp.set kk (.list ks)).set dd (.dict (es.filter fun q => q.1 ≠ x))).set l (.list fs), st.lc⟩ s₀ s' -> Q .next s') :
    wpAny (M w) A (execs [.Delete [.Subscript (.Name "node2stacki" pd) (.Call (.Attribute (.Name "stack" kp) "pop" pa) [] [] pc2) ps] pdel, .Expr (.Call (.Attribute (.Name "itstack" yp) "pop" pa') [] [] pc3) pe] X.env) Q E s := by
  have nkd : kk ≠ dd := fun h => by rw [h, hd] at hk; cases hk
  have nld : dd ≠ l := fun h => by rw [h, hl] at hd; cases hd
  refine rwE (arm_execs_cons ..) ?_
  refine wpAny_bind (wpAny_Delete (wpAny_deleteEach_cons (wpAny_delete_Subscript (wpAny_Name (getName_sound KA.glob G R (locOf F.nst ld) fun v0 hv0 => ?_) (by decide)))))
  refine pop_eval KA G R (by decide) (locOf F.stk lk) hk last_get b2 hf1 fun v1 s7 hv1 R7 => ?_
  refine VC.objE hv0 fun ad had => ?_
  refine VC.strE hv1 fun t1 => ?_
  rw [List.dropLast_concat] at R7
  refine del_sound R7 had (es := es) (by refine (?_ : (st.hp.set kk _)[dd]? = _); refine rwE (get_set_ne nkd) ?_; exact hd) hx b3 fun s8 R8 => wpAny_deleteEach_nil ?_
  refine (?_ : wpAny _ _ (execs [_] X.env) _ _ s8)
  refine rwE (arm_execs_cons ..) ?_
  refine wpAny_bind ?_
  rw [exec_Expr X.env _ _ (by unfold interactive; refine rwE G.kind ?_; rfl) rfl]
  refine wpAny_bind (wpAny_standAt (wpAny_bind ?_))
  refine pop_eval KA G R8 (by decide) (locOf F.its ly) (by refine (?_ : ((st.hp.set kk _).set dd _)[l]? = _); refine rwE (get_set_ne nld) (rwE (get_set_ne (Ne.symm nlk)) ?_); exact hl) last_get b1 hf2 fun v2 s9 hv2 R9 => ?_
  rw [List.dropLast_concat] at R9
  exact wpAny_dropValue (wpAny_pure (h _ R9))
theorem try_stop (KA : KAll K) (G : Good w K mg mb X) (R : Rel w X φ st s₀ s) (F : TryFE X.fe) {l dd kk fo it sr i : Nat} {fs ks : List AV} {es : List (Str × AV)} {xs : List AV} {x : Str} (T : TryS st l dd kk fo it sr i fs ks es xs (.str x)) (hv : xs.length <= i) (hx : (es.lookup x).isSome = true)
    (hf1 : methForm (.Name "stack" kp) pa pc2 0 = true) (hf2 : methForm (.Name "itstack" yp) pa' pc3 0 = true) {Q : Flow -> Shared -> Prop} (h : ∀ s', Rel w X φ ⟨(((st.hp.set it .gone).set kk (.list ks)).set dd (.dict (es.filter fun q => q.1 ≠ x))).set l (.list fs), st.lc⟩ s₀ s' -> Q .next s') :
    wpAny (M w) X.A (exec (tryStmt kc px py pz pd kp yp pa pa' p1 p2 p3 pc ap bp pc2 ps pdel pc3 pe ph pos) X.env) Q E s := by
  obtain ⟨ly, ld, lk, hl, hd, hk, b1, b2, b3, nlk, hf, hi, hs⟩ := T
  refine wpAny_Try_except ?_
  refine rwE (arm_execs_cons ..) ?_
  refine wpAny_bind (wpAny_Assign_Name (try_pre KA G R (locOf F.its ly) hl b1 hf hi hs fun af ai asr vs kx s2 R2 h1 h2 h3 h4 h5 h6 => ?_))
  refine nxt_end G.hh h3 h4 (isList_of h5) (arr_none h6.length hv) fun h' e oe evs he1 he2 he3 he4 he5 he6 he7 => he2.elim fun obg he2 => ?_
  refine note_sound G F.own (R2.upd (o' := .gone) hi rfl h1 he1 he2 trivial R2.tok) he4 (R2.offNew he3) he6 he7 fun s4 tb otb tvs oe' vs' R4 j1 j2 j3 j4 j5 j6 j7 j8 j9 => ?_
  refine wpAny_setFlight_none j1 j3 j4 j7 j8 j9 ?_
  have R5 : Rel w X φ ⟨st.hp.set it .gone, st.lc⟩ s₀ { s4 with heap := s4.heap.update tb (Obj.mapFields (·.setIfInBounds 3 .none)) } := R4.garb1 j6 (Heap.SameBut.update ..).extBut R4.tok
  have j1' : (s4.heap.update tb (Obj.mapFields (·.setIfInBounds 3 .none))).get? e = some oe' := (Heap.get?_update_other _ _ j5).trans j1
  have jt' : (s4.heap.update tb (Obj.mapFields (·.setIfInBounds 3 .none))).get? tb = some (otb.mapFields (·.setIfInBounds 3 .none)) := Heap.get?_update_self _ j7 (Obj.isFreed_of_fields (Obj.data_mapFields j8 _))
  refine wpAny_handleBy_builtin stop_exc stop_nt isSubtype_stop (X := "StopIteration") (b := true) (wpAny_Name (getName_sound KA.glob G R5 (v := .con (.type "StopIteration")) (by unfold getName; refine rwE F.stop ?_; rfl) fun c hc => ?_) (by decide))
  cases hc
  refine ⟨rfl, ⟨oe', j1', j2.trans he5⟩, ?_⟩
  refine rwE (if_pos rfl) ?_
  refine wpAny_setFlight_none j1' j3 j4 jt' (Obj.data_mapFields j8 _) (by simpa using j9) ?_
  have R6 := R5.garb1 (h' := (s4.heap.update tb (Obj.mapFields (·.setIfInBounds 3 .none))).update tb (Obj.mapFields (·.setIfInBounds 3 .none))) j6 (Heap.SameBut.update ..).extBut R5.tok
  have keep : ∀ {n : Nat} {o : AO}, st.hp[n]? = some o -> o ≠ .iter sr i -> (st.hp.set it .gone)[n]? = some o := fun {n o} e q => (get_set_ne fun h => q (Option.some.inj (by exact rwB hi (rwE h (rwE e rfl))))).trans e
  exact try_suite KA G R6 F ly ld lk (keep hl (by nofun)) (keep hd (by nofun)) (keep hk (by nofun)) b1 b2 b3 nlk hx hf1 hf2 h
theorem EX.tryNext {fe : FE} {P : Fl -> St -> Prop} {f : Fl} (F : TryFE fe) (hc : (methForm (.Name "stack" kp) pa pc2 0 && methForm (.Name "itstack" yp) pa' pc3 0) = true) (e : TryN st f st') (h : P f st') :
    EX fe (tryStmt kc px py pz pd kp yp pa pa' p1 p2 p3 pc ap bp pc2 ps pdel pc3 pe ph pos) st P := by
  intro w K mg mb X φ s₀ s E Q c R kk
  rw [Bool.and_eq_true] at hc
  have F : TryFE X.fe := c.fe.symm ▸ F
  cases e with
  | item T hv => exact try_item c.ka c.good R F T.ly T.hl T.b1 T.hf T.hi T.hs hv fun s' R' => kk h (Le.refl _) trivial R'
  | stop T hv hx => exact try_stop c.ka c.good R F T hv hx hc.1 hc.2 fun s' R' => kk h (Le.refl _) trivial R'
end
end Mine
end
section
open PySem PySem.W PyProof.Rows PySem.Calls
namespace Mine
section
variable {w : World} {X Y : Fx} {φ ψ : List Addr} {st st' : St} {s₀ s s' : Shared} {K : Frag} {mg mb : Str -> Option Value} {E : Value -> Shared -> Prop} {A : Around} {n : Nat}

noncomputable def topFx (h : Heap) (B : Around) (env : Env) (fe : FE) : Fx :=
  { pr := h, gd := h, fe := fe, env := env, A := B.deeper env, frames := [env], lls := [env.locals] }

theorem topFx_fr {h : Heap} {B : Around} {env : Env} {fe : FE} (hf : env.frame = some env.locals) : (topFx h B env fe).fr = [env.locals] := by
  refine (?_ : [env].filterMap (·.frame) = _)
  refine rwE List.filterMap_cons (rwE hf ?_); rfl

noncomputable def cellsRun : List (Str × NameKind) -> List (Str × Addr) -> Heap -> List (Str × Addr) × Heap
  | [], as, h => (as, h)
  | (n, .cell) :: r, as, h => cellsRun r ((n, h.objs.size) :: as) (h.push { cls := .type "cell", data := .cell none })
  | _ :: r, as, h => cellsRun r as h
theorem cells_exact : ∀ (names : List (Str × NameKind)) {as : List (Str × Addr)} {s : Shared} {Q : List (Str × Addr) -> Shared -> Prop}, Q (cellsRun names as s.heap).1 { s with heap := (cellsRun names as s.heap).2 } ->
    wpAny (M w) A (forIn names as fun x r => match x with | (name, kind) => if (kind == NameKind.cell) = true then (do let a ← alloc { cls := .type "cell", data := .cell none }; pure (ForInStep.yield ((name, a) :: r))) else pure (ForInStep.yield r)) Q E s
  | [], as, s, Q, h => by
    refine rwE List.forIn_nil ?_
    exact wpAny_pure h
  | (n, k) :: r, as, s, Q, h => by
    refine rwE (List.forIn_cons ..) ?_
    refine wpAny_bind ?_
    cases hk : k == NameKind.cell with
    | true =>
      have : k = .cell := by simpa using hk
      subst this
      simp only [hk, if_true]
      exact wpAny_bind (wpAny_alloc (wpAny_pure (cells_exact r h)))
    | false =>
      simp only [hk, Bool.false_eq_true, if_false]
      refine wpAny_pure ?_
      have e : cellsRun ((n, k) :: r) as s.heap = cellsRun r as s.heap := by cases k <;> first | rfl | (simp at hk)
      rw [e] at h
      exact cells_exact r h
theorem cells_rel : ∀ (names : List (Str × NameKind)) {cs : List (Str × Nat)} {as : List (Str × Addr)} {φ : List Addr} {st : St} {s : Shared}, Rel w (X.cellsTo cs as) φ st s₀ s ->
    ∃ φ', Le φ φ' /\ Rel w (X.cellsTo (newCells names st.hp cs).2 (cellsRun names as s.heap).1) φ' ⟨(newCells names st.hp cs).1, st.lc⟩ s₀ { s with heap := (cellsRun names as s.heap).2 }
  | [], cs, as, φ, st, s, R => ⟨φ, Le.refl _, R⟩
  | (n, k) :: r, cs, as, φ, st, s, R => by
    cases hk : k == NameKind.cell with
    | true =>
      have : k = .cell := by simpa using hk
      subst this
      refine xEA (cells_rel r (R.addCell n)) fun φ' l R' => ?_
      exact ⟨φ', Le.trans (fun z9 z9 => get_snoc) l, R'⟩
    | false =>
      have e : newCells ((n, k) :: r) st.hp cs = newCells r st.hp cs := by cases k <;> first | rfl | (simp at hk)
      have e' : cellsRun ((n, k) :: r) as s.heap = cellsRun r as s.heap := by cases k <;> first | rfl | (simp at hk)
      refine rwE e (rwE e' ?_)
      exact cells_rel r R

theorem enter_sound (KA : KAll K) (gr : Ground w K mg mb s.heap) {S : Addr} {vs : List Value} {k : Nat} {l : List Int} (hS : s.heap.get? S = some ⟨.type "list", none, .seq (List.toArray vs) k, #[]⟩) (hv : VCs [S] (l.map .int) vs) (h1 : 1 < S) {B : Around} (hh : B.handled = none) (hfr : B.frames = some [])
    (hd : B.depth + 1 + 400 < recursionLimit) (hu : B.units + 3 + 1600 + 128 < cLine) {P : AV -> Prop} {st1 : St} (e2 : bindAll ⟨lawFd.scope.names, (newCells lawFd.scope.names [.flist (l.map .int)] []).2, 99, true⟩ ((lawFd.params.args.map (·.arg)).zip [.obj 0]) ⟨(newCells lawFd.scope.names [.flist (l.map .int)] []).1, []⟩ = some st1)
    (body : EXS ⟨lawFd.scope.names, (newCells lawFd.scope.names [.flist (l.map .int)] []).2, 99, true⟩ lawFd.body st1 (retP fun v z9 => P v)) {Q : Result -> Shared -> Prop}
    (h : ∀ φ r v s', P r -> VC φ r v -> (∀ b o, s.heap.get? b = some o -> s'.heap.get? b = some o) -> s'.gens = s.gens -> s'.os = s.os -> Q (.ok (.ret v)) s') : codeAny (M w) B (.call (.ref 242) ⟨[.ref S], []⟩) Q s := by
  have F : FnAt K 242 lawFd := KA.fns 242 lawFd rfl
  have hva : lawFd.params.vararg = none := rfl
  refine xEEEEEEAAAAAAAAAAAA (F.ex) fun o fn c oc cvs t f1 f2 f3 f4 f5 f6 f7 f8 f9 f10 f11 f12 f13 => ?_
  have X₀ := gr.inK
  have hdep : B.depth < recursionLimit := by exact Nat.lt_of_le_of_lt (Nat.le_add_right _ _) ‹_›
  refine codeAny_call_function hdep (X₀ _ _ f1) f2 (by refine rwE f5 ?_; exact F.co) (by refine rwE f5 ?_; exact F.gen) f4 ⟨c, oc, cvs, t, f9, X₀ _ _ f10, f11, f12⟩ ?_
  have hdef : ∃ ds, ∀ {E : Value -> Shared -> Prop} {Q : Option (Array Value) -> Shared -> Prop}, Q ds s -> wpAny (M w) B.in1 (seqItems? fn.defaults) Q E s := by
    rcases f13 with q | ⟨T, ot, its, k, q1, q2, q3⟩
    . exact ⟨none, fun hq => by refine rwE q ?_; exact wpAny_pure hq⟩
    . exact ⟨some its, fun hq => by refine rwE q1 ?_; exact wpAny_seqItems (X₀ _ _ q2) q3 hq⟩
  obtain ⟨ds, hds⟩ := hdef
  have hone : (lawFd.params.args.map (·.arg)).length = 1 := rfl
  refine bind_sound (ds := ds) (by refine rwE f3 ?_; exact F.pos) (by refine rwE f3 ?_; exact F.kwo) (by refine rwE f3 ?_; exact F.kwa) (by refine rwE f3 ?_; exact F.nod) hds (by rw [f3, hone]; exact Nat.le_refl _) (fun z9 => by rw [f3, hone]; rfl) ?_
  refine rwE f3 (rwE hva ?_)
  dsimp only
  have hbc : BCs [S] ((lawFd.params.args.map (·.arg)).zip [.obj 0]) ((lawFd.params.args.map (·.arg)).zip [.ref S]) := BCs.zip (.cons (.obj rfl) .nil)
  unfold newFunctionEnv
  dsimp only
  refine wpAny_bind (wpAny_alloc ?_)
  refine rwE (show (if (none : Option Env).isSome = true then "dict" else "frame") = "frame" from rfl) ?_
  let env0 : Env := { scope := fn.scope, locals := s.heap.objs.size, globals := fn.globals, cells := [], qual := fn.qualname ++ ".<locals>.", func := some 242, code := fn.code, frame := some s.heap.objs.size, builtins := fn.builtins }
  let fe0 : FE := ⟨lawFd.scope.names, [], 99, true⟩
  have hLn : s.heap.get? s.heap.objs.size = none := Heap.get?_none_of_le (Nat.le_refl _)
  have hSL : S ≠ s.heap.objs.size := fun q => by rw [q, hLn] at hS; cases hS
  have hsz : 1 < s.heap.objs.size := Nat.lt_trans h1 (Heap.lt_size hS)
  have RC : Rel w ((topFx s.heap B env0 fe0).cellsTo [] []) [S] ⟨[.flist (l.map .int)], []⟩ s { s with heap := s.heap.push { cls := .type "frame", data := .dict #[] }, toks := s.toks + 1 } := by
    refine { keep := fun b o e => ⟨o.slots, Heap.get?_push_of_some _ e, fun z9 => rfl⟩, loc := ⟨_, Heap.Ns.new s.heap _, fun x v e => by cases e⟩, objs := fun i o e => ?_, inj := by simp, len := rfl, off := fun a ha => ?_, lls := ⟨.head _, fun L hL => ?_⟩, offp := fun i a o h1 h2 h3 => ?_, lowL := hsz, cells := (fun x c e => by cases e), tok := Nat.le_add_left _ _, gens := rfl, os := rfl, drawn := rfl }
    . cases i with
      | zero => cases e; exact ⟨S, _, rfl, Heap.get?_push_of_some _ hS, vs, k, rfl, hv⟩
      | succ i => cases e
    . have : a = S := by simpa using ha
      subst this
      refine ⟨fun q => hSL (by have q' : a ∈ [s.heap.objs.size] := q; simpa using q'), ?_, h1⟩
      refine (?_ : ((s.heap.push _).get? a).isSome = true)
      refine rwE (Heap.get?_push_of_some _ hS) ?_; rfl
    . have : L = s.heap.objs.size := by have hL' : L ∈ [s.heap.objs.size] := hL; simpa using hL'
      subst this
      refine (?_ : ((s.heap.push _).get? _).isSome = true)
      refine rwE (Heap.get?_push_size _ rfl) ?_; rfl
    . cases i with
      | zero => cases h2; cases h3
      | succ i => cases h2
  refine rwE f7 ?_
  refine wpAny_bind ?_
  refine cells_exact fn.scope.names ?_
  refine xEA (cells_rel fn.scope.names RC) fun φ2 l2 R2 => ?_
  generalize hcr : cellsRun fn.scope.names [] (s.heap.push { cls := .type "frame", data := .dict #[] }) = cr at R2 ⊢
  obtain ⟨as', hC⟩ := cr
  dsimp only at R2 ⊢
  rw [f5] at R2
  let env1 : Env := { env0 with cells := as' }
  let fe1 : FE := ⟨lawFd.scope.names, (newCells lawFd.scope.names [.flist (l.map .int)] []).2, 99, true⟩
  have R3 : Rel w (topFx s.heap B env1 fe1) φ2 ⟨(newCells lawFd.scope.names [.flist (l.map .int)] []).1, []⟩ s { s with heap := hC, toks := s.toks + 1 } := { R2 with }
  have hfrm : (topFx s.heap B env1 fe1).fr = [s.heap.objs.size] := topFx_fr rfl
  have GY : Good w K mg mb (topFx s.heap B env1 fe1) := by
    refine { ground := gr, gdpr := fun b o e => e, gdfr := fun b hb => ?_, hh := hh, frm := ?_, kind := ?_, names := ?_, glb := f6, bns := f8, prL := hLn, room := ?_, units := ?_, own := fun z9 => ⟨[], rfl, rfl⟩, around := fun e he => ?_, somefr := ⟨_, rfl, by refine rwE hfrm ?_; exact .head _⟩, frl := fun b hb => ?_ }
    . rw [hfrm] at hb
      have : b = s.heap.objs.size := by simpa using hb
      refine rwE this ?_; exact hLn
    . refine (?_ : (B.deeper env1).frames = _)
      simp only [Around.deeper, hfr]; rfl
    . refine (?_ : fn.scope.kind = _)
      refine rwE f5 ?_; exact F.kind
    . refine (?_ : fn.scope.names = lawFd.scope.names)
      exact rwE f5 rfl
    . refine (?_ : B.depth + 1 + 4 * 99 < recursionLimit)
      lia
    . refine (?_ : B.units + 3 + 16 * 99 + 128 < cLine)
      lia
    . have : e = env1 := by have he' : e ∈ [env1] := he; simpa using he'
      subst this
      exact ⟨by refine (?_ : fn.scope.kind ≠ _); refine rwE f5 (rwE F.kind ?_); decide, _, rfl, .inl rfl⟩
    . rw [hfrm] at hb; exact hb
  refine wpAny_bind ?_
  have hz : (lawFd.params.args.map (·.arg)) = [("script" : Str)] := rfl
  rw [hz] at e2 ⊢
  have hloc : lawFd.scope.names.lookup ("script" : Str) = some .local := by decide
  refine xEA (Option.bind_eq_some_iff.mp e2) fun stb eb1 eb2 => ?_
  unfold putName at eb1
  rw [hloc] at eb1
  cases eb1
  cases eb2
  refine (?_ : wpAny (M w) B.in1 (forIn [(("script" : Str), Value.ref S)] _ _) _ _ _)
  refine rwE (List.forIn_cons ..) ?_
  refine xEA (R3.loc) fun m hm1 hm2 => ?_
  change hC.Ns env1.locals m at hm1
  refine wpAny_bind (wpAny_bind (wpAny_storeName_local (env := env1) (show env1.kindOf "script" = some .local from ?_) hm1 (fun h' hn hs => wpAny_pure ?_) ?_))
  . unfold Env.kindOf; refine (?_ : fn.scope.names.lookup _ = _); refine rwE f5 ?_; exact hloc
  . dsimp only
    refine rwE List.forIn_nil ?_
    refine wpAny_pure ?_
    have R4 : Rel w (topFx s.heap B env1 fe1) φ2 ⟨(newCells lawFd.scope.names [.flist (l.map .int)] []).1, [("script", .obj 0)]⟩ s { s with heap := h', toks := s.toks + 1 } := by
      refine R3.setLoc GY.prL (v' := .ref S) (.obj (l2 0 S rfl)) (fun m' hm' => ?_) hs (Nat.le_add_left ..)
      refine xEEEAAA (hm1) fun o1 es1 ep1 a1 a2 a3 a4 => ?_
      refine xEEEAAA (hm') fun o2 es2 ep2 b1 b2 b3 b4 => ?_
      change hC.get? env1.locals = some o2 at b1
      rw [a1] at b1; cases b1
      rw [a2] at b2; cases b2
      have : m = m' := funext fun n => (a4 n).symm.trans (b4 n)
      refine rwB this ?_; exact hn
    refine wpAny_pure ⟨(R4.ground GY).lim, codeAny_func ?_⟩
    refine Run.at body ⟨KA, GY, rfl⟩ R4 fun {f st2 ψ fl s4} hP l4 hfc R5 => ?_
    have keeps : ∀ b o, s.heap.get? b = some o -> s4.heap.get? b = some o := fun b o e => R5.keep.exact (b := b) (o := o) e (by
      refine rwE hfrm ?_
      intro q
      have : b = s.heap.objs.size := by simpa using q
      rw [this, hLn] at e; cases e)
    cases f <;> cases fl <;> first | exact hfc.elim | exact hP.elim | skip
    . exact h ψ _ _ _ hP .none keeps R5.gens R5.os
    . exact h ψ _ _ _ hP hfc keeps R5.gens R5.os
  . rw [show env1.scope.kind = .function from (by refine (?_ : fn.scope.kind = _); refine rwE f5 ?_; exact F.kind)]; rfl
end
end Mine
end
section
open PySem PySem.W PyProof.Rows PySem.Calls
namespace Mine
noncomputable abbrev pw : Program := PySem.Challenge.pw_om0120_01
noncomputable def qv : Program := view pw [0, 2, 3, 4, 5, 6, 8, 9, 10, 11, 12, 14, 15, 16, 17, 19, 20, 21, 22]
noncomputable def looseN : List Str := ["_NodeInfo"]
noncomputable def fO (n q : Str) (fd : FD) (df : Value) (m : Str) (t c : Nat) : Obj := { cls := .type "function", data := .func { name := n, qualname := q, params := fd.params, body := .stmts fd.body, scope := fd.scope, globals := 3, closure := [], defaults := df, kwdefaults := .none, pyModule := .str m t, code := .ref c } }
noncomputable def cO (vs : Array Value) : Obj := { cls := .type "code", data := .fields vs }
noncomputable def dE (P : Params) (n : Str) (t : Nat) (v : Value) : DictEntry := ⟨PyData.keyHash P n, .str n t, v⟩
noncomputable def KH (P : Params) : Frag := [
  (3, { cls := .type "dict", data := .dict #[dE P "__name__" 165 (.str "law_om0120_01" 499), dE P "__doc__" 166 (.none), dE P "__package__" 167 (.none), dE P "__loader__" 168 (.builtin "__main__.__loader__#opaque"), dE P "__spec__" 169 (.none), dE P "__annotations__" 170 (.ref 6), dE P "__builtins__" 171 (.ref 4), dE P "__file__" 173 (.str "/claim/cut.py" 172), dE P "__cached__" 174 (.none), dE P "_wall" 193 (.ref 21), dE P "Error" 215 (.ref 31), dE P "error_reply" 231 (.ref 44), dE P "error_proto" 247 (.ref 56), dE P "parse229" 260 (.ref 65), dE P "parse257" 271 (.ref 72), dE P "_NODE_OUT" 276 (.int (-1) 275), dE P "_NODE_DONE" 279 (.int (-2) 278), dE P "_NodeInfo" 316 (.ref 91), dE P "CycleError" 334 (.ref 106), dE P "TopologicalSorter" 453 (.ref 188), dE P "heappop" 464 (.ref 199), dE P "heapify" 473 (.ref 206), dE P "_siftdown" 485 (.ref 213), dE P "_siftup" 498 (.ref 220), dE P "_law_packed" 506 (.ref 225), dE P "_law_told" 519 (.ref 232), dE P "_law_best" 525 (.ref 237), dE P "law" 531 (.ref 242)] 28 }),
  (64, cO #[.str "parse229" 248, .str "parse229" 249, .str "/claim/cut.py" 250, .int 11 0, .int 2 0, .int 0 0, .int 0 0, .int 3 0, .ref 59, .bool true, .int 181 0, .ref 60, .none, .ref 61, .ref 62, .ref 63, .int 258 0, .int 11 0, .str "/claim/cut.py" 259]),
  (65, fO "parse229" "parse229" (fdIn theText 5) (.none) "cpy313.ftplib" 194 64),
  (71, cO #[.str "parse257" 261, .str "parse257" 262, .str "/claim/cut.py" 263, .int 28 0, .int 1 0, .int 0 0, .int 0 0, .int 3 0, .ref 66, .bool true, .int 181 0, .ref 67, .none, .ref 68, .ref 69, .ref 70, .int 269 0, .int 28 0, .str "/claim/cut.py" 270]),
  (72, fO "parse257" "parse257" (fdIn theText 6) (.none) "cpy313.ftplib" 194 71),
  (86, cO #[.str "__init__" 296, .str "_NodeInfo.__init__" 297, .str "/claim/cut.py" 298, .int 51 0, .int 2 0, .int 0 0, .int 0 0, .int 3 0, .ref 81, .bool true, .int 181 0, .ref 82, .none, .ref 83, .ref 84, .ref 85, .int 301 0, .int 51 0, .str "/claim/cut.py" 302]),
  (87, fO "__init__" "_NodeInfo.__init__" (fdIn (clsIn theText 10) 1) (.none) "cpy313.graphlib" 272 86),
  (90, { cls := .type "dict", data := .dict #[dE P "__module__" 287 (.str "cpy313.graphlib" 272), dE P "__firstlineno__" 291 (.int 48 290), dE P "__slots__" 295 (.ref 80), dE P "__init__" 303 (.ref 87), dE P "__static_attributes__" 307 (.ref 88), dE P "node" 309 (.ref 92), dE P "npredecessors" 311 (.ref 93), dE P "successors" 313 (.ref 94), dE P "__doc__" 314 (.none)] 5 }),
  (91, { cls := .type "type", data := .cls { name := "_NodeInfo", bases := [.type "object"], mro := [.ref 91, .type "object"], ns := 90, qualname := "_NodeInfo", hasDict := false, slotNames := ["node", "npredecessors", "successors"] }, slots := #[none, none, some (.str "_NodeInfo" 280), some (.str "_NodeInfo" 288), some (.builtin "object.__new__"), some (.bool false)] }),
  (92, { cls := .type "member_descriptor", data := .fields #[.str "node" 308, .ref 91, .builtin "proto.slot", .builtin "proto.slot#set", .int 2 0] }),
  (93, { cls := .type "member_descriptor", data := .fields #[.str "npredecessors" 310, .ref 91, .builtin "proto.slot", .builtin "proto.slot#set", .int 1 0] }),
  (94, { cls := .type "member_descriptor", data := .fields #[.str "successors" 312, .ref 91, .builtin "proto.slot", .builtin "proto.slot#set", .int 0 0] }),
  (117, { cls := .type "tuple", data := .seq #[.none] }),
  (123, cO #[.str "__init__" 347, .str "TopologicalSorter.__init__" 348, .str "/claim/cut.py" 349, .int 59 0, .int 2 0, .int 0 0, .int 0 0, .int 3 0, .ref 118, .bool true, .int 181 0, .ref 119, .none, .ref 120, .ref 121, .ref 122, .int 354 0, .int 59 0, .str "/claim/cut.py" 355]),
  (124, fO "__init__" "TopologicalSorter.__init__" (fdIn (clsIn theText 12) 0) (.ref 117) "cpy313.graphlib" 272 123),
  (130, cO #[.str "_get_nodeinfo" 357, .str "TopologicalSorter._get_nodeinfo" 358, .str "/claim/cut.py" 359, .int 68 0, .int 2 0, .int 0 0, .int 0 0, .int 3 0, .ref 125, .bool true, .int 181 0, .ref 126, .none, .ref 127, .ref 128, .ref 129, .int 363 0, .int 68 0, .str "/claim/cut.py" 364]),
  (131, fO "_get_nodeinfo" "TopologicalSorter._get_nodeinfo" (fdIn (clsIn theText 12) 1) (.none) "cpy313.graphlib" 272 130),
  (137, cO #[.str "add" 366, .str "TopologicalSorter.add" 367, .str "/claim/cut.py" 368, .int 73 0, .int 2 0, .int 0 0, .int 0 0, .int 7 0, .ref 132, .bool true, .int 181 0, .ref 133, .none, .ref 134, .ref 135, .ref 136, .int 375 0, .int 73 0, .str "/claim/cut.py" 376]),
  (138, fO "add" "TopologicalSorter.add" (fdIn (clsIn theText 12) 2) (.none) "cpy313.graphlib" 272 137),
  (142, cO #[.str "prepare" 378, .str "TopologicalSorter.prepare" 379, .str "/claim/cut.py" 380, .int 82 0, .int 1 0, .int 0 0, .int 0 0, .int 3 0, .ref 139, .bool true, .int 181 0, .ref 140, .none, .none, .none, .ref 141, .int 381 0, .int 82 0, .str "/claim/cut.py" 382]),
  (143, fO "prepare" "TopologicalSorter.prepare" (fdIn (clsIn theText 12) 3) (.none) "cpy313.graphlib" 272 142),
  (149, cO #[.str "get_ready" 384, .str "TopologicalSorter.get_ready" 385, .str "/claim/cut.py" 386, .int 90 0, .int 1 0, .int 0 0, .int 0 0, .int 3 0, .ref 144, .bool true, .int 181 0, .ref 145, .none, .ref 146, .ref 147, .ref 148, .int 391 0, .int 90 0, .str "/claim/cut.py" 392]),
  (150, fO "get_ready" "TopologicalSorter.get_ready" (fdIn (clsIn theText 12) 4) (.none) "cpy313.graphlib" 272 149),
  (156, cO #[.str "is_active" 394, .str "TopologicalSorter.is_active" 395, .str "/claim/cut.py" 396, .int 101 0, .int 1 0, .int 0 0, .int 0 0, .int 3 0, .ref 151, .bool true, .int 181 0, .ref 152, .none, .ref 153, .ref 154, .ref 155, .int 398 0, .int 101 0, .str "/claim/cut.py" 399]),
  (157, fO "is_active" "TopologicalSorter.is_active" (fdIn (clsIn theText 12) 5) (.none) "cpy313.graphlib" 272 156),
  (170, cO #[.str "done" 408, .str "TopologicalSorter.done" 409, .str "/claim/cut.py" 410, .int 109 0, .int 1 0, .int 0 0, .int 0 0, .int 7 0, .ref 165, .bool true, .int 181 0, .ref 166, .none, .ref 167, .ref 168, .ref 169, .int 419 0, .int 109 0, .str "/claim/cut.py" 420]),
  (171, fO "done" "TopologicalSorter.done" (fdIn (clsIn theText 12) 7) (.none) "cpy313.graphlib" 272 170),
  (177, cO #[.str "_find_cycle" 422, .str "TopologicalSorter._find_cycle" 423, .str "/claim/cut.py" 424, .int 132 0, .int 1 0, .int 0 0, .int 0 0, .int 3 0, .ref 172, .bool true, .int 181 0, .ref 173, .none, .ref 174, .ref 175, .ref 176, .int 432 0, .int 132 0, .str "/claim/cut.py" 433]),
  (178, fO "_find_cycle" "TopologicalSorter._find_cycle" (fdIn (clsIn theText 12) 8) (.none) "cpy313.graphlib" 272 177),
  (187, { cls := .type "dict", data := .dict #[dE P "__module__" 342 (.str "cpy313.graphlib" 272), dE P "__firstlineno__" 346 (.int 57 345), dE P "__init__" 356 (.ref 124), dE P "_get_nodeinfo" 365 (.ref 131), dE P "add" 377 (.ref 138), dE P "prepare" 383 (.ref 143), dE P "get_ready" 393 (.ref 150), dE P "is_active" 400 (.ref 157), dE P "__bool__" 407 (.ref 164), dE P "done" 421 (.ref 171), dE P "_find_cycle" 434 (.ref 178), dE P "static_order" 441 (.ref 185), dE P "__static_attributes__" 446 (.ref 186), dE P "__dict__" 448 (.ref 189), dE P "__weakref__" 450 (.ref 190), dE P "__doc__" 451 (.none)] 4 }),
  (188, { cls := .type "type", data := .cls { name := "TopologicalSorter", bases := [.type "object"], mro := [.ref 188, .type "object"], ns := 187, qualname := "TopologicalSorter" }, slots := #[none, none, some (.str "TopologicalSorter" 335), some (.str "TopologicalSorter" 343), some (.builtin "object.__new__"), some (.bool true)] }),
  (198, cO #[.str "heappop" 456, .str "heappop" 457, .str "/claim/cut.py" 458, .int 164 0, .int 1 0, .int 0 0, .int 0 0, .int 3 0, .ref 193, .bool true, .int 181 0, .ref 194, .none, .ref 195, .ref 196, .ref 197, .int 462 0, .int 164 0, .str "/claim/cut.py" 463]),
  (199, fO "heappop" "heappop" (fdIn theText 14) (.none) "cpy313.heapq" 454 198),
  (205, cO #[.str "heapify" 465, .str "heapify" 466, .str "/claim/cut.py" 467, .int 172 0, .int 1 0, .int 0 0, .int 0 0, .int 3 0, .ref 200, .bool true, .int 181 0, .ref 201, .none, .ref 202, .ref 203, .ref 204, .int 471 0, .int 172 0, .str "/claim/cut.py" 472]),
  (206, fO "heapify" "heapify" (fdIn theText 15) (.none) "cpy313.heapq" 454 205),
  (212, cO #[.str "_siftdown" 474, .str "_siftdown" 475, .str "/claim/cut.py" 476, .int 176 0, .int 3 0, .int 0 0, .int 0 0, .int 3 0, .ref 207, .bool true, .int 181 0, .ref 208, .none, .ref 209, .ref 210, .ref 211, .int 483 0, .int 176 0, .str "/claim/cut.py" 484]),
  (213, fO "_siftdown" "_siftdown" (fdIn theText 16) (.none) "cpy313.heapq" 454 212),
  (219, cO #[.str "_siftup" 486, .str "_siftup" 487, .str "/claim/cut.py" 488, .int 187 0, .int 2 0, .int 0 0, .int 0 0, .int 3 0, .ref 214, .bool true, .int 181 0, .ref 215, .none, .ref 216, .ref 217, .ref 218, .int 496 0, .int 187 0, .str "/claim/cut.py" 497]),
  (220, fO "_siftup" "_siftup" (fdIn theText 17) (.none) "cpy313.heapq" 454 219),
  (224, cO #[.str "_law_packed" 501, .str "_law_packed" 502, .str "/claim/cut.py" 503, .int 202 0, .int 3 0, .int 0 0, .int 0 0, .int 3 0, .ref 221, .bool true, .int 181 0, .ref 222, .none, .none, .none, .ref 223, .int 504 0, .int 202 0, .str "/claim/cut.py" 505]),
  (225, fO "_law_packed" "_law_packed" (fdIn theText 19) (.none) "law_om0120_01" 499 224),
  (231, cO #[.str "_law_told" 507, .str "_law_told" 508, .str "/claim/cut.py" 509, .int 224 0, .int 2 0, .int 0 0, .int 0 0, .int 3 0, .ref 226, .bool true, .int 181 0, .ref 227, .none, .ref 228, .ref 229, .ref 230, .int 517 0, .int 224 0, .str "/claim/cut.py" 518]),
  (232, fO "_law_told" "_law_told" (fdIn theText 20) (.none) "law_om0120_01" 499 231),
  (236, cO #[.str "_law_best" 520, .str "_law_best" 521, .str "/claim/cut.py" 522, .int 233 0, .int 3 0, .int 0 0, .int 0 0, .int 3 0, .ref 233, .bool true, .int 181 0, .ref 234, .none, .none, .none, .ref 235, .int 523 0, .int 233 0, .str "/claim/cut.py" 524]),
  (237, fO "_law_best" "_law_best" (fdIn theText 21) (.none) "law_om0120_01" 499 236),
  (241, cO #[.str "law" 526, .str "law" 527, .str "/claim/cut.py" 528, .int 247 0, .int 1 0, .int 0 0, .int 0 0, .int 3 0, .ref 238, .bool true, .int 181 0, .ref 239, .none, .none, .none, .ref 240, .int 529 0, .int 247 0, .str "/claim/cut.py" 530]),
  (242, fO "law" "law" (fdIn theText 22) (.none) "law_om0120_01" 499 241)]
noncomputable def KHas : List Nat := [3, 64, 65, 71, 72, 86, 87, 90, 91, 92, 93, 94, 117, 123, 124, 130, 131, 137, 138, 142, 143, 149, 150, 156, 157, 170, 171, 177, 178, 187, 188, 198, 199, 205, 206, 212, 213, 219, 220, 224, 225, 231, 232, 236, 237, 241, 242]
noncomputable def hkH : Hook := kHook KH KHas fun z9 => by kernel_rfl
theorem left_of {p q : Program} {loose : List Str} {Xt : Shared -> Bool} {α : Type} {Yf : Shared -> α} {Ya : World -> α} {N : Nat} (e0 : opening p = plainProg p.main.scope.names) (f : ∀ s, fenceModules? p s = some s) (hN : Nat.ble 600 N = true)
    (e : ∀ (w : World) (os : OsState), (topFrom treeTable p w N ⟨boot_heap w.params, Array.mk [], boot_drawn, boot_toks, os⟩).map (fun s => (openSeen q loose (importedModules p.main.body) Xt true s, Yf s)) = some (openGood q loose, Ya w)) : LeftO p q loose Xt Yf Ya N := fun w => by
  obtain ⟨⟨h, gs, d, k, os⟩, e1, e2⟩ := Option.map_eq_some_iff.mp (boot_open e0 hN f w)
  obtain ⟨rfl, rfl, rfl, rfl⟩ : h = boot_heap w.params /\ gs = Array.mk [] /\ d = boot_drawn /\ k = boot_toks := by simpa using e2
  unfold openEnds
  rw [e1]
  exact e w os
noncomputable def XtH (s : Shared) : Bool := xlAt qv [] s && recOk (RowW.records PySem.Challenge.rw_om0120_01.row.toRowW) s
theorem left_H : LeftO pw qv looseN XtH hkH.obs hkH.val 2300 := left_of (by kernel_rfl) (fun s => by kernel_rfl) (by kernel_rfl) fun w os => by kernel_rfl
noncomputable def lawD : DefRec := { name := "law", params := lawFd.params, body := lawFd.body, scope := lawFd.scope, pos := ⟨247, 0, 261, 93⟩ }
theorem said : PySem.Challenge.rw_om0120_01.wellSaid = true := by kernel_rfl
theorem hd (call : WalkO qv looseN (XL qv []) hkH.says PySem.Challenge.rw_om0120_01.row.toRowW lawD [] fun f vs => PySem.call f vs) : PySem.Challenge.rw_om0120_01.Holds :=
  holds_law said fun ok => PySem.W.holds_open (q := qv) (loose := looseN) (Xt := XtH) (XP := XL qv []) (Yf := hkH.obs) (Ya := hkH.val) (YP := hkH.says) (N := 2300) left_H hkH.of hkH.keeps (fun s e => xl_of s (Bool.and_eq_true_iff.mp e).1) XL.keeps
    (by kernel_rfl) (by kernel_rfl) (by kernel_rfl) (fun s e => recFacts_of (Bool.and_eq_true_iff.mp e).2) (by kernel_rfl) ok (by kernel_rfl) ⟨rfl, rfl, rfl, rfl, rfl, by decide +kernel⟩ (by w_witness2) call
end Mine
end
section
open PySem PySem.W PyProof.Rows PySem.Calls
namespace Mine

theorem lookup_mem {α β : Type} [BEq α] [LawfulBEq α] {l : List (α × β)} {x : α} {v : β} (h : l.lookup x = some v) : (x, v) ∈ l := by
  induction l with
  | nil => cases h
  | cons p r ih =>
    rw [List.lookup_cons] at h
    cases q : x == p.1 with
    | true => rw [q] at h; cases h; refine rwE (eq_of_beq q) ?_; exact .head _
    | false => rw [q] at h; exact .tail _ (ih h)
theorem map_at {α β : Type} {l : List α} {f g : α -> β} (h : l.map f = l.map g) {x : α} (e : x ∈ l) : f x = g x := List.map_inj_left.mp h _ e
theorem tab_at {α β γ : Type} [BEq α] [LawfulBEq α] {l : List (α × β)} {f g : α × β -> γ} (h : l.map f = l.map g) {x : α} {v : β} (e : l.lookup x = some v) : f (x, v) = g (x, v) := List.map_inj_left.mp h _ (lookup_mem e)

noncomputable def oAt (K : Frag) (a : Addr) : Obj := (K.lookup a).getD default
noncomputable def dFunc : Data -> FuncData
  | .func f => f
  | _ => default
noncomputable def dRef : Value -> Addr
  | .ref c => c
  | _ => 0
noncomputable def dFields : Data -> Array Value
  | .fields vs => vs
  | _ => default
noncomputable def dTok : Option Value -> Tok
  | some (.str _ t) => t
  | _ => 0
noncomputable def dItems : Data -> Array Value × Nat
  | .seq a n => (a, n)
  | _ => default
noncomputable def isN : Value -> Bool
  | .none => true
  | _ => false
noncomputable def fAt (K : Frag) (a : Addr) : FuncData := dFunc (oAt K a).data
noncomputable def cAt (K : Frag) (a : Addr) : Addr := dRef (fAt K a).code
noncomputable def vsAt (K : Frag) (a : Addr) : Array Value := dFields (oAt K (cAt K a)).data
noncomputable def tAt (K : Frag) (a : Addr) : Addr := dRef (fAt K a).defaults
noncomputable abbrev itsAt (K : Frag) (a : Addr) : Array Value × Nat := dItems (oAt K (tAt K a)).data
set_option genInjectivity false in
structure FRow where
  o : Option Obj
  d : Data
  pa : Arguments
  bo : FuncBody
  sc : Scope
  gl : Addr
  cl : List (Str × Addr)
  bu : Addr
  co : Value
  oc : Option Obj
  vs : Data
  nm : Option Value
  de : Value × Option Obj × Data
  ok : Bool
noncomputable def fdOk (fd : FD) : Bool := !fd.scope.isCoroutine && !fd.scope.isGenerator && (fd.scope.kind == .function) && fd.params.posonlyargs.isEmpty && fd.params.kwonlyargs.isEmpty && fd.params.kwarg.isNone && decide ((fd.params.args.map (·.arg)).Nodup)
noncomputable def fRow (K : Frag) (x : Nat × FD) : FRow := let f := fAt K x.1
  ⟨K.lookup x.1, (oAt K x.1).data, f.params, f.body, f.scope, f.globals, f.closure, f.builtins, f.code, K.lookup (cAt K x.1), (oAt K (cAt K x.1)).data, (vsAt K x.1)[1]?, (f.defaults, K.lookup (tAt K x.1), (oAt K (tAt K x.1)).data), fdOk x.2⟩
noncomputable def eRow (K : Frag) (x : Nat × FD) : FRow := let f := fAt K x.1
  ⟨some (oAt K x.1), .func f, x.2.params, .stmts x.2.body, x.2.scope, mainGlobals, [], builtinsNs, .ref (cAt K x.1), some (oAt K (cAt K x.1)), .fields (vsAt K x.1), some (.str f.qualname (dTok (vsAt K x.1)[1]?)),
    bif isN f.defaults then (.none, K.lookup (tAt K x.1), (oAt K (tAt K x.1)).data) else (.ref (tAt K x.1), some (oAt K (tAt K x.1)), .seq (itsAt K x.1).1 (itsAt K x.1).2), true⟩
theorem FnAt.of {K : Frag} {a : Nat} {fd : FD} (h : fRow K (a, fd) = eRow K (a, fd)) : FnAt K a fd := by
  have h6 : fdOk fd = true := congrArg FRow.ok h
  unfold fdOk at h6
  rw [Bool.and_eq_true, Bool.and_eq_true, Bool.and_eq_true, Bool.and_eq_true, Bool.and_eq_true, Bool.and_eq_true] at h6
  obtain ⟨⟨⟨⟨⟨⟨g1, g2⟩, g3⟩, g4⟩, g5⟩, g6⟩, g7⟩ := h6
  refine ⟨⟨oAt K a, fAt K a, cAt K a, oAt K (cAt K a), vsAt K a, _, congrArg FRow.o h, congrArg FRow.d h, congrArg FRow.pa h, congrArg FRow.bo h, congrArg FRow.sc h, congrArg FRow.gl h, congrArg FRow.cl h, congrArg FRow.bu h, congrArg FRow.co h, congrArg FRow.oc h, congrArg FRow.vs h, congrArg FRow.nm h, ?_⟩,
    Bool.not_eq_true' .. ▸ g1, Bool.not_eq_true' .. ▸ g2, eq_of_beq g3, List.isEmpty_iff.mp g4, List.isEmpty_iff.mp g5, Option.isNone_iff_eq_none.mp g6, of_decide_eq_true g7⟩
  have hd := congrArg FRow.de h
  revert hd
  refine (?_ : _ = (bif isN (fAt K a).defaults then _ else _) -> _)
  cases isN (fAt K a).defaults with
  | true => exact fun hd => .inl (congrArg (·.1) hd)
  | false => exact fun hd => .inr ⟨_, _, _, _, congrArg (·.1) hd, congrArg (·.2.1) hd, congrArg (·.2.2) hd⟩

noncomputable def avOf : Value -> AV
  | .int i _ => .int i
  | v => .con v
theorem VC.of (v : Value) : VC [] (avOf v) v := by
  cases v with
  | int i t => exact .int i t
  | _ => exact .con _
noncomputable def gRow (K : Frag) (x : Str) : Option AV := match nsIn K mainGlobals x with
  | some (some v) => some (avOf v)
  | some none => if x = "__name__" then none else (bootBuiltins x).map avOf
  | none => none

section
variable (p : Params)
theorem fns_all : ∀ a fd, fdAt a = some fd -> FnAt (KH p) a fd := fun z9 z9 h => .of (tab_at (f := fRow (KH p)) (g := eRow (KH p)) (by kernel_rfl) h)
theorem keep_all : ∀ a, a = 188 ∨ a = 91 ∨ (fdAt a).isSome = true -> keepIn (KH p) (.ref a) = true := by
  intro a h
  rcases h with rfl | rfl | h
  . kernel_rfl
  . kernel_rfl
  obtain ⟨fd, e⟩ := Option.isSome_iff_exists.mp h
  exact tab_at (f := fun x => keepIn (KH p) (.ref x.1)) (g := fun z9 => true) (by kernel_rfl) e
theorem glob_all : KGlob (KH p) := by
  constructor
  intro x v h
  have h : gRow (KH p) x = some v := tab_at (f := fun y => gRow (KH p) y.1) (g := fun y => some y.2) (by kernel_rfl) h
  unfold gRow at h
  cases q : nsIn (KH p) mainGlobals x with
  | none => rw [q] at h; cases h
  | some o =>
    rw [q] at h
    cases o with
    | some v' => cases h; exact .inl ⟨v', rfl, .of v'⟩
    | none =>
      by_cases hx : x = "__name__"
      . rw [if_pos hx] at h; cases h
      . rw [if_neg hx] at h
        (refine xEA (Option.map_eq_some_iff.mp h) fun v' e hz2 => ?_; subst hz2)
        exact .inr ⟨rfl, hx, v', e, .of v'⟩
theorem attr_all : KAttr (KH p) where
  get := by kernel_rfl
  dict := by kernel_rfl
  over := by kernel_rfl
  set := by kernel_rfl
  own := fun z9 ha => map_at (f := findIn (KH p) (.ref 188)) (g := fun z9 => some none) (by kernel_rfl) ha
  nget := by kernel_rfl
  ncls := by kernel_rfl
  nover := by kernel_rfl
  nset := by kernel_rfl
  slot := fun a i h => by
    have : a ∈ slotsOf := by
      refine Classical.byContradiction fun q => ?_
      rw [List.idxOf?_eq_none_iff.mpr q] at h; cases h
    unfold slotsOf at this
    rw [List.mem_cons, List.mem_cons, List.mem_singleton] at this
    rcases this with rfl | rfl | rfl
    . cases h; exact ⟨92, by kernel_rfl, by kernel_rfl, by kernel_rfl, by kernel_rfl, by kernel_rfl⟩
    . cases h; exact ⟨93, by kernel_rfl, by kernel_rfl, by kernel_rfl, by kernel_rfl, by kernel_rfl⟩
    . cases h; exact ⟨94, by kernel_rfl, by kernel_rfl, by kernel_rfl, by kernel_rfl, by kernel_rfl⟩
theorem meth_all : KMeth (KH p) where
  meth := fun m a h => by
    have e := tab_at (l := methTab) (f := fun x => (findIn (KH p) (.ref 188) x.1, typeIn (KH p) (.ref x.2))) (g := fun x => (some (some (.ref x.2)), some (.type "function"))) (by kernel_rfl) h
    exact ⟨congrArg (·.1) e, congrArg (·.2) e⟩
theorem make_all : KMake (KH p) := ⟨by kernel_rfl, by kernel_rfl, by kernel_rfl, by kernel_rfl, by kernel_rfl, by kernel_rfl⟩
theorem bnd_all : KBnd (KH p) := ⟨by kernel_rfl, by kernel_rfl⟩
theorem kall : KAll (KH p) := ⟨glob_all p, attr_all p, meth_all p, make_all p, bnd_all p, fns_all p, keep_all p⟩
end
end Mine
end
section
open PySem PySem.W PyProof.Rows PySem.Calls
namespace Mine
theorem VCs.ints {φ : List Addr} {vs : List Value} {l : List Int} (h : IntsAre vs l) : VCs φ (l.map .int) vs := by
  induction h with
  | nil => exact .nil
  | cons n t _ ih => exact .cons (.int n t) ih
set_option tactic.hygienic true in
theorem law_of_eval (H : ∀ l : List Int, l.length <= 63 -> EXS ⟨lawFd.scope.names, (newCells lawFd.scope.names [.flist (l.map .int)] []).2, 99, true⟩ lawFd.body ⟨(newCells lawFd.scope.names [.flist (l.map .int)] []).1, [("script", .obj 0)]⟩ (retP fun v _ => v = .bool true)) : PySem.Challenge.rw_om0120_01.Holds := by
  refine Mine.hd ?_
  intro w s₀ s₁ mg mb G Y fa o pm cd doc dV kV ho hd hcd hD hmg hg args vals as hpre hlay hrd hwl hlo
  have KX := kIn_of Y
  clear hd hcd hD Y ho
  refine PySem.W.Ground.open G ?_
  intro T B D TE TW
  try (refine guard_noD D (by decide +kernel) ?_; clear D)
  have hlo' := hlo
  wrow_args hpre hlay hrd hwl hlo
  clear B TE TW G
  rename_i l hs hlay0 hL1 hr1 hl2 as1 as2 S vs as3 hL ra w1 r0 hI hr hc1 hc2
  have hfa : fa = 242 := by
    have h1 := mg_of KX T.g (by kernel_rfl : nsIn (KH w.params) mainGlobals "law" = some (some (.ref 242)))
    have h2 : mg "law" = some (.ref fa) := hmg
    rw [h1] at h2; cases h2; rfl
  subst hfa
  clear hmg
  have gr : Mine.Ground w (KH w.params) mg mb s₁.heap := ⟨KX, T.g, T.b, T.nolimit, T.builtins⟩
  have hSl : S ≠ 1 := fun q => by
    cases r0 with
    | list h1 h2 h3 h4 =>
      have := hlo' S (List.mem_append_left _ (.head _))
      rw [q] at this; cases this
  have hobj : ∃ us, s₁.heap.get? S = some { cls := .type "list", data := .seq (List.toArray us) } := by
    generalize hx : ofPy (PyData.list (List.map PyData.int l)) = x at w1
    cases w1 with
    | list h1 h2 => exact ⟨_, h1⟩
    | _ => cases hx
  obtain ⟨us, hobj⟩ := hobj
  have hus : us = vs := by
    refine xEAAE (hL) fun o1 h1 h2 k h3 => ?_
    rw [hobj] at h1; cases h1
    cases h3; rfl
  subst hus
  have hS0 : S ≠ 0 := fun q => by
    refine xEEEAA (gr.bl) fun o1 es ep h1 h2 _ => ?_
    have h1' : s₁.heap.get? 0 = some o1 := h1
    rw [q, h1'] at hobj; cases hobj; cases h2
  refine enter_call (enter_sound (kall w.params) gr hobj (VCs.ints hI) (Nat.lt_of_le_of_ne (Nat.one_le_iff_ne_zero.mpr hS0) (Ne.symm hSl)) rfl rfl (by decide) (by decide) (P := fun v => v = .bool true) (by kernel_rfl) (H l (by lia)) fun φ r v s' hP hv hk hgs hos => ?_)
  subst hP
  cases hv
  refine GoodW.toG ⟨.inl ⟨_, .bool true, [], rfl, ?_, .bool true, ?_, ?_⟩, hk, hos, hgs.trans hg⟩
  . intro cls; rfl
  . refine postW_of (X := true) ?_ ?_ rfl
    . first | rfl | decide +kernel | kernel_rfl
    . first | rfl | kernel_rfl | with_unfolding_all rfl
  . exact fun _ => ⟨.nil, fun a ha => by cases ha⟩
end Mine

end
section
open PySem PyProof.Rows
namespace Mine
inductive Look : Loc -> Str -> AV -> Prop where
  | here {x : Str} {v : AV} {r : Loc} : Look ((x, v) :: r) x v
  | there {x y : Str} {u v : AV} {r : Loc} (hne : x ≠ y := by decide) : Look r x v -> Look ((y, u) :: r) x v
  | hyp {x : Str} {v : AV} {r : Loc} : r.lookup x = some v -> Look r x v
theorem Look.eq {l : Loc} {x : Str} {v : AV} (h : Look l x v) : l.lookup x = some v := by
  induction h with
  | here => simp
  | there hne _ ih => simp only [List.lookup]; refine rwE (beq_false_of_ne hne) ?_; exact ih
  | hyp e => exact e
theorem getLoc {fe : FE} {x : Str} {v : AV} {st : St} (hk : fe.names.lookup x = some .local) (h : Look st.lc x v) : getName fe x st = some v := by
  unfold getName; refine rwE hk ?_; exact h.eq
inductive Glob : Str -> AV -> Prop
  | parse229 : Glob "parse229" (.con (.ref 65))
  | parse257 : Glob "parse257" (.con (.ref 72))
  | NODE_OUT : Glob "_NODE_OUT" (.int (-1))
  | NODE_DONE : Glob "_NODE_DONE" (.int (-2))
  | NodeInfo : Glob "_NodeInfo" (.con (.ref 91))
  | TopologicalSorter : Glob "TopologicalSorter" (.con (.ref 188))
  | heappop : Glob "heappop" (.con (.ref 199))
  | heapify : Glob "heapify" (.con (.ref 206))
  | siftdown : Glob "_siftdown" (.con (.ref 213))
  | siftup : Glob "_siftup" (.con (.ref 220))
  | law_packed : Glob "_law_packed" (.con (.ref 225))
  | law_told : Glob "_law_told" (.con (.ref 232))
  | law_best : Glob "_law_best" (.con (.ref 237))
  | len : Glob "len" (.con (.builtin "len"))
  | sum : Glob "sum" (.con (.builtin "sum"))
  | min : Glob "min" (.con (.builtin "min"))
  | max : Glob "max" (.con (.builtin "max"))
  | sorted : Glob "sorted" (.con (.builtin "sorted"))
  | iter : Glob "iter" (.con (.builtin "iter"))
  | int : Glob "int" (.con (.type "int"))
  | str : Glob "str" (.con (.type "str"))
  | bool : Glob "bool" (.con (.type "bool"))
  | tuple : Glob "tuple" (.con (.type "tuple"))
  | set : Glob "set" (.con (.type "set"))
  | range : Glob "range" (.con (.type "range"))
  | reversed : Glob "reversed" (.con (.type "reversed"))
  | enumerate : Glob "enumerate" (.con (.type "enumerate"))
theorem Glob.eq {x : Str} {v : AV} (h : Glob x v) : globs.lookup x = some v := by cases h <;> kernel_rfl
set_option hygiene false in
local macro_rules | `(tactic| walk_at "mlook") => `(tactic| first | with_reducible exact Look.here | ((with_reducible apply (Look.there)); walk_at "mlook") | (apply Look.hyp; assumption))
theorem okC.b {n : String} : okC (.con (.builtin n)) := trivial
theorem okC.t {n : String} : okC (.con (.type n)) := trivial
theorem okC.s : okC (.con (.ref 188)) := .inl rfl
theorem okC.n : okC (.con (.ref 91)) := .inr (.inl rfl)
theorem okC.f {a : Nat} (h : (fdAt a).isSome = true) : okC (.con (.ref a)) := .inr (.inr h)
set_option hygiene false in
local macro_rules | `(tactic| walk_at "mok") => `(tactic| first | exact okC.s | exact okC.n | exact okC.f (by kernel_rfl))
theorem getGlob {fe : FE} {x : Str} {v : AV} {st : St} (hk : fe.names.lookup x = some .globalImplicit) (h : Glob x v) : getName fe x st = some v := by
  unfold getName; refine rwE hk ?_; exact h.eq
theorem EV.loc {fe : FE} {st : St} {P : AV -> St -> Prop} {pos : Pos} {x : Str} {v : AV} (hd : x ≠ "__debug__") (hk : fe.names.lookup x = some .local) (hl : Look st.lc x v) (h : P v st) : EV fe (.Name x pos) st P := EV.name hd (getLoc hk hl) h
theorem EV.glob {fe : FE} {st : St} {P : AV -> St -> Prop} {pos : Pos} {x : Str} {v : AV} (hd : x ≠ "__debug__") (hk : fe.names.lookup x = some .globalImplicit) (hl : Glob x v) (h : P v st) : EV fe (.Name x pos) st P := EV.name hd (getGlob hk hl) h
noncomputable def ED (fe : FE) (e : Expr) (st : St) (v : AV) (st' : St) : Prop := ∀ ⦃P : AV -> St -> Prop⦄, P v st' -> EV fe e st P
noncomputable def EDO (fe : FE) (e : Option Expr) (st : St) (v : AV) (st' : St) : Prop := ∀ ⦃P : AV -> St -> Prop⦄, P v st' -> EVO fe e st P
noncomputable def EDS (fe : FE) (es : List Expr) (st : St) (vs : List AV) (st' : St) : Prop := ∀ ⦃P : List AV -> St -> Prop⦄, P vs st' -> EVS fe es st P
noncomputable def TD (fe : FE) (e : Expr) (st : St) (b : Bool) (st' : St) : Prop := ∀ ⦃P : Bool -> St -> Prop⦄, P b st' -> TR fe e st P
noncomputable def TDS (fe : FE) (op : BoolOp) (es : List Expr) (st : St) (b : Bool) (st' : St) : Prop := ∀ ⦃P : Bool -> St -> Prop⦄, P b st' -> TRS fe op es st P
noncomputable def inB (l : List Stmt) (i : Nat) : List Stmt := (fdIn l i).body
noncomputable def Seq (fe : FE) (r : List Stmt) (P : Fl -> St -> Prop) (f : Fl) (st : St) : Prop := match f with
  | .next => EXS fe r st P
  | f => P f st
noncomputable def Turn (I : Nat -> St -> Prop) (k : Nat) (P : Fl -> St -> Prop) (f : Fl) (st : St) : Prop := match f with
  | .next | .cont => ∃ k', k' < k /\ I k' st
  | .brk => P .next st
  | .ret v => P (.ret v) st
section
variable {fe : FE} {st st1 st2 st3 st4 : St} {pos : Pos} {a b c v : AV} {h h1 h2 h3 : Hp} {lc lc1 lc2 : Loc}
theorem ED.none {k : Nat} : ED fe (.Constant .none k pos) st .none st := fun z9 p => EV.none p
theorem ED.bool {b : Bool} {k : Nat} : ED fe (.Constant (.bool b) k pos) st (.bool b) st := fun z9 p => EV.bool p
theorem ED.int {i : Int} {k : Nat} : ED fe (.Constant (.int i) k pos) st (.int i) st := fun z9 p => EV.int p
theorem ED.str {x : Str} {k : Nat} : ED fe (.Constant (.str x) k pos) st (.str x) st := fun z9 p => EV.str p
theorem ED.loc {x : Str} (hd : x ≠ "__debug__" := by decide) (hk : fe.names.lookup x = some .local := by kernel_rfl) (hl : Look lc x v := by walk_at "mlook") : ED fe (.Name x pos) ⟨h, lc⟩ v ⟨h, lc⟩ := fun z9 p => EV.loc hd hk hl p
theorem ED.glob {x : Str} (hd : x ≠ "__debug__" := by decide) (hk : fe.names.lookup x = some .globalImplicit := by kernel_rfl) (hl : Glob x v := by constructor) : ED fe (.Name x pos) st v st := fun z9 p => EV.glob hd hk hl p
theorem ED.binop {l r : Expr} {op : Operator} (x : ED fe l st a st1) (y : ED fe r st1 b ⟨h, lc⟩) (o : BIN op a b h v h1) : ED fe (.BinOp l op r pos) st v ⟨h1, lc⟩ := fun z9 p => EV.binop (x (y ⟨_, _, o, p⟩))
theorem ED.neg {x : Expr} {i : Int} (h : ED fe x st (.int i) st1) : ED fe (.UnaryOp .USub x pos) st (.int (-i)) st1 := fun z9 p => EV.neg (h ⟨_, rfl, p⟩)
theorem ED.compare {l r : Expr} {op : CmpOp} {c : Bool} (hr : okE r = true := by kernel_rfl!) (x : ED fe l st a st1) (y : ED fe r st1 b ⟨h, lc⟩) (o : CMP op a b h c) : ED fe (.Compare l [op] [r] pos) st (.bool c) ⟨h, lc⟩ := fun z9 p => EV.compare (x (y ⟨_, o, p⟩)) hr
theorem ED.attr {o : Expr} {n : Str} (hb : plainBase o = true := by kernel_rfl!) (x : ED fe o st a ⟨h, lc⟩) (e : GA h a n (v) (h1)) : ED fe (.Attribute o n pos) st v ⟨h1, lc⟩ := fun z9 p => EV.attr hb (x ⟨_, _, e, p⟩)
theorem ED.item {l r : Expr} (x : ED fe l st a st1) (y : ED fe r st1 b ⟨h, lc⟩) (o : ITEM a b h v) : ED fe (.Subscript l r pos) st v ⟨h, lc⟩ := fun z9 p => EV.item (x (y ⟨_, o, p⟩))
theorem ED.slice {l : Expr} {i j k : Option Expr} {q : Pos} {o : AV} (x : ED fe l st o st1) (y : EDO fe i st1 a st2) (z : EDO fe j st2 b st3) (u : EDO fe k st3 c ⟨h, lc⟩) (e : SLC o a b c h v h1) : ED fe (.Subscript l (.Slice i j k q) pos) st v ⟨h1, lc⟩ := fun z9 p => EV.slice (x (y (z (u ⟨_, _, e, p⟩))))
theorem EDO.none : EDO fe none st .none st := fun z9 p => EVO.none p
theorem EDO.some {e : Expr} (x : ED fe e st a st1) : EDO fe (some e) st a st1 := fun z9 p => EVO.some (x p)
theorem EDS.nil : EDS fe [] st [] st := fun z9 p => EVS.nil p
theorem EDS.cons {e : Expr} {r : List Expr} {vs : List AV} (hn : noStar r = true := by kernel_rfl!) (x : ED fe e st a st1) (y : EDS fe r st1 vs st2) : EDS fe (e :: r) st (a :: vs) st2 := fun z9 p => EVS.cons (x (y p)) hn
theorem ED.list {es : List Expr} {vs : List AV} (x : EDS fe es st vs ⟨h, lc⟩) (hz : vs.length <= 1000) : ED fe (.List es pos) st (.obj h.length) ⟨h ++ [.list vs], lc⟩ := fun z9 p => EV.list (x ⟨hz, p⟩)
theorem ED.tuple {es : List Expr} {vs : List AV} {k : Nat} (x : EDS fe es st vs ⟨h, lc⟩) (hz : vs.length <= 1000) : ED fe (.Tuple es k pos) st (.obj h.length) ⟨h ++ [.tup vs], lc⟩ := fun z9 p => EV.tuple (x ⟨hz, p⟩)
theorem ED.calb {n : Str} {p : Pos} {args : List Expr} {f : Value} {vs : List AV} (hs : noStar args = true := by kernel_rfl!) (hd : n ≠ "__debug__" := by decide) (hk : fe.names.lookup n = some .globalImplicit := by kernel_rfl) (hl : Glob n (.con f) := by constructor) (hc : okC (.con f) := by first | exact okC.b | exact okC.t) (x : EDS fe args st vs ⟨h, lc⟩) (e : CAL f vs h v h1) : ED fe (.Call (.Name n p) args [] pos) st v ⟨h1, lc⟩ :=
  fun z9 p => EV.call hd hk hl.eq hc (x (CALLV.builtin hc ⟨_, _, e, p⟩)) hs
theorem TD.not {x : Expr} {b : Bool} (h : TD fe x st b st1) : TD fe (.UnaryOp .Not x pos) st (!b) st1 := fun z9 p => TR.not (h p)
theorem TD.notT {x : Expr} (h : TD fe x st false st1) : TD fe (.UnaryOp .Not x pos) st true st1 := TD.not h
theorem TD.notF {x : Expr} (h : TD fe x st true st1) : TD fe (.UnaryOp .Not x pos) st false st1 := TD.not h
theorem TD.boolop {op : BoolOp} {vs : List Expr} {b : Bool} (h : TDS fe op vs st b st1) : TD fe (.BoolOp op vs pos) st b st1 := fun z9 p => TR.boolop (h p)
theorem TD.compare {l r : Expr} {op : CmpOp} {c : Bool} (hr : okE r = true := by kernel_rfl!) (x : ED fe l st a st1) (y : ED fe r st1 b ⟨h, lc⟩) (o : CMP op a b h c) : TD fe (.Compare l [op] [r] pos) st c ⟨h, lc⟩ := fun z9 p => TR.compare (x (y ⟨_, o, p⟩)) hr
theorem TD.value {e : Expr} {c : Bool} (he : plainTest e = true := by kernel_rfl!) (x : ED fe e st a ⟨h, lc⟩) (o : TRU a h c) : TD fe e st c ⟨h, lc⟩ := fun z9 p => TR.value he (x ⟨_, o, p⟩)
theorem TDS.andT {e : Expr} {r : List Expr} {c : Bool} (x : TD fe e st true st1) (y : TDS fe .And r st1 c st2) : TDS fe .And (e :: r) st c st2 := fun z9 p => TRS.and (x (y p))
theorem TDS.andF {e : Expr} {r : List Expr} (x : TD fe e st false st1) : TDS fe .And (e :: r) st false st1 := fun P p => TRS.and (x (P := fun b st1 => if b then TRS fe .And r st1 P else P false st1) p)
theorem TDS.orF {e : Expr} {r : List Expr} {c : Bool} (x : TD fe e st false st1) (y : TDS fe .Or r st1 c st2) : TDS fe .Or (e :: r) st c st2 := fun P p => TRS.or (x (P := fun b st1 => if b then P true st1 else TRS fe .Or r st1 P) (y p))
theorem TDS.orT {e : Expr} {r : List Expr} (x : TD fe e st true st1) : TDS fe .Or (e :: r) st true st1 := fun P p => TRS.or (x (P := fun b st1 => if b then P true st1 else TRS fe .Or r st1 P) p)
theorem TDS.and0 : TDS fe .And [] st true st := fun z9 p => TRS.andNil p
theorem TDS.or0 : TDS fe .Or [] st false st := fun z9 p => TRS.orNil p
end
section
variable {fe : FE} {st st1 : St} {pos : Pos} {a b v : AV} {h h1 : Hp} {lc lc1 : Loc} {P : Fl -> St -> Prop} {r : List Stmt} {e : Expr}
theorem DS.assign {x : Str} {p : Pos} (hx : fe.names.lookup x = some .local := by kernel_rfl) (hc : plainStore [.Name x p] e = true := by kernel_rfl!) (he : ED fe e st v ⟨h, lc⟩) (k : EXS fe r ⟨h, (x, v) :: lc⟩ P) : EXS fe (.Assign [.Name x p] e pos :: r) st P :=
  EXS.cons (EX.assign (he ⟨rfl, fun z9 z9 z9 z9 z9 z9 z9 z9 z9 z9 z9 c R hv k' => (ASG.name ⟨⟨h, (x, v) :: lc⟩, by unfold putName; exact rwE hx rfl, k⟩).2 c R hv k'⟩) rfl hc)
theorem DS.expr (hc : isComp e = false := by kernel_rfl!) (he : ED fe e st v st1) (k : EXS fe r st1 P) : EXS fe (.Expr e pos :: r) st P := EXS.cons (EX.expr hc (he k))
theorem DS.ret (he : ED fe e st v st1) (k : P (.ret v) st1) : EXS fe (.Return (some e) pos :: r) st P := EXS.cons (EX.ret (he k))
theorem DS.ret0 (k : P (.ret .none) st) : EXS fe (.Return none pos :: r) st P := EXS.cons (EX.ret0 k)
theorem DS.brk (k : P .brk st) : EXS fe (.Break pos :: r) st P := EXS.cons (EX.brk k)
theorem DS.cont (k : P .cont st) : EXS fe (.Continue pos :: r) st P := EXS.cons (EX.cont k)
theorem DS.ifT {b o : List Stmt} (t : TD fe e st true st1) (k : EXS fe b st1 (Seq fe r P)) : EXS fe (.If e b o pos :: r) st P := EXS.cons (EX.cond (t (P := fun c st1 => if c then EXS fe b st1 (Seq fe r P) else EXS fe o st1 (Seq fe r P)) k))
theorem DS.ifF {b o : List Stmt} (t : TD fe e st false st1) (k : EXS fe o st1 (Seq fe r P)) : EXS fe (.If e b o pos :: r) st P := EXS.cons (EX.cond (t (P := fun c st1 => if c then EXS fe b st1 (Seq fe r P) else EXS fe o st1 (Seq fe r P)) k))
theorem DS.ifF0 {b : List Stmt} (t : TD fe e st false st1) (k : EXS fe r st1 P) : EXS fe (.If e b [] pos :: r) st P := DS.ifF t (EXS.nil k)
theorem DS.nil (k : EXS fe r st P) : EXS fe [] st (Seq fe r P) := EXS.nil k
theorem Seq.go (k : EXS fe r st P) : Seq fe r P .next st := k
theorem Seq.brk (k : P .brk st) : Seq fe r P .brk st := k
theorem Seq.cont (k : P .cont st) : Seq fe r P .cont st := k
theorem Seq.ret (k : P (.ret v) st) : Seq fe r P (.ret v) st := k
theorem Turn.cont {I : Nat -> St -> Prop} {k k1 : Nat} (hk : k1 < k) (hI : I k1 st) : Turn I k P .cont st := ⟨k1, hk, hI⟩
theorem Turn.next {I : Nat -> St -> Prop} {k k1 : Nat} (hk : k1 < k) (hI : I k1 st) : Turn I k P .next st := ⟨k1, hk, hI⟩
theorem Turn.brk {I : Nat -> St -> Prop} {k : Nat} (x : P .next st) : Turn I k P .brk st := x
theorem Turn.ret {I : Nat -> St -> Prop} {k : Nat} (x : P (.ret v) st) : Turn I k P (.ret v) st := x
theorem DS.while {t : Expr} {b o : List Stmt} (k : WHILE fe t b o st (Seq fe r P)) : EXS fe (.While t b o pos :: r) st P := EXS.cons (EX.while k)
noncomputable def WTurn (fe : FE) (t : Expr) (b o : List Stmt) (I : Nat -> St -> Prop) (k : Nat) (P : Fl -> St -> Prop) (st : St) : Prop := TR fe t st fun c st1 => if c then EXS fe b st1 (Turn I k P) else EXS fe o st1 P
theorem DS.whileT {t : Expr} {b o : List Stmt} {I : Nat -> St -> Prop} {k : Nat} (x : TD fe t st true st1) (y : EXS fe b st1 (Turn I k P)) : WTurn fe t b o I k P st := x (P := fun c st1 => if c then EXS fe b st1 (Turn I k P) else EXS fe o st1 P) y
theorem DS.whileF {t : Expr} {b o : List Stmt} {I : Nat -> St -> Prop} {k : Nat} (x : TD fe t st false st1) (y : EXS fe o st1 P) : WTurn fe t b o I k P st := x (P := fun c st1 => if c then EXS fe b st1 (Turn I k P) else EXS fe o st1 P) y
theorem WHILE.inv {t : Expr} {b o : List Stmt} (I : Nat -> St -> Prop) (step : ∀ k st, I k st -> WTurn fe t b o I k P st) {k : Nat} (h : I k st) : WHILE fe t b o st P :=
  WHILE.ind I (fun k st h => TR.mono (step k st h) fun c st1 x => by
    cases c
    . exact x
    . exact EXS.mono x fun f st2 y => by cases f <;> exact y) k st h
theorem DS.turn {I : Nat -> St -> Prop} {k k' : Nat} (hk : k' < k) (hI : I k' st) : EXS fe [] st (Turn I k P) := EXS.nil ⟨k', hk, hI⟩
end
noncomputable def NextP (fe : FE) (r : List Stmt) (lc : Loc) (P : Fl -> St -> Prop) (_ : AV) (h : Hp) : Prop := EXS fe r ⟨h, lc⟩ P
noncomputable def NameP (fe : FE) (x : Str) (r : List Stmt) (lc : Loc) (P : Fl -> St -> Prop) (v : AV) (h : Hp) : Prop := EXS fe r ⟨h, (x, v) :: lc⟩ P
noncomputable def BackP (lc : Loc) (P : Fl -> St -> Prop) (v : AV) (h : Hp) : Prop := P (.ret v) ⟨h, lc⟩
noncomputable def MR (o : AV) (m : Str) (h : Hp) (fd : FD) : Prop := ∃ a, RFn h o m a /\ fdAt a = some fd
noncomputable def BM (o : AV) (m : Str) (h1 : Hp) (vs : List AV) (h2 : Hp) (v : AV) (h3 : Hp) : Prop := ∃ T id, BI o m h1 T id /\ MB o id vs h2 v h3
section
variable {fe : FE} {st st1 st2 st3 st4 : St} {pos : Pos} {a b c v : AV} {h h1 h2 h3 : Hp} {lc lc1 lc2 : Loc}
theorem ED.bmeth {o : Expr} {m : Str} {apos : Pos} {args : List Expr} {vs : List AV} (hf : methForm o apos pos args.length = true := by kernel_rfl) (hs : noStar args = true := by kernel_rfl!) (x : ED fe o st a ⟨h, lc⟩) (y : EDS fe args ⟨h, lc⟩ vs ⟨h1, lc1⟩) (e : BM a m h vs h1 v h2) : ED fe (.Call (.Attribute o m apos) args [] pos) st v ⟨h2, lc1⟩ :=
  fun z9 p => EV.bmeth hf (x (let ⟨_, _, q1, q3⟩ := e; ⟨_, _, q1, y ⟨_, _, q3, p⟩⟩)) hs
theorem ED.named {x : Str} {p : Pos} {e : Expr} (hx : fe.names.lookup x = some .local := by kernel_rfl) (y : ED fe e st v ⟨h, lc⟩) : ED fe (.NamedExpr (.Name x p) e pos) st v ⟨h, (x, v) :: lc⟩ := fun z9 p => EV.named (y ⟨_, by unfold putName; exact rwE hx rfl, p⟩)
theorem ED.dict0 : ED fe (.Dict [] [] pos) ⟨h, lc⟩ (.obj h.length) ⟨h ++ [.dict []], lc⟩ := fun z9 p => EV.dict0 p
theorem EV.ofD {e : Expr} {P : AV -> St -> Prop} (x : ED fe e st v st1) (p : P v st1) : EV fe e st P := x p
theorem TR.ofD {e : Expr} {P : Bool -> St -> Prop} {c : Bool} (x : TD fe e st c st1) (p : P c st1) : TR fe e st P := x p
theorem EVS.ofD {e : List Expr} {P : List AV -> St -> Prop} {vs : List AV} (x : EDS fe e st vs st1) (p : P vs st1) : EVS fe e st P := x p
end
section
variable {fe : FE} {st st1 st2 : St} {pos : Pos} {a b c v o : AV} {h h1 h2 : Hp} {lc lc1 : Loc} {P : Fl -> St -> Prop} {r : List Stmt} {e x y : Expr}
theorem DS.setAttr {n : Str} {p : Pos} (he : ED fe e st v st1) (ho : ED fe x st1 o ⟨h, lc⟩) (q : SA h o n v h1) (k : EXS fe r ⟨h1, lc⟩ P) : EXS fe (.Assign [.Attribute x n p] e pos :: r) st P :=
  EXS.cons (EX.assign (he (ASGS.cons (ASG.attr (ho ⟨h1, q, k⟩)))) rfl rfl)
theorem DS.setItem {p : Pos} (he : ED fe e st v st1) (ho : ED fe x st1 o st2) (hi : ED fe y st2 a ⟨h, lc⟩) (q : SETI o a v h h1) (k : EXS fe r ⟨h1, lc⟩ P) : EXS fe (.Assign [.Subscript x y p] e pos :: r) st P :=
  EXS.cons (EX.assign (he (ASGS.cons (ASG.item (ho (hi ⟨h1, q, k⟩))))) rfl rfl)
theorem DS.unpack {ts : List Expr} {n : Nat} {p : Pos} (hn : notSwapped fe ts e = true := by kernel_rfl) (he : ED fe e st v st1) (q : assignPlain fe (.Tuple ts n p) v st1 = some st2) (k : EXS fe r st2 P) : EXS fe (.Assign [.Tuple ts n p] e pos :: r) st P :=
  EXS.cons (EX.assignT hn (he (ASG.tuple ⟨st2, q, k⟩)))
theorem DS.augLoc {n : Str} {p : Pos} {op : Operator} (hx : fe.names.lookup n = some .local := by kernel_rfl) (hl : Look lc n a := by walk_at "mlook") (he : ED fe e ⟨h, lc⟩ b ⟨h1, lc1⟩) (q : AUG op a b h1 v h2) (k : EXS fe r ⟨h2, (n, v) :: lc1⟩ P) : EXS fe (.AugAssign (.Name n p) op e pos :: r) ⟨h, lc⟩ P :=
  EXS.cons (EX.augName ⟨a, getLoc hx hl, he ⟨v, h2, q, _, by unfold putName; exact rwE hx rfl, k⟩⟩)
theorem DS.augAttr {n : Str} {p : Pos} {op : Operator} (ho : ED fe x st o ⟨h, lc⟩) (q : GA h o n (a) (h)) (he : ED fe e ⟨h, lc⟩ b ⟨h1, lc1⟩) (g : AUG op a b h1 v h1) (u : SA h1 o n v h2) (k : EXS fe r ⟨h2, lc1⟩ P) : EXS fe (.AugAssign (.Attribute x n p) op e pos :: r) st P :=
  EXS.cons (EX.augAttr (ho ⟨_, _, q, he ⟨_, _, g, _, u, k⟩⟩))
theorem DS.augItem {p : Pos} {op : Operator} (hi : okE y = true := by kernel_rfl!) (ho : ED fe x st o st1) (hy : ED fe y st1 c ⟨h, lc⟩) (q : ITEM o c h a) (he : ED fe e ⟨h, lc⟩ b ⟨h1, lc1⟩) (g : AUG op a b h1 v h1) (u : SETI o c v h1 h2) (k : EXS fe r ⟨h2, lc1⟩ P) : EXS fe (.AugAssign (.Subscript x y p) op e pos :: r) st P :=
  EXS.cons (EX.augItem (ho (hy ⟨_, q, he ⟨_, _, g, _, u, k⟩⟩)) hi)
theorem NextP.go (k : EXS fe r ⟨h, lc⟩ P) : NextP fe r lc P v h := k
theorem NameP.go {n : Str} (k : EXS fe r ⟨h, (n, v) :: lc⟩ P) : NameP fe n r lc P v h := k
theorem BackP.go (k : P (.ret v) ⟨h, lc⟩) : BackP lc P v h := k
variable {n : Str} {p q : Pos} {args : List Expr} {f : AV} {vs : List AV}
theorem EV.callF {P : AV -> St -> Prop} (hs : noStar args = true) (hd : n ≠ "__debug__") (hk : fe.names.lookup n = some .globalImplicit) (hl : Glob n f) (hc : okC f) (y : EDS fe args st vs ⟨h, lc⟩) (z : CALLV fe.dep f vs h fun v h' => P v ⟨h', lc⟩) : EV fe (.Call (.Name n p) args [] q) st P := EV.call hd hk hl.eq hc (y z) hs
theorem EV.callM {P : AV -> St -> Prop} {m : Str} {fd : FD} (hf : methForm x p q args.length = true) (hs : noStar args = true) (ho : ED fe x st o ⟨h, lc⟩) (hm : MR o m h fd) (y : EDS fe args ⟨h, lc⟩ vs ⟨h1, lc1⟩) (z : CALL fe.dep fd (o :: vs) h1 fun v h' => P v ⟨h', lc1⟩) : EV fe (.Call (.Attribute x m p) args [] q) st P := EV.meth hf (ho (let ⟨a, q1, q2⟩ := hm; ⟨a, fd, q1, q2, y z⟩)) hs
noncomputable def meM (m : Str) : Bool := decide (m ∈ (["_get_nodeinfo", "get_ready", "_find_cycle", "prepare", "done"] : List Str))
theorem DS.exprF (hs : noStar args = true := by kernel_rfl!) (hd : n ≠ "__debug__" := by decide) (hk : fe.names.lookup n = some .globalImplicit := by kernel_rfl) (hl : Glob n f := by constructor) (hc : okC f := by walk_at "mok") (y : EDS fe args st vs ⟨h, lc⟩) (z : CALLV fe.dep f vs h (NextP fe r lc P)) : EXS fe (.Expr (.Call (.Name n p) args [] q) pos :: r) st P := EXS.cons (EX.expr rfl (EV.callF hs hd hk hl hc y z))
theorem asgName {t : Str} {u : Pos} {P : St -> Prop} (hx : fe.names.lookup t = some .local) (k : P ⟨h, (t, v) :: lc⟩) : ASGS fe [.Name t u] v ⟨h, lc⟩ P := ASG.name ⟨_, by unfold putName; exact rwE hx rfl, k⟩
theorem CALLV.mono {d : Nat} {f : AV} {vs : List AV} {h : Hp} {P Q : AV -> Hp -> Prop} (x : CALLV d f vs h P) (hq : ∀ v h', P v h' -> Q v h') : CALLV d f vs h Q := ⟨x.1, by
  intro w K mg mb X φ lc s₀ s f' us E Q' KA G hd R hf hv k
  exact x.2 KA G hd R hf hv fun p => k (hq _ _ p)⟩
theorem DS.nameF {t : Str} {u : Pos} (hs : noStar args = true := by kernel_rfl!) (hd : n ≠ "__debug__" := by decide) (hk : fe.names.lookup n = some .globalImplicit := by kernel_rfl) (hl : Glob n f := by constructor) (hc : okC f := by walk_at "mok") (hx : fe.names.lookup t = some .local := by kernel_rfl) (y : EDS fe args st vs ⟨h, lc⟩) (z : CALLV fe.dep f vs h (NameP fe t r lc P)) : EXS fe (.Assign [.Name t u] (.Call (.Name n p) args [] q) pos :: r) st P :=
  EXS.cons (EX.assign (EV.callF hs hd hk hl hc y (z.mono fun z9 z9 k => asgName hx k)) rfl rfl)
theorem DS.retF (hs : noStar args = true := by kernel_rfl!) (hd : n ≠ "__debug__" := by decide) (hk : fe.names.lookup n = some .globalImplicit := by kernel_rfl) (hl : Glob n f := by constructor) (hc : okC f := by walk_at "mok") (y : EDS fe args st vs ⟨h, lc⟩) (z : CALLV fe.dep f vs h (BackP lc P)) : EXS fe (.Return (some (.Call (.Name n p) args [] q)) pos :: r) st P := EXS.cons (EX.ret (EV.callF hs hd hk hl hc y z))
theorem DS.exprM {m : Str} {fd : FD} (hg : meM m = true := by kernel_rfl!) (hf : methForm x p q args.length = true := by kernel_rfl) (hs : noStar args = true := by kernel_rfl!) (ho : ED fe x st o ⟨h, lc⟩) (hm : MR o m h fd) (y : EDS fe args ⟨h, lc⟩ vs ⟨h1, lc1⟩) (z : CALL fe.dep fd (o :: vs) h1 (NextP fe r lc1 P)) : EXS fe (.Expr (.Call (.Attribute x m p) args [] q) pos :: r) st P := EXS.cons (EX.expr rfl (EV.callM hf hs ho hm y z))
theorem DS.nameM {m : Str} {fd : FD} {t : Str} {u : Pos} (hg : meM m = true := by kernel_rfl!) (hf : methForm x p q args.length = true := by kernel_rfl) (hs : noStar args = true := by kernel_rfl!) (hx : fe.names.lookup t = some .local := by kernel_rfl) (ho : ED fe x st o ⟨h, lc⟩) (hm : MR o m h fd) (y : EDS fe args ⟨h, lc⟩ vs ⟨h1, lc1⟩) (z : CALL fe.dep fd (o :: vs) h1 (NameP fe t r lc1 P)) : EXS fe (.Assign [.Name t u] (.Call (.Attribute x m p) args [] q) pos :: r) st P :=
  EXS.cons (EX.assign (EV.callM hf hs ho hm y (z.mono fun z9 z9 k => asgName hx k)) rfl rfl)
theorem DS.retM {m : Str} {fd : FD} (hf : methForm x p q args.length = true) (hs : noStar args = true) (ho : ED fe x st o ⟨h, lc⟩) (hm : MR o m h fd) (y : EDS fe args ⟨h, lc⟩ vs ⟨h1, lc1⟩) (z : CALL fe.dep fd (o :: vs) h1 (BackP lc1 P)) : EXS fe (.Return (some (.Call (.Attribute x m p) args [] q)) pos :: r) st P := EXS.cons (EX.ret (EV.callM hf hs ho hm y z))
end
noncomputable def UnpP (fe : FE) (t : Expr) (r : List Stmt) (lc : Loc) (P : Fl -> St -> Prop) (v : AV) (h : Hp) : Prop := ∃ st2, assignPlain fe t v ⟨h, lc⟩ = some st2 /\ EXS fe r st2 P
noncomputable def AugP (fe : FE) (x : Str) (op : Operator) (a : AV) (r : List Stmt) (lc : Loc) (P : Fl -> St -> Prop) (b : AV) (h : Hp) : Prop := ∃ v h', AUG op a b h v h' /\ EXS fe r ⟨h', (x, v) :: lc⟩ P
section
variable {fe : FE} {st : St} {pos p q : Pos} {f a b v : AV} {h h1 : Hp} {lc lc1 : Loc} {P : Fl -> St -> Prop} {r : List Stmt} {n : Str} {args : List Expr} {vs : List AV}
theorem DS.unpackF {ts : List Expr} {k : Nat} {tp : Pos} (hn : notSwapped fe ts (.Call (.Name n p) args [] q) = true := by kernel_rfl) (hs : noStar args = true := by kernel_rfl!) (hd : n ≠ "__debug__" := by decide) (hk : fe.names.lookup n = some .globalImplicit := by kernel_rfl) (hl : Glob n f := by constructor) (hc : okC f := by walk_at "mok") (y : EDS fe args st vs ⟨h, lc⟩) (z : CALLV fe.dep f vs h (UnpP fe (.Tuple ts k tp) r lc P)) : EXS fe (.Assign [.Tuple ts k tp] (.Call (.Name n p) args [] q) pos :: r) st P :=
  EXS.cons (EX.assignT hn (EV.callF hs hd hk hl hc y (z.mono fun z9 z9 k => ASG.tuple k)))
theorem DS.augF {x : Str} {u : Pos} {op : Operator} (hx : fe.names.lookup x = some .local := by kernel_rfl) (ha : Look lc x a := by walk_at "mlook") (hs : noStar args = true := by kernel_rfl!) (hd : n ≠ "__debug__" := by decide) (hk : fe.names.lookup n = some .globalImplicit := by kernel_rfl) (hl : Glob n f := by constructor) (hc : okC f := by walk_at "mok") (y : EDS fe args ⟨h, lc⟩ vs ⟨h1, lc1⟩) (z : CALLV fe.dep f vs h1 (AugP fe x op a r lc1 P)) : EXS fe (.AugAssign (.Name x u) op (.Call (.Name n p) args [] q) pos :: r) ⟨h, lc⟩ P :=
  EXS.cons (EX.augName ⟨a, getLoc hx ha, EV.callF hs hd hk hl hc y (z.mono fun z9 z9 k => let ⟨v, h', q, k⟩ := k; ⟨v, h', q, _, by unfold putName; exact rwE hx rfl, k⟩)⟩)
theorem UnpP.mk {t : Expr} {st2 : St} (q : assignPlain fe t v ⟨h, lc⟩ = some st2) (k : EXS fe r st2 P) : UnpP fe t r lc P v h := ⟨st2, q, k⟩
theorem AugP.mk {x : Str} {op : Operator} (q : AUG op a b h v h1) (k : EXS fe r ⟨h1, (x, v) :: lc⟩ P) : AugP fe x op a r lc P b h := ⟨v, h1, q, k⟩
end
noncomputable def SD (fe : FE) (e : Expr) (st : St) (s : Src) (st1 : St) : Prop := ∀ ⦃P : Src -> St -> Prop⦄, P s st1 -> SRC fe e st P
noncomputable def ThawP (s : Src) (P : Fl -> St -> Prop) (f : Fl) (st : St) : Prop := P f ⟨thaw s st.hp, st.lc⟩
noncomputable def TurnF (I : List It -> St -> Prop) (r : List It) (P : Fl -> St -> Prop) (f : Fl) (st : St) : Prop := match f with
  | .next | .cont => I r st
  | .brk => P .next st
  | .ret v => P (.ret v) st
noncomputable def FT (fe : FE) (t : Expr) (b : List Stmt) (s : Src) (I : List It -> St -> Prop) (i : It) (r : List It) (P : Fl -> St -> Prop) (st : St) : Prop := kept s st.hp = true /\ ∃ st1, assignIt fe t i st = some st1 /\ EXS fe b st1 (TurnF I r P)
section
variable {fe : FE} {st st1 st2 : St} {pos : Pos} {v : AV} {h h1 : Hp} {lc lc1 : Loc} {P : Fl -> St -> Prop} {r b : List Stmt} {e t : Expr} {s : Src} {I : List It -> St -> Prop} {i : It} {l : List It}
theorem SD.gen (x : ED fe e st v ⟨h, lc⟩) (q : srcOf v h = some s) : SD fe e st s ⟨h, lc⟩ := fun z9 p => SRC.gen (x ⟨s, q, p⟩)
theorem SD.range {p q : Pos} {a : Expr} {k : Nat} (hk : fe.names.lookup ("range" : Str) = some .globalImplicit) (x : ED fe a st (.int k) st1) (hz : k <= 1000) : SD fe (.Call (.Name "range" p) [a] [] q) st ⟨.rng 0 1, upto k, none⟩ st1 :=
  fun z9 p => SRC.range (getGlob hk Glob.range) (x ⟨k, rfl, by exact Int.natCast_nonneg _, by exact Int.ofNat_le.mpr ‹_›, p⟩)
theorem SD.items {o : Expr} {p q : Pos} {k : Nat} {es : List (Str × AV)} (hf : methForm o p q 0 = true) (x : ED fe o st (.obj k) ⟨h, lc⟩) (e : h[k]? = some (.dict es)) (hz : es.length <= 1000) : SD fe (.Call (.Attribute o "items" p) [] [] q) st ⟨.ditem k, es.map fun p => .two (.str p.1) p.2, none⟩ ⟨h, lc⟩ :=
  fun z9 p => SRC.items hf (x ⟨k, es, rfl, e, hz, p⟩)
theorem SD.enum {p q : Pos} {a : Expr} {k : Nat} {xs : List AV} (hk : fe.names.lookup ("enumerate" : Str) = some .globalImplicit) (x : ED fe a st (.obj k) ⟨h, lc⟩) (e : h[k]? = some (.list xs)) (hz : xs.length <= 1000) : SD fe (.Call (.Name "enumerate" p) [a] [] q) st ⟨.enum k, enumIts 0 xs, some (k, .list xs)⟩ ⟨h, lc⟩ :=
  fun z9 p => SRC.enum (getGlob hk Glob.enumerate) (x ⟨k, xs, rfl, e, hz, p⟩)
theorem SD.rev {p q p2 q2 : Pos} {a : Expr} {k : Nat} (hk : fe.names.lookup ("reversed" : Str) = some .globalImplicit) (hk2 : fe.names.lookup ("range" : Str) = some .globalImplicit) (x : ED fe a st (.int k) st1) (hz : k <= 1000) : SD fe (.Call (.Name "reversed" p) [.Call (.Name "range" p2) [a] [] q2] [] q) st ⟨.rng ((k : Int) - 1) (-1), (upto k).reverse, none⟩ st1 :=
  fun z9 p => SRC.rev (getGlob hk Glob.reversed) (getGlob hk2 Glob.range) (x ⟨k, rfl, by lia, by lia, p⟩)
theorem DS.for (x : SD fe e st s ⟨h, lc⟩) (k : FORL fe t b s s.items ⟨freeze s h, lc⟩ (ThawP s (Seq fe r P))) : EXS fe (.For t e b [] pos :: r) st P := EXS.cons (EX.for (x k))
theorem FORL.inv (I : List It -> St -> Prop) (nil : ∀ st, I [] st -> kept s st.hp = true /\ P .next st) (cons : ∀ i l st, I (i :: l) st -> FT fe t b s I i l P st) {its : List It} (h : I its st) : FORL fe t b s its st P :=
  FORL.ind I nil (fun i l st h => let ⟨k, st1, q, x⟩ := cons i l st h; ⟨k, st1, q, x.mono fun f st2 y => by cases f <;> exact y⟩) its st h
theorem FT.mk (k : kept s st.hp = true) (q : assignIt fe t i st = some st1) (x : EXS fe b st1 (TurnF I l P)) : FT fe t b s I i l P st := ⟨k, st1, q, x⟩
theorem TurnF.nil (x : I l st) : EXS fe [] st (TurnF I l P) := EXS.nil x
theorem TurnF.next (x : I l st) : TurnF I l P .next st := x
theorem TurnF.cont (x : I l st) : TurnF I l P .cont st := x
theorem TurnF.brk (x : P .next st) : TurnF I l P .brk st := x
theorem TurnF.ret (x : P (.ret v) st) : TurnF I l P (.ret v) st := x
end
theorem CMP.as {op : CmpOp} {a b : AV} {h : Hp} {c c1 : Bool} (q : CMP op a b h c) (e : c = c1) : CMP op a b h c1 := e ▸ q
theorem cmpEqS {x y : Str} {h : Hp} (q : x = y) : CMP .Eq (.str x) (.str y) h true := CMP.eqS (decide_eq_true q)
theorem cmpEqSF {x y : Str} {h : Hp} (q : x ≠ y) : CMP .Eq (.str x) (.str y) h false := CMP.eqS (decide_eq_false q)
theorem cmpNeS {x y : Str} {h : Hp} (q : x ≠ y) : CMP .NotEq (.str x) (.str y) h true := CMP.neS (by refine rwE (decide_eq_false q) ?_; rfl)
theorem cmpNeSF {x y : Str} {h : Hp} (q : x = y) : CMP .NotEq (.str x) (.str y) h false := CMP.neS (by refine rwE (decide_eq_true q) ?_; rfl)
theorem cmpLt {x y : Int} {h : Hp} (q : x < y) : CMP .Lt (.int x) (.int y) h true := CMP.lt (decide_eq_true q)
theorem cmpLtF {x y : Int} {h : Hp} (q : ¬ x < y) : CMP .Lt (.int x) (.int y) h false := CMP.lt (decide_eq_false q)
theorem cmpGe {x y : Int} {h : Hp} (q : y <= x) : CMP .GtE (.int x) (.int y) h true := CMP.ge (decide_eq_true q)
theorem cmpGeF {x y : Int} {h : Hp} (q : ¬ y <= x) : CMP .GtE (.int x) (.int y) h false := CMP.ge (decide_eq_false q)
theorem binAdd {x y : Int} {h : Hp} : BIN .Add (.int x) (.int y) h (.int (x + y)) h := BIN.add
theorem binSub {x y : Int} {h : Hp} : BIN .Sub (.int x) (.int y) h (.int (x - y)) h := BIN.sub
theorem augSub {x y : Int} {h : Hp} : AUG .Sub (.int x) (.int y) h (.int (x - y)) h := AUG.sub
theorem binMul {x y : Int} {h : Hp} (hx : x.natAbs <= 1000) : BIN .Mult (.int x) (.int y) h (.int (x * y)) h := BIN.mul hx
theorem binDiv {x y : Int} {h : Hp} (hy : 0 < y /\ y <= 1000000) : BIN .FloorDiv (.int x) (.int y) h (.int (Int.fdiv x y)) h := BIN.div hy
theorem cmpGt {x y : Int} {h : Hp} (q : y < x) : CMP .Gt (.int x) (.int y) h true := CMP.gt (decide_eq_true q)
theorem cmpGtF {x y : Int} {h : Hp} (q : ¬ y < x) : CMP .Gt (.int x) (.int y) h false := CMP.gt (decide_eq_false q)
theorem cmpEq {x y : Int} {h : Hp} (q : x = y) : CMP .Eq (.int x) (.int y) h true := CMP.eq (decide_eq_true q)
theorem cmpEqF {x y : Int} {h : Hp} (q : x ≠ y) : CMP .Eq (.int x) (.int y) h false := CMP.eq (decide_eq_false q)
theorem cmpNe {x y : Int} {h : Hp} (q : x ≠ y) : CMP .NotEq (.int x) (.int y) h true := CMP.ne (by refine rwE (decide_eq_false q) ?_; rfl)
theorem cmpNeF {x y : Int} {h : Hp} (q : x = y) : CMP .NotEq (.int x) (.int y) h false := CMP.ne (by refine rwE (decide_eq_true q) ?_; rfl)
theorem augAdd {x y : Int} {h : Hp} : AUG .Add (.int x) (.int y) h (.int (x + y)) h := AUG.add
set_option hygiene false in
local macro_rules | `(tactic| walk_at "md") => `(tactic| with_reducible first
  | ((change ED _ _ _ _ _); first
    | ((change ED _ (.Name _ _) _ _ _); first | exact ED.loc | exact ED.glob)
    | exact ED.int | exact ED.str | exact ED.none | exact ED.bool | exact ED.dict0
    | apply ED.slice | apply ED.item | apply ED.binop | apply (ED.attr)
    | ((change ED _ (.Call _ _ [] _) _ _ _); first | apply (ED.calb) | apply (ED.bmeth))
    | apply ED.tuple | apply ED.list | apply ED.neg | apply (ED.compare) | apply (ED.named))
  | ((change EXS _ _ _ _); first
    | ((change EXS _ (.Assign [.Name _ _] _ _ :: _) _ _); first | apply (DS.nameF) | apply (DS.nameM) | apply (DS.assign))
    | ((change EXS _ (.Expr _ _ :: _) _ _); first | apply (DS.exprF) | apply (DS.exprM) | apply (DS.expr))
    | ((change EXS _ (.Return _ _ :: _) _ _); first | apply (DS.retF) | apply DS.ret | apply DS.ret0)
    | apply DS.nil | apply DS.brk | apply DS.cont
    | ((change EXS _ (.AugAssign _ _ _ _ :: _) _ _); first | apply (DS.augF) | apply (DS.augLoc) | apply DS.augAttr | apply (DS.augItem))
    | apply DS.setAttr | apply DS.setItem | apply (DS.unpackF) | apply (DS.unpack) | apply DS.while | apply DS.for)
  | ((change TD _ _ _ _ _); first | apply (TD.compare) | apply TD.not | apply TD.notT | apply TD.notF | apply TD.boolop | apply (TD.value))
  | exact TDS.and0 | exact TDS.or0 | exact EDO.none | apply EDO.some | apply (EDS.cons) | exact EDS.nil
  | exact binAdd | exact binSub | exact augAdd | exact augSub
  | apply NextP.go | apply NameP.go | apply BackP.go
  | apply Seq.go | apply Seq.brk | apply Seq.cont | apply Seq.ret | apply Turn.brk | apply Turn.ret
  | apply TurnF.next | apply TurnF.cont | apply TurnF.brk | apply TurnF.ret
  | exact Nat.le_of_ble_eq_true (by kernel_rfl))
set_option hygiene false in
local macro_rules | `(tactic| walk_at "mr") => `(tactic| repeat walk_at "md")

noncomputable def fdDown : FD := fdIn theText 16
theorem itemV_list {h : Hp} {n : Nat} {xs : List AV} {k : Nat} {v : AV} (hn : h[n]? = some (.list xs)) (hz : xs.length <= 1000) (hv : xs[k]? = some v) : ITEM (.obj n) (.int k) h v := ITEM.list hn (Nat.le_trans hz (by decide)) hv
theorem setItemV_list {h : Hp} {n : Nat} {xs : List AV} {k : Nat} {v : AV} (hn : h[n]? = some (.list xs)) (hz : xs.length <= 1000) (hk : k < xs.length) : SETI (.obj n) (.int k) v h (h.set n (.list (xs.set k v))) := SETI.list hn hz hk
theorem getSet {h : Hp} {n : Nat} {o o' : AO} (hn : h[n]? = some o) : (h.set n o')[n]? = some o' := by
  have := (List.getElem?_eq_some_iff.mp hn).1
  simp [this]
theorem setSet {h : Hp} {n : Nat} {o o' : AO} : (h.set n o).set n o' = h.set n o' := by simp

set_option tactic.hygienic true in
theorem setSelf {h : Hp} {n : Nat} {o : AO} (hn : h[n]? = some o) : h.set n o = h := by
  refine List.ext_getElem? fun j => ?_
  refine rwE (List.getElem?_set) ?_
  split
  . rename_i q; subst q
    split
    . exact hn.symm
    . rename_i q; exact absurd (List.getElem?_eq_some_iff.mp hn).1 q
  . rfl
noncomputable def sdLoop (lt : AV -> AV -> Bool) (new : AV) (start : Nat) : Nat -> List AV -> Nat -> List AV
  | 0, xs, p => xs.set p new
  | k + 1, xs, p => if start < p then match xs[(p - 1) / 2]? with
      | some par => if lt new par then sdLoop lt new start k (xs.set p par) ((p - 1) / 2) else xs.set p new
      | none => xs.set p new
    else xs.set p new
theorem sdLoop_length (lt : AV -> AV -> Bool) (new : AV) (start : Nat) : ∀ (k : Nat) (xs : List AV) (p : Nat), (sdLoop lt new start k xs p).length = xs.length
  | 0, xs, p => by simp [sdLoop]
  | k + 1, xs, p => by
    unfold sdLoop
    split
    . split
      . split
        . refine rwE (sdLoop_length ..) ?_; simp
        . simp
      . simp
    . simp

theorem sdLoop_fuel (lt : AV -> AV -> Bool) (new : AV) (start : Nat) : ∀ (n m : Nat) (xs : List AV) (p : Nat), p <= n -> p <= m -> sdLoop lt new start n xs p = sdLoop lt new start m xs p
  | 0, 0, _, _, _, _ => rfl
  | 0, m + 1, xs, p, h1, _ => by
    have : p = 0 := by lia
    subst this
    exact List.nil_append _
  | n + 1, 0, xs, p, _, h2 => by
    have : p = 0 := by lia
    subst this
    exact List.nil_append _
  | n + 1, m + 1, xs, p, h1, h2 => by
    unfold sdLoop
    split
    . split
      . split
        . exact sdLoop_fuel lt new start n m _ _ (by lia) (by lia)
        . rfl
      . rfl
    . rfl
noncomputable def Ord (h : Hp) (i : Nat) (S : AV -> Prop) (lt : AV -> AV -> Bool) : Prop := ∀ ys a b, S a -> S b -> CMP .Lt a b (h.set i (.list ys)) (lt a b)

inductive InvD (h : Hp) (i s : Nat) (x : AV) (S : AV -> Prop) (lt : AV -> AV -> Bool) (n : Nat) (zs : List AV) (k : Nat) (st : St) : Prop
  | mk (ys : List AV) (lc : Loc) (e : st = ⟨h.set i (.list ys), lc⟩) (l1 : lc.lookup ("heap" : Str) = some (.obj i)) (l2 : lc.lookup ("startpos" : Str) = some (.int s)) (l3 : lc.lookup ("pos" : Str) = some (.int k)) (l4 : lc.lookup ("newitem" : Str) = some x)
    (hl : ys.length = n) (hk : k < n) (hS : ∀ a ∈ ys, S a) (q : sdLoop lt x s k ys k = zs)
set_option tactic.hygienic true in
theorem sd_end {lt : AV -> AV -> Bool} {x par : AV} {s k : Nat} {ys : List AV} (h : s < k -> ys[(k - 1) / 2]? = some par /\ lt x par = false) : sdLoop lt x s k ys k = ys.set k x := by
  cases k with
  | zero => rfl
  | succ j =>
    unfold sdLoop
    split
    . rename_i hs
      refine rwE ((h hs).1) ?_
      simp only [(h hs).2]
      rfl
    . rfl
theorem sd_step {lt : AV -> AV -> Bool} {x par : AV} {s k : Nat} {ys : List AV} (hs : s < k) (hp : ys[(k - 1) / 2]? = some par) (hlt : lt x par = true) : sdLoop lt x s ((k - 1) / 2) (ys.set k par) ((k - 1) / 2) = sdLoop lt x s k ys k := by
  obtain ⟨j, rfl⟩ : ∃ j, k = j + 1 := ⟨k - 1, by lia⟩
  conv => rhs; unfold sdLoop
  refine rwE (if_pos hs) (rwE hp ?_)
  simp only [hlt, if_true]
  exact sdLoop_fuel _ _ _ _ _ _ _ (by lia) (Nat.div_le_self _ _)
theorem set_all {S : AV -> Prop} {ys : List AV} {k : Nat} {v : AV} (h : ∀ a ∈ ys, S a) (hv : S v) : ∀ a ∈ ys.set k v, S a := fun a ha => by
  rcases List.mem_or_eq_of_mem_set ha with h1 | h1
  . exact h a h1
  . refine rwE h1 ?_; exact hv
theorem half_lt {k n : Nat} (h : k < n) : (k - 1) / 2 < n := by omega
theorem rshift_at {k : Nat} {h : Hp} (hk : 0 < k) : BIN .RShift (.int ((k : Int) - 1)) (.int 1) h (.int ((k - 1) / 2 : Nat)) h := by
  have e : Int.fdiv ((k : Int) - 1) 2 = (((k - 1) / 2 : Nat) : Int) := by
    refine rwE (Int.fdiv_eq_ediv_of_nonneg _ (by decide)) ?_
    lia
  exact e ▸ BIN.shr
theorem setItemL {h : Hp} {i k : Nat} {ys : List AV} {a : AO} {v : AV} (hi : h[i]? = some a) (hz : ys.length <= 1000) (hk : k < ys.length) : SETI (.obj i) (.int k) v (h.set i (.list ys)) (h.set i (.list (ys.set k v))) := by
  have := setItemV_list (v := v) (getSet (o' := .list ys) hi) hz hk
  rw [setSet] at this
  exact this
theorem down_sound {d i s p : Nat} {h : Hp} {xs : List AV} {x : AV} {S : AV -> Prop} {lt : AV -> AV -> Bool} (hi : h[i]? = some (.list xs)) (hS : ∀ a ∈ xs, S a) (ho : Ord h i S lt) (hx : xs[p]? = some x) (hz : xs.length <= 1000) {P : AV -> Hp -> Prop}
    (hP : P .none (h.set i (.list (sdLoop lt x s p xs p)))) : CALL (d + 1) fdDown [.obj i, .int s, .int p] h P := by
  refine CALL.intro (binds := [("heap", .obj i), ("startpos", .int s), ("pos", .int p)]) (h1 := h) (st1 := ⟨h, [("pos", .int p), ("startpos", .int s), ("heap", .obj i)]⟩) (by kernel_rfl) (by kernel_rfl) ?_
  have hxS : S x := hS x (List.mem_of_getElem? hx)
  apply DS.assign (by kernel_rfl) rfl
  walk_at "mr"
  exact itemV_list hi hz hx
  walk_at "mr"
  refine WHILE.inv (InvD h i s x S lt xs.length (sdLoop lt x s p xs p)) (fun k st hI => ?_) (k := p)
    ⟨xs, [("newitem", x), ("pos", .int p), ("startpos", .int s), ("heap", .obj i)], by exact rwE (setSelf hi) rfl, by kernel_rfl, by kernel_rfl, by kernel_rfl, by kernel_rfl, rfl, (List.getElem?_eq_some_iff.mp hx).1, hS, rfl⟩
  clear hx hS
  generalize sdLoop lt x s p xs p = zs at *
  obtain ⟨ys, lc, rfl, l1, l2, l3, l4, hlen, hk, hys, rfl⟩ := hI
  rw [← hlen] at hz hk ⊢
  clear hlen
  by_cases hsk : s < k
  . have hpv := List.getElem?_eq_getElem (l := ys) (half_lt hk)
    generalize ys[(k - 1) / 2]'(half_lt hk) = par at hpv
    have hpS : S par := hys par (List.mem_of_getElem? hpv)
    apply DS.whileT
    walk_at "mr"
    exact cmpGt (Int.ofNat_lt.mpr ‹_›)
    walk_at "mr"
    exact rshift_at (Nat.le_trans (Nat.le_add_left _ _) ‹_›)
    walk_at "mr"
    exact itemV_list (getSet hi) hz hpv
    walk_at "mr"
    cases hlt : lt x par with
    | true =>
      apply DS.ifT
      walk_at "mr"
      exact CMP.as (ho ys x par hxS hpS) hlt
      walk_at "mr"
      exact setItemL hi hz hk
      walk_at "mr"
      exact Turn.cont (k1 := (k - 1) / 2) (by lia) ⟨ys.set k par, _, rfl, l1, l2, by kernel_rfl, l4, by exact rwE List.length_set rfl, half_lt hk, set_all hys hpS, sd_step hsk hpv hlt⟩
    | false =>
      apply DS.ifF0
      walk_at "mr"
      exact CMP.as (ho ys x par hxS hpS) hlt
      walk_at "mr"
      exact setItemL hi hz hk
      walk_at "mr"
      rw [sd_end fun z9 => ⟨hpv, hlt⟩] at hP
      exact EXS.nil hP
  . apply DS.whileF
    walk_at "mr"
    exact cmpGtF (by lia)
    walk_at "mr"
    exact setItemL hi hz hk
    walk_at "mr"
    rw [sd_end (par := x) fun q => absurd q hsk] at hP
    exact EXS.nil hP
noncomputable def fdUp : FD := fdIn theText 17
noncomputable def suChild (lt : AV -> AV -> Bool) (xs : List AV) (c : Nat) : Nat := match xs[c]?, xs[c + 1]? with
  | some a, some b => if lt a b then c else c + 1
  | _, _ => c
noncomputable def suLoop (lt : AV -> AV -> Bool) : Nat -> List AV -> Nat -> List AV × Nat
  | 0, xs, p => (xs, p)
  | k + 1, xs, p => if 2 * p + 1 < xs.length then match xs[suChild lt xs (2 * p + 1)]? with
      | some v => suLoop lt k (xs.set p v) (suChild lt xs (2 * p + 1))
      | none => (xs, p)
    else (xs, p)
noncomputable def upP (lt : AV -> AV -> Bool) (xs : List AV) (p : Nat) (x : AV) : List AV := sdLoop lt x p (suLoop lt xs.length xs p).2 ((suLoop lt xs.length xs p).1.set (suLoop lt xs.length xs p).2 x) (suLoop lt xs.length xs p).2

theorem suChild_ge (lt : AV -> AV -> Bool) (xs : List AV) (c : Nat) : c <= suChild lt xs c := by
  unfold suChild
  split
  . split <;> simp
  . lia
set_option tactic.hygienic true in
theorem suChild_lt (lt : AV -> AV -> Bool) (xs : List AV) (c : Nat) (h : c < xs.length) : suChild lt xs c < xs.length := by
  unfold suChild
  split
  . rename_i a b h1 h2
    have := (List.getElem?_eq_some_iff.mp h2).1
    split <;> omega
  . omega
theorem suLoop_fuel (lt : AV -> AV -> Bool) : ∀ (n m : Nat) (xs : List AV) (p : Nat), xs.length <= n + p -> xs.length <= m + p -> suLoop lt n xs p = suLoop lt m xs p
  | 0, 0, _, _, _, _ => rfl
  | 0, m + 1, xs, p, h1, _ => by unfold suLoop; exact rwE (if_neg (by lia)) rfl
  | n + 1, 0, xs, p, _, h2 => by unfold suLoop; exact rwE (if_neg (by lia)) rfl
  | n + 1, m + 1, xs, p, h1, h2 => by
    unfold suLoop
    split
    . have := suChild_ge lt xs (2 * p + 1)
      split
      . exact suLoop_fuel lt n m _ _ (by refine rwE List.length_set ?_; lia) (by refine rwE List.length_set ?_; lia)
      . rfl
    . rfl

theorem len_list {h : Hp} {n : Nat} {xs : List AV} (hn : h[n]? = some (.list xs)) (hz : xs.length <= 1000) : CAL (.builtin "len") [.obj n] h (.int xs.length) h := CAL.lenList hn (Nat.le_trans hz (by decide))
inductive InvU (h : Hp) (i p : Nat) (x : AV) (S : AV -> Prop) (lt : AV -> AV -> Bool) (n : Nat) (z : List AV × Nat) (k : Nat) (st : St) : Prop
  | mk (ys : List AV) (q : Nat) (lc : Loc) (e : st = ⟨h.set i (.list ys), lc⟩) (l1 : lc.lookup ("heap" : Str) = some (.obj i)) (l2 : lc.lookup ("endpos" : Str) = some (.int n)) (l3 : lc.lookup ("startpos" : Str) = some (.int p)) (l4 : lc.lookup ("newitem" : Str) = some x)
    (l5 : lc.lookup ("pos" : Str) = some (.int q)) (l6 : lc.lookup ("childpos" : Str) = some (.int (2 * q + 1 : Nat))) (hl : ys.length = n) (hq : q < n) (hS : ∀ a ∈ ys, S a) (hk : k = n - q) (e : suLoop lt n ys q = z)
theorem su_step {lt : AV -> AV -> Bool} {ys : List AV} {q : Nat} {v : AV} (hc : 2 * q + 1 < ys.length) (hv : ys[suChild lt ys (2 * q + 1)]? = some v) : suLoop lt ys.length (ys.set q v) (suChild lt ys (2 * q + 1)) = suLoop lt ys.length ys q := by
  obtain ⟨m, hm⟩ : ∃ m, ys.length = m + 1 := ⟨ys.length - 1, by lia⟩
  have := suChild_ge lt ys (2 * q + 1)
  conv => rhs; rw [hm]; unfold suLoop
  refine rwE (if_pos hc) (rwE hv ?_)
  exact suLoop_fuel _ _ _ _ _ (by refine rwE List.length_set ?_; exact Nat.le_add_right _ _) (by refine rwE List.length_set ?_; lia)
theorem su_end {lt : AV -> AV -> Bool} {n : Nat} {ys : List AV} {q : Nat} (h : ¬ 2 * q + 1 < ys.length) : suLoop lt n ys q = (ys, q) := by
  cases n with
  | zero => rfl
  | succ m => rw [suLoop, if_neg h]
theorem twice_at {h : Hp} {n : Nat} : BIN .Mult (.int 2) (.int n) h (.int (2 * (n : Int))) h := binMul (by decide)
theorem up_rest {cs : List (Str × Nat)} {d i p : Nat} {h : Hp} {x : AV} {S : AV -> Prop} {lt : AV -> AV -> Bool} {z : List AV × Nat} {a : AO} {ys : List AV} {q c : Nat} {v : AV} {lc : Loc} {P : Fl -> St -> Prop} (hi : h[i]? = some a) (hz : ys.length <= 1000)
    (l1 : lc.lookup ("heap" : Str) = some (.obj i)) (l2 : lc.lookup ("endpos" : Str) = some (.int ys.length)) (l3 : lc.lookup ("startpos" : Str) = some (.int p)) (l4 : lc.lookup ("newitem" : Str) = some x) (l5 : lc.lookup ("pos" : Str) = some (.int q)) (l6 : lc.lookup ("childpos" : Str) = some (.int c))
    (hq : q < ys.length) (hc : 2 * q + 1 < ys.length) (hS : ∀ a ∈ ys, S a) (e : suLoop lt ys.length ys q = z) (hcc : suChild lt ys (2 * q + 1) = c) (hv : ys[c]? = some v) :
    EXS ⟨fdUp.scope.names, cs, d, true⟩ ((inB fdUp.body 4).drop 2) ⟨h.set i (.list ys), lc⟩ (Turn (InvU h i p x S lt ys.length z) (ys.length - q) P) := by
  have h1 : q < c /\ c < ys.length := by
    have := suChild_ge lt ys (2 * q + 1)
    have := suChild_lt lt ys (2 * q + 1) hc
    lia
  have e' : suLoop lt ys.length (ys.set q v) c = z := by exact rwB e (rwB (su_step hc (hcc.symm ▸ hv)) (rwE hcc rfl))
  apply DS.setItem
  walk_at "mr"
  exact itemV_list (getSet hi) hz hv
  walk_at "mr"
  exact setItemL hi hz hq
  walk_at "mr"
  exact twice_at
  walk_at "mr"
  exact DS.turn (k' := ys.length - c) (Nat.sub_lt_sub_left hq h1.1) ⟨ys.set q v, c, _, rfl, l1, l2, l3, l4, by kernel_rfl, by kernel_rfl, List.length_set .., h1.2, set_all hS (hS v (List.mem_of_getElem? hv)), rfl, e'⟩
theorem child_a {lt : AV -> AV -> Bool} {ys : List AV} {c : Nat} {a b : AV} (h1 : ys[c]? = some a) (h2 : ys[c + 1]? = some b) (h : lt a b = true) : suChild lt ys c = c := by
  unfold suChild
  refine rwE h1 (rwE h2 ?_)
  simp only [h]
  rfl
set_option tactic.hygienic true in
theorem child_n {lt : AV -> AV -> Bool} {ys : List AV} {c : Nat} (h : ¬ c + 1 < ys.length) : suChild lt ys c = c := by
  unfold suChild
  refine rwE (List.getElem?_eq_none_iff.mpr (Nat.le_of_not_lt h)) ?_
  split
  . rename_i q; cases q
  . rfl
theorem child_b {lt : AV -> AV -> Bool} {ys : List AV} {c : Nat} {a b : AV} (h1 : ys[c]? = some a) (h2 : ys[c + 1]? = some b) (h : lt a b = false) : suChild lt ys c = c + 1 := by
  unfold suChild
  refine rwE h1 (rwE h2 ?_)
  simp only [h]
  rfl
theorem up_sound {d i p : Nat} {h : Hp} {xs : List AV} {x : AV} {S : AV -> Prop} {lt : AV -> AV -> Bool} (hi : h[i]? = some (.list xs)) (hS : ∀ a ∈ xs, S a) (ho : Ord h i S lt) (hx : xs[p]? = some x) (hz : xs.length <= 1000) {P : AV -> Hp -> Prop}
    (hP : P .none (h.set i (.list (upP lt xs p x)))) : CALL (d + 2) fdUp [.obj i, .int p] h P := by
  refine CALL.intro (binds := [("heap", .obj i), ("pos", .int p)]) (h1 := h) (st1 := ⟨h, [("pos", .int p), ("heap", .obj i)]⟩) (by kernel_rfl) (by kernel_rfl) ?_
  have hxS : S x := hS x (List.mem_of_getElem? hx)
  have hp : p < xs.length := (List.getElem?_eq_some_iff.mp hx).1
  apply DS.assign (by kernel_rfl) rfl
  walk_at "mr"
  exact len_list hi hz
  walk_at "mr"
  exact itemV_list hi hz hx
  walk_at "mr"
  exact twice_at
  walk_at "mr"
  refine WHILE.inv (InvU h i p x S lt xs.length (suLoop lt xs.length xs p)) (fun k st hI => ?_) (k := xs.length - p)
    ⟨xs, p, [("childpos", .int (2 * p + 1 : Nat)), ("newitem", x), ("startpos", .int p), ("endpos", .int xs.length), ("pos", .int p), ("heap", .obj i)], by refine rwE (setSelf hi) ?_; rfl, by kernel_rfl, by kernel_rfl, by kernel_rfl, by kernel_rfl, by kernel_rfl, by kernel_rfl, rfl, hp, hS, rfl, rfl⟩
  unfold upP at hP
  clear hx hS
  generalize suLoop lt xs.length xs p = z at *
  obtain ⟨ys, q, lc, rfl, l1, l2, l3, l4, l5, l6, hlen, hq, hys, rfl, heq⟩ := hI
  rw [← hlen] at hz hq l2 heq ⊢
  clear hlen hp
  by_cases hc : 2 * q + 1 < ys.length
  . have hcv := List.getElem?_eq_getElem hc
    generalize ys[2 * q + 1] = cv at hcv
    apply DS.whileT
    walk_at "mr"
    exact cmpLt (Int.ofNat_lt.mpr ‹_›)
    walk_at "mr"
    by_cases hr : 2 * q + 1 + 1 < ys.length
    . have hrv := List.getElem?_eq_getElem hr
      generalize ys[2 * q + 1 + 1] = rv at hrv
      have hcmp := ho ys cv rv (hys cv (List.mem_of_getElem? hcv)) (hys rv (List.mem_of_getElem? hrv))
      cases hlt : lt cv rv with
      | true =>
        apply DS.ifF0
        walk_at "md"
        apply TDS.andT
        walk_at "mr"
        exact cmpLt (Int.ofNat_lt.mpr ‹_›)
        apply TDS.andF
        walk_at "md"
        walk_at "mr"
        exact itemV_list (getSet hi) hz hcv
        walk_at "mr"
        exact itemV_list (k := 2 * q + 1 + 1) (getSet hi) hz hrv
        exact CMP.as hcmp hlt
        exact up_rest hi hz l1 l2 l3 l4 l5 l6 hq hc hys heq (child_a hcv hrv hlt) hcv
      | false =>
        apply DS.ifT
        walk_at "md"
        apply TDS.andT
        walk_at "mr"
        exact cmpLt (by lia)
        apply TDS.andT
        walk_at "md"
        walk_at "mr"
        exact itemV_list (getSet hi) hz hcv
        walk_at "mr"
        exact itemV_list (k := 2 * q + 1 + 1) (getSet hi) hz hrv
        exact CMP.as hcmp hlt
        walk_at "md"; walk_at "md"; walk_at "md"; walk_at "md"
        exact up_rest (c := 2 * q + 1 + 1) hi hz l1 l2 l3 l4 l5 (by kernel_rfl) hq hc hys heq (child_b hcv hrv hlt) hrv
    . apply DS.ifF0
      walk_at "md"
      apply TDS.andF
      walk_at "mr"
      exact cmpLtF (by lia)
      exact up_rest hi hz l1 l2 l3 l4 l5 l6 hq hc hys heq (child_n hr) hcv
  . apply DS.whileF
    walk_at "mr"
    exact cmpLtF (by lia)
    walk_at "mr"
    exact setItemL hi hz hq
    walk_at "mr"
    refine CALLV.fn (a := 213) rfl (down_sound (d := d) (s := p) (p := q) (xs := ys.set q x) (x := x) (lt := lt) (S := S) (getSet hi) (set_all hys hxS) (fun zs a b ha hb => by refine rwE setSet ?_; exact ho zs a b ha hb) (List.getElem?_set_self hq) (by refine rwE List.length_set ?_; exact hz) ?_)
    rw [su_end hc] at heq
    subst heq
    refine rwE setSet ?_
    exact EXS.nil hP
set_option tactic.hygienic true in
theorem sdLoop_all {S : AV -> Prop} (lt : AV -> AV -> Bool) (new : AV) (start : Nat) (hn : S new) : ∀ (k : Nat) (xs : List AV) (p : Nat), (∀ a ∈ xs, S a) -> ∀ a ∈ sdLoop lt new start k xs p, S a := by
  intro k
  induction k with
  | zero => intro xs p h; exact set_all h hn
  | succ k ih =>
    intro xs p h
    unfold sdLoop
    split
    . split
      . rename_i par hp
        split
        . exact ih _ _ (set_all h (h par (List.mem_of_getElem? hp)))
        . exact set_all h hn
      . exact set_all h hn
    . exact set_all h hn
set_option tactic.hygienic true in
theorem suLoop_all {S : AV -> Prop} (lt : AV -> AV -> Bool) : ∀ (k : Nat) (xs : List AV) (p : Nat), (∀ a ∈ xs, S a) -> (∀ a ∈ (suLoop lt k xs p).1, S a) /\ (suLoop lt k xs p).1.length = xs.length := by
  intro k
  induction k with
  | zero => intro xs p h; exact ⟨h, rfl⟩
  | succ k ih =>
    intro xs p h
    unfold suLoop
    split
    . split
      . rename_i v hv
        have := ih (xs.set p v) (suChild lt xs (2 * p + 1)) (set_all h (h v (List.mem_of_getElem? hv)))
        rw [List.length_set] at this
        exact this
      . exact ⟨h, rfl⟩
    . exact ⟨h, rfl⟩
theorem upP_all {S : AV -> Prop} {lt : AV -> AV -> Bool} {xs : List AV} {p : Nat} {x : AV} (hx : S x) (h : ∀ a ∈ xs, S a) : (∀ a ∈ upP lt xs p x, S a) /\ (upP lt xs p x).length = xs.length := by
  unfold upP
  have := suLoop_all (S := S) lt xs.length xs p h
  exact ⟨sdLoop_all lt x p hx _ _ _ (set_all this.1 hx), by refine rwE (sdLoop_length ..) (rwE (List.length_set ..) ?_); exact this.2⟩

noncomputable def fdHeapify : FD := fdIn theText 15
noncomputable def fdPop : FD := fdIn theText 14
noncomputable def upAt (lt : AV -> AV -> Bool) (ys : List AV) (j : Nat) : List AV := match ys[j]? with
  | some x => upP lt ys j x
  | none => ys
noncomputable def heapP (lt : AV -> AV -> Bool) : Nat -> List AV -> List AV
  | 0, ys => ys
  | j + 1, ys => heapP lt j (upAt lt ys j)
theorem upto_succ (j : Nat) : (upto (j + 1)).reverse = .one (.int j) :: (upto j).reverse := by
  unfold upto
  refine rwE List.range_succ ?_
  simp

theorem upto_inj {j : Nat} {l : List It} (h : l = (upto j).reverse) : (l = [] -> j = 0) /\ ∀ i r, l = i :: r -> ∃ k, j = k + 1 /\ i = .one (.int k) /\ r = (upto k).reverse := by
  cases j with
  | zero => exact ⟨fun z9 => rfl, fun i r q => by rw [h] at q; cases q⟩
  | succ j =>
    rw [upto_succ] at h
    exact ⟨fun q => (by rw [h] at q; cases q), fun i r q => by rw [h] at q; injection q with q1 q2; exact ⟨j, rfl, q1.symm, q2.symm⟩⟩
inductive InvH (h : Hp) (i : Nat) (S : AV -> Prop) (lt : AV -> AV -> Bool) (n : Nat) (z : List AV) (its : List It) (st : St) : Prop
  | mk (j : Nat) (ys : List AV) (lc : Loc) (hj : its = (upto j).reverse) (e : st = ⟨h.set i (.list ys), lc⟩) (l1 : lc.lookup ("x" : Str) = some (.obj i)) (hl : ys.length = n) (hjn : j <= n) (hS : ∀ a ∈ ys, S a) (q : heapP lt j ys = z)
theorem halve {n : Nat} {h : Hp} : BIN .FloorDiv (.int n) (.int 2) h (.int (n / 2 : Nat)) h := by
  have e : Int.fdiv (n : Int) 2 = ((n / 2 : Nat) : Int) := by refine rwE (Int.fdiv_eq_ediv_of_nonneg _ (by decide)) ?_; rfl
  exact e ▸ BIN.div (by decide)
theorem heapify_sound {d i : Nat} {h : Hp} {xs : List AV} {S : AV -> Prop} {lt : AV -> AV -> Bool} (hi : h[i]? = some (.list xs)) (hS : ∀ a ∈ xs, S a) (ho : Ord h i S lt) (hz : xs.length <= 1000) {P : AV -> Hp -> Prop}
    (hP : P .none (h.set i (.list (heapP lt (xs.length / 2) xs)))) : CALL (d + 3) fdHeapify [.obj i] h P := by
  refine CALL.intro (binds := [("x", .obj i)]) (h1 := h) (st1 := ⟨h, [("x", .obj i)]⟩) (by kernel_rfl) (by kernel_rfl) ?_
  apply DS.assign (by kernel_rfl) rfl
  walk_at "mr"
  exact len_list hi hz
  walk_at "md"
  apply SD.rev (by kernel_rfl) (by kernel_rfl)
  walk_at "mr"
  exact halve
  . exact Nat.le_trans (Nat.div_le_self ..) hz
  refine FORL.inv (InvH h i S lt xs.length (heapP lt (xs.length / 2) xs)) (fun st hI => ?_) (fun it r st hI => ?_)
    ⟨xs.length / 2, xs, [("n", .int xs.length), ("x", .obj i)], rfl, by refine rwE (setSelf hi) ?_; rfl, by kernel_rfl, rfl, Nat.div_le_self .., hS, rfl⟩
  . obtain ⟨j, ys, lc, hj, rfl, l1, hlen, hjl, hys, heq⟩ := hI
    cases (upto_inj hj).1 rfl
    refine ⟨rfl, EXS.nil ?_⟩
    rw [← heq] at hP
    exact hP
  . obtain ⟨j, ys, lc, hj, rfl, l1, hlen, hjl, hys, heq⟩ := hI
    (refine xEAA ((upto_inj hj).2 _ _ rfl) fun j hz1 hz2 hz3 => ?_; subst hz1; subst hz2; subst hz3)
    rw [← hlen] at hz hjl heq ⊢
    clear hlen hS hP
    have hx := List.getElem?_eq_getElem hjl
    generalize ys[j] = x at hx
    have hu := upP_all (lt := lt) (p := j) (hys x (List.mem_of_getElem? hx)) hys
    refine FT.mk rfl rfl ?_
    walk_at "mr"
    refine CALLV.fn (a := 220) rfl (up_sound (d := d) (p := j) (xs := ys) (x := x) (lt := lt) (S := S) (getSet hi) hys (fun zs a b ha hb => by refine rwE setSet ?_; exact ho zs a b ha hb) hx hz ?_)
    refine rwE setSet ?_
    refine TurnF.nil ⟨j, upP lt ys j x, _, rfl, rfl, l1, hu.2, Nat.le_of_lt hjl, hu.1, ?_⟩
    refine rwB heq ?_
    refine (?_ : _ = heapP lt j (upAt lt ys j))
    unfold upAt
    exact rwE hx rfl
noncomputable def popP (lt : AV -> AV -> Bool) (ys : List AV) (last : AV) : AV × List AV := match ys with
  | [] => (last, [])
  | y :: r => (y, upP lt (last :: r) 0 last)
theorem bm_pop {h : Hp} {n : Nat} {xs : List AV} {v : AV} (hn : h[n]? = some (.list (xs ++ [v]))) (hz : xs.length < 1000) : BM (.obj n) "pop" h [] h v (h.set n (.list xs)) := ⟨_, _, BI.list hn F.slot_list_pop F.type_list_pop, MB.pop hn hz⟩
theorem truth_list {h : Hp} {n : Nat} {xs : List AV} (hn : h[n]? = some (.list xs)) (hz : xs.length <= 1000) : TRU (.obj n) h (decide (xs.length ≠ 0)) := TRU.list hn (Nat.le_trans hz (by decide)) rfl
theorem heappop_sound {d i : Nat} {h : Hp} {ys : List AV} {last : AV} {S : AV -> Prop} {lt : AV -> AV -> Bool} (hi : h[i]? = some (.list (ys ++ [last]))) (hS : ∀ a ∈ ys, S a) (hl : S last) (ho : Ord h i S lt) (hz : ys.length < 1000) {P : AV -> Hp -> Prop}
    (hP : P (popP lt ys last).1 (h.set i (.list (popP lt ys last).2))) : CALL (d + 3) fdPop [.obj i] h P := by
  refine CALL.intro (binds := [("heap", .obj i)]) (h1 := h) (st1 := ⟨h, [("heap", .obj i)]⟩) (by kernel_rfl) (by kernel_rfl) ?_
  apply DS.assign (by kernel_rfl) rfl
  walk_at "mr"
  exact bm_pop hi hz
  cases ys with
  | nil =>
    apply DS.ifF0
    walk_at "mr"
    exact truth_list (getSet hi) (Nat.le_of_lt hz)
    walk_at "mr"
    exact hP
  | cons y r =>
    apply DS.ifT
    walk_at "mr"
    exact truth_list (getSet hi) (Nat.le_of_lt hz)
    walk_at "mr"
    exact itemV_list (k := 0) (getSet hi) (Nat.le_of_lt hz) rfl
    walk_at "mr"
    exact setItemL (k := 0) hi (Nat.le_of_lt hz) (Nat.succ_pos _)
    walk_at "mr"
    refine CALLV.fn (a := 220) rfl (up_sound (d := d) (p := 0) (xs := last :: r) (x := last) (lt := lt) (S := S) (getSet hi) (fun a ha => ?_) (fun zs a b ha hb => by refine rwE setSet ?_; exact ho zs a b ha hb) rfl (Nat.le_of_lt hz) ?_)
    . rcases List.mem_cons.mp ha with h1 | h1
      . refine rwE h1 ?_; exact hl
      . exact hS a (.tail _ h1)
    refine rwE setSet ?_
    walk_at "mr"
    exact hP
noncomputable def fd257 : FD := fdIn theText 6
noncomputable abbrev SL (l : List Nat) : Str := ⟨l.toArray⟩
theorem SL_len (l : List Nat) : (SL l).length = l.length := by refine (?_ : (List.toArray l).size = _); rfl
theorem SL_cat (a b : List Nat) : SL a ++ SL b = SL (a ++ b) := by
  refine (?_ : Str.mk _ = _)
  simp
theorem SL_inj {a b : List Nat} (h : SL a = SL b) : a = b := by
  have := congrArg (fun s : Str => s.cps.toList) h
  simpa using this
theorem item_str {L : List Nat} {k c : Nat} {h : Hp} (hk : L[k]? = some c) (hz : L.length <= 1000000) : ITEM (.str (SL L)) (.int k) h (.str (SL [c])) := ITEM.str (by simpa using hk) (by refine rwE (SL_len ..) ?_; exact Nat.le_trans ‹_› (by decide))
theorem slice_to {L : List Nat} {j : Nat} {h : Hp} (hj : j <= L.length) (hz : L.length <= 1000000) : SLC (.str (SL L)) .none (.int j) .none h (.str (SL (L.take j))) h := by
  have := SLC.str (h := h) (x := SL L) (l := .none) (u := .int j) rfl rfl (by refine rwE (SL_len ..) ?_; lia)
  have e := beq_iff_eq.mp (slice_closes_to (x := SL L) (j := j) ⟨by exact Int.natCast_nonneg _, by simpa using (by exact Int.ofNat_le.mpr ‹_› : (j : Int) <= L.length)⟩)
  rw [e] at this
  simpa using this
theorem slice_mid {L : List Nat} {i j : Nat} {h : Hp} (hi : i <= j) (hj : j <= L.length) (hz : L.length <= 1000000) : SLC (.str (SL L)) (.int i) (.int j) .none h (.str (SL ((L.drop i).take (j - i)))) h := by
  have := SLC.str (h := h) (x := SL L) (l := .int i) (u := .int j) rfl rfl (by refine rwE (SL_len ..) ?_; lia)
  have e := beq_iff_eq.mp (slice_closes (x := SL L) (i := i) (j := j) ⟨by lia, by exact Int.ofNat_le.mpr ‹_›, by simpa using (by lia : (j : Int) <= L.length)⟩)
  rw [e] at this
  simpa using this
noncomputable def unq : List Nat -> List Nat
  | [] => []
  | 34 :: 34 :: r => 34 :: unq r
  | 34 :: _ => []
  | c :: r => c :: unq r
theorem isQ {c : Nat} : (SL [c] = ("\"" : Str)) ↔ c = 34 := by
  constructor
  . intro h
    have : SL [c] = SL [34] := h
    have := SL_inj this
    simpa using this
  . rintro rfl; rfl
theorem cat_str {a b : List Nat} {h : Hp} (hz : a.length + b.length <= 1000000) : BIN .Add (.str (SL a)) (.str (SL b)) h (.str (SL (a ++ b))) h := SL_cat a b ▸ BIN.cat (by refine rwE (SL_len ..) (rwE (SL_len ..) ?_); exact Nat.le_trans ‹_› (by decide))
theorem len_str {l : List Nat} {h : Hp} (hz : l.length <= 1000000) : CAL (.builtin "len") [.str (SL l)] h (.int l.length) h := by
  have := CAL.lenStr (h := h) (x := SL l) (by refine rwE (SL_len ..) ?_; lia)
  rwa [SL_len] at this
theorem unq_qq (r : List Nat) : unq (34 :: 34 :: r) = 34 :: unq r := by rw [unq]
theorem unq_q1 : unq [34] = [] := by rw [unq]; intro r h; cases h
theorem unq_qo {c : Nat} {r : List Nat} (h : c ≠ 34) : unq (34 :: c :: r) = [] := by rw [unq]; intro r' h'; cases h'; exact h rfl
theorem unq_c {c : Nat} {r : List Nat} (h : c ≠ 34) : unq (c :: r) = c :: unq r := by
  rw [unq]
  . intro r' h1 h2; exact h h1
  . intro h1; exact h h1
theorem drop_at {l : List Nat} {j c : Nat} (h : l[j]? = some c) : l.drop j = c :: l.drop (j + 1) := by
  obtain ⟨h1, h2⟩ := List.getElem?_eq_some_iff.mp h
  refine rwB h2 ?_; exact List.drop_eq_getElem_cons h1
inductive Inv257 (h : Hp) (body L : List Nat) (k : Nat) (st : St) : Prop
  | mk (acc : List Nat) (j : Nat) (lc : Loc) (e : st = ⟨h, lc⟩) (l1 : lc.lookup ("resp" : Str) = some (.str (SL L))) (l2 : lc.lookup ("n" : Str) = some (.int L.length)) (l3 : lc.lookup ("i" : Str) = some (.int (5 + j : Nat))) (l4 : lc.lookup ("dirname" : Str) = some (.str (SL acc)))
    (hk : k = body.length - j) (hj : j <= body.length) (heq : acc ++ unq (body.drop j) = unq body) (ha : acc.length <= j)
theorem parse257_sound {d : Nat} {h : Hp} {body : List Nat} (hz : body.length <= 100000) {P : AV -> Hp -> Prop} (hP : P (.str (SL (unq body))) h) : CALL (d + 1) fd257 [.str (SL (50 :: 53 :: 55 :: 32 :: 34 :: body))] h P := by
  refine CALL.intro (binds := [("resp", .str (SL (50 :: 53 :: 55 :: 32 :: 34 :: body)))]) (h1 := h) (st1 := ⟨h, [("resp", .str (SL (50 :: 53 :: 55 :: 32 :: 34 :: body)))]⟩) (by kernel_rfl) (by kernel_rfl) ?_
  generalize hL : (50 :: 53 :: 55 :: 32 :: 34 :: body) = L
  have hlen : L.length = body.length + 5 := by refine rwB hL ?_; dsimp
  apply DS.ifF0
  walk_at "mr"
  exact slice_to (j := 3) (by lia) (by lia)
  walk_at "mr"
  exact cmpNeSF (by refine rwB hL ?_; rfl)
  apply DS.ifF0
  walk_at "mr"
  exact slice_mid (i := 3) (j := 5) (Nat.le_add_left _ _) (by lia) (by lia)
  walk_at "mr"
  exact cmpNeSF (by refine rwB hL ?_; rfl)
  walk_at "mr"
  exact len_str (by lia)
  walk_at "mr"
  have hat : ∀ {j c : Nat}, body[j]? = some c -> L[5 + j]? = some c := fun {j c} h => by
    refine rwB hL (rwE (show 5 + j = j + 1 + 1 + 1 + 1 + 1 by exact Nat.add_comm _ _) ?_); exact h
  have hR : ∀ {lc : Loc} {x : List Nat}, x = unq body -> retP P (.ret (.str (SL x))) ⟨h, lc⟩ := fun e => e ▸ hP
  refine WHILE.inv (Inv257 h body L) (fun k st hI => ?_) (k := body.length)
    ⟨[], 0, [("n", .int L.length), ("i", .int 5), ("dirname", .str (SL [])), ("resp", .str (SL L))], rfl, by kernel_rfl, by kernel_rfl, by kernel_rfl, by kernel_rfl, rfl, by exact Nat.zero_le _, by exact List.nil_append _, by exact Nat.le_refl _⟩
  obtain ⟨acc, j, lc, rfl, l1, l2, l3, l4, rfl, hj, heq, hacc⟩ := hI
  by_cases hlt : j < body.length
  . have hc := List.getElem?_eq_getElem hlt
    generalize body[j] = c at hc
    apply DS.whileT
    walk_at "mr"
    exact cmpLt (by lia)
    walk_at "mr"
    exact item_str (hat hc) (by lia)
    walk_at "mr"
    by_cases hq : c = 34
    . subst hq
      apply DS.ifT
      walk_at "mr"
      exact cmpEqS (isQ.mpr rfl)
      by_cases he : j + 1 < body.length
      . have hc2 := List.getElem?_eq_getElem he
        generalize body[j + 1] = c2 at hc2
        by_cases hq2 : c2 = 34
        . subst hq2
          apply DS.ifF0
          walk_at "md"
          apply TDS.orF
          walk_at "mr"
          exact cmpGeF (by lia)
          apply TDS.orF
          walk_at "mr"
          exact item_str (k := 5 + j + 1) (hat hc2) (by lia)
          walk_at "mr"
          exact cmpNeSF (isQ.mpr rfl)
          walk_at "mr"
          exact cat_str (a := acc) (b := [34]) (by simp; lia)
          walk_at "mr"
          refine DS.turn (k' := body.length - (j + 2)) (by lia) ⟨acc ++ [34], j + 2, _, rfl, l1, l2, by kernel_rfl, by kernel_rfl, rfl, by assumption, ?_, by simp; exact Nat.le_succ_of_le ‹_›⟩
          refine rwB (heq ..) (rwE (drop_at hc ..) (rwE (drop_at hc2 ..) (rwE (unq_qq ..) ?_))); exact List.append_assoc ..
        . apply DS.ifT
          walk_at "md"
          apply TDS.orF
          walk_at "mr"
          exact cmpGeF (by lia)
          apply TDS.orT
          walk_at "mr"
          exact item_str (k := 5 + j + 1) (hat hc2) (by lia)
          walk_at "mr"
          exact cmpNeS (mt isQ.mp hq2)
          walk_at "mr"
          refine hR ?_
          refine rwB heq (rwE (drop_at hc) (rwE (drop_at hc2) (rwE (unq_qo hq2) ?_))); simp
      . apply DS.ifT
        walk_at "md"
        apply TDS.orT
        walk_at "mr"
        exact cmpGe (by lia)
        walk_at "mr"
        refine hR ?_
        refine rwB heq (rwE (drop_at hc) (rwE (List.drop_eq_nil_of_le (Nat.not_lt.mp ‹_›)) (rwE unq_q1 ?_))); simp
    . apply DS.ifF0
      walk_at "mr"
      exact cmpEqSF (mt isQ.mp hq)
      walk_at "mr"
      exact cat_str (a := acc) (b := [c]) (by simp; lia)
      walk_at "mr"
      refine DS.turn (k' := body.length - (j + 1)) (by lia) ⟨acc ++ [c], j + 1, _, rfl, l1, l2, by kernel_rfl, by kernel_rfl, rfl, by assumption, ?_, by simp; assumption⟩
      refine rwB heq (rwE (drop_at hc) (rwE (unq_c hq) ?_)); exact List.append_assoc ..
  . apply DS.whileF
    walk_at "mr"
    exact cmpLtF (by lia)
    walk_at "mr"
    refine hR ?_
    refine rwB heq (rwE (List.drop_eq_nil_of_le (Nat.not_lt.mp ‹_›)) ?_); simp [unq]
noncomputable def fd229 : FD := fdIn theText 5
set_option tactic.hygienic true in
theorem getD_SL {L : List Nat} {v : Nat} : (SL L).cps.getD v 0 = (L[v]?).getD 0 := by
  refine (?_ : (List.toArray L).getD v 0 = _)
  simp [Array.getD]
  split
  . rename_i h; simp [List.getElem?_eq_getElem h]
  . rename_i h; simp [List.getElem?_eq_none_iff.mpr (Nat.le_of_not_lt h)]
theorem find_at {L : List Nat} {i k c : Nat} (hk : L[k]? = some c) (hik : i <= k) (hno : ∀ v, i <= v -> v < k -> L[v]? ≠ some c) : Txt.find3 (SL L) (SL [c]) i = k := by
  have hlt := (List.getElem?_eq_some_iff.mp hk).1
  have hf : PySem.fromIndex (SL L).length (i : Int) = i := by
    unfold PySem.fromIndex
    refine rwE (if_neg (by lia)) ?_
    rfl
  rcases StrLaws.find3_spec (SL L) c i with ⟨h1, h2⟩ | ⟨m, h1, h2, h3, h4, h5⟩
  . exact absurd (by refine rwE getD_SL (rwE hk ?_); rfl) (h2 k (by assumption) (by refine rwE (SL_len ..) ?_; exact hlt))
  . rw [hf] at h2 h5
    rw [SL_len] at h3
    have hm : L[m]? = some c := by
      rw [getD_SL, List.getElem?_eq_getElem h3] at h4
      refine rwE (List.getElem?_eq_getElem h3) (rwB h4 ?_); rfl
    have hmk : m = k := by
      rcases Nat.lt_trichotomy m k with h | h | h
      . exact absurd hm (hno m h2 h)
      . exact h
      . exact absurd (by refine rwE getD_SL (rwE hk ?_); rfl) (h5 k hik h)
    rw [hmk] at h1
    exact h1
theorem find_first {L : List Nat} {k c : Nat} (hk : L[k]? = some c) (hno : ∀ v, v < k -> L[v]? ≠ some c) : Txt.find (SL L) (SL [c]) = k := by
  refine rwE (find_is_find3 ..) ?_
  exact find_at (i := 0) hk (Nat.zero_le _) fun v z9 h => hno v h
noncomputable def head229 (c m : Nat) (ds : List Nat) : List Nat := 50 :: 50 :: 57 :: 32 :: c :: 32 :: 40 :: m :: m :: m :: (ds ++ [m, 41])
theorem itemV_tup {h : Hp} {n : Nat} {xs : List AV} {k : Nat} {v : AV} (hn : h[n]? = some (.tup xs)) (hz : xs.length <= 1000) (hv : xs[k]? = some v) : ITEM (.obj n) (.int k) h v := ITEM.tup hn (Nat.le_trans hz (by decide)) hv
theorem lastAt {h : Hp} {o : AO} : (h ++ [o])[h.length]? = some o := by exact List.getElem?_concat_length
theorem oldAt {h r : Hp} {n : Nat} {o : AO} (hn : h[n]? = some o) : (h ++ r)[n]? = some o := by
  refine rwE (List.getElem?_append_left (List.getElem?_eq_some_iff.mp hn).1) ?_; exact hn
theorem int_text {s : Str} {i : Int} {h : Hp} (hi : intText s = some i) : CAL (.type "int") [.str s] h (.int i) h := CAL.intStr hi
theorem bm_find {L : List Nat} {k c : Nat} {h : Hp} (hz : L.length <= 1000000) (hk : L[k]? = some c) (hno : ∀ v, v < k -> L[v]? ≠ some c) : BM (.str (SL L)) "find" h [.str (SL [c])] h (.int k) h := ⟨_, _, BI.str F.slot_str_find F.type_str_find, find_first hk hno ▸ MB.find⟩
theorem bm_find3 {L : List Nat} {i k c : Nat} {h : Hp} (hk : L[k]? = some c) (hik : i <= k) (hno : ∀ v, i <= v -> v < k -> L[v]? ≠ some c) : BM (.str (SL L)) "find" h [.str (SL [c]), .int i] h (.int k) h := ⟨_, _, BI.str F.slot_str_find F.type_str_find, find_at hk hik hno ▸ MB.find3⟩
theorem bm_split {L : List Nat} {m : Nat} {ps : List Str} {h : Hp} (hz : L.length <= 100) (hs : Txt.split (SL L) (SL [m]) = ps) : BM (.str (SL L)) "split" h [.str (SL [m])] h (.obj h.length) (h ++ [.list (ps.map .str)]) := ⟨_, _, BI.str F.slot_str_split F.type_str_split, hs ▸ MB.split (by refine rwE (SL_len ..) ?_; rfl) (by refine rwE (SL_len ..) ?_; exact hz)⟩
theorem item_strI {L : List Nat} {i : Int} {k c : Nat} {h : Hp} (hi : i = k) (hk : L[k]? = some c) (hz : L.length <= 1000000) : ITEM (.str (SL L)) (.int i) h (.str (SL [c])) := hi ▸ item_str hk hz
theorem hd_len {c m : Nat} {ds tail : List Nat} : (head229 c m ds ++ tail).length = ds.length + tail.length + 12 := by simp [head229]; rfl
theorem hd_cons {c m : Nat} {ds tail : List Nat} : head229 c m ds ++ tail = 50 :: 50 :: 57 :: 32 :: c :: 32 :: 40 :: m :: m :: m :: (ds ++ (m :: 41 :: tail)) := by simp [head229]
theorem hd_drop {c m : Nat} {ds tail : List Nat} : (head229 c m ds ++ tail).drop (11 + ds.length + 1) = tail := by
  refine rwE hd_cons (rwE (show 11 + ds.length + 1 = (ds.length + 2) + 1 + 1 + 1 + 1 + 1 + 1 + 1 + 1 + 1 + 1 by lia) ?_)
  simp
theorem hd_end {c m : Nat} {ds tail : List Nat} : (head229 c m ds ++ tail)[10 + ds.length]? = some m /\ (head229 c m ds ++ tail)[11 + ds.length]? = some 41 := by
  refine rwE hd_cons (rwE (show 11 + ds.length = (ds.length + 1) + 1 + 1 + 1 + 1 + 1 + 1 + 1 + 1 + 1 + 1 by exact Nat.add_comm _ _) (rwE (show 10 + ds.length = ds.length + 1 + 1 + 1 + 1 + 1 + 1 + 1 + 1 + 1 + 1 by exact Nat.add_comm _ _) ?_))
  simp
theorem hd_paren {c m : Nat} {ds tail : List Nat} (hm : m ≠ 41) (hds : 41 ∉ ds) {v : Nat} (hv : v < 11 + ds.length) (q : (head229 c m ds ++ tail)[v]? = some 41) : v = 4 /\ c = 41 := by
  rw [hd_cons] at q
  rcases v with _ | _ | _ | _ | _ | _ | _ | _ | _ | _ | u
  case succ.succ.succ.succ.zero => exact ⟨rfl, Option.some.inj q⟩
  case succ.succ.succ.succ.succ.succ.succ.succ.succ.succ =>
    simp only [List.getElem?_cons_succ] at q
    by_cases hu : u < ds.length
    . rw [List.getElem?_append_left hu] at q
      exact absurd (List.mem_of_getElem? q) hds
    . have : u = ds.length := by lia
      subst this
      exact absurd (by simpa using q) hm
  all_goals first | (cases q; done) | exact absurd (Option.some.inj q) hm
theorem parse229_sound {d t c m w : Nat} {h : Hp} {ds tail : List Nat} {sd : Str} (hz : tail.length <= 900000) (hd : ds.length <= 2) (hc : c ≠ 40) (hm : m ≠ 41) (hds : 41 ∉ ds) (ht : h[t]? = some (.tup [.str sd, .int 0]))
    (hsp : Txt.split (SL (m :: m :: m :: (ds ++ [m]))) (SL [m]) = [SL [], SL [], SL [], SL ds, SL []]) (hw : intText (SL ds) = some (w : Int)) {P : AV -> Hp -> Prop}
    (hP : P (.obj (h.length + 1)) (h ++ [.list [.str (SL []), .str (SL []), .str (SL []), .str (SL ds), .str (SL [])], .tup [.str sd, .int w]])) : CALL (d + 1) fd229 [.str (SL (head229 c m ds ++ tail)), .obj t] h P := by
  refine CALL.intro (binds := [("resp", .str (SL (head229 c m ds ++ tail))), ("peer", .obj t)]) (h1 := h) (st1 := ⟨h, [("peer", .obj t), ("resp", .str (SL (head229 c m ds ++ tail)))]⟩) (by kernel_rfl) (by kernel_rfl) ?_
  have hlen : (head229 c m ds ++ tail).length <= 1000000 /\ 11 + ds.length <= (head229 c m ds ++ tail).length := by refine rwE hd_len ?_; lia
  have n6 : ∀ v, v < 6 -> (head229 c m ds ++ tail)[v]? ≠ some 40 := fun v hv q => by
    rcases v with _ | _ | _ | _ | _ | _ | v
    case succ.succ.succ.succ.zero => exact hc (Option.some.inj q)
    case succ.succ.succ.succ.succ.succ => lia
    all_goals cases q
  have nr : ∀ v, 7 <= v -> v < 11 + ds.length -> (head229 c m ds ++ tail)[v]? ≠ some 41 := fun v h1 h2 q => absurd (hd_paren hm hds h2 q).1 (by lia)
  have hsl : ((head229 c m ds ++ tail).drop 7).take (11 + ds.length - 7) = m :: m :: m :: (ds ++ [m]) := by
    refine rwE hd_cons (rwE (show 11 + ds.length - 7 = ds.length + 1 + 1 + 1 + 1 by lia) ?_)
    simp [List.take_append, List.take_of_length_le]
  have hr := hd_end (c := c) (m := m) (ds := ds) (tail := tail)
  have h7 : (head229 c m ds ++ tail)[7]? = some m := rfl
  have h6 : (head229 c m ds ++ tail)[6]? = some 40 := rfl
  have h3 : SL ((head229 c m ds ++ tail).take 3) = SL [50, 50, 57] := rfl
  generalize head229 c m ds ++ tail = L at *
  clear hc hm hds
  apply DS.ifF0
  walk_at "mr"
  exact slice_to (j := 3) (by lia) hlen.1
  walk_at "mr"
  exact cmpNeSF h3
  walk_at "mr"
  exact bm_find (k := 6) hlen.1 h6 n6
  apply DS.ifF0
  walk_at "mr"
  exact cmpLtF (by decide)
  walk_at "mr"
  exact bm_find3 (i := 7) (k := 11 + ds.length) hr.2 (by lia) nr
  apply DS.ifF0
  walk_at "mr"
  exact cmpLtF (by lia)
  apply DS.ifF0
  walk_at "mr"
  exact item_str (k := 7) h7 hlen.1
  walk_at "mr"
  exact item_strI (k := 10 + ds.length) (by lia) hr.1 hlen.1
  exact cmpNeSF rfl
  walk_at "mr"
  exact slice_mid (i := 7) (j := 11 + ds.length) (by lia) hlen.2 hlen.1
  walk_at "mr"
  exact item_str (k := 7) h7 hlen.1
  walk_at "mr"
  exact bm_split (by refine rwE hsl ?_; simp; exact Nat.le_trans ‹_› (by decide)) (hsl ▸ hsp)
  apply DS.ifF0
  walk_at "mr"
  exact len_list lastAt (Nat.le_of_ble_eq_true rfl)
  walk_at "mr"
  exact cmpNeF rfl
  walk_at "mr"
  exact itemV_tup (k := 0) (oldAt ht) (Nat.le_of_ble_eq_true rfl) rfl
  walk_at "mr"
  exact itemV_list (k := 3) lastAt (Nat.le_of_ble_eq_true rfl) rfl
  walk_at "mr"
  exact int_text hw
  walk_at "mr"
  simpa [retP] using hP
noncomputable def fdTold : FD := fdIn theText 20
noncomputable abbrev dq (l : List Nat) : List Nat := StrLaws.dbl 34 l
inductive WT where
  | node (c m : Nat) (ds : List Nat) (w : Nat) (kids : List WT)
mutual
noncomputable def WT.words : WT -> List Nat
  | .node c m ds _ kids => head229 c m ds ++ WT.kidsW kids
noncomputable def WT.kidsW : List WT -> List Nat
  | [] => []
  | k :: r => 50 :: 53 :: 55 :: 32 :: 34 :: (dq k.words ++ 34 :: WT.kidsW r)
end
mutual
noncomputable def WT.rows (host : Str) : WT -> List (Nat × Str × Nat)
  | .node c _ _ w kids => (c, host, w) :: WT.rowsK (SL [c]) kids
noncomputable def WT.rowsK (host : Str) : List WT -> List (Nat × Str × Nat)
  | [] => []
  | k :: r => k.rows host ++ WT.rowsK host r
end
mutual
noncomputable def WT.ok : WT -> Prop
  | .node c m ds w kids => c ≠ 40 /\ c ≠ 41 /\ m ≠ 41 /\ 41 ∉ ds /\ ds.length <= 2 /\ Txt.split (SL (m :: m :: m :: (ds ++ [m]))) (SL [m]) = [SL [], SL [], SL [], SL ds, SL []] /\ intText (SL ds) = some (w : Int) /\ WT.okK kids
noncomputable def WT.okK : List WT -> Prop
  | [] => True
  | k :: r => k.ok /\ WT.okK r
end
mutual
noncomputable def WT.height : WT -> Nat
  | .node _ _ _ _ kids => WT.heightK kids + 1
noncomputable def WT.heightK : List WT -> Nat
  | [] => 0
  | k :: r => max k.height (WT.heightK r)
end
theorem kidsW_head (r : List WT) : (WT.kidsW r).head? ≠ some 34 := by
  cases r with
  | nil => simp [WT.kidsW]
  | cons k r => simp [WT.kidsW]
theorem unq_dq {t : List Nat} (ht : t.head? ≠ some 34) : ∀ l : List Nat, unq (dq l ++ 34 :: t) = l
  | [] => by
    refine (?_ : unq (34 :: t) = [])
    cases t with
    | nil => exact unq_q1
    | cons x r => exact unq_qo (by simpa using ht)
  | k :: r => by
    by_cases hk : k = 34
    . subst hk
      refine (?_ : unq ((if (34 : Nat) = 34 then 34 :: 34 :: dq r else 34 :: dq r) ++ 34 :: t) = _)
      refine rwE (if_pos rfl) ?_
      refine (?_ : unq (34 :: 34 :: (dq r ++ 34 :: t)) = _)
      exact rwE (unq_qq ..) (rwE (unq_dq ht r ..) rfl)
    . refine (?_ : unq ((if k = 34 then k :: k :: dq r else k :: dq r) ++ 34 :: t) = _)
      refine rwE (if_neg hk) ?_
      refine (?_ : unq (k :: (dq r ++ 34 :: t)) = _)
      exact rwE (unq_c hk) (rwE (unq_dq ht r) rfl)
theorem dq_len : ∀ l : List Nat, ((dq l).length : Int) = l.length + cnt 34 l
  | [] => rfl
  | k :: r => by
    refine rwE (cnt_cons ..) ?_
    have ih := dq_len r
    refine (?_ : (((if k = 34 then k :: k :: dq r else k :: dq r) : List Nat).length : Int) = _)
    split
    . simp only [List.length_cons] at *; lia
    . simp only [List.length_cons] at *; lia
theorem slice_from {L : List Nat} {i : Nat} {h : Hp} (hi : i <= L.length) (hz : L.length <= 1000000) : SLC (.str (SL L)) (.int i) .none .none h (.str (SL (L.drop i))) h := by
  have := SLC.str (h := h) (x := SL L) (l := .int i) (u := .none) rfl rfl (by refine rwE (SL_len ..) ?_; exact Nat.le_trans ‹_› (by decide))
  rw [slice_from_eq (x := SL L) (i := i) (b := L.length) (Int.natCast_nonneg _) (by refine rwE (SL_len ..) ?_; exact Int.ofNat_le.mpr ‹_›) (by exact rwE (SL_len ..) rfl)] at this
  have e : (⟨(List.take ((L.length : Int) - i).toNat (List.drop (i : Int).toNat (SL L).cps.toList)).toArray⟩ : Str) = SL (L.drop i) := by
    simp
    exact List.take_of_length_le (by simp)
  exact e ▸ this
inductive Rows (h : Hp) : List AV -> List (Nat × Str × Nat) -> Prop where
  | nil : Rows h [] []
  | cons {n : Nat} {c : Nat} {host : Str} {w : Nat} {vs : List AV} {rs : List (Nat × Str × Nat)} : h[n]? = some (.tup [.str (SL [c]), .str host, .int w]) -> Rows h vs rs -> Rows h (.obj n :: vs) ((c, host, w) :: rs)
theorem Rows.mono {h h' : Hp} {vs : List AV} {rs : List (Nat × Str × Nat)} (x : Rows h vs rs) (k : ∀ (n : Nat) (c : List AV), h[n]? = some (AO.tup c) -> h'[n]? = some (AO.tup c)) : Rows h' vs rs := by
  induction x with
  | nil => exact .nil
  | cons a _ ih => exact .cons (k _ _ a) ih
theorem Rows.append {h : Hp} {vs us : List AV} {rs qs : List (Nat × Str × Nat)} (x : Rows h vs rs) (y : Rows h us qs) : Rows h (vs ++ us) (rs ++ qs) := by
  induction x with
  | nil => exact y
  | cons a _ ih => exact .cons a ih
theorem Rows.length {h : Hp} {vs : List AV} {rs : List (Nat × Str × Nat)} (x : Rows h vs rs) : vs.length = rs.length := by
  induction x with
  | nil => rfl
  | cons _ _ ih => simp [ih]
mutual
noncomputable def WT.size : WT -> Nat
  | .node _ _ _ _ kids => WT.sizeK kids + 1
noncomputable def WT.sizeK : List WT -> Nat
  | [] => 0
  | k :: r => k.size + WT.sizeK r
end
mutual
theorem rows_len (host : Str) : ∀ T : WT, (T.rows host).length = T.size
  | .node c m ds w kids => by simp [WT.rows, WT.size, rowsK_len]
theorem rowsK_len (host : Str) : ∀ l : List WT, (WT.rowsK host l).length = WT.sizeK l
  | [] => rfl
  | k :: r => by simp [WT.rowsK, WT.sizeK, rows_len host k, rowsK_len host r]
end
theorem aug_lists {h : Hp} {i j : Nat} {xs ys : List AV} (hi : h[i]? = some (.list xs)) (hj : h[j]? = some (.list ys)) (hij : i ≠ j) (hz : xs.length + ys.length <= 1000) : AUG .Add (.obj i) (.obj j) h (.obj i) (h.set i (.list (xs ++ ys))) := AUG.list hi hj hz
theorem assignT2 {fe : FE} {x y : Str} {px py p : Pos} {k n : Nat} {a b : AV} {st : St} (hn : st.hp[n]? = some (.tup [a, b])) (hx : fe.names.lookup x = some .local) (hy : fe.names.lookup y = some .local) : assignPlain fe (.Tuple [.Name x px, .Name y py] k p) (.obj n) st = some ⟨st.hp, (y, b) :: (x, a) :: st.lc⟩ := by
  unfold assignPlain
  simp [hn, assignNames, putName, hx, hy]
theorem truth_str {l : List Nat} {h : Hp} (hz : l.length <= 1000000) : TRU (.str (SL l)) h (decide (l.length ≠ 0)) := TRU.str (by refine rwE (SL_len ..) ?_; lia) (by exact rwE (SL_len ..) rfl)
theorem set_beyond {h m : Hp} {r : Nat} {o : AO} (hr : h.length <= r) : (h ++ m).set r o = h ++ m.set (r - h.length) o := List.set_append_right _ _ hr
theorem beyond {h m : Hp} {i : Nat} : (h ++ m)[h.length + i]? = m[i]? := by
  exact rwE (List.getElem?_append_right (Nat.le_add_right _ _) ..) (rwE (Nat.add_sub_cancel_left ..) rfl)
theorem kidsW_len (k : WT) (r : List WT) : (WT.kidsW (k :: r)).length = 6 + (dq k.words).length + (WT.kidsW r).length := by
  rw [WT.kidsW]; simp; lia
noncomputable def ToldAt (D : Nat) (T : WT) : Prop := T.ok -> T.words.length <= 100000 -> T.size <= 1000 -> ∀ (h : Hp) (sd : Str) (P : AV -> Hp -> Prop), (∀ r more vs, (h ++ more)[r]? = some (.list vs) -> h.length <= r -> Rows (h ++ more) vs (T.rows sd) -> P (.obj r) (h ++ more)) -> CALL D fdTold [.str (SL T.words), .str sd] h P

theorem okK_mem : ∀ {l : List WT}, WT.okK l -> ∀ x ∈ l, x.ok
  | a :: b, h, x, hx => by
    rw [WT.okK] at h
    rcases List.mem_cons.mp hx with rfl | hx
    . exact h.1
    . exact okK_mem h.2 x hx
theorem sizeK_app (a b : List WT) : WT.sizeK (a ++ b) = WT.sizeK a + WT.sizeK b := by
  induction a with
  | nil => simp [WT.sizeK]
  | cons x y ihy => simp [WT.sizeK, ihy]; (exact rwE (Nat.add_assoc ..) rfl)
theorem rowsK_app {host : Str} (a b : List WT) : WT.rowsK host (a ++ b) = WT.rowsK host a ++ WT.rowsK host b := by
  induction a with
  | nil => simp [WT.rowsK]
  | cons x y ihy => simp [WT.rowsK, ihy]
theorem cnt_pos : ∀ l : List Nat, 0 <= cnt 34 l
  | [] => Int.le_refl _
  | a :: b => by
    have := cnt_pos b
    refine rwE (cnt_cons ..) ?_; split <;> lia
theorem bm_count {L : List Nat} {h : Hp} (hz : L.length <= 1000000) : BM (.str (SL L)) "count" h [.str (SL [34])] h (.int (cnt 34 L)) h := ⟨_, _, BI.str F.slot_str_count F.type_str_count, (count_cnt (SL L) 34 : Txt.count (SL L) (SL [34]) = cnt 34 L) ▸ MB.count⟩
theorem count_at {l : List Nat} {h : Hp} : BIN .Add (.int (6 + (l.length : Int))) (.int (cnt 34 l)) h (.int (6 + (dq l).length : Nat)) h := by
  have e : 6 + (l.length : Int) + cnt 34 l = (6 + (dq l).length : Nat) := by have := dq_len l; lia
  exact e ▸ BIN.add
theorem kid_drop (k : WT) (r : List WT) : (WT.kidsW (k :: r)).drop (6 + (dq k.words).length) = WT.kidsW r := by
  rw [WT.kidsW, show 6 + (dq k.words).length = ((dq k.words).length + 1) + 1 + 1 + 1 + 1 + 1 by exact Nat.add_comm _ _]
  simp
inductive InvT (h : Hp) (L : List Nat) (sd : Str) (c w : Nat) (kids : List WT) (k : Nat) (st : St) : Prop
  | mk (dn td : List WT) (more : Hp) (vs : List AV) (lc : Loc) (hk : kids = dn ++ td) (e : st = ⟨h ++ more, lc⟩) (hr : (h ++ more)[h.length + 4]? = some (.list vs)) (hw : Rows (h ++ more) vs ((c, sd, w) :: WT.rowsK (SL [c]) dn))
      (l1 : lc.lookup ("words" : Str) = some (.str (SL L))) (l2 : lc.lookup ("told" : Str) = some (.obj (h.length + 4))) (l3 : lc.lookup ("rest" : Str) = some (.str (SL (WT.kidsW td)))) (hn : k = td.length) (hz : (WT.kidsW td).length <= 100000)
theorem InvT.start {h m : Hp} {L : List Nat} {sd : Str} {c w : Nat} {kids : List WT} {lc : Loc} (hm : m.length = 3) (l1 : lc.lookup ("words" : Str) = some (.str (SL L))) (l2 : lc.lookup ("told" : Str) = some (.obj (h ++ m ++ [AO.tup [.str (SL [c]), .str sd, .int w]]).length)) (l3 : lc.lookup ("rest" : Str) = some (.str (SL (WT.kidsW kids)))) (hz : (WT.kidsW kids).length <= 100000) :
    InvT h L sd c w kids kids.length ⟨h ++ m ++ [AO.tup [.str (SL [c]), .str sd, .int w]] ++ [AO.list [.obj (h ++ m).length]], lc⟩ := by
  rw [List.length_append, List.length_append, hm] at l2
  have e : h ++ m ++ [AO.tup [.str (SL [c]), .str sd, .int w]] ++ [AO.list [.obj (h ++ m).length]] = h ++ (m ++ [AO.tup [.str (SL [c]), .str sd, .int w], AO.list [.obj (h.length + 3)]]) := by simp [hm]
  refine rwE e ?_
  have f : ∀ i o, [AO.tup [.str (SL [c]), .str sd, .int w], AO.list [.obj (h.length + 3)]][i]? = some o -> (h ++ (m ++ [AO.tup [.str (SL [c]), .str sd, .int w], AO.list [.obj (h.length + 3)]]))[h.length + (3 + i)]? = some o := fun i o q => by
    rw [beyond, show 3 + i = m.length + i by exact rwE hm rfl, beyond]; exact q
  exact ⟨[], kids, _, _, lc, rfl, rfl, f 1 _ rfl, .cons (f 0 _ rfl) (by rw [WT.rowsK]; exact .nil), l1, l2, l3, rfl, hz⟩
theorem InvT.step {h more more1 : Hp} {L : List Nat} {sd : Str} {c w : Nat} {kids dn r : List WT} {k : WT} {lc : Loc} {vs vs1 : List AV} (hk : kids = dn ++ k :: r) (hr : (h ++ more)[h.length + 4]? = some (.list vs)) (hw : Rows (h ++ more) vs ((c, sd, w) :: WT.rowsK (SL [c]) dn)) (hw1 : Rows (h ++ more ++ more1) vs1 (k.rows (SL [c])))
    (l1 : lc.lookup ("words" : Str) = some (.str (SL L))) (l2 : lc.lookup ("told" : Str) = some (.obj (h.length + 4))) (l3 : lc.lookup ("rest" : Str) = some (.str (SL (WT.kidsW r)))) (hz : (WT.kidsW r).length <= 100000) :
    InvT h L sd c w kids r.length ⟨(h ++ more ++ more1).set (h.length + 4) (.list (vs ++ vs1)), lc⟩ := by
  have hr0 : (h ++ more ++ more1)[h.length + 4]? = some (.list vs) := oldAt hr
  have hk2 : ∀ (n : Nat) (x : List AV), (h ++ more ++ more1)[n]? = some (AO.tup x) -> ((h ++ more ++ more1).set (h.length + 4) (.list (vs ++ vs1)))[n]? = some (AO.tup x) := fun n x hx => by
    refine rwE (List.getElem?_set) (rwE (if_neg fun q => by rw [← q, hr0] at hx; cases hx) ?_); exact hx
  have e1 : (h ++ more ++ more1).set (h.length + 4) (.list (vs ++ vs1)) = h ++ (more ++ more1).set 4 (.list (vs ++ vs1)) := by
    exact rwE (List.append_assoc ..) (rwE (set_beyond (Nat.le_add_right _ _) ..) (rwE (Nat.add_sub_cancel_left ..) rfl))
  have g1 := getSet (o' := .list (vs ++ vs1)) hr0
  have g2 := ((hw.mono fun n x hx => oldAt hx).append hw1).mono hk2
  rw [e1] at g1 g2 ⊢
  refine ⟨dn ++ [k], r, _, _, lc, by refine rwE (hk ..) (rwE (List.append_assoc ..) ?_); rfl, rfl, g1, ?_, l1, l2, l3, rfl, hz⟩
  refine rwE (rowsK_app ..) ?_
  simpa [WT.rowsK] using g2
theorem told_step {D : Nat} {c m w : Nat} {ds : List Nat} {kids : List WT} (rec : ∀ T' ∈ kids, ToldAt (D + 1) T') : ToldAt (D + 2) (.node c m ds w kids) := by
  intro hok hwl hsz h sd P hP
  refine xAAAAAAA (hok) fun o1 o2 o3 o4 o5 o6 o7 o8 => ?_
  rw [WT.words] at hwl ⊢
  rw [WT.size] at hsz
  rw [WT.rows] at hP
  have hlen := hd_len (c := c) (m := m) (ds := ds) (tail := WT.kidsW kids)
  have hkl : (WT.kidsW kids).length <= 100000 /\ (head229 c m ds ++ WT.kidsW kids).length <= 1000000 /\ 11 + ds.length + 1 <= (head229 c m ds ++ WT.kidsW kids).length := by lia
  have hr := (hd_end (c := c) (m := m) (ds := ds) (tail := WT.kidsW kids)).2
  have nr : ∀ v, v < 11 + ds.length -> (head229 c m ds ++ WT.kidsW kids)[v]? ≠ some 41 := fun v h2 q => o2 (hd_paren o3 o4 h2 q).2
  have h4 : (head229 c m ds ++ WT.kidsW kids)[4]? = some c := rfl
  have hdr := hd_drop (c := c) (m := m) (ds := ds) (tail := WT.kidsW kids)
  have h229 := fun {d t : Nat} {h : Hp} (ht : h[t]? = some (.tup [.str sd, .int 0])) {P : AV -> Hp -> Prop} (hP) => parse229_sound (d := d) (tail := WT.kidsW kids) (Nat.le_trans hkl.1 (by decide)) o5 o1 o3 o4 ht o6 o7 (P := P) hP
  generalize head229 c m ds ++ WT.kidsW kids = L at *
  clear o1 o2 o3 o4 o5 o6 o7 hwl hlen
  refine CALL.intro (d := D + 1) (binds := [("words", .str (SL L)), ("sender", .str sd)]) (h1 := h) (st1 := ⟨h, [("sender", .str sd), ("words", .str (SL L))]⟩) (by kernel_rfl) (by kernel_rfl) ?_
  apply DS.unpackF (by kernel_rfl) rfl (by decide) (by kernel_rfl) Glob.parse229 (by walk_at "mok")
  walk_at "mr"
  refine CALLV.fn (a := 65) rfl (h229 lastAt (UnpP.mk (assignT2 beyond (by kernel_rfl) (by kernel_rfl)) ?_))
  walk_at "mr"
  exact item_str (k := 4) h4 hkl.2.1
  walk_at "mr"
  exact bm_find (k := 11 + ds.length) hkl.2.1 hr nr
  walk_at "mr"
  exact slice_from (i := 11 + ds.length + 1) hkl.2.2 hkl.2.1
  refine rwE hdr ?_
  walk_at "md"
  refine rwE (List.append_assoc h ..) ?_
  refine WHILE.inv (InvT h L sd c w kids) (fun k st hI => ?_) (InvT.start rfl (by kernel_rfl) (by kernel_rfl) (by kernel_rfl) hkl.1)
  obtain ⟨dn, td, more, vs, lc, rfl, rfl, hr0, hrows, l1, l2, l3, rfl, htl⟩ := hI
  cases td with
  | nil =>
    apply DS.whileF
    walk_at "mr"
    exact truth_str (l := []) (Nat.zero_le _)
    walk_at "mr"
    rw [List.append_nil] at hP
    exact hP _ more vs hr0 (Nat.le_add_right _ _) hrows
  | cons k r =>
    have hw : k.words.length <= 100000 /\ (WT.kidsW r).length <= 100000 /\ 6 + (dq k.words).length <= (WT.kidsW (k :: r)).length := by
      have h1 := kidsW_len k r
      have h2 := dq_len k.words
      have h3 := cnt_pos k.words
      lia
    have hs : vs.length + k.size <= 1000 /\ k.size <= 1000 := by
      have h1 := sizeK_app dn (k :: r)
      rw [WT.sizeK] at h1
      have h2 := hrows.length
      simp only [List.length_cons, rowsK_len] at h2
      lia
    have hb : WT.kidsW (k :: r) = 50 :: 53 :: 55 :: 32 :: 34 :: (dq k.words ++ 34 :: WT.kidsW r) := by rw [WT.kidsW]
    apply DS.whileT
    walk_at "mr"
    exact TRU.str (by refine rwE (SL_len ..) ?_; exact Nat.le_trans htl (by decide)) (by refine rwE hb ?_; rfl)
    rw [hb] at l3
    walk_at "mr"
    refine CALLV.fn (a := 72) rfl (parse257_sound (d := D) (by rw [hb] at htl; simp only [List.length_cons] at htl; lia) ?_)
    refine rwE (unq_dq (kidsW_head r) ..) ?_
    walk_at "mr"
    exact item_str (k := 4) h4 hkl.2.1
    walk_at "mr"
    refine CALLV.fn (a := 232) rfl (rec k (by simp) (okK_mem o8 k (by simp)) hw.1 hs.2 _ _ _ fun r1 more1 vs1 hv1 hr1 hrw1 => ?_)
    refine AugP.mk (aug_lists (oldAt hr0) hv1 (Nat.ne_of_lt (Nat.lt_of_lt_of_le (List.getElem?_eq_some_iff.mp hr0).1 hr1)) (by refine rwE (hrw1.length ..) (rwE (rows_len ..) ?_); exact hs.1)) ?_
    walk_at "mr"
    exact len_str (Nat.le_trans hw.1 (by decide))
    walk_at "mr"
    exact bm_count (Nat.le_trans hw.1 (by decide))
    exact count_at
    walk_at "mr"
    refine rwB hb ?_
    exact slice_from (i := 6 + (dq k.words).length) hw.2.2 (Nat.le_trans htl (by decide))
    refine rwE (kid_drop ..) ?_
    walk_at "mr"
    exact DS.turn (k' := r.length) (by exact Nat.le_refl _) (InvT.step rfl hr0 hrows hrw1 l1 (by kernel_rfl) (by kernel_rfl) hw.2.1)
theorem told_sound : ∀ (k : Nat) (T : WT), T.height <= k + 1 -> ∀ e, ToldAt (k + 2 + e) T := by
  have hk1 : ∀ l : List WT, ∀ x ∈ l, x.height <= WT.heightK l := fun l => by
    induction l with
    | nil => intro x hx; cases hx
    | cons a b ih =>
      intro x hx
      rw [WT.heightK]
      rcases List.mem_cons.mp hx with rfl | hx
      . exact Nat.le_max_left _ _
      . exact Nat.le_trans (ih x hx) (Nat.le_max_right _ _)
  intro k
  induction k with
  | zero =>
    intro T hT e
    obtain ⟨c, m, ds, w, kids⟩ := T
    rw [WT.height] at hT
    have : 0 + 2 + e = e + 2 := by exact Nat.add_comm _ _
    refine rwE this ?_
    refine told_step fun T' hT' => ?_
    have h1 := hk1 kids T' hT'
    obtain ⟨c', m', ds', w', kids'⟩ := T'
    rw [WT.height] at h1
    lia
  | succ k ih =>
    intro T hT e
    obtain ⟨c, m, ds, w, kids⟩ := T
    rw [WT.height] at hT
    have : k + 1 + 2 + e = (k + 1 + e) + 2 := by lia
    rw [this]
    refine told_step fun T' hT' => ?_
    have h1 := hk1 kids T' hT'
    have := ih T' (by lia) e
    rw [show k + 2 + e = k + 1 + e + 1 by lia] at this
    exact this
theorem putCell {fe : FE} {x : Str} {v : AV} {st : St} {c : Nat} {u : Option AV} (hk : fe.names.lookup x = some .cell) (hc : fe.cells.lookup x = some c) (ho : st.hp[c]? = some (.cell u)) : putName fe x v st = some ⟨st.hp.set c (.cell (some v)), st.lc⟩ := by
  unfold putName
  lia
theorem getCell {fe : FE} {x : Str} {v : AV} {st : St} {c : Nat} (hk : fe.names.lookup x = some .cell) (hc : fe.cells.lookup x = some c) (ho : st.hp[c]? = some (.cell (some v))) (hd : x ≠ "__classdict__" := by decide) : getName fe x st = some v := by
  unfold getName
  lia
theorem getFree {fe : FE} {x : Str} {v : AV} {st : St} {c : Nat} (hk : fe.names.lookup x = some .free) (hc : fe.cells.lookup x = some c) (ho : st.hp[c]? = some (.cell (some v))) (hd : x ≠ "__classdict__" := by decide) : getName fe x st = some v := by
  unfold getName
  lia
theorem bind_local {fe : FE} {x : Str} {v : AV} {r : List (Str × AV)} {st st' : St} (hk : fe.names.lookup x = some .local) (h : bindAll fe r ⟨st.hp, (x, v) :: st.lc⟩ = some st') : bindAll fe ((x, v) :: r) st = some st' := by
  refine (?_ : (putName fe x v st).bind (bindAll fe r) = _)
  unfold putName
  refine rwE hk ?_
  exact h
theorem bind_cell {fe : FE} {x : Str} {v : AV} {r : List (Str × AV)} {st st' : St} {c : Nat} {u : Option AV} (hk : fe.names.lookup x = some .cell) (hc : fe.cells.lookup x = some c) (ho : st.hp[c]? = some (.cell u)) (h : bindAll fe r ⟨st.hp.set c (.cell (some v)), st.lc⟩ = some st') : bindAll fe ((x, v) :: r) st = some st' := by
  refine (?_ : (putName fe x v st).bind (bindAll fe r) = _)
  refine rwE (putCell hk hc ho) ?_
  exact h
theorem set_last {h : Hp} {o o' : AO} : (h ++ [o]).set h.length o' = h ++ [o'] := by
  refine rwE (List.set_append_right _ _ (Nat.le_refl _)) ?_; simp
noncomputable def chl (pa : Nat -> Nat) (v : Nat) : List Nat := [1, 2, 3, 4, 5].filter fun c => pa c = v
noncomputable def bef (L : Nat -> Int) (a b : Nat) : Bool := if -L a = -L b then decide (a < b) else decide (-L a < -L b)
noncomputable def insR (L : Nat -> Int) (x : Nat) : List Nat -> List Nat
  | [] => [x]
  | y :: r => if bef L x y then x :: y :: r else y :: insR L x r
noncomputable def srtR (L : Nat -> Int) : List Nat -> List Nat
  | [] => []
  | x :: r => insR L x (srtR L r)
noncomputable def cutN (lim : Int) : Int -> List Int -> Nat
  | _, [] => 0
  | load, x :: r => if lim < load then cutN lim (load - x) r + 1 else 0

theorem sumI_perm {l₁ l₂ : List Int} (h : l₁.Perm l₂) : l₁.sum = l₂.sum := by
  induction h with
  | nil => rfl
  | cons x _ ih => simp [ih]
  | swap x y l => simp only [List.sum_cons]; lia
  | trans _ _ a b => exact a.trans b
theorem insR_perm (L : Nat -> Int) (x : Nat) : ∀ l, (insR L x l).Perm (x :: l)
  | [] => .refl _
  | y :: r => by
    unfold insR
    split
    . exact .refl _
    . exact ((insR_perm L x r).cons y).trans (.swap x y r)
theorem srtR_perm (L : Nat -> Int) : ∀ l, (srtR L l).Perm l
  | [] => .refl _
  | x :: r => (insR_perm L x (srtR L r)).trans ((srtR_perm L r).cons x)
theorem bef_irr {L : Nat -> Int} {a : Nat} : bef L a a = false := by simp [bef]
theorem bef_trans {L : Nat -> Int} {a b c : Nat} (h1 : bef L a b = true) (h2 : bef L b c = true) : bef L a c = true := by
  unfold bef at *
  split at h1 <;> split at h2 <;> (split <;> simp_all <;> lia)
theorem bef_total {L : Nat -> Int} {a b : Nat} (h : bef L a b = false) (hne : a ≠ b) : bef L b a = true := by
  unfold bef at *
  split at h <;> (split <;> simp_all <;> lia)
set_option tactic.hygienic true in
theorem insR_sorted {L : Nat -> Int} {x : Nat} : ∀ {l : List Nat}, l.Pairwise (fun a b => bef L a b = true) -> x ∉ l -> (insR L x l).Pairwise (fun a b => bef L a b = true)
  | [], _, _ => by simp [insR]
  | y :: r, h, hx => by
    have h0 := h
    rw [List.pairwise_cons] at h
    simp only [List.mem_cons, not_or] at hx
    unfold insR
    split
    . rename_i hb
      refine List.pairwise_cons.mpr ⟨fun c hc => ?_, h0⟩
      rcases List.mem_cons.mp hc with rfl | hc
      . exact hb
      . exact bef_trans hb (h.1 c hc)
    . rename_i hb
      refine List.pairwise_cons.mpr ⟨fun c hc => ?_, insR_sorted h.2 hx.2⟩
      rcases List.mem_cons.mp ((insR_perm L x r).mem_iff.mp hc) with rfl | hc
      . exact bef_total (by simpa using hb) hx.1
      . exact h.1 c hc
theorem srtR_sorted {L : Nat -> Int} : ∀ {l : List Nat}, l.Nodup -> (srtR L l).Pairwise (fun a b => bef L a b = true)
  | [], _ => by simp [srtR]
  | x :: r, h => by
    rw [List.nodup_cons] at h
    exact insR_sorted (srtR_sorted h.2) fun q => h.1 ((srtR_perm L r).mem_iff.mp q)
theorem insR_congr {f g : Nat -> Int} {x : Nat} : ∀ {l : List Nat}, f x = g x -> (∀ c ∈ l, f c = g c) -> insR f x l = insR g x l
  | [], _, _ => rfl
  | y :: r, hx, h => by
    unfold insR
    have : bef f x y = bef g x y := by unfold bef; exact rwE hx (rwE (h y (.head _)) rfl)
    exact rwE this (rwE (insR_congr hx fun c hc => h c (.tail _ hc)) rfl)
theorem srtR_congr {f g : Nat -> Int} : ∀ {l : List Nat}, (∀ c ∈ l, f c = g c) -> srtR f l = srtR g l
  | [], _ => rfl
  | x :: r, h => by
    refine (?_ : insR f x (srtR f r) = insR g x (srtR g r))
    refine rwE (srtR_congr fun c hc => h c (.tail _ hc)) ?_
    exact insR_congr (h x (.head _)) fun c hc => h c (.tail _ ((srtR_perm g r).mem_iff.mp hc))

theorem tableFix {α : Type} (step : (Nat -> α) -> Nat -> α) (d : α) (hc : ∀ f g v, (∀ c, v < c -> c <= 5 -> f c = g c) -> step f v = step g v) : ∃ f : Nat -> α, ∀ v, v <= 5 -> f v = step f v := by
  let F : Nat -> Nat -> α := fun n => Nat.rec (fun z9 => d) (fun z9 f v => step f v) n
  have key : ∀ n v, v <= 5 -> 6 <= n + v -> F n v = F (n + 1) v := by
    intro n
    induction n with
    | zero => intro v h1 h2; lia
    | succ n ih => intro v h1 h2; exact hc _ _ _ fun c h3 h4 => ih c h4 (by lia)
  exact ⟨F 6, fun v hv => key 6 v hv (Nat.le_add_right _ _)⟩

theorem mem_chl {pa : Nat -> Nat} {v c : Nat} : c ∈ chl pa v ↔ (1 <= c /\ c <= 5) /\ pa c = v := by
  unfold chl
  refine rwE (propext List.mem_filter) ?_
  simp only [List.mem_cons, List.not_mem_nil, or_false, decide_eq_true_eq]
  constructor <;> intro h <;> refine ⟨by lia, h.2⟩
theorem chl_nodup (pa : Nat -> Nat) (v : Nat) : (chl pa v).Nodup := List.Pairwise.filter _ (by decide)
theorem chl_lt {pa : Nat -> Nat} (hpa : ∀ c, 1 <= c -> c <= 5 -> pa c < c) {v c : Nat} (h : c ∈ chl pa v) : v < c /\ c <= 5 := by
  have := mem_chl.mp h
  have := hpa c (by lia) (by lia)
  lia

structure Gr (pa : Nat -> Nat) (W : Nat -> Int) (lim : Int) (gl : Nat -> Int) (s : Nat -> List Nat) (j : Nat -> Nat) : Prop where
  hpa : ∀ c, 1 <= c -> c <= 5 -> pa c < c
  w0 : ∀ v, v <= 5 -> 1 <= W v /\ W v <= lim
  hs : ∀ v, v <= 5 -> s v = srtR gl (chl pa v)
  hj : ∀ v, v <= 5 -> j v = cutN lim (W v + ((s v).map gl).sum) ((s v).map gl)
  hl : ∀ v, v <= 5 -> gl v = W v + (((s v).drop (j v)).map gl).sum

theorem Gr.exists {pa : Nat -> Nat} {W : Nat -> Int} {lim : Int} (hpa : ∀ c, 1 <= c -> c <= 5 -> pa c < c) (w0 : ∀ v, v <= 5 -> 1 <= W v /\ W v <= lim) : ∃ gl s j, Gr pa W lim gl s j := by
  obtain ⟨gl, h⟩ := tableFix (fun f v => W v + (((srtR f (chl pa v)).drop (cutN lim (W v + ((srtR f (chl pa v)).map f).sum) ((srtR f (chl pa v)).map f))).map f).sum) 0 (by
    intro f g v h
    have h1 : ∀ c ∈ chl pa v, f c = g c := fun c hc => h c (chl_lt hpa hc).1 (chl_lt hpa hc).2
    have h2 : srtR f (chl pa v) = srtR g (chl pa v) := srtR_congr h1
    have h3 : ∀ c ∈ srtR g (chl pa v), f c = g c := fun c hc => h1 c ((srtR_perm g _).mem_iff.mp hc)
    refine rwE h2 (rwE (List.map_congr_left h3) ?_)
    congr 2
    exact List.map_congr_left fun c hc => h3 c (List.mem_of_mem_drop hc))
  exact ⟨gl, fun v => srtR gl (chl pa v), fun v => cutN lim (W v + ((srtR gl (chl pa v)).map gl).sum) ((srtR gl (chl pa v)).map gl), hpa, w0, fun z9 z9 => rfl, fun z9 z9 => rfl, h⟩

theorem cutN_fits {lim : Int} : ∀ {l : List Int} {load : Int}, load - l.sum <= lim -> load - (l.take (cutN lim load l)).sum <= lim
  | [], load, h => by simpa [cutN] using h
  | x :: r, load, h => by
    unfold cutN
    split
    . simp only [List.take_succ_cons, List.sum_cons] at *
      have := cutN_fits (lim := lim) (l := r) (load := load - x) (by lia)
      lia
    . simp only [List.take_zero, List.sum_nil]; lia
set_option tactic.hygienic true in
theorem cutN_least {lim : Int} : ∀ {l : List Int} {load : Int} {m : Nat}, load - (l.take m).sum <= lim -> cutN lim load l <= m
  | [], load, m, h => by exact Nat.zero_le _
  | x :: r, load, m, h => by
    unfold cutN
    split
    . rename_i hl
      cases m with
      | zero => simp at h; lia
      | succ m =>
        simp only [List.take_succ_cons, List.sum_cons] at h
        have := cutN_least (lim := lim) (l := r) (load := load - x) (m := m) (by lia)
        exact Nat.lt_succ_of_le ‹_›
    . exact Nat.zero_le _
theorem sum_take_drop (l : List Int) (n : Nat) : (l.take n).sum + (l.drop n).sum = l.sum := by
  exact rwB (List.sum_append ..) (rwE (List.take_append_drop ..) rfl)
theorem take_le {x : Int} (hx : 0 <= x) : ∀ (l : List Int) (m : Nat), (∀ y ∈ l, y <= x) -> (l.take (m + 1)).sum <= x + (l.take m).sum
  | [], m, _ => by simpa using hx
  | y :: r, 0, h => by have := h y (.head _); simp; assumption
  | y :: r, m + 1, h => by
    have := take_le hx r m fun z hz => h z (.tail _ hz)
    simp only [List.take_succ_cons, List.sum_cons] at *
    lia
theorem some_le (f : Nat -> Int) (b : Nat -> Bool) : ∀ s : List Nat, s.Pairwise (fun a c => f c <= f a) -> (∀ c ∈ s, 0 <= f c) -> (s.map fun c => if b c then f c else 0).sum <= ((s.map f).take (s.countP b)).sum
  | [], _, _ => by simp
  | x :: r, h, h0 => by
    rw [List.pairwise_cons] at h
    have ih := some_le f b r h.2 fun c hc => h0 c (.tail _ hc)
    by_cases hb : b x = true
    . refine rwE (List.countP_cons_of_pos hb) ?_
      simp only [List.map_cons, List.sum_cons, hb, if_true, List.take_succ_cons]
      lia
    . refine rwE (List.countP_cons_of_neg hb) ?_
      simp only [List.map_cons, List.sum_cons, hb]
      cases hm : r.countP b with
      | zero => rw [hm] at ih; simp at ih ⊢; assumption
      | succ m =>
        rw [hm] at ih
        simp only [List.take_succ_cons, List.sum_cons]
        have := take_le (h0 x (.head _)) (r.map f) m fun y hy => by
          (refine xEA (List.mem_map.mp hy) fun c hc hz2 => ?_; subst hz2)
          exact h.1 c hc
        have h3 : (if false = true then f x else 0) = 0 := by dsimp
        simp at *
        exact Int.le_trans ‹_› ‹_›
theorem local_opt {s : List Nat} {w lim : Int} {g F : Nat -> Int} {gc C : Nat -> Nat} {b : Nat -> Bool} (hsort : s.Pairwise (fun a c => g c <= g a)) (hg : ∀ c ∈ s, 0 <= g c) (hF : ∀ c ∈ s, 0 <= F c)
    (hlex : ∀ c ∈ s, gc c < C c ∨ (gc c = C c /\ g c <= F c)) (hfit : w + (s.map fun c => if b c then 0 else F c).sum <= lim) {j : Nat} (hj : j = cutN lim (w + (s.map g).sum) (s.map g)) :
    (s.map gc).sum + j < (s.map fun c => C c + (b c).toNat).sum ∨ ((s.map gc).sum + j = (s.map fun c => C c + (b c).toNat).sum /\ w + ((s.drop j).map g).sum <= w + (s.map fun c => if b c then 0 else F c).sum) := by
  let b' : Nat -> Bool := fun c => b c || decide (gc c < C c)
  have h1 : (s.map gc).sum + s.countP b' <= (s.map fun c => C c + (b c).toNat).sum := by
    clear hsort hg hF hfit hj
    induction s with
    | nil => exact Nat.le_refl _
    | cons x r ih =>
      have ih := ih fun c hc => hlex c (.tail _ hc)
      have hx := hlex x (.head _)
      simp only [List.map_cons, List.sum_cons, List.countP_cons]
      by_cases hb : b x = true
      . have : b' x = true := by lia
        simp only [this, hb, if_true, Bool.toNat_true]; lia
      . by_cases hc : gc x < C x
        . have : b' x = true := by lia
          simp only [this, if_true]; lia
        . have : b' x = false := by lia
          simp only [this]; simp; lia
  have h2 : (s.map g).sum - (s.map fun c => if b' c then g c else 0).sum <= (s.map fun c => if b c then 0 else F c).sum := by
    clear hsort h1 hfit hj
    induction s with
    | nil => simp
    | cons x r ih =>
      have ih := ih (fun c hc => hg c (.tail _ hc)) (fun c hc => hF c (.tail _ hc)) fun c hc => hlex c (.tail _ hc)
      have hx := hlex x (.head _)
      have hgx := hg x (.head _)
      have hFx := hF x (.head _)
      simp only [List.map_cons, List.sum_cons]
      by_cases hb : b x = true
      . have : b' x = true := by lia
        simp only [this, hb, if_true]; omega
      . by_cases hc : gc x < C x
        . have : b' x = true := by lia
          simp only [this, hb, if_true]; simp; omega
        . have : b' x = false := by lia
          simp only [this, hb]; simp; lia
  have h3 := some_le g b' s hsort hg
  have h4 : j <= s.countP b' := by
    refine rwE hj ?_
    exact cutN_least (by lia)
  have h5 := sum_take_drop (s.map g) j
  rw [← List.map_drop] at h5
  by_cases h6 : (s.map gc).sum + j < (s.map fun c => C c + (b c).toNat).sum
  . exact .inl h6
  . have : s.countP b' = j := by lia
    rw [this] at h3
    exact .inr ⟨by lia, by lia⟩

theorem treeSum {pa : Nat -> Nat} (hpa : ∀ c, 1 <= c -> c <= 5 -> pa c < c) {X e : Nat -> Nat} (h : ∀ v, v <= 5 -> X v = e v + ((chl pa v).map X).sum) : X 0 = e 0 + e 1 + e 2 + e 3 + e 4 + e 5 := by
  let t : Nat -> Nat -> Nat := fun c v => if pa c = v then X c else 0
  have hc : ∀ v, ((chl pa v).map X).sum = t 1 v + t 2 v + t 3 v + t 4 v + t 5 v := fun v => by
    have : ∀ l : List Nat, ((l.filter fun c => pa c = v).map X).sum = (l.map fun c => t c v).sum := fun l => by
      induction l with
      | nil => rfl
      | cons x r ih =>
        refine rwE List.filter_cons ?_
        by_cases hx : pa x = v
        . simp [hx, ih, t]
        . simp [hx, ih, t]
    have := this [1, 2, 3, 4, 5]
    unfold chl
    refine rwE this ?_
    simp
    lia
  have hs : ∀ c, 1 <= c -> c <= 5 -> t c 0 + t c 1 + t c 2 + t c 3 + t c 4 + t c 5 = X c := fun c h1 h2 => by
    have h3 : pa c < 6 := by have := hpa c h1 h2; lia
    refine (?_ : (if pa c = 0 then X c else 0) + (if pa c = 1 then X c else 0) + (if pa c = 2 then X c else 0) + (if pa c = 3 then X c else 0) + (if pa c = 4 then X c else 0) + (if pa c = 5 then X c else 0) = X c)
    generalize pa c = p at h3
    have : p = 0 ∨ p = 1 ∨ p = 2 ∨ p = 3 ∨ p = 4 ∨ p = 5 := by lia
    rcases this with rfl | rfl | rfl | rfl | rfl | rfl <;> simp
  have a0 := h 0 (Nat.zero_le _); have a1 := h 1 (Nat.succ_pos _); have a2 := h 2 (Nat.le_add_left _ _); have a3 := h 3 (Nat.le_add_left _ _); have a4 := h 4 (Nat.le_succ _); have a5 := h 5 (Nat.lt_succ_self _)
  rw [hc] at a0 a1 a2 a3 a4 a5
  have b1 := hs 1 (Nat.succ_pos _) (by lia); have b2 := hs 2 (Nat.succ_pos _) (by lia); have b3 := hs 3 (Nat.succ_pos _) (by lia); have b4 := hs 4 (Nat.succ_pos _) (by lia); have b5 := hs 5 (by lia) (by lia)
  generalize t = t at *
  lia

theorem Gr.s_perm {pa : Nat -> Nat} {W : Nat -> Int} {lim : Int} {gl : Nat -> Int} {s : Nat -> List Nat} {j : Nat -> Nat} (G : Gr pa W lim gl s j) {v : Nat} (hv : v <= 5) : (s v).Perm (chl pa v) := by refine rwE (G.hs v hv) ?_; exact srtR_perm _ _
theorem Gr.s_lt {pa : Nat -> Nat} {W : Nat -> Int} {lim : Int} {gl : Nat -> Int} {s : Nat -> List Nat} {j : Nat -> Nat} (G : Gr pa W lim gl s j) {v c : Nat} (hv : v <= 5) (hc : c ∈ s v) : v < c /\ c <= 5 := chl_lt G.hpa ((G.s_perm hv).mem_iff.mp hc)
theorem downInd {P : Nat -> Prop} (h : ∀ v, v <= 5 -> (∀ c, v < c -> c <= 5 -> P c) -> P v) : ∀ v, v <= 5 -> P v := by
  have h5 := h 5 (by lia) (fun c h1 h2 => by lia)
  have h4 := h 4 (by lia) (fun c h1 h2 => by rcases (by lia : c = 5) with rfl; exact h5)
  have h3 := h 3 (by lia) (fun c h1 h2 => by rcases (by lia : c = 4 ∨ c = 5) with rfl | rfl <;> assumption)
  have h2 := h 2 (by lia) (fun c h1 h2 => by rcases (by lia : c = 3 ∨ c = 4 ∨ c = 5) with rfl | rfl | rfl <;> assumption)
  have h1 := h 1 (by lia) (fun c h1 h2 => by rcases (by lia : c = 2 ∨ c = 3 ∨ c = 4 ∨ c = 5) with rfl | rfl | rfl | rfl <;> assumption)
  have h0 := h 0 (by lia) (fun c h1 h2 => by rcases (by lia : c = 1 ∨ c = 2 ∨ c = 3 ∨ c = 4 ∨ c = 5) with rfl | rfl | rfl | rfl | rfl <;> assumption)
  intro v hv
  rcases (by lia : v = 0 ∨ v = 1 ∨ v = 2 ∨ v = 3 ∨ v = 4 ∨ v = 5) with rfl | rfl | rfl | rfl | rfl | rfl <;> assumption
theorem sum_nonneg {l : List Int} (h : ∀ x ∈ l, 0 <= x) : 0 <= l.sum := by
  induction l with
  | nil => simp
  | cons x r ih => have := h x (.head _); have := ih fun y hy => h y (.tail _ hy); simp; lia
theorem le_sum {l : List Int} (h : ∀ x ∈ l, 0 <= x) {x : Int} (hx : x ∈ l) : x <= l.sum := by
  induction l with
  | nil => cases hx
  | cons y r ih =>
    have h1 := h y (.head _)
    have h2 := sum_nonneg fun z hz => h z (.tail _ hz)
    simp only [List.sum_cons]
    rcases List.mem_cons.mp hx with rfl | hx
    . lia
    . have := ih (fun z hz => h z (.tail _ hz)) hx; lia
theorem Gr.gl_ok {pa : Nat -> Nat} {W : Nat -> Int} {lim : Int} {gl : Nat -> Int} {s : Nat -> List Nat} {j : Nat -> Nat} (G : Gr pa W lim gl s j) : ∀ v, v <= 5 -> 1 <= gl v /\ gl v <= lim := by
  refine downInd fun v hv ih => ?_
  have h0 : ∀ x ∈ ((s v).drop (j v)).map gl, 0 <= x := fun x hx => by
    (refine xEA (List.mem_map.mp hx) fun c hc hz2 => ?_; subst hz2)
    have := G.s_lt hv (List.mem_of_mem_drop hc)
    have := ih c this.1 this.2
    lia
  have h1 := sum_nonneg h0
  have h2 := G.hl v hv
  have h3 := G.w0 v hv
  refine ⟨by lia, ?_⟩
  have h4 := sum_take_drop ((s v).map gl) (j v)
  rw [← List.map_drop] at h4
  have h5 := cutN_fits (lim := lim) (l := (s v).map gl) (load := W v + ((s v).map gl).sum) (by lia)
  rw [← G.hj v hv] at h5
  lia
theorem Gr.j_le {pa : Nat -> Nat} {W : Nat -> Int} {lim : Int} {gl : Nat -> Int} {s : Nat -> List Nat} {j : Nat -> Nat} (G : Gr pa W lim gl s j) {v : Nat} (hv : v <= 5) : j v <= (s v).length := by
  refine rwE (G.hj v hv) ?_
  refine cutN_least ?_
  have := G.w0 v hv
  refine rwE (List.take_of_length_le (by simp)) ?_
  lia
noncomputable def Ld (pa : Nat -> Nat) (W : Nat -> Int) (b : Nat -> Bool) (F : Nat -> Int) : Prop := ∀ v, v <= 5 -> F v = W v + ((chl pa v).map fun c => if b c then 0 else F c).sum
theorem Ld.exists {pa : Nat -> Nat} (hpa : ∀ c, 1 <= c -> c <= 5 -> pa c < c) (W : Nat -> Int) (b : Nat -> Bool) : ∃ F, Ld pa W b F :=
  tableFix (fun F v => W v + ((chl pa v).map fun c => if b c then 0 else F c).sum) 0 fun f g v h => by
    show W v + _ = W v + _
    congr 2
    exact List.map_congr_left fun c hc => by exact rwE (h c (chl_lt hpa hc).1 (chl_lt hpa hc).2) rfl
theorem Ld.pos {pa : Nat -> Nat} (hpa : ∀ c, 1 <= c -> c <= 5 -> pa c < c) {W : Nat -> Int} {b : Nat -> Bool} {F : Nat -> Int} (h : Ld pa W b F) (w0 : ∀ v, v <= 5 -> 1 <= W v) : ∀ v, v <= 5 -> 1 <= F v := by
  refine downInd fun v hv ih => ?_
  have h1 := h v hv
  have h2 := w0 v hv
  have : 0 <= ((chl pa v).map fun c => if b c then 0 else F c).sum := sum_nonneg fun x hx => by
    (refine xEA (List.mem_map.mp hx) fun c hc hz2 => ?_; subst hz2)
    have := ih c (chl_lt hpa hc).1 (chl_lt hpa hc).2
    split <;> lia
  lia
theorem optimal {pa : Nat -> Nat} {W : Nat -> Int} {lim : Int} {gl : Nat -> Int} {s : Nat -> List Nat} {j : Nat -> Nat} (G : Gr pa W lim gl s j) {b : Nat -> Bool} {F : Nat -> Int} (hF : Ld pa W b F) (hb : b 0 = false)
    (hfit : ∀ c, c <= 5 -> b c = true -> F c <= lim) (h0 : F 0 <= lim) {N M : Nat} (hN : N = j 0 + j 1 + j 2 + j 3 + j 4 + j 5) (hM : M = (b 1).toNat + (b 2).toNat + (b 3).toNat + (b 4).toNat + (b 5).toNat) :
    N < M ∨ (N = M /\ gl 0 <= F 0) := by
  obtain ⟨C, hC⟩ := tableFix (fun (f : Nat -> Nat) v => ((chl pa v).map fun c => f c + (b c).toNat).sum) 0 fun f g v h => by
    show List.sum _ = List.sum _
    congr 1
    exact List.map_congr_left fun c hc => by exact rwE (h c (chl_lt G.hpa hc).1 (chl_lt G.hpa hc).2) rfl
  obtain ⟨gc, hgc⟩ := tableFix (fun (f : Nat -> Nat) v => j v + ((chl pa v).map f).sum) 0 fun f g v h => by
    show j v + _ = j v + _
    congr 2
    exact List.map_congr_left fun c hc => by exact rwE (h c (chl_lt G.hpa hc).1 (chl_lt G.hpa hc).2) rfl
  have hC0 : C 0 = M := by
    have := treeSum G.hpa (X := fun v => C v + (b v).toNat) (e := fun v => (b v).toNat) fun v hv => by
      refine rwE (hC v hv) ?_; exact Nat.add_comm _ _
    rw [hb] at this
    simp at this
    lia
  have hg0 : gc 0 = N := by exact rwE (treeSum G.hpa (X := gc) (e := j) hgc) (rwE hN rfl)
  have hFp := hF.pos G.hpa fun v hv => (G.w0 v hv).1
  have key : ∀ v, v <= 5 -> F v <= lim -> gc v < C v ∨ (gc v = C v /\ gl v <= F v) := by
    refine downInd fun v hv ih hlim => ?_
    have hp := G.s_perm hv
    have e1 := (hp.map fun c => C c + (b c).toNat).sum_nat
    have e2 := (hp.map gc).sum_nat
    have e3 := sumI_perm (hp.map fun c => if b c then 0 else F c)
    have hFv := hF v hv
    have hcf : ∀ c ∈ s v, F c <= lim := fun c hc => by
      have hlt := G.s_lt hv hc
      by_cases hbc : b c = true
      . exact hfit c hlt.2 hbc
      . have := le_sum (l := (s v).map fun c => if b c then 0 else F c) (fun x hx => by
          (refine xEA (List.mem_map.mp hx) fun c' hc' hz2 => ?_; subst hz2)
          have := hFp c' (G.s_lt hv hc').2
          split <;> lia) (List.mem_map.mpr ⟨c, hc, rfl⟩)
        simp only [hbc] at this
        have hw := G.w0 v hv
        simp at this
        lia
    have := local_opt (s := s v) (w := W v) (lim := lim) (g := gl) (F := F) (gc := gc) (C := C) (b := b) (j := j v) (by
        refine rwE (G.hs v hv) ?_
        refine (srtR_sorted (chl_nodup pa v)).imp fun {a c} h => ?_
        unfold bef at h
        split at h
        . lia
        . simp at h; exact Int.le_of_lt ‹_›)
      (fun c hc => by have := (G.gl_ok c (G.s_lt hv hc).2).1; lia) (fun c hc => by have := hFp c (G.s_lt hv hc).2; lia)
      (fun c hc => ih c (G.s_lt hv hc).1 (G.s_lt hv hc).2 (hcf c hc)) (by lia) (G.hj v hv)
    have e4 := hgc v hv
    have e5 := hC v hv
    have e6 := G.hl v hv
    rw [e1, e2, e3] at this
    refine rwE e4 (rwE e5 (rwE e6 (rwE hFv ?_)))
    lia
  have := key 0 (by lia) h0
  rw [hC0, hg0] at this
  exact this
noncomputable def taken (pa : Nat -> Nat) (s : Nat -> List Nat) (j : Nat -> Nat) (c : Nat) : Bool := decide (1 <= c /\ c <= 5) && decide (c ∈ (s (pa c)).take (j (pa c)))
theorem sum_split {s : List Nat} (hs : s.Nodup) (n : Nat) (f : Nat -> Int) : (s.map fun c => if decide (c ∈ s.take n) then 0 else f c).sum = ((s.drop n).map f).sum := by
  have h1 : ∀ c ∈ s.drop n, c ∉ s.take n := fun c hc h2 => by
    have := List.take_append_drop n s ▸ hs
    rw [List.nodup_append] at this
    exact this.2.2 c h2 c hc rfl
  have h0 : ∀ t : List Nat, (∀ c ∈ t, c ∈ s.take n) -> (t.map fun c => if decide (c ∈ s.take n) then 0 else f c).sum = 0 := fun t => by
    induction t with
    | nil => intro _; rfl
    | cons x r ih => intro h; simp only [List.map_cons, List.sum_cons]; refine rwE (ih fun c hc => h c (.tail _ hc)) ?_; simp [h x (.head _)]
  have h2 := sum_take_drop (s.map fun c => if decide (c ∈ s.take n) then 0 else f c) n
  refine rwB (h2 ..) (rwB (List.map_take ..) (rwB (List.map_drop ..) (rwE (h0 _ fun c hc => hc ..) (rwE (Int.zero_add ..) ?_))))
  congr 1
  exact List.map_congr_left fun c hc => by simp [h1 c hc]
theorem taken_ld {pa : Nat -> Nat} {W : Nat -> Int} {lim : Int} {gl : Nat -> Int} {s : Nat -> List Nat} {j : Nat -> Nat} (G : Gr pa W lim gl s j) : Ld pa W (taken pa s j) gl := by
  intro v hv
  have hp := G.s_perm hv
  refine rwB (sumI_perm (hp.map fun c => if taken pa s j c then 0 else gl c)) (rwE (G.hl v hv) ?_)
  congr 1
  refine rwB (sum_split (hp.nodup_iff.mpr (chl_nodup pa v)) ..) ?_
  congr 1
  refine List.map_congr_left fun c hc => ?_
  have := mem_chl.mp (hp.mem_iff.mp hc)
  have e : taken pa s j c = decide (c ∈ (s v).take (j v)) := by
    unfold taken
    refine rwE this.2 ?_
    lia
  exact rwE e rfl
theorem taken_cnt {pa : Nat -> Nat} {W : Nat -> Int} {lim : Int} {gl : Nat -> Int} {s : Nat -> List Nat} {j : Nat -> Nat} (G : Gr pa W lim gl s j) : (taken pa s j 1).toNat + (taken pa s j 2).toNat + (taken pa s j 3).toNat + (taken pa s j 4).toNat + (taken pa s j 5).toNat = j 0 + j 1 + j 2 + j 3 + j 4 + j 5 := by
  let b := taken pa s j
  obtain ⟨C, hC⟩ := tableFix (fun (f : Nat -> Nat) v => ((chl pa v).map fun c => f c + (b c).toNat).sum) 0 fun f g v h => by
    show List.sum _ = List.sum _
    congr 1
    exact List.map_congr_left fun c hc => by exact rwE (h c (chl_lt G.hpa hc).1 (chl_lt G.hpa hc).2) rfl
  have h1 := treeSum G.hpa (X := fun v => C v + (b v).toNat) (e := fun v => (b v).toNat) fun v hv => by
    refine rwE (hC v hv) ?_; exact Nat.add_comm _ _
  have h2 := treeSum G.hpa (X := C) (e := j) fun v hv => by
    refine rwE (hC v hv) ?_
    have hp := G.s_perm hv
    have hadd : ∀ l : List Nat, (l.map fun c => C c + (b c).toNat).sum = (l.map fun c => (b c).toNat).sum + (l.map C).sum := fun l => by
      induction l with
      | nil => rfl
      | cons x r ih => simp [ih]; lia
    refine rwE (hadd ..) ?_
    congr 1
    refine rwB ((hp.map fun c => (b c).toNat).sum_nat) ?_
    have hnd := hp.nodup_iff.mpr (chl_nodup pa v)
    have h3 : ((s v).map fun c => (b c).toNat) = (s v).map fun c => (decide (c ∈ (s v).take (j v))).toNat := List.map_congr_left fun c hc => by
      have := mem_chl.mp (hp.mem_iff.mp hc)
      refine (?_ : (taken pa s j c).toNat = _)
      unfold taken
      refine rwE this.2 ?_
      lia
    refine rwE h3 ?_
    have hle := G.j_le hv
    generalize s v = t at hnd hle
    generalize j v = n at hle
    have h4 : ∀ u : List Nat, (∀ c ∈ u, c ∈ t.take n) -> (u.map fun c => (decide (c ∈ t.take n)).toNat).sum = u.length := fun u => by
      induction u with
      | nil => intro _; rfl
      | cons x r ih => intro h; simp only [List.map_cons, List.sum_cons]; refine rwE (ih fun c hc => h c (.tail _ hc)) ?_; simp [h x (.head _)]; exact Nat.add_comm _ _
    have h5 : ∀ u : List Nat, (∀ c ∈ u, c ∉ t.take n) -> (u.map fun c => (decide (c ∈ t.take n)).toNat).sum = 0 := fun u => by
      induction u with
      | nil => intro _; rfl
      | cons x r ih => intro h; simp only [List.map_cons, List.sum_cons]; refine rwE (ih fun c hc => h c (.tail _ hc)) ?_; simp [h x (.head _)]
    have h6 : (t.map fun c => (decide (c ∈ t.take n)).toNat) = ((t.take n).map fun c => (decide (c ∈ t.take n)).toNat) ++ (t.drop n).map fun c => (decide (c ∈ t.take n)).toNat := by
      exact rwB (List.map_append ..) (rwE (List.take_append_drop ..) rfl)
    rw [h6, List.sum_append, h4 _ fun c hc => hc, h5 _ fun c hc h2 => by
      have := List.take_append_drop n t ▸ hnd
      rw [List.nodup_append] at this
      exact this.2.2 c h2 c hc rfl]
    simp; lia
  have hb : b 0 = false := by rfl
  rw [hb] at h1
  simp only [Bool.toNat_false] at h1
  refine (?_ : (b 1).toNat + (b 2).toNat + (b 3).toNat + (b 4).toNat + (b 5).toNat = _)
  lia
noncomputable def letter (i : Nat) : Str := SL [97 + i]
theorem letter_inj {i j : Nat} (h : letter i = letter j) : i = j := by
  have := SL_inj h
  simp at this; assumption
noncomputable def dictOf (f : Nat -> AV) (l : List Nat) : List (Str × AV) := l.map fun i => (letter i, f i)
noncomputable def updV {α : Type} (f : Nat -> α) (i : Nat) (v : α) : Nat -> α := fun k => if k = i then v else f k
theorem dict_get {f : Nat -> AV} {i : Nat} : ∀ {l : List Nat}, i ∈ l -> (dictOf f l).lookup (letter i) = some (f i)
  | x :: r, h => by
    unfold dictOf
    rw [List.map_cons, List.lookup]
    by_cases hx : i = x
    . subst hx; lia
    . have : (letter i == letter x) = false := beq_false_of_ne fun q => hx (letter_inj q)
      refine rwE this ?_
      exact dict_get (by rcases List.mem_cons.mp h with q | q; exact absurd q hx; exact q)
theorem dict_none {f : Nat -> AV} {i : Nat} : ∀ {l : List Nat}, i ∉ l -> (dictOf f l).lookup (letter i) = none
  | [], _ => rfl
  | x :: r, h => by
    unfold dictOf
    rw [List.map_cons, List.lookup]
    simp only [List.mem_cons, not_or] at h
    have : (letter i == letter x) = false := beq_false_of_ne fun q => h.1 (letter_inj q)
    refine rwE this ?_
    exact dict_none h.2
theorem dictOf_congr {f g : Nat -> AV} {l : List Nat} (h : ∀ i ∈ l, f i = g i) : dictOf f l = dictOf g l := List.map_congr_left fun i hi => by exact rwE (h i hi) rfl
theorem put_old {f : Nat -> AV} {i : Nat} {v : AV} {l : List Nat} (h : i ∈ l) : putD (letter i) v (dictOf f l) = dictOf (updV f i v) l := by
  unfold putD
  rw [if_pos]
  . unfold dictOf
    refine rwE List.map_map ?_
    refine List.map_congr_left fun k hk => ?_
    refine (?_ : (if letter k = letter i then (letter k, v) else (letter k, f k)) = (letter k, if k = i then v else f k))
    by_cases hki : k = i
    . subst hki; lia
    . exact rwE (if_neg fun q => hki (letter_inj q)) (rwE (if_neg hki) rfl)
  . refine rwE (propext List.any_eq_true) ?_
    exact ⟨(letter i, f i), List.mem_map.mpr ⟨i, h, rfl⟩, by lia⟩
theorem put_new {f : Nat -> AV} {i : Nat} {v : AV} {l : List Nat} (h : i ∉ l) : putD (letter i) v (dictOf f l) = dictOf (updV f i v) (l ++ [i]) := by
  unfold putD
  rw [if_neg]
  . unfold dictOf
    refine rwE List.map_append ?_
    congr 1
    . refine List.map_congr_left fun k hk => ?_
      refine (?_ : (letter k, f k) = (letter k, if k = i then v else f k))
      rw [if_neg]
      intro q; subst q; exact h hk
    . simp [updV]
  . intro q
    rw [List.any_eq_true] at q
    refine xEA (q) fun p hp h2 => ?_
    (refine xEA (List.mem_map.mp hp) fun k hk hz2 => ?_; subst hz2)
    have := letter_inj (by simpa using h2)
    subst this
    exact h hk
theorem item_dict {h : Hp} {n i : Nat} {f : Nat -> AV} {l : List Nat} (hn : h[n]? = some (.dict (dictOf f l))) (hi : i ∈ l) : ITEM (.obj n) (.str (letter i)) h (f i) := ITEM.dict hn (dict_get hi)
theorem item_fro {h : Hp} {n i : Nat} {f : Nat -> AV} {l : List Nat} (hn : h[n]? = some (.fro (dictOf f l))) (hi : i ∈ l) : ITEM (.obj n) (.str (letter i)) h (f i) := ITEM.fro hn (dict_get hi)
theorem set_old {h : Hp} {n i : Nat} {f : Nat -> AV} {l : List Nat} {v : AV} (hn : h[n]? = some (.dict (dictOf f l))) (hz : l.length <= 1000) (hi : i ∈ l) : SETI (.obj n) (.str (letter i)) v h (h.set n (.dict (dictOf (updV f i v) l))) := put_old (v := v) hi ▸ SETI.dict hn (by simpa [dictOf] using hz)
theorem set_new {h : Hp} {n i : Nat} {f : Nat -> AV} {l : List Nat} {v : AV} (hn : h[n]? = some (.dict (dictOf f l))) (hz : l.length <= 1000) (hi : i ∉ l) : SETI (.obj n) (.str (letter i)) v h (h.set n (.dict (dictOf (updV f i v) (l ++ [i])))) := put_new (v := v) hi ▸ SETI.dict hn (by simpa [dictOf] using hz)
theorem LOOPC.ind {fe : FE} {e : Expr} {a : Nat} {s : Src} {P : St -> Prop} {g : Comprehension} (I : List It -> St -> Prop) (nil : ∀ st, I [] st -> kept s st.hp = true /\ P st)
    (cons : ∀ i r st, I (i :: r) st -> kept s st.hp = true /\ ∃ st1, assignIt fe g.target i st = some st1 /\ IFS fe g.ifs st1 fun b st2 => if b then EMIT fe e a st2 (I r) else I r st2) :
    ∀ its st, I its st -> LOOPC fe e [g] a s its st P
  | [], st, h => LOOPC.nil (nil st h).1 (nil st h).2
  | i :: r, st, h => by
    refine xAEA (cons i r st h) fun hk st1 e1 h2 => ?_
    refine LOOPC.cons hk ⟨st1, e1, IFS.mono h2 fun b st2 h2 => ?_⟩
    cases b with
    | true => exact EMIT.mono h2 fun st3 h3 => LOOPC.ind I nil cons r st3 h3
    | false => exact LOOPC.ind I nil cons r st2 h2
noncomputable def letIts (l : List Nat) : List It := l.map fun i => .one (.str (letter i))
theorem src_six {h : Hp} : srcOf (.str "abcdef") h = some ⟨.str "abcdef", letIts [0, 1, 2, 3, 4, 5], none⟩ := by kernel_rfl
theorem src_five {h : Hp} : srcOf (.str "bcdef") h = some ⟨.str "bcdef", letIts [1, 2, 3, 4, 5], none⟩ := by kernel_rfl
theorem at_six {k : Nat} {h : Hp} (hk : k <= 5) : ITEM (.str "abcdef") (.int k) h (.str (letter k)) := by
  have : ("abcdef" : Str) = SL [97, 98, 99, 100, 101, 102] := by kernel_rfl
  refine rwE this ?_
  refine item_str ?_ (by decide)
  rcases (by lia : k = 0 ∨ k = 1 ∨ k = 2 ∨ k = 3 ∨ k = 4 ∨ k = 5) with rfl | rfl | rfl | rfl | rfl | rfl <;> rfl
theorem at_five {k : Nat} {h : Hp} (hk : k <= 4) : ITEM (.str "bcdef") (.int k) h (.str (letter (k + 1))) := by
  have : ("bcdef" : Str) = SL [98, 99, 100, 101, 102] := by kernel_rfl
  refine rwE this ?_
  refine item_str ?_ (by decide)
  rcases (by lia : k = 0 ∨ k = 1 ∨ k = 2 ∨ k = 3 ∨ k = 4) with rfl | rfl | rfl | rfl | rfl <;> rfl
theorem EV.cel {fe : FE} {st : St} {P : AV -> St -> Prop} {pos : Pos} {x : Str} {v : AV} {c : Nat} (hd : x ≠ "__debug__") (hk : fe.names.lookup x = some .cell) (hc : fe.cells.lookup x = some c) (ho : st.hp[c]? = some (.cell (some v))) (hd2 : x ≠ "__classdict__") (h : P v st) : EV fe (.Name x pos) st P := EV.name hd (getCell hk hc ho hd2) h
theorem intsOf_map (l : List Int) : intsOf (l.map .int) = some l := by
  induction l with
  | nil => rfl
  | cons x r ih => simp [intsOf, ih]
theorem sum_ints {h : Hp} {n : Nat} {l : List Int} (hn : h[n]? = some (.list (l.map .int))) (hz : l.length <= 1000) : CAL (.builtin "sum") [.obj n] h (.int l.sum) h := CAL.sum hn (intsOf_map l)
theorem two1 {H : Hp} {a b : AO} : (H ++ [a, b])[H.length]? = some a := by simp
theorem two2 {H : Hp} {a b : AO} : (H ++ [a, b])[H.length + 1]? = some b := by simp
theorem set1 {H : Hp} {a b a' : AO} : (H ++ [a, b]).set H.length a' = H ++ [a', b] := by refine rwE (List.set_append_right _ _ (Nat.le_refl _)) ?_; simp
theorem set2 {H : Hp} {a b b' : AO} : (H ++ [a, b]).set (H.length + 1) b' = H ++ [a, b'] := by refine rwE (List.set_append_right _ _ (Nat.le_add_right _ _)) ?_; simp
theorem pow_two {k : Nat} {h : Hp} (hk : k <= 6) : BIN .Pow (.int 2) (.int k) h (.int ((2 ^ k : Nat) : Int)) h := by
  have e : (2 : Int) ^ (k : Int).toNat = ((2 ^ k : Nat) : Int) := by simp
  exact e ▸ BIN.pow ⟨by decide, by decide, by exact Int.natCast_nonneg _, by exact Int.ofNat_le.mpr ‹_›⟩
theorem fdiv_nat {a b : Nat} {h : Hp} (h1 : 0 < b) (h2 : b <= 1000000) : BIN .FloorDiv (.int a) (.int b) h (.int ((a / b : Nat) : Int)) h := by
  have e : Int.fdiv (a : Int) b = ((a / b : Nat) : Int) := by refine rwE (Int.fdiv_eq_ediv_of_nonneg _ (Int.natCast_nonneg _)) ?_; rfl
  exact e ▸ BIN.div ⟨by exact Int.ofNat_lt.mpr ‹_›, by exact Int.ofNat_le.mpr ‹_›⟩
theorem fmod_nat {a b : Nat} {h : Hp} (h1 : 0 < b) : BIN .Mod (.int a) (.int b) h (.int ((a % b : Nat) : Int)) h := by
  have e : Int.fmod (a : Int) b = ((a % b : Nat) : Int) := by refine rwE (Int.fmod_eq_emod_of_nonneg _ (by lia)) ?_; rfl
  exact e ▸ BIN.mod (by lia)
theorem maxL_spec (x : Int) (r : List Int) : ∃ m, maxL (x :: r) = some m /\ ∀ lim, (m <= lim ↔ ∀ y ∈ x :: r, y <= lim) := by
  refine ⟨_, rfl, ?_⟩
  induction r generalizing x with
  | nil => intro lim; simp
  | cons y r ih =>
    intro lim
    refine rwE (List.foldl_cons ..) (rwE (propext (ih ..)) ?_)
    simp only [List.mem_cons, forall_eq_or_imp]
    split <;> constructor <;> intro h <;> simp_all <;> lia
theorem max_ints {h : Hp} {n : Nat} {l : List Int} (hl : l ≠ []) (hn : h[n]? = some (.list (l.map .int))) (hz : l.length <= 1000) : ∃ m, CAL (.builtin "max") [.obj n] h (.int m) h /\ ∀ lim, (m <= lim ↔ ∀ y ∈ l, y <= lim) := by
  cases l with
  | nil => exact absurd rfl hl
  | cons x r =>
    refine xEA (maxL_spec x r) fun m h1 h2 => ?_
    exact ⟨m, CAL.max hn (intsOf_map _) h1, h2⟩
theorem cat_list {h : Hp} {i j : Nat} {xs ys : List AV} (hi : h[i]? = some (.list xs)) (hj : h[j]? = some (.list ys)) (hz : xs.length + ys.length <= 1000) : BIN .Add (.obj i) (.obj j) h (.obj h.length) (h ++ [.list (xs ++ ys)]) := BIN.list hi hj hz
noncomputable def EDC (fe : FE) (e : Expr) (st : St) (v : AV) (st' : St) : Prop := ∀ ⦃P : AV -> St -> Prop⦄, P v st' -> EVC fe e st P
noncomputable def IFD (fe : FE) (es : List Expr) (st : St) (b : Bool) (st' : St) : Prop := ∀ ⦃P : Bool -> St -> Prop⦄, P b st' -> IFS fe es st P
noncomputable def CTurn (fe : FE) (e : Expr) (a : Nat) (g : Comprehension) (i : It) (Q : Hp -> Prop) (st : St) : Prop := ∃ st1, assignIt fe g.target i st = some st1 /\ IFS fe g.ifs st1 fun b st2 => if b then EMIT fe e a st2 (fun st3 => Q st3.hp) else Q st2.hp
noncomputable def ThawC (s : Src) (lc : Loc) (a : Nat) (P : AV -> St -> Prop) (st : St) : Prop := P (.obj a) ⟨thaw s st.hp, lc⟩
section
variable {fe : FE} {st st1 st2 : St} {pos : Pos} {a b v : AV} {h h1 : Hp} {lc lc1 : Loc} {e t : Expr} {s : Src} {it : It} {n : Nat} {Q : Hp -> Prop} {g : Comprehension} {xs : List AV}
theorem IFD.nil : IFD fe [] st true st := fun z9 p => IFS.nil p
theorem IFD.cons {r : List Expr} {b : Bool} (x : TD fe e st true st1) (y : IFD fe r st1 b st2) : IFD fe (e :: r) st b st2 := fun P p => IFS.cons (x (P := fun b st1 => if b then IFS fe r st1 P else P false st1) (y p))
theorem IFD.no {r : List Expr} (x : TD fe e st false st1) : IFD fe (e :: r) st false st1 := fun P p => IFS.cons (x (P := fun b st1 => if b then IFS fe r st1 P else P false st1) p)
theorem ED.cel {x : Str} {c : Nat} (hd : x ≠ "__debug__" := by decide) (hk : fe.names.lookup x = some .cell := by kernel_rfl) (hc : fe.cells.lookup x = some c := by kernel_rfl) (hd2 : x ≠ "__classdict__" := by decide) (ho : h[c]? = some (.cell (some v))) : ED fe (.Name x pos) ⟨h, lc⟩ v ⟨h, lc⟩ := fun z9 p => EV.cel hd hk hc ho hd2 p
theorem ED.ofC (x : EDC fe e st v st1) : ED fe e st v st1 := fun z9 p => EV.comp (x p)
theorem DS.assignC {x : Str} {p : Pos} {r : List Stmt} {P : Fl -> St -> Prop} (hx : fe.names.lookup x = some .local) (y : EDC fe e st v ⟨h, lc⟩) (k : EXS fe r ⟨h, (x, v) :: lc⟩ P) : EXS fe (.Assign [.Name x p] e pos :: r) st P := EXS.cons (EX.assignC (y (ASGC.mk (by unfold putName; exact rwE hx rfl) k)))
theorem DS.assignCC {x : Str} {p : Pos} {r : List Stmt} {P : Fl -> St -> Prop} {c : Nat} {u : Option AV} (hx : fe.names.lookup x = some .cell) (hc : fe.cells.lookup x = some c) (y : EDC fe e st v ⟨h, lc⟩) (ho : h[c]? = some (.cell u)) (k : EXS fe r ⟨h.set c (.cell (some v)), lc⟩ P) : EXS fe (.Assign [.Name x p] e pos :: r) st P := EXS.cons (EX.assignC (y (ASGC.mk (putCell hx hc ho) k)))
theorem CTurn.list {elt : Expr} {gs : List Comprehension} {sc : Scope} {ifs : List Expr} {asy : Nat} (q : assignIt fe t it st = some st1) (i : IFD fe ifs st1 true st2) (x : ED fe elt st2 v ⟨h, lc⟩) (ha : h[n]? = some (.list xs)) (hz : xs.length <= 1000) (k : Q (h.set n (.list (xs ++ [v])))) : CTurn fe (.ListComp elt gs sc pos) n ⟨t, e, ifs, asy⟩ it Q st :=
  ⟨st1, q, i (P := fun b st2 => if b then EMIT fe _ n st2 (fun st3 => Q st3.hp) else Q st2.hp) (EMIT.list (x ⟨xs, ha, hz, k⟩))⟩
theorem CTurn.dict {ke ve : Expr} {gs : List Comprehension} {sc : Scope} {ifs : List Expr} {asy : Nat} {x : Str} {es : List (Str × AV)} (q : assignIt fe t it st = some st1) (i : IFD fe ifs st1 true st2) (y : ED fe ke st2 (.str x) ⟨h, lc⟩) (z : ED fe ve ⟨h, lc⟩ v ⟨h1, lc1⟩) (ha : h1[n]? = some (.dict es)) (hz : es.length <= 1000) (k : Q (h1.set n (.dict (putD x v es)))) : CTurn fe (.DictComp ke ve gs sc pos) n ⟨t, e, ifs, asy⟩ it Q st :=
  ⟨st1, q, i (P := fun b st2 => if b then EMIT fe _ n st2 (fun st3 => Q st3.hp) else Q st2.hp) (EMIT.dict (y (z ⟨x, es, rfl, ha, hz, k⟩)))⟩
theorem CTurn.no {c : Expr} {ifs : List Expr} {asy : Nat} (q : assignIt fe t it st = some st1) (i : IFD fe ifs st1 false st2) (k : Q st2.hp) : CTurn fe c n ⟨t, e, ifs, asy⟩ it Q st := ⟨st1, q, i (P := fun b st2 => if b then EMIT fe c n st2 (fun st3 => Q st3.hp) else Q st2.hp) k⟩
theorem LOOPC.idx {c : Expr} {P : St -> Prop} (I : List It -> Hp -> Prop) (hk : ∀ l hp, I l hp -> kept s hp = true) (step : ∀ i l hp lc, I (i :: l) hp -> CTurn fe c n g i (I l) ⟨hp, lc⟩) (fin : ∀ hp lc, I [] hp -> P ⟨hp, lc⟩) {its : List It} (h0 : I its h) : LOOPC fe c [g] n s its ⟨h, lc⟩ P :=
  LOOPC.ind (fun l st => I l st.hp) (fun st hI => ⟨hk _ _ hI, fin _ _ hI⟩) (fun i l st hI => ⟨hk _ _ hI, let ⟨st1, q, x⟩ := step i l st.hp st.lc hI; ⟨st1, q, IFS.mono x fun b st2 y => by cases b <;> exact y⟩⟩) its _ h0
theorem EVC.listG {elt : Expr} {sc : Scope} {cs cs1 : List (Str × Nat)} {P : AV -> St -> Prop} (hok : compOk sc [g] = true) (hcs : closure fe sc.names [] = some cs) (x : SD fe g.iter st s ⟨h, lc⟩) (hn : newCells sc.names (h ++ [.list []]) cs = (h1, cs1)) (y : LOOPC ⟨compNames fe sc.names, cs1, fe.dep, false⟩ (.ListComp elt [g] sc pos) [g] h.length s s.items ⟨freeze s h1, []⟩ (ThawC s lc h.length P)) : EVC fe (.ListComp elt [g] sc pos) st P :=
  EVC.list hok (by refine rwE hcs ?_; rfl) (x ⟨cs, hcs, by dsimp only; refine rwE hn ?_; exact y⟩)
theorem EVC.dictG {ke ve : Expr} {sc : Scope} {cs cs1 : List (Str × Nat)} {P : AV -> St -> Prop} (hok : compOk sc [g] = true) (hcs : closure fe sc.names [] = some cs) (x : SD fe g.iter st s ⟨h, lc⟩) (hn : newCells sc.names (h ++ [.dict []]) cs = (h1, cs1)) (y : LOOPC ⟨compNames fe sc.names, cs1, fe.dep, false⟩ (.DictComp ke ve [g] sc pos) [g] h.length s s.items ⟨freeze s h1, []⟩ (ThawC s lc h.length P)) : EVC fe (.DictComp ke ve [g] sc pos) st P :=
  EVC.dict hok (by refine rwE hcs ?_; rfl) (x ⟨cs, hcs, by dsimp only; refine rwE hn ?_; exact y⟩)
noncomputable def flatS (s : Src) : Bool := match s.kind with
  | .dkey _ | .dval _ | .ditem _ => false
  | _ => true
theorem flat_fz (hf : flatS s = true) : freeze s h = h /\ thaw s h = h := by
  obtain ⟨k, i, p⟩ := s
  cases k <;> first | exact ⟨rfl, rfl⟩ | cases hf
theorem kept_app {r : Hp} (hk : kept s h = true) : kept s (h ++ r) = true := by
  obtain ⟨k, i, _ | ⟨m, o⟩⟩ := s
  . rfl
  . have q : h[m]? = some o := @of_decide_eq_true _ (Classical.propDecidable _) hk
    have : (h ++ r)[m]? = some o := oldAt q
    exact @decide_eq_true _ (Classical.propDecidable _) this
noncomputable def Pure1 (fe : FE) (t elt : Expr) (i : It) (h : Hp) (v : AV) : Prop := ∀ lc, ∃ lc1, assignIt fe t i ⟨h, lc⟩ = some ⟨h, lc1⟩ /\ ED fe elt ⟨h, lc1⟩ v ⟨h, lc1⟩
noncomputable def Pure2 (fe : FE) (t ke ve : Expr) (i : It) (h : Hp) (k : Nat) (v : AV) : Prop := ∀ lc, ∃ lc1, assignIt fe t i ⟨h, lc⟩ = some ⟨h, lc1⟩ /\ ED fe ke ⟨h, lc1⟩ (.str (letter k)) ⟨h, lc1⟩ /\ ED fe ve ⟨h, lc1⟩ v ⟨h, lc1⟩
theorem assignLoc {x : Str} {p : Pos} (hx : fe.names.lookup x = some .local) : assignIt fe (.Name x p) (.one v) ⟨h, lc⟩ = some ⟨h, (x, v) :: lc⟩ := by
  refine (?_ : putName fe x v ⟨h, lc⟩ = _)
  unfold putName
  exact rwE hx rfl
theorem assignTwo {x y : Str} {p q r : Pos} {k : Nat} (hx : fe.names.lookup x = some .local) (hy : fe.names.lookup y = some .local) : assignIt fe (.Tuple [.Name x p, .Name y q] k r) (.two a b) ⟨h, lc⟩ = some ⟨h, (y, b) :: (x, a) :: lc⟩ := by
  refine (?_ : assignNames fe [.Name x p, .Name y q] [a, b] ⟨h, lc⟩ = _)
  simp [assignNames, putName, hx, hy]
theorem Pure1.name {elt : Expr} {y : Str} {p : Pos} {u : AV} (hx : fe.names.lookup y = some .local) (x : ∀ lc, ED fe elt ⟨h, (y, u) :: lc⟩ v ⟨h, (y, u) :: lc⟩) : Pure1 fe (.Name y p) elt (.one u) h v := fun lc => ⟨_, assignLoc hx, x lc⟩
theorem Pure2.name {ke ve : Expr} {k : Nat} {y : Str} {p : Pos} {u : AV} (hx : fe.names.lookup y = some .local) (x : ∀ lc, ED fe ke ⟨h, (y, u) :: lc⟩ (.str (letter k)) ⟨h, (y, u) :: lc⟩ /\ ED fe ve ⟨h, (y, u) :: lc⟩ v ⟨h, (y, u) :: lc⟩) : Pure2 fe (.Name y p) ke ve (.one u) h k v := fun lc => ⟨_, assignLoc hx, x lc⟩
theorem Pure2.two {ke ve : Expr} {k m : Nat} {y z : Str} {p q r : Pos} (hx : fe.names.lookup y = some .local) (hy : fe.names.lookup z = some .local) (x : ∀ lc, ED fe ke ⟨h, (z, b) :: (y, a) :: lc⟩ (.str (letter k)) ⟨h, (z, b) :: (y, a) :: lc⟩ /\ ED fe ve ⟨h, (z, b) :: (y, a) :: lc⟩ v ⟨h, (z, b) :: (y, a) :: lc⟩) : Pure2 fe (.Tuple [.Name y p, .Name z q] m r) ke ve (.two a b) h k v := fun lc => ⟨_, assignTwo hx hy, x lc⟩
theorem EDC.map {α : Type} {elt it0 : Expr} {sc : Scope} {cs : List (Str × Nat)} {asy : Nat} (l : List α) (i : α -> It) (f : α -> AV) (hok : compOk sc [⟨t, it0, [], asy⟩] = true) (hcs : closure fe sc.names [] = some cs) (hn : ∀ h, newCells sc.names h cs = (h, cs)) (x : SD fe it0 st s ⟨h, lc⟩) (hf : flatS s = true) (hk : kept s h = true) (hi : s.items = l.map i) (hz : l.length <= 1000)
    (step : ∀ x ∈ l, ∀ xs, Pure1 ⟨compNames fe sc.names, cs, fe.dep, false⟩ t elt (i x) (h ++ [.list xs]) (f x)) : EDC fe (.ListComp elt [⟨t, it0, [], asy⟩] sc pos) st (.obj h.length) ⟨h ++ [.list (l.map f)], lc⟩ := fun P p => by
  refine EVC.listG hok hcs x (hn _) ?_
  refine rwE ((flat_fz hf).1) ?_
  refine LOOPC.idx (fun r hp => ∃ d u, d ++ u = l /\ r = u.map i /\ hp = h ++ [.list (d.map f)]) (fun r hp hI => ?_) (fun y r hp lc2 hI => ?_) (fun hp lc2 hI => ?_) ⟨[], l, rfl, hi, rfl⟩
  . (refine xEEAA (hI) fun d u z9 z9 hz4 => ?_; subst hz4)
    exact kept_app hk
  . (refine xEEAA (hI) fun d u h1 h2 hz4 => ?_; subst hz4)
    cases u with
    | nil => cases h2
    | cons z u =>
      injection h2 with h2 h3
      subst h2 h3
      refine xEA (step z (by refine rwB h1 ?_; simp) (d.map f) lc2) fun lc1 q e => ?_
      refine CTurn.list q IFD.nil e lastAt ?_ ⟨d ++ [z], u, by refine rwB h1 ?_; exact List.append_assoc .., rfl, ?_⟩
      . refine rwE (List.length_map ..) ?_; have := congrArg List.length h1; simp at this; lia
      . refine rwE set_last (rwE List.map_append ?_); rfl
  . (refine xEEAA (hI) fun d u h1 h2 hz4 => ?_; subst hz4)
    have : u = [] := by cases u with | nil => rfl | cons a b => cases h2
    subst this
    rw [List.append_nil] at h1
    subst h1
    unfold ThawC
    refine rwE ((flat_fz hf).2) ?_
    exact p
set_option tactic.hygienic true in
theorem dictOf_same {f : Nat -> AV} {k : Nat} {l : List Nat} (hk : k ∉ l) : putD (letter k) (f k) (dictOf f l) = dictOf f (l ++ [k]) := by
  refine rwE (put_new hk) ?_
  exact dictOf_congr fun i _ => by
    refine (?_ : (if i = k then f k else f i) = f i)
    split
    . rename_i q; exact rwE q rfl
    . rfl
theorem EDC.mapD {ke ve it0 : Expr} {sc : Scope} {cs : List (Str × Nat)} {asy : Nat} (l : List Nat) (i : Nat -> It) (f : Nat -> AV) (hok : compOk sc [⟨t, it0, [], asy⟩] = true) (hcs : closure fe sc.names [] = some cs) (hn : ∀ h, newCells sc.names h cs = (h, cs)) (x : SD fe it0 st s ⟨h, lc⟩) (hf : flatS s = true) (hk : kept s h = true) (hi : s.items = l.map i) (hz : l.length <= 1000) (hd : l.Nodup)
    (step : ∀ x ∈ l, ∀ es, Pure2 ⟨compNames fe sc.names, cs, fe.dep, false⟩ t ke ve (i x) (h ++ [.dict es]) x (f x)) : EDC fe (.DictComp ke ve [⟨t, it0, [], asy⟩] sc pos) st (.obj h.length) ⟨h ++ [.dict (dictOf f l)], lc⟩ := fun P p => by
  refine EVC.dictG hok hcs x (hn _) ?_
  refine rwE ((flat_fz hf).1) ?_
  refine LOOPC.idx (fun r hp => ∃ d u, d ++ u = l /\ r = u.map i /\ hp = h ++ [.dict (dictOf f d)]) (fun r hp hI => ?_) (fun y r hp lc2 hI => ?_) (fun hp lc2 hI => ?_) ⟨[], l, rfl, hi, rfl⟩
  . (refine xEEAA (hI) fun d u z9 z9 hz4 => ?_; subst hz4)
    exact kept_app hk
  . (refine xEEAA (hI) fun d u h1 h2 hz4 => ?_; subst hz4)
    cases u with
    | nil => cases h2
    | cons z u =>
      injection h2 with h2 h3
      subst h2 h3
      refine xEAA (step z (by refine rwB h1 ?_; simp) (dictOf f d) lc2) fun lc1 q e e2 => ?_
      refine CTurn.dict q IFD.nil e e2 lastAt ?_ ⟨d ++ [z], u, by refine rwB h1 ?_; exact List.append_assoc .., rfl, ?_⟩
      . rw [dictOf, List.length_map]; have := congrArg List.length h1; simp at this; lia
      . rw [set_last, dictOf_same]
        rw [← h1, List.nodup_append] at hd
        exact fun q => hd.2.2 z q z (.head _) rfl
  . (refine xEEAA (hI) fun d u h1 h2 hz4 => ?_; subst hz4)
    have : u = [] := by cases u with | nil => rfl | cons a b => cases h2
    subst this
    rw [List.append_nil] at h1
    subst h1
    unfold ThawC
    refine rwE ((flat_fz hf).2) ?_
    exact p
end
theorem six_mem {k : Nat} (h : k <= 5) : k ∈ [0, 1, 2, 3, 4, 5] := (by decide : ∀ k, k < 6 -> k ∈ [0, 1, 2, 3, 4, 5]) k (Nat.lt_succ_of_le h)
theorem five_mem {k : Nat} (h : 1 <= k) (h' : k <= 5) : k ∈ [1, 2, 3, 4, 5] := (by decide : ∀ k, k < 6 -> 1 <= k -> k ∈ [1, 2, 3, 4, 5]) k (Nat.lt_succ_of_le h') h
theorem pow_small {k : Nat} (hk : k <= 4) : 0 < 2 ^ k /\ 2 ^ k <= 1000000 := (by decide : ∀ k, k < 5 -> 0 < 2 ^ k /\ 2 ^ k <= 1000000) k (Nat.lt_succ_of_le hk)
theorem bm_append {h1 h2 : Hp} {n : Nat} {xs ys : List AV} {v : AV} (hn : h1[n]? = some (.list ys)) (hm : h2[n]? = some (.list xs)) (hz : xs.length <= 1000) : BM (.obj n) "append" h1 [v] h2 .none (h2.set n (.list (xs ++ [v]))) := ⟨_, _, BI.list hn F.slot_list_append F.type_list_append, MB.append hm hz⟩
noncomputable def fdBest : FD := fdIn theText 21
noncomputable def bloop (pa : Nat -> Nat) (n : Nat) : Nat -> (Nat -> Int) -> List Int -> (Nat -> Int) × List Int
  | 0, L, al => (L, al)
  | k + 1, L, al => if n / 2 ^ k % 2 = 1 then bloop pa n k L (al ++ [L (k + 1)]) else bloop pa n k (updV L (pa (k + 1)) (L (pa (k + 1)) + L (k + 1))) al
noncomputable def bfound (pa : Nat -> Nat) (W : Nat -> Int) (lim : Int) (n : Nat) : List (Int × Int) :=
  let r := bloop pa n 5 W []
  if (r.2 ++ [r.1 0]).all (fun x => decide (x <= lim)) then [((r.2.length : Int) + 1, r.1 0)] else []
noncomputable def intD (L : Nat -> Int) : Nat -> AV := fun k => .int (L k)
noncomputable def strD (L : Nat -> Nat) : Nat -> AV := fun k => .str (letter (L k))
inductive Prs (h : Hp) : List AV -> List (Int × Int) -> Prop where
  | nil : Prs h [] []
  | cons {n : Nat} {a b : Int} {vs : List AV} {rs : List (Int × Int)} : h[n]? = some (.tup [.int a, .int b]) -> Prs h vs rs -> Prs h (.obj n :: vs) ((a, b) :: rs)
theorem Prs.mono {h h' : Hp} {vs : List AV} {rs : List (Int × Int)} (x : Prs h vs rs) (k : ∀ (n : Nat) (c : List AV), h[n]? = some (AO.tup c) -> h'[n]? = some (AO.tup c)) : Prs h' vs rs := by
  induction x with
  | nil => exact .nil
  | cons a _ ih => exact .cons (k _ _ a) ih
theorem Prs.append {h : Hp} {vs us : List AV} {rs qs : List (Int × Int)} (x : Prs h vs rs) (y : Prs h us qs) : Prs h (vs ++ us) (rs ++ qs) := by
  induction x with
  | nil => exact y
  | cons a _ ih => exact .cons a ih
theorem Prs.length {h : Hp} {vs : List AV} {rs : List (Int × Int)} (x : Prs h vs rs) : vs.length = rs.length := by
  induction x with
  | nil => rfl
  | cons _ _ ih => simp [ih]

theorem minT_spec {h : Hp} {N l : Int} {xs : List AV} {ps : List (Int × Int)} (hx : Prs h xs ps) : ∀ {m : Nat} {p : Int × Int}, h[m]? = some (.tup [.int p.1, .int p.2]) -> (N, l) ∈ p :: ps -> (∀ q ∈ p :: ps, N < q.1 ∨ (N = q.1 /\ l <= q.2)) -> ∃ r, MinT h (.obj m) xs (.obj r) /\ h[r]? = some (.tup [.int N, .int l]) := by
  induction hx with
  | nil =>
    intro m p hm h1 h2
    have : (N, l) = p := by simpa using h1
    subst this
    exact ⟨m, .nil, hm⟩
  | @cons n a b vs rs hn _ ih =>
    intro m p hm h1 h2
    have ha := h2 (a, b) (.tail _ (.head _))
    have hp := h2 p (.head _)
    by_cases hlt : (if a = p.1 then decide (b < p.2) else decide (a < p.1)) = true
    . have hq : a < p.1 ∨ (a = p.1 /\ b < p.2) := by
        by_cases e : a = p.1
        . rw [if_pos e] at hlt; exact .inr ⟨e, of_decide_eq_true hlt⟩
        . rw [if_neg e] at hlt; exact .inl (of_decide_eq_true hlt)
      refine xEA (ih hn ?_ fun q hq => h2 q (.tail _ hq)) fun r h3 h4 => ⟨r, .lt (hlt ▸ TLT.ii hn hm) h3, h4⟩
      rcases List.mem_cons.mp h1 with q | q
      . exfalso
        rw [← q] at hq
        lia
      . exact q
    . have hq : p.1 < a ∨ (a = p.1 /\ p.2 <= b) := by
        by_cases e : a = p.1
        . rw [if_pos e] at hlt; exact .inr ⟨e, Int.not_lt.mp fun q => hlt (decide_eq_true q)⟩
        . rw [if_neg e] at hlt; exact .inl (Int.lt_iff_le_and_ne.mpr ⟨Int.not_lt.mp fun q => hlt (decide_eq_true q), Ne.symm e⟩)
      refine xEA (ih hm ?_ fun q hq => h2 q ?_) fun r h3 h4 => ⟨r, .ge (Bool.eq_false_iff.mpr hlt ▸ TLT.ii hn hm) h3, h4⟩
      . rcases List.mem_cons.mp h1 with q | q
        . refine rwE q ?_; exact .head _
        . rcases List.mem_cons.mp q with q | q
          . have e1 : N = a := congrArg Prod.fst q
            have e2 : l = b := congrArg Prod.snd q
            have : p = (N, l) := Prod.ext (by lia) (by lia)
            refine rwE this ?_; exact .head _
          . exact .tail _ q
      . rcases List.mem_cons.mp hq with q | q
        . refine rwE q ?_; exact .head _
        . exact .tail _ (.tail _ q)

noncomputable def uptoD (n m : Nat) : List It := ((List.range m).drop n).map fun (i : Nat) => .one (.int i)
theorem uptoD_inj {n m : Nat} {l : List It} (h : l = uptoD n m) : (l = [] -> m <= n) /\ ∀ i r, l = i :: r -> n < m /\ i = .one (.int n) /\ r = uptoD (n + 1) m := by
  unfold uptoD at *
  rcases Nat.lt_or_ge n m with q | q
  . rw [List.drop_eq_getElem_cons (by simpa using q), List.getElem_range] at h
    exact ⟨fun e => (by rw [h] at e; cases e), fun i r e => by rw [h] at e; injection e with e1 e2; exact ⟨q, e1.symm, e2.symm⟩⟩
  . rw [List.drop_eq_nil_of_le (by simpa using q)] at h
    exact ⟨fun z9 => q, fun i r e => by rw [h] at e; cases e⟩
theorem pre_of {h H : Hp} (p : ∀ (i : Nat) (x : AO), h[i]? = some x -> H[i]? = some x) : ∃ m, H = h ++ m := by
  refine ⟨H.drop h.length, List.ext_getElem? fun i => ?_⟩
  rcases Nat.lt_or_ge i h.length with q | q
  . refine rwE (List.getElem?_append_left q) (rwE (List.getElem?_eq_getElem q) ?_)
    exact p i _ (List.getElem?_eq_getElem q)
  . exact rwE (List.getElem?_append_right q) (rwE (List.getElem?_drop) (rwE (Nat.add_sub_cancel' q) rfl))
theorem truth_int {i : Int} {h : Hp} : TRU (.int i) h (decide (i ≠ 0)) := TRU.int rfl
theorem bit_at {n k : Nat} {h : Hp} {b : Bool} (hb : decide (n / 2 ^ k % 2 = 1) = b) : TRU (.int ((n / 2 ^ k % 2 : Nat) : Int)) h b := TRU.int (by
  refine rwB hb (rwE (propext decide_eq_decide) ?_)
  lia)
theorem set_at1 {H : Hp} {i : Nat} {L : Nat -> Int} {b : AO} {x : Int} (hi : i ∈ [0, 1, 2, 3, 4, 5]) : SETI (.obj H.length) (.str (letter i)) (.int x) (H ++ [.dict (dictOf (intD L) [0, 1, 2, 3, 4, 5]), b]) (H ++ [.dict (dictOf (intD (updV L i x)) [0, 1, 2, 3, 4, 5]), b]) := by
  have := set_old (v := .int x) (two1 (H := H) (a := .dict (dictOf (intD L) [0, 1, 2, 3, 4, 5])) (b := b)) (by decide) hi
  rw [set1] at this
  have e : updV (intD L) i (.int x) = intD (updV L i x) := by
    funext k
    refine (?_ : (if k = i then _ else AV.int (L k)) = AV.int (if k = i then _ else L k))
    split <;> rfl
  exact e ▸ this
theorem SD.down {fe : FE} {st : St} {p q p1 p2 p3 p4 p5 : Pos} {k1 k2 k3 : Nat} (hk : fe.names.lookup ("range" : Str) = some .globalImplicit) : SD fe (.Call (.Name "range" p) [.Constant (.int 4) k1 p1, .UnaryOp .USub (.Constant (.int 1) k2 p2) p3, .UnaryOp .USub (.Constant (.int 1) k3 p4) p5] [] q) st ⟨.rng 4 (-1), (upto 5).reverse, none⟩ st := fun z9 p => SRC.down (getGlob hk Glob.range) p
inductive InvB (H : Hp) (o n f : Nat) (limit : Int) (pa : Nat -> Nat) (z : (Nat -> Int) × List Int) (its : List It) (st : St) : Prop
  | mk (k : Nat) (L : Nat -> Int) (al : List Int) (lc : Loc) (hi : its = (upto k).reverse) (e : st = ⟨H ++ [.dict (dictOf (intD L) [0, 1, 2, 3, 4, 5]), .list (al.map .int)], lc⟩) (l1 : lc.lookup ("over" : Str) = some (.obj o)) (l2 : lc.lookup ("limit" : Str) = some (.int limit)) (l3 : lc.lookup ("found" : Str) = some (.obj f))
    (l4 : lc.lookup ("cuts" : Str) = some (.int n)) (l5 : lc.lookup ("loads" : Str) = some (.obj H.length)) (l6 : lc.lookup ("alone" : Str) = some (.obj (H.length + 1))) (hk : k <= 5) (ha : al.length + k <= 5) (q : bloop pa n k L al = z)
theorem letter_a : ("a" : Str) = letter 0 := by kernel_rfl
theorem item_a {h : Hp} {n : Nat} {f : Nat -> AV} (hn : h[n]? = some (.dict (dictOf f [0, 1, 2, 3, 4, 5]))) : ITEM (.obj n) (.str "a") h (f 0) := by
  refine rwE letter_a ?_; exact item_dict hn (.head _)
theorem cmpLeB {x y : Int} {h : Hp} {b : Bool} (q : decide (x <= y) = b) : CMP .LtE (.int x) (.int y) h b := CMP.le q
theorem best_end {cs : List (Str × Nat)} {d n f : Nat} {H : Hp} {pa : Nat -> Nat} {W : Nat -> Int} {limit : Int} {vs : List AV} {lc : Loc} {P : Fl -> St -> Prop} {L : Nat -> Int} {al : List Int} (hf : H[f]? = some (.list vs)) (hv : vs.length <= 32) (ha : al.length <= 5)
    (l2 : lc.lookup ("limit" : Str) = some (.int limit)) (l3 : lc.lookup ("found" : Str) = some (.obj f)) (l5 : lc.lookup ("loads" : Str) = some (.obj H.length)) (l6 : lc.lookup ("alone" : Str) = some (.obj (H.length + 1))) (hb : bfound pa W limit n = if (al ++ [L 0]).all (fun x => decide (x <= limit)) then [((al.length : Int) + 1, L 0)] else [])
    (hP : ∀ hp' us, (∀ i x, i ≠ f -> H[i]? = some x -> hp'[i]? = some x) -> hp'[f]? = some (.list (vs ++ us)) -> Prs hp' us (bfound pa W limit n) -> P .next ⟨hp', lc⟩) :
    EXS ⟨fdBest.scope.names, cs, d, true⟩ ((inB fdBest.body 1).drop 3) ⟨H ++ [.dict (dictOf (intD L) [0, 1, 2, 3, 4, 5]), .list (al.map .int)], lc⟩ P := by
  have h3 : ∀ {i : Nat} {o : AO}, H[i]? = some o -> (H ++ [AO.dict (dictOf (intD L) [0, 1, 2, 3, 4, 5]), .list (al.map .int)] ++ [.list [.int (L 0)]] ++ [.list (al.map .int ++ [.int (L 0)])])[i]? = some o := fun q => oldAt (oldAt (oldAt q))
  have hal := oldAt (r := [.list (al.map .int ++ [.int (L 0)])]) (oldAt (r := [.list [.int (L 0)]]) (two2 (H := H) (a := .dict (dictOf (intD L) [0, 1, 2, 3, 4, 5])) (b := .list (al.map .int))))
  have hdc := oldAt (r := [.list (al.map .int ++ [.int (L 0)])]) (oldAt (r := [.list [.int (L 0)]]) (two1 (H := H) (a := .dict (dictOf (intD L) [0, 1, 2, 3, 4, 5])) (b := .list (al.map .int))))
  refine xEA (max_ints (h := H ++ [AO.dict (dictOf (intD L) [0, 1, 2, 3, 4, 5]), .list (al.map .int)] ++ [.list [.int (L 0)]] ++ [.list (al.map .int ++ [.int (L 0)])]) (l := al ++ [L 0]) (by simp) (by refine rwE List.map_append ?_; exact lastAt) (by simp; exact Nat.le_trans ‹_› (by decide))) fun mx hmx hmx2 => ?_
  have e : decide (mx <= limit) = (al ++ [L 0]).all (fun x => decide (x <= limit)) := by
    refine rwE (propext (Bool.eq_iff_iff ..)) (rwE (decide_eq_true_eq ..) (rwE (propext (hmx2 ..)) (rwE (propext (List.all_eq_true ..)) ?_))); lia
  rw [← e] at hb
  have hz : (al.map AV.int).length <= 1000 /\ (al.map AV.int).length + 1 <= 1000 := by refine rwE (List.length_map ..) ?_; lia
  have hl : ((al.map AV.int).length : Int) = al.length := by exact rwE (List.length_map ..) rfl
  clear e hmx2
  cases hle : decide (mx <= limit) with
  | true =>
    rw [if_pos hle] at hb
    apply DS.ifT
    walk_at "mr"
    exact item_a two1
    walk_at "mr"
    exact cat_list (oldAt two2) lastAt hz.2
    walk_at "mr"
    exact hmx
    walk_at "mr"
    exact cmpLeB hle
    generalize H ++ [AO.dict (dictOf (intD L) [0, 1, 2, 3, 4, 5]), .list (al.map .int)] ++ [.list [.int (L 0)]] ++ [.list (al.map .int ++ [.int (L 0)])] = H3 at *
    walk_at "mr"
    exact len_list hal hz.1
    walk_at "mr"
    exact item_a hdc
    walk_at "mr"
    exact bm_append (h3 hf) (oldAt (h3 hf)) (Nat.le_trans hv (by decide))
    walk_at "mr"
    refine EXS.nil (hP _ _ (fun i x hi hx => ?_) (getSet (oldAt (h3 hf))) ?_)
    . refine rwE (List.getElem?_set_ne (Ne.symm hi)) ?_; exact oldAt (h3 hx)
    . refine rwE hb ?_
      refine .cons ?_ .nil
      rw [List.getElem?_set_ne, ← hl]
      . exact lastAt
      . intro q; have := h3 hf; rw [q] at this; simp at this
  | false =>
    rw [if_neg (fun q => by rw [hle] at q; cases q)] at hb
    apply DS.ifF0
    walk_at "mr"
    exact item_a two1
    walk_at "mr"
    exact cat_list (oldAt two2) lastAt hz.2
    walk_at "mr"
    exact hmx
    walk_at "mr"
    exact cmpLeB hle
    refine EXS.nil (hP _ [] (fun i x z9 hx => h3 hx) (by refine rwE (List.append_nil ..) ?_; exact h3 hf) ?_)
    refine rwE hb ?_; exact .nil
theorem best_turn {cs : List (Str × Nat)} {d o n f : Nat} {H : Hp} {pa : Nat -> Nat} {W : Nat -> Int} {limit : Int} {vs : List AV} {lc : Loc} {P : Fl -> St -> Prop} (hpa : ∀ c, 1 <= c -> c <= 5 -> pa c < c) (hoo : H[o]? = some (.dict (dictOf (strD pa) [1, 2, 3, 4, 5]))) (hf : H[f]? = some (.list vs)) (hv : vs.length <= 32)
    (l1 : lc.lookup ("over" : Str) = some (.obj o)) (l2 : lc.lookup ("limit" : Str) = some (.int limit)) (l3 : lc.lookup ("found" : Str) = some (.obj f)) (l4 : lc.lookup ("cuts" : Str) = some (.int n)) (l5 : lc.lookup ("loads" : Str) = some (.obj H.length)) (l6 : lc.lookup ("alone" : Str) = some (.obj (H.length + 1)))
    (hP : ∀ hp' us lc', (∀ i x, i ≠ f -> H[i]? = some x -> hp'[i]? = some x) -> hp'[f]? = some (.list (vs ++ us)) -> Prs hp' us (bfound pa W limit n) -> lc'.lookup ("over" : Str) = some (.obj o) -> lc'.lookup ("limit" : Str) = some (.int limit) -> lc'.lookup ("found" : Str) = some (.obj f) -> P .next ⟨hp', lc'⟩) :
    EXS ⟨fdBest.scope.names, cs, d, true⟩ ((inB fdBest.body 1).drop 2) ⟨H ++ [.dict (dictOf (intD W) [0, 1, 2, 3, 4, 5]), .list []], lc⟩ P := by
  apply DS.for
  . apply SD.down; kernel_rfl
  refine FORL.inv (InvB H o n f limit pa (bloop pa n 5 W [])) (fun st hI => ?_) (fun it r st hI => ?_) ⟨5, W, [], lc, rfl, rfl, l1, l2, l3, l4, l5, l6, by decide, by decide, rfl⟩
  . clear l1 l2 l3 l4 l5 l6
    obtain ⟨k, L, al, lc, hits, rfl, l1, l2, l3, l4, l5, l6, hk, hal, hbl⟩ := hI
    cases (upto_inj hits).1 rfl
    have hbf : bfound pa W limit n = if (al ++ [L 0]).all (fun x => decide (x <= limit)) then [((al.length : Int) + 1, L 0)] else [] := by
      unfold bfound
      refine rwB hbl ?_
      rfl
    refine ⟨rfl, Seq.go ?_⟩
    have fin := best_end (n := n) (cs := cs) (d := d) (vs := vs) (P := P) (H := H) hf hv (by omega) l2 l3 l5 l6 hbf fun hp' us k1 k2 k3 => hP hp' us lc k1 k2 k3 l1 l2 l3
    exact fin
  . clear l1 l2 l3 l4 l5 l6
    obtain ⟨k, L, al, lc, hits, rfl, l1, l2, l3, l4, l5, l6, hk, hal, hbl⟩ := hI
    (refine xEAA ((upto_inj hits).2 _ _ rfl) fun k hz1 hz2 hz3 => ?_; subst hz1; subst hz2; subst hz3)
    have h5 : k <= 4 /\ k + 1 <= 5 /\ al.length + 1 + k <= 5 := by lia
    refine FT.mk rfl (assignLoc (by kernel_rfl)) ?_
    walk_at "mr"
    exact at_five h5.1
    cases hb : decide (n / 2 ^ k % 2 = 1) with
    | true =>
      apply DS.ifT
      walk_at "mr"
      exact pow_two (by lia)
      exact fdiv_nat (pow_small h5.1).1 (pow_small h5.1).2
      walk_at "mr"
      exact fmod_nat (b := 2) (by decide)
      exact bit_at hb
      walk_at "mr"
      exact item_dict (i := k + 1) two1 (six_mem h5.2.1)
      walk_at "mr"
      exact bm_append two2 two2 (by refine rwE (List.length_map ..) ?_; lia)
      rw [set2, show al.map AV.int ++ [intD L (k + 1)] = (al ++ [L (k + 1)]).map .int by refine rwE List.map_append ?_; rfl]
      walk_at "mr"
      exact TurnF.nil ⟨k, L, al ++ [L (k + 1)], _, rfl, rfl, l1, l2, l3, l4, l5, l6, Nat.le_trans h5.1 (by decide), by refine rwE List.length_append ?_; exact h5.2.2, by rw [← hbl, bloop, if_pos (of_decide_eq_true hb)]⟩
    | false =>
      apply DS.ifF
      walk_at "mr"
      exact pow_two (by lia)
      exact fdiv_nat (pow_small h5.1).1 (pow_small h5.1).2
      walk_at "mr"
      exact fmod_nat (b := 2) (by decide)
      exact bit_at hb
      have hp5 := hpa (k + 1) (Nat.le_add_left _ _) h5.2.1
      have hp6 : pa (k + 1) ∈ [0, 1, 2, 3, 4, 5] := six_mem (Nat.le_trans (Nat.le_of_lt ‹_›) ‹_›)
      walk_at "mr"
      exact item_dict (i := k + 1) (oldAt hoo) (five_mem (Nat.le_add_left _ _) h5.2.1)
      exact item_dict (i := pa (k + 1)) two1 hp6
      walk_at "mr"
      exact item_dict (i := k + 1) two1 (six_mem h5.2.1)
      exact augAdd
      exact set_at1 hp6
      walk_at "mr"
      exact TurnF.nil ⟨k, updV L (pa (k + 1)) (L (pa (k + 1)) + L (k + 1)), al, _, rfl, rfl, l1, l2, l3, l4, l5, l6, Nat.le_trans h5.1 (by decide), by exact Nat.le_of_lt ‹_›, by rw [← hbl, bloop, if_neg (of_decide_eq_false hb)]⟩
theorem found_len (pa : Nat -> Nat) (W : Nat -> Int) (limit : Int) : ∀ m, ((List.range m).flatMap (bfound pa W limit)).length <= m
  | 0 => Nat.le_refl _
  | m + 1 => by
    refine rwE List.range_succ (rwE List.flatMap_append (rwE List.length_append ?_))
    have : (bfound pa W limit m).length <= 1 := by unfold bfound; dsimp only; split <;> simp
    refine rwE (show List.flatMap (bfound pa W limit) [m] = bfound pa W limit m by exact List.append_nil _) ?_
    exact Nat.add_le_add (found_len pa W limit m) this
inductive InvO (h : Hp) (o wd : Nat) (limit : Int) (pa : Nat -> Nat) (W : Nat -> Int) (its : List It) (st : St) : Prop
  | mk (n : Nat) (H : Hp) (vs : List AV) (lc : Loc) (hn : n <= 32) (hi : its = uptoD n 32) (e : st = ⟨H, lc⟩) (pre : ∀ (i : Nat) (x : AO), h[i]? = some x -> H[i]? = some x) (c : H[h.length]? = some (.cell (some (.obj wd)))) (f : H[h.length + 1]? = some (.list vs))
    (l1 : lc.lookup ("over" : Str) = some (.obj o)) (l2 : lc.lookup ("limit" : Str) = some (.int limit)) (l3 : lc.lookup ("found" : Str) = some (.obj (h.length + 1))) (p : Prs H vs ((List.range n).flatMap (bfound pa W limit)))
theorem min_call {H : Hp} {k : Nat} {vs : List AV} {ps : List (Int × Int)} {N l : Int} (hf : H[k]? = some (.list vs)) (hz : vs.length <= 1000) (hp : Prs H vs ps) (h1 : (N, l) ∈ ps) (h2 : ∀ q ∈ ps, N < q.1 ∨ (N = q.1 /\ l <= q.2)) : ∃ r, CAL (.builtin "min") [.obj k] H (.obj r) H /\ H[r]? = some (.tup [.int N, .int l]) := by
  cases hp with
  | nil => cases h1
  | @cons m a b vs rs hm hrs =>
    refine xEA (minT_spec hrs (m := m) (p := (a, b)) hm h1 h2) fun r hr1 hr2 => ?_
    exact ⟨r, CAL.min hf hr1, hr2⟩
theorem best_sound {d o wd : Nat} {h : Hp} {pa : Nat -> Nat} {W : Nat -> Int} {limit : Int} (hpa : ∀ c, 1 <= c -> c <= 5 -> pa c < c) (ho : h[o]? = some (.dict (dictOf (strD pa) [1, 2, 3, 4, 5]))) (hw : h[wd]? = some (.dict (dictOf (intD W) [0, 1, 2, 3, 4, 5]))) {N l : Int} (hmem : (N, l) ∈ (List.range 32).flatMap (bfound pa W limit)) (hleast : ∀ q ∈ (List.range 32).flatMap (bfound pa W limit), N < q.1 ∨ (N = q.1 /\ l <= q.2))
    {P : AV -> Hp -> Prop} (hP : ∀ r more, (h ++ more)[r]? = some (.tup [.int N, .int l]) -> P (.obj r) (h ++ more)) : CALL (d + 1) fdBest [.obj o, .obj wd, .int limit] h P := by
  refine CALL.intro (binds := [("over", .obj o), ("weights", .obj wd), ("limit", .int limit)]) (h1 := h) (st1 := ⟨h ++ [.cell (some (.obj wd))], [("limit", .int limit), ("over", .obj o)]⟩) (by kernel_rfl) ?_ ?_
  . refine bind_local (by kernel_rfl) (bind_cell (c := h.length) (u := none) (by kernel_rfl) (by kernel_rfl) (by refine (?_ : (h ++ [AO.cell none])[h.length]? = _); exact lastAt) (bind_local (by kernel_rfl) ?_))
    refine (?_ : some (St.mk ((h ++ [AO.cell none]).set h.length _) _) = _)
    exact rwE set_last rfl
  apply DS.assign (by kernel_rfl) rfl
  walk_at "mr"
  apply SD.range (k := 32) (by kernel_rfl)
  exact ED.int
  walk_at "mr"
  have e1 : (h ++ [AO.cell (some (AV.obj wd))]).length = h.length + 1 := List.length_append
  refine rwE e1 ?_
  refine FORL.inv (InvO h o wd limit pa W) (fun st hI => ?_) (fun it r st hI => ?_) ⟨0, _, [], _, by decide, rfl, rfl, fun i x hx => oldAt (oldAt hx), oldAt lastAt, e1 ▸ lastAt, by kernel_rfl, by kernel_rfl, by kernel_rfl, .nil⟩
  . obtain ⟨n, H, vs, lc, hn32, hits, rfl, pre, c, f, l1, l2, l3, prs⟩ := hI
    have hv : vs.length <= n := by refine rwE prs.length ?_; exact found_len pa W limit n
    cases Nat.le_antisymm hn32 ((uptoD_inj hits).1 rfl)
    refine xEA (min_call f (Nat.le_trans hv (by decide)) prs hmem hleast) fun r h1 h2 => ?_
    obtain ⟨m, rfl⟩ := pre_of pre
    refine ⟨rfl, ?_⟩
    refine (?_ : EXS _ _ _ _)
    walk_at "mr"
    exact h1
    exact hP r m h2
  . obtain ⟨n, H, vs, lc, hn32, hits, rfl, pre, c, f, l1, l2, l3, prs⟩ := hI
    (refine xAA ((uptoD_inj hits).2 _ _ rfl) fun hn hz1 hz2 => ?_; subst hz1; subst hz2)
    have hv : vs.length <= n := by refine rwE prs.length ?_; exact found_len pa W limit n
    refine FT.mk rfl (assignLoc (by kernel_rfl)) ?_
    apply DS.assignC (by kernel_rfl)
    refine EDC.mapD [0, 1, 2, 3, 4, 5] (fun k => .one (.str (letter k))) (intD W) (cs := [("weights", h.length)]) (by kernel_rfl) (by kernel_rfl) (fun z9 => rfl) (SD.gen ED.str src_six) rfl rfl rfl (by decide) (by decide) fun k hk es => ?_
    . refine Pure2.name (by kernel_rfl) fun lc => ⟨?_, ?_⟩
      . walk_at "mr"
      . walk_at "mr"
        apply (ED.cel)
        exact oldAt c
        walk_at "mr"
        exact item_dict (oldAt (pre _ _ hw)) hk
    walk_at "md"; walk_at "md"; walk_at "md"; walk_at "md"
    refine rwE (show (H ++ [AO.dict (dictOf (intD W) [0, 1, 2, 3, 4, 5])]).length = H.length + 1 from List.length_append) (rwE (List.append_assoc ..) ?_)
    refine best_turn (n := n) (lc := ("alone", .obj (H.length + 1)) :: ("loads", .obj H.length) :: ("cuts", .int n) :: lc) hpa (pre _ _ ho) f (Nat.le_trans hv (Nat.le_of_lt hn)) l1 l2 l3 (by kernel_rfl) (by kernel_rfl) (by kernel_rfl) fun hp' us lc' k1 k2 k3 m1 m2 m3 => ?_
    refine TurnF.next ⟨n + 1, hp', vs ++ us, lc', hn, rfl, rfl, fun i x hx => k1 i x (Nat.ne_of_lt (Nat.lt_succ_of_lt (List.getElem?_eq_some_iff.mp hx).1)) (pre i x hx), k1 _ _ (Nat.ne_of_lt (Nat.lt_succ_self _)) c, k2, m1, m2, m3, ?_⟩
    refine rwE List.range_succ (rwE List.flatMap_append ?_)
    refine Prs.append (prs.mono fun i c hi => k1 i _ (fun q => by rw [q, f] at hi; cases hi) hi) ?_
    simpa using k3
theorem bloop_spec {pa : Nat -> Nat} {W F : Nat -> Int} {b : Nat -> Bool} {n : Nat} (hpa : ∀ c, 1 <= c -> c <= 5 -> pa c < c) (hF : Ld pa W b F) (hb : ∀ c, 1 <= c -> c <= 5 -> b c = decide (n / 2 ^ (c - 1) % 2 = 1)) :
    (bloop pa n 5 W []).1 0 = F 0 /\ (bloop pa n 5 W []).2 = ([5, 4, 3, 2, 1].filter b).map F := by
  let t : Nat -> Nat -> Nat -> Int := fun v k c => if pa c = v /\ k < c /\ b c = false then F c else 0
  let S : Nat -> Nat -> Int := fun v k => t v k 1 + t v k 2 + t v k 3 + t v k 4 + t v k 5
  have hS : ∀ v k, v <= 5 -> k <= v -> F v = W v + S v k := fun v k hv hkv => by
    refine rwE (hF v hv) ?_
    congr 1
    have : ∀ l : List Nat, (∀ c ∈ l, 1 <= c /\ c <= 5) -> ((l.filter fun c => pa c = v).map fun c => if b c then 0 else F c).sum = (l.map fun c => t v k c).sum := fun l => by
      induction l with
      | nil => intro _; rfl
      | cons x r ih =>
        intro hl
        have ih := ih fun c hc => hl c (.tail _ hc)
        have hx := hl x (.head _)
        refine rwE List.filter_cons ?_
        by_cases hxv : pa x = v
        . have hkx : k < x := by have := hpa x hx.1 hx.2; lia
          simp only [hxv, decide_true, if_true, List.map_cons, List.sum_cons, ih]
          congr 1
          refine (?_ : _ = if pa x = v /\ k < x /\ b x = false then F x else 0)
          cases hbx : b x <;> lia
        . simp only [hxv, decide_false, Bool.false_eq_true, if_false, List.map_cons, List.sum_cons, ih]
          have : t v k x = 0 := by refine (?_ : (if pa x = v /\ k < x /\ b x = false then F x else 0) = 0); exact rwE (if_neg fun q => hxv q.1) rfl
          omega
    unfold chl
    refine rwE (this _ (by decide)) ?_
    refine (?_ : _ = t v k 1 + t v k 2 + t v k 3 + t v k 4 + t v k 5)
    simp
    omega
  have hT : ∀ v k, k <= 4 -> S v k = S v (k + 1) + (if pa (k + 1) = v /\ b (k + 1) = false then F (k + 1) else 0) := fun v k hk => by
    have h1 : ∀ c, c ≠ k + 1 -> t v k c = t v (k + 1) c := fun c hc => by
      refine (?_ : (if pa c = v /\ k < c /\ b c = false then F c else 0) = if pa c = v /\ k + 1 < c /\ b c = false then F c else 0)
      have : (k < c) ↔ (k + 1 < c) := by lia
      lia
    have h2 : t v (k + 1) (k + 1) = 0 := by refine (?_ : (if pa (k + 1) = v /\ k + 1 < k + 1 /\ b (k + 1) = false then F (k + 1) else 0) = 0); exact rwE (if_neg (by lia)) rfl
    have h3 : t v k (k + 1) = if pa (k + 1) = v /\ b (k + 1) = false then F (k + 1) else 0 := by
      refine (?_ : (if pa (k + 1) = v /\ k < k + 1 /\ b (k + 1) = false then F (k + 1) else 0) = _)
      lia
    refine rwB h3 ?_
    refine (?_ : t v k 1 + t v k 2 + t v k 3 + t v k 4 + t v k 5 = t v (k + 1) 1 + t v (k + 1) 2 + t v (k + 1) 3 + t v (k + 1) 4 + t v (k + 1) 5 + t v k (k + 1))
    rcases (by lia : k = 0 ∨ k = 1 ∨ k = 2 ∨ k = 3 ∨ k = 4) with rfl | rfl | rfl | rfl | rfl <;> simp only [Nat.zero_add, Nat.reduceAdd] at h1 h2 ⊢
    . refine rwE (h1 2 (Nat.succ_ne_self _)) (rwE (h1 3 (by decide)) (rwE (h1 4 (by decide)) (rwE (h1 5 (by decide)) (rwE h2 ?_)))); lia
    . refine rwE (h1 1 ((Nat.succ_ne_self _).symm)) (rwE (h1 3 (Nat.succ_ne_self _)) (rwE (h1 4 (by decide)) (rwE (h1 5 (by decide)) (rwE h2 ?_)))); lia
    . refine rwE (h1 1 (by decide)) (rwE (h1 2 ((Nat.succ_ne_self _).symm)) (rwE (h1 4 (Nat.succ_ne_self _)) (rwE (h1 5 (by decide)) (rwE h2 ?_)))); lia
    . refine rwE (h1 1 (by decide)) (rwE (h1 2 (Nat.ne_of_lt ‹_›)) (rwE (h1 3 ((Nat.succ_ne_self _).symm)) (rwE (h1 5 (Nat.succ_ne_self _)) (rwE h2 ?_)))); lia
    . refine rwE (h1 1 (by decide)) (rwE (h1 2 (by decide)) (rwE (h1 3 (Nat.ne_of_lt (Nat.lt_trans ‹_› (Nat.lt_succ_self _)))) (rwE (h1 4 ((Nat.succ_ne_self _).symm)) (rwE h2 ?_)))); lia
  have key : ∀ k, k <= 5 -> ∀ L al, (∀ v, v <= 5 -> L v = W v + S v k) -> (bloop pa n k L al).1 0 = F 0 /\ (bloop pa n k L al).2 = al ++ (((List.range k).map (· + 1)).reverse.filter b).map F := by
    intro k
    induction k with
    | zero =>
      intro _ L al hL
      refine ⟨?_, by simp [bloop]⟩
      refine (?_ : L 0 = F 0)
      exact rwE (hL 0 (by omega)) (rwB (hS 0 0 (by lia) (Nat.zero_le _)) rfl)
    | succ k ih =>
      intro hk L al hL
      have hLk : L (k + 1) = F (k + 1) := by exact rwE (hL (k + 1) hk) (rwB (hS (k + 1) (k + 1) hk (Nat.lt_succ_self _)) rfl)
      have hbk := hb (k + 1) (Nat.succ_pos _) hk
      rw [Nat.add_sub_cancel] at hbk
      have hfl : ((List.range (k + 1)).map (· + 1)).reverse = (k + 1) :: ((List.range k).map (· + 1)).reverse := by
        refine rwE List.range_succ ?_; simp
      refine rwE hfl ?_
      unfold bloop
      by_cases hbit : n / 2 ^ k % 2 = 1
      . refine rwE (if_pos hbit) ?_
        rw [hbit] at hbk
        have hbk : b (k + 1) = true := by simpa using hbk
        have := ih (Nat.le_of_lt ‹_›) L (al ++ [L (k + 1)]) fun v hv => by
          refine rwE (hL v hv) (rwE (hT v k (Nat.le_of_lt_succ ‹_›)) (rwE (if_neg (by lia)) ?_)); lia
        refine rwE List.filter_cons (rwE (if_pos hbk) (rwE List.map_cons ?_))
        refine ⟨this.1, ?_⟩
        refine rwE this.2 (rwE hLk ?_); exact List.append_assoc ..
      . refine rwE (if_neg hbit) ?_
        have hbk : b (k + 1) = false := by refine rwE hbk ?_; simpa using hbit
        refine rwE List.filter_cons (rwE (if_neg (by lia)) ?_)
        refine ih (by lia) _ al fun v hv => ?_
        refine rwE (hT v k (by lia)) ?_
        refine (?_ : (if v = pa (k + 1) then L (pa (k + 1)) + L (k + 1) else L v) = _)
        by_cases hv2 : v = pa (k + 1)
        . refine rwE (if_pos hv2) (rwE (if_pos ⟨hv2.symm, hbk⟩) (rwE hLk (rwB hv2 (rwE (hL v hv) ?_)))); omega
        . refine rwE (if_neg hv2) (rwE (if_neg (fun q => hv2 q.1.symm)) (rwE (hL v hv) ?_)); lia
  have := key 5 (Nat.lt_succ_self _) W [] fun v hv => by
    have : S v 5 = 0 := by
      have : ∀ c, c <= 5 -> t v 5 c = 0 := fun c hc => by refine (?_ : (if pa c = v /\ 5 < c /\ b c = false then F c else 0) = 0); exact rwE (if_neg (by lia)) rfl
      refine (?_ : t v 5 1 + t v 5 2 + t v 5 3 + t v 5 4 + t v 5 5 = 0)
      refine rwE (this 1 (Nat.succ_pos _)) (rwE (this 2 (Nat.le_add_left _ _)) (rwE (this 3 (Nat.le_add_left _ _)) (rwE (this 4 (Nat.le_succ _)) (rwE (this 5 (by lia)) ?_)))); rfl
    omega
  exact this
theorem flt_cons (b : Nat -> Bool) (x : Nat) (l : List Nat) : ((x :: l).filter b).length = (l.filter b).length + (b x).toNat := by
  refine rwE List.filter_cons ?_
  cases b x <;> rfl
theorem flt_len (b : Nat -> Bool) : ([5, 4, 3, 2, 1].filter b).length = (b 1).toNat + (b 2).toNat + (b 3).toNat + (b 4).toNat + (b 5).toNat := by
  exact rwE (flt_cons ..) (rwE (flt_cons ..) (rwE (flt_cons ..) (rwE (flt_cons ..) (rwE (flt_cons ..) (rwE (List.filter_nil ..) (rwE (List.length_nil ..) (rwE (Nat.zero_add ..) rfl)))))))
theorem bits_ex : ∀ b1 b2 b3 b4 b5 : Bool, ∃ n, n < 32 /\ b1 = decide (n / 2 ^ 0 % 2 = 1) /\ b2 = decide (n / 2 ^ 1 % 2 = 1) /\ b3 = decide (n / 2 ^ 2 % 2 = 1) /\ b4 = decide (n / 2 ^ 3 % 2 = 1) /\ b5 = decide (n / 2 ^ 4 % 2 = 1) := by
  decide +kernel
set_option tactic.hygienic true in
theorem best_pair {pa : Nat -> Nat} {W : Nat -> Int} {lim : Int} {gl : Nat -> Int} {s : Nat -> List Nat} {j : Nat -> Nat} (G : Gr pa W lim gl s j) {N : Nat} (hN : N = j 0 + j 1 + j 2 + j 3 + j 4 + j 5) :
    ((N : Int) + 1, gl 0) ∈ (List.range 32).flatMap (bfound pa W lim) /\ ∀ q ∈ (List.range 32).flatMap (bfound pa W lim), (N : Int) + 1 < q.1 ∨ ((N : Int) + 1 = q.1 /\ gl 0 <= q.2) := by
  constructor
  . refine xEAAAAA (bits_ex (taken pa s j 1) (taken pa s j 2) (taken pa s j 3) (taken pa s j 4) (taken pa s j 5)) fun n hn e1 e2 e3 e4 e5 => ?_
    have := bloop_spec (n := n) G.hpa (taken_ld G) fun c h1 h2 => by
      rcases (by lia : c = 1 ∨ c = 2 ∨ c = 3 ∨ c = 4 ∨ c = 5) with rfl | rfl | rfl | rfl | rfl <;> assumption
    refine List.mem_flatMap.mpr ⟨n, List.mem_range.mpr hn, ?_⟩
    unfold bfound
    try dsimp only
    rw [this.1, this.2, if_pos]
    . refine rwE (List.length_map ..) (rwE (flt_len ..) (rwE (taken_cnt G ..) (rwB (hN ..) ?_)))
      exact .head _
    . refine rwE (propext List.all_eq_true) ?_
      intro x hx
      refine rwE decide_eq_true_eq ?_
      rcases List.mem_append.mp hx with hx | hx
      . (refine xEA (List.mem_map.mp hx) fun c hc hz2 => ?_; subst hz2)
        have hc := (List.mem_filter.mp hc).1
        exact (G.gl_ok c (by simp at hc; lia)).2
      . have : x = gl 0 := by simpa using hx
        refine rwE this ?_
        exact (G.gl_ok 0 (by lia)).2
  . intro q hq
    refine xEA (List.mem_flatMap.mp hq) fun n hn hq => ?_
    let b : Nat -> Bool := fun c => decide (1 <= c) && decide (n / 2 ^ (c - 1) % 2 = 1)
    obtain ⟨F, hF⟩ := Ld.exists G.hpa W b
    have := bloop_spec (n := n) G.hpa hF fun c h1 h2 => by lia
    unfold bfound at hq
    dsimp only at hq
    rw [this.1, this.2] at hq
    split at hq
    . rename_i hall
      rw [List.all_eq_true] at hall
      have hq : q = (((([5, 4, 3, 2, 1].filter b).map F).length : Int) + 1, F 0) := by simpa using hq
      rw [List.length_map, flt_len] at hq
      have := optimal G hF (by rfl) (fun c hc hbc => by
          have := hall (F c) (List.mem_append_left _ (List.mem_map.mpr ⟨c, List.mem_filter.mpr ⟨?_, hbc⟩, rfl⟩))
          . simpa using this
          . have : 1 <= c := by simp [b] at hbc; lia
            simp; lia) (by simpa using hall (F 0) (by simp)) hN rfl
      refine rwE hq ?_
      try dsimp only
      lia
    . cases hq
section
variable {lt lt' : AV -> AV -> Bool} {g : AV -> AV} {S : AV -> Prop}
theorem sdLoop_map (hlt : ∀ a b, S a -> S b -> lt (g a) (g b) = lt' a b) {new : AV} (hn : S new) (start : Nat) : ∀ (k : Nat) (xs : List AV) (p : Nat), (∀ a ∈ xs, S a) -> sdLoop lt (g new) start k (xs.map g) p = (sdLoop lt' new start k xs p).map g
  | 0, xs, p, _ => by simp [sdLoop]
  | k + 1, xs, p, h => by
    unfold sdLoop
    split
    . refine rwE (List.getElem?_map) ?_
      cases hp : xs[(p - 1) / 2]? with
      | none => simp
      | some par =>
        have hS := h par (List.mem_of_getElem? hp)
        simp only [Option.map_some, hlt _ _ hn hS]
        split
        . refine rwB List.map_set ?_
          refine sdLoop_map hlt hn start k _ _ fun a ha => ?_
          rcases List.mem_or_eq_of_mem_set ha with h1 | h1
          . exact h a h1
          . refine rwE h1 ?_; exact hS
        . simp
    . simp
theorem suChild_map (hlt : ∀ a b, S a -> S b -> lt (g a) (g b) = lt' a b) {xs : List AV} (h : ∀ a ∈ xs, S a) (c : Nat) : suChild lt (xs.map g) c = suChild lt' xs c := by
  unfold suChild
  refine rwE (List.getElem?_map) (rwE (List.getElem?_map) ?_)
  cases h1 : xs[c]? with
  | none => simp
  | some a =>
    cases h2 : xs[c + 1]? with
    | none => simp
    | some b =>
      simp only [Option.map_some, hlt _ _ (h a (List.mem_of_getElem? h1)) (h b (List.mem_of_getElem? h2))]
theorem suLoop_map (hlt : ∀ a b, S a -> S b -> lt (g a) (g b) = lt' a b) : ∀ (k : Nat) (xs : List AV) (p : Nat), (∀ a ∈ xs, S a) -> suLoop lt k (xs.map g) p = ((suLoop lt' k xs p).1.map g, (suLoop lt' k xs p).2)
  | 0, xs, p, _ => rfl
  | k + 1, xs, p, h => by
    unfold suLoop
    refine rwE (List.length_map ..) (rwE (suChild_map hlt h ..) (rwE (List.getElem?_map ..) ?_))
    split
    . cases hv : xs[suChild lt' xs (2 * p + 1)]? with
      | none => simp
      | some v =>
        simp only [Option.map_some]
        refine rwB List.map_set ?_
        refine suLoop_map hlt k _ _ fun a ha => ?_
        rcases List.mem_or_eq_of_mem_set ha with h1 | h1
        . exact h a h1
        . refine rwE h1 ?_; exact h v (List.mem_of_getElem? hv)
    . rfl
theorem upP_map (hlt : ∀ a b, S a -> S b -> lt (g a) (g b) = lt' a b) {xs : List AV} {x : AV} (hx : S x) (h : ∀ a ∈ xs, S a) (p : Nat) : upP lt (xs.map g) p (g x) = (upP lt' xs p x).map g := by
  unfold upP
  refine rwE (List.length_map ..) (rwE (suLoop_map hlt _ _ _ h ..) ?_)
  try dsimp only
  refine rwB List.map_set ?_
  refine sdLoop_map hlt hx _ _ _ _ fun a ha => ?_
  rcases List.mem_or_eq_of_mem_set ha with h1 | h1
  . exact (suLoop_all lt' xs.length xs p h).1 a h1
  . refine rwE h1 ?_; exact hx
theorem upAt_map (hlt : ∀ a b, S a -> S b -> lt (g a) (g b) = lt' a b) {xs : List AV} (h : ∀ a ∈ xs, S a) (j : Nat) : upAt lt (xs.map g) j = (upAt lt' xs j).map g /\ ∀ a ∈ upAt lt' xs j, S a := by
  unfold upAt
  refine rwE (List.getElem?_map) ?_
  cases hx : xs[j]? with
  | none => exact ⟨by simp, h⟩
  | some x => exact ⟨upP_map hlt (h x (List.mem_of_getElem? hx)) h j, (upP_all (h x (List.mem_of_getElem? hx)) h).1⟩
theorem heapP_map (hlt : ∀ a b, S a -> S b -> lt (g a) (g b) = lt' a b) : ∀ (j : Nat) (xs : List AV), (∀ a ∈ xs, S a) -> heapP lt j (xs.map g) = (heapP lt' j xs).map g /\ ∀ a ∈ heapP lt' j xs, S a
  | 0, xs, h => ⟨rfl, h⟩
  | j + 1, xs, h => by
    unfold heapP
    refine rwE ((upAt_map hlt h j).1) ?_
    exact heapP_map hlt j _ (upAt_map hlt h j).2
theorem popP_map (hlt : ∀ a b, S a -> S b -> lt (g a) (g b) = lt' a b) {ys : List AV} {last : AV} (hl : S last) (h : ∀ a ∈ ys, S a) : popP lt (ys.map g) (g last) = (g (popP lt' ys last).1, (popP lt' ys last).2.map g) /\ ∀ a ∈ (popP lt' ys last).2, S a := by
  cases ys with
  | nil => exact ⟨rfl, fun a ha => by cases ha⟩
  | cons y r =>
    have h2 : ∀ a ∈ last :: r, S a := fun a ha => by
      rcases List.mem_cons.mp ha with h1 | h1
      . refine rwE h1 ?_; exact hl
      . exact h a (.tail _ h1)
    refine ⟨?_, (upP_all hl h2).1⟩
    refine (?_ : (g y, upP lt ((last :: r).map g) 0 (g last)) = (g y, (upP lt' (last :: r) 0 last).map g))
    exact rwE (upP_map hlt hl h2 ..) rfl
end
noncomputable def ltR (a b : AV) : Bool := match a, b with
  | .int x, .int y => decide (x < y)
  | _, _ => false
noncomputable def rks (p : List Nat) : List AV := p.map fun (i : Nat) => .int i
noncomputable def hAt (p : List Nat) : Nat -> List AV
  | 0 => heapP ltR (p.length / 2) (rks p)
  | j + 1 => (popP ltR (hAt p j).dropLast ((hAt p j).getLast?.getD .none)).2
noncomputable def chkR (p : List Nat) : Bool := (List.range p.length).all fun j => !(hAt p j).isEmpty && decide ((popP ltR (hAt p j).dropLast ((hAt p j).getLast?.getD .none)).1 = .int (j : Nat)) && decide ((hAt p (j + 1)).length = p.length - (j + 1))
noncomputable def allL (m : Nat) : Nat -> List (List Nat)
  | 0 => [[]]
  | k + 1 => (allL m k).flatMap fun l => (List.range m).map (· :: l)
theorem mem_allL {m : Nat} : ∀ {p : List Nat}, (∀ x ∈ p, x < m) -> p ∈ allL m p.length
  | [], _ => .head _
  | x :: r, h => by
    refine (?_ : _ ∈ (allL m r.length).flatMap fun l => (List.range m).map (· :: l))
    exact List.mem_flatMap.mpr ⟨r, mem_allL fun y hy => h y (.tail _ hy), List.mem_map.mpr ⟨x, List.mem_range.mpr (h x (.head _)), rfl⟩⟩
noncomputable def ndB : List Nat -> Bool
  | [] => true
  | x :: r => !r.contains x && ndB r
theorem ndB_of {l : List Nat} (h : l.Nodup) : ndB l = true := by
  induction l with
  | nil => rfl
  | cons x r ih =>
    rw [List.nodup_cons] at h
    simp [ndB, h.1, ih h.2]
theorem chk_all : ∀ n, n <= 5 -> ((allL n n).filter ndB).all chkR = true := by
  intro n hn
  rcases (by lia : n = 0 ∨ n = 1 ∨ n = 2 ∨ n = 3 ∨ n = 4 ∨ n = 5) with rfl | rfl | rfl | rfl | rfl | rfl <;> decide +kernel
theorem chk_of {p : List Nat} (hl : p.length <= 5) (h : ∀ x ∈ p, x < p.length) (hn : p.Nodup) : chkR p = true := by
  have := chk_all p.length hl
  rw [List.all_eq_true] at this
  exact this p (List.mem_filter.mpr ⟨mem_allL h, ndB_of hn⟩)
theorem heap_pops {cs : List Nat} {gl : Nat -> Int} {ad : Nat -> Nat} {lt : AV -> AV -> Bool} (hnd : cs.Nodup) (hl : cs.length <= 5) (hlt : ∀ c ∈ cs, ∀ c' ∈ cs, lt (.obj (ad c)) (.obj (ad c')) = bef gl c c') :
    ∃ H : Nat -> List AV, H 0 = heapP lt (cs.length / 2) (cs.map fun c => .obj (ad c)) /\ H cs.length = [] /\ (∀ j, j <= cs.length -> ∀ a ∈ H j, ∃ c ∈ cs, a = .obj (ad c)) /\ ∀ j, j < cs.length -> ∃ ys last c, H j = ys ++ [last] /\ (srtR gl cs)[j]? = some c /\ popP lt ys last = (.obj (ad c), H (j + 1)) := by
  let s := srtR gl cs
  have hsp : s.Perm cs := srtR_perm gl cs
  have hsl : s.length = cs.length := hsp.length_eq
  have hsn : s.Nodup := hsp.nodup_iff.mpr hnd
  have hss : s.Pairwise (fun a b => bef gl a b = true) := srtR_sorted hnd
  let p : List Nat := cs.map fun c => s.idxOf c
  have hpl : p.length = cs.length := by exact List.length_map ..
  let g : AV -> AV := fun a => match a with
    | .int r => .obj (ad (s.getD r.toNat 0))
    | a => a
  let S : AV -> Prop := fun a => ∃ r : Nat, r < s.length /\ a = .int r
  have hg : ∀ r : Nat, ∀ hr : r < s.length, g (.int r) = .obj (ad (s[r])) := fun r hr => by
    refine (?_ : AV.obj (ad (s.getD (r : Int).toNat 0)) = _)
    refine rwE (Int.toNat_natCast ..) ?_
    simp [List.getD, List.getElem?_eq_getElem hr]
  have hidx : ∀ c ∈ cs, s.idxOf c < s.length := fun c hc => List.idxOf_lt_length_iff.mpr (hsp.mem_iff.mpr hc)
  have hcomm : ∀ a b, S a -> S b -> lt (g a) (g b) = ltR a b := by
    rintro _ _ ⟨r, hr, rfl⟩ ⟨q, hq, rfl⟩
    refine rwE (hg r hr) (rwE (hg q hq) (rwE (hlt _ (hsp.mem_iff.mp (List.getElem_mem hr)) _ (hsp.mem_iff.mp (List.getElem_mem hq))) ?_))
    refine (?_ : _ = decide ((r : Int) < q))
    rw [List.pairwise_iff_getElem] at hss
    by_cases h1 : r < q
    . refine rwE (hss r q hr hq h1) ?_; simp; omega
    . by_cases h2 : r = q
      . subst h2; refine rwE bef_irr ?_; lia
      . have := hss q r hq hr (by lia)
        cases hb : bef gl s[r] s[q] with
        | false => simp; exact Nat.not_lt.mp ‹_›
        | true => have := bef_trans hb this; rw [bef_irr] at this; cases this
  have hpS : ∀ a ∈ rks p, S a := fun a ha => by
    (refine xEA (List.mem_map.mp ha) fun r hr hz2 => ?_; subst hz2)
    (refine xEA (List.mem_map.mp hr) fun c hc hz2 => ?_; subst hz2)
    exact ⟨_, hidx c hc, rfl⟩
  have hmap : (rks p).map g = cs.map fun c => .obj (ad c) := by
    unfold rks
    refine rwE List.map_map (rwE List.map_map ?_)
    refine List.map_congr_left fun c hc => ?_
    refine (?_ : g (.int (s.idxOf c : Nat)) = _)
    refine rwE (hg _ (hidx c hc)) ?_
    congr 2
    exact List.getElem_idxOf (hidx c hc)
  have hpn : p.Nodup := by
    show (cs.map fun c => s.idxOf c).Nodup
    unfold List.Nodup at hnd ⊢
    refine rwE (propext List.pairwise_map) ?_
    refine hnd.imp_of_mem fun {a b} ha hb hne q => hne ?_
    have h1 := List.getElem_idxOf (hidx a ha)
    have h2 := List.getElem_idxOf (hidx b hb)
    refine rwB h1 (rwB h2 ?_)
    congr 1
  have hchk := chk_of (p := p) (by lia) (fun x hx => by
    (refine xEA (List.mem_map.mp hx) fun c hc hz2 => ?_; subst hz2)
    refine rwE hpl (rwB hsl ?_); exact hidx c hc) hpn
  unfold chkR at hchk
  rw [List.all_eq_true] at hchk
  have h0 := heapP_map hcomm (p.length / 2) (rks p) hpS
  rw [hmap] at h0
  have step : ∀ j, j < p.length -> (∀ a ∈ hAt p j, S a) -> ∃ ys last, hAt p j = ys ++ [last] /\ popP lt (ys.map g) (g last) = (g (.int j), (hAt p (j + 1)).map g) /\ (∀ a ∈ hAt p (j + 1), S a) /\ (hAt p (j + 1)).length = p.length - (j + 1) := fun j hj hSj => by
    have := hchk j (List.mem_range.mpr hj)
    simp only [Bool.and_eq_true, Bool.not_eq_true', decide_eq_true_eq] at this
    obtain ⟨⟨c1, c2⟩, c3⟩ := this
    have hne : hAt p j ≠ [] := fun q => by rw [q] at c1; cases c1
    have hlast : (hAt p j).getLast?.getD .none = (hAt p j).getLast hne := by refine rwE (List.getLast?_eq_some_getLast hne) ?_; rfl
    have hcat : hAt p j = (hAt p j).dropLast ++ [(hAt p j).getLast hne] := (List.dropLast_concat_getLast hne).symm
    have hpm := popP_map hcomm (ys := (hAt p j).dropLast) (last := (hAt p j).getLast hne) (hSj _ (List.getLast_mem hne)) fun a ha => hSj a ((List.dropLast_sublist _).mem ha)
    rw [hlast] at c2
    have e : hAt p (j + 1) = (popP ltR (hAt p j).dropLast ((hAt p j).getLast hne)).2 := by refine rwB hlast ?_; rfl
    rw [← e, c2] at hpm
    exact ⟨_, _, hcat, hpm.1, hpm.2, c3⟩
  have hall : ∀ j, j <= p.length -> ∀ a ∈ hAt p j, S a := by
    intro j
    induction j with
    | zero => intro _; exact h0.2
    | succ j ih => intro hj; refine xEEAAA (step j (by assumption) (ih (Nat.le_of_lt ‹_›))) fun z9 z9 z9 z9 h3 z9 => ?_; exact h3
  refine ⟨fun j => (hAt p j).map g, ?_, ?_, ?_, ?_⟩
  . refine (?_ : (heapP ltR (p.length / 2) (rks p)).map g = _)
    exact rwB h0.1 (rwE hpl rfl)
  . refine rwB hpl ?_
    try dsimp only
    cases hn : p.length with
    | zero =>
      have : p = [] := List.length_eq_zero_iff.mp hn
      refine rwE this ?_; rfl
    | succ n =>
      refine xEEAAA (step n (Nat.le_of_eq (Eq.symm ‹_›)) (hall n (by lia))) fun z9 z9 z9 z9 z9 h4 => ?_
      have : hAt p (n + 1) = [] := List.length_eq_zero_iff.mp (by lia)
      refine rwE this ?_; rfl
  . intro j hj a ha
    (refine xEA (List.mem_map.mp ha) fun b hb hz2 => ?_; subst hz2)
    (refine xEA (hall j (by lia) b hb) fun r hr hz2 => ?_; subst hz2)
    exact ⟨s[r], hsp.mem_iff.mp (List.getElem_mem hr), hg r hr⟩
  . intro j hj
    refine xEEAAA (step j (by lia) (hall j (by lia))) fun ys last h1 h2 z9 z9 => ?_
    have hjs : j < s.length := by lia
    refine ⟨ys.map g, g last, s[j], by dsimp only; refine rwE h1 ?_; simp, List.getElem?_eq_getElem hjs, ?_⟩
    exact rwE h2 (rwE (hg j hjs) rfl)
noncomputable def fdNode : FD := fdIn (clsIn theText 10) 1
noncomputable def fdInit : FD := fdIn (clsIn theText 12) 0
noncomputable def fdGni : FD := fdIn (clsIn theText 12) 1
noncomputable def fdAdd : FD := fdIn (clsIn theText 12) 2
noncomputable def fdPrep : FD := fdIn (clsIn theText 12) 3
noncomputable def fdReady : FD := fdIn (clsIn theText 12) 4
noncomputable def fdActive : FD := fdIn (clsIn theText 12) 5
noncomputable def fdDone : FD := fdIn (clsIn theText 12) 7
noncomputable def fdCycle : FD := fdIn (clsIn theText 12) 8
noncomputable def att (n : Nat) (rn : AV) (po fi : Int) : List (Str × AV) := [("_node2info", .obj n), ("_ready_nodes", rn), ("_npassedout", .int po), ("_nfinished", .int fi)]
section
variable {h : Hp} {s d n : Nat} {rn : AV} {po fi : Int}
theorem get_n2i (hs : h[s]? = some (.inst 188 d)) (hd : h[d]? = some (.attrs (att n rn po fi))) : GA h (.obj s) "_node2info" (.obj n) (h) := .inst hs hd (by decide) (by kernel_rfl) rfl
theorem get_rn (hs : h[s]? = some (.inst 188 d)) (hd : h[d]? = some (.attrs (att n rn po fi))) (hp : plainV rn = true) : GA h (.obj s) "_ready_nodes" (rn) (h) := .inst hs hd (by decide) (by kernel_rfl) hp
theorem get_po (hs : h[s]? = some (.inst 188 d)) (hd : h[d]? = some (.attrs (att n rn po fi))) : GA h (.obj s) "_npassedout" (.int po) (h) := .inst hs hd (by decide) (by kernel_rfl) rfl
theorem get_fi (hs : h[s]? = some (.inst 188 d)) (hd : h[d]? = some (.attrs (att n rn po fi))) : GA h (.obj s) "_nfinished" (.int fi) (h) := .inst hs hd (by decide) (by kernel_rfl) rfl
theorem set_rn {v : AV} (hs : h[s]? = some (.inst 188 d)) (hd : h[d]? = some (.attrs (att n rn po fi))) : SA h (.obj s) "_ready_nodes" v (h.set d (.attrs (att n v po fi))) := .inst hs hd (by decide) (Nat.le_of_ble_eq_true rfl)
theorem set_po {v : Int} (hs : h[s]? = some (.inst 188 d)) (hd : h[d]? = some (.attrs (att n rn po fi))) : SA h (.obj s) "_npassedout" (.int v) (h.set d (.attrs (att n rn v fi))) := .inst hs hd (by decide) (Nat.le_of_ble_eq_true rfl)
theorem set_fi {v : Int} (hs : h[s]? = some (.inst 188 d)) (hd : h[d]? = some (.attrs (att n rn po fi))) : SA h (.obj s) "_nfinished" (.int v) (h.set d (.attrs (att n rn po v))) := .inst hs hd (by decide) (Nat.le_of_ble_eq_true rfl)
theorem recv_srt {m : Str} {a : Nat} (hs : h[s]? = some (.inst 188 d)) (hd : h[d]? = some (.attrs (att n rn po fi))) (hm : methAt m = some a) (hn : (List.lookup m (att n rn po fi)).isNone = true) : RFn h (.obj s) m a := .mk hs hd (Option.isNone_iff_eq_none.mp hn) hm
end
section
variable {h : Hp} {a e : Nat} {x y z : Option AV} {es : List (Str × AV)}
theorem get_node {v : AV} (ha : h[a]? = some (.node 91 [some v, y, z] e)) (he : h[e]? = some (.attrs es)) (hp : plainV v = true) : GA h (.obj a) "node" (v) (h) := .node (i := 0) ha he (by kernel_rfl) rfl hp
theorem get_np {v : AV} (ha : h[a]? = some (.node 91 [x, some v, z] e)) (he : h[e]? = some (.attrs es)) (hp : plainV v = true) : GA h (.obj a) "npredecessors" (v) (h) := .node (i := 1) ha he (by kernel_rfl) rfl hp
theorem get_su {v : AV} (ha : h[a]? = some (.node 91 [x, y, some v] e)) (he : h[e]? = some (.attrs es)) (hp : plainV v = true) : GA h (.obj a) "successors" (v) (h) := .node (i := 2) ha he (by kernel_rfl) rfl hp
theorem set_node {v : AV} (ha : h[a]? = some (.node 91 [x, y, z] e)) (he : h[e]? = some (.attrs es)) : SA h (.obj a) "node" v (h.set a (.node 91 [some v, y, z] e)) := .node (i := 0) ha he (by kernel_rfl) (Nat.le_of_ble_eq_true rfl)
theorem set_np {v : AV} (ha : h[a]? = some (.node 91 [x, y, z] e)) (he : h[e]? = some (.attrs es)) : SA h (.obj a) "npredecessors" v (h.set a (.node 91 [x, some v, z] e)) := .node (i := 1) ha he (by kernel_rfl) (Nat.le_of_ble_eq_true rfl)
theorem set_su {v : AV} (ha : h[a]? = some (.node 91 [x, y, z] e)) (he : h[e]? = some (.attrs es)) : SA h (.obj a) "successors" v (h.set a (.node 91 [x, y, some v] e)) := .node (i := 2) ha he (by kernel_rfl) (Nat.le_of_ble_eq_true rfl)
end
theorem setAt {h m : Hp} {k : Nat} {o : AO} : (h ++ m).set (h.length + k) o = h ++ m.set k o := by
  exact rwE (List.set_append_right _ _ (Nat.le_add_right _ _) ..) (rwE (Nat.add_sub_cancel_left ..) rfl)
theorem node_sound {d : Nat} {h : Hp} {v : AV} {P : AV -> Hp -> Prop} (hP : P .none (h ++ [.attrs [], .node 91 [some v, some (.int 0), some (.obj (h.length + 2))] h.length, .list []])) :
    CALL (d + 1) fdNode [.obj (h.length + 1), v] (h ++ [.attrs [], .node 91 [none, none, none] h.length]) P := by
  refine CALL.intro (binds := [("self", .obj (h.length + 1)), ("node", v)]) (h1 := h ++ [.attrs [], .node 91 [none, none, none] h.length]) (st1 := ⟨h ++ [.attrs [], .node 91 [none, none, none] h.length], [("node", v), ("self", .obj (h.length + 1))]⟩) (by kernel_rfl) (by kernel_rfl) ?_
  apply DS.setAttr
  walk_at "mr"
  exact set_node two2 two1
  refine rwE set2 ?_
  walk_at "mr"
  exact set_np two2 two1
  refine rwE set2 ?_
  walk_at "mr"
  exact set_su (oldAt two2) (oldAt two1)
  refine rwE (List.append_assoc ..) (rwE (setAt ..) (rwE (List.length_append ..) ?_))
  exact EXS.nil hP
set_option genInjectivity false in
structure SAd where
  s : Nat
  d : Nat
  n : Nat
  na : Nat -> Nat
  sa : Nat -> Nat
  ea : Nat -> Nat
noncomputable def lets (l : List Nat) : List AV := l.map fun i => .str (letter i)
structure Sor (lo hi : Nat) (A : SAd) (ks : List Nat) (np : Nat -> Int) (su : Nat -> List Nat) (rn : AV) (po fi : Int) (h : Hp) : Prop where
  hs : h[A.s]? = some (.inst 188 A.d)
  hd : h[A.d]? = some (.attrs (att A.n rn po fi))
  hn : h[A.n]? = some (.dict (dictOf (fun k => .obj (A.na k)) ks))
  hk : ks.Nodup
  h6 : ∀ k ∈ ks, k <= 5
  nd : ∀ k ∈ ks, h[A.na k]? = some (.node 91 [some (.str (letter k)), some (.int (np k)), some (.obj (A.sa k))] (A.ea k))
  ed : ∀ k ∈ ks, h[A.ea k]? = some (.attrs [])
  sd : ∀ k ∈ ks, h[A.sa k]? = some (.list (lets (su k)))
  si : ∀ i ∈ ks, ∀ j ∈ ks, A.sa i = A.sa j -> i = j
  bs : lo <= A.s /\ A.s < hi
  bd : lo <= A.d /\ A.d < hi
  bn : lo <= A.n /\ A.n < hi
  bna : ∀ k ∈ ks, lo <= A.na k /\ A.na k < hi
  bea : ∀ k ∈ ks, lo <= A.ea k /\ A.ea k < hi
  bsa : ∀ k ∈ ks, lo <= A.sa k /\ A.sa k < hi
structure Ext0 (lo : Nat) (h h' : Hp) : Prop where
  low : ∀ (n : Nat) (o : AO), n < lo -> h[n]? = some o -> h'[n]? = some o
  tup : ∀ (n : Nat) (xs : List AV), h[n]? = some (AO.tup xs) -> h'[n]? = some (AO.tup xs)
  len : h.length <= h'.length
theorem Ext0.refl {lo : Nat} {h : Hp} : Ext0 lo h h := ⟨fun z9 z9 z9 x => x, fun z9 z9 x => x, Nat.le_refl _⟩
theorem Ext0.trans {lo : Nat} {h h1 h2 : Hp} (a : Ext0 lo h h1) (b : Ext0 lo h1 h2) : Ext0 lo h h2 := ⟨fun n o x y => b.low n o x (a.low n o x y), fun n xs x => b.tup n xs (a.tup n xs x), Nat.le_trans a.len b.len⟩
theorem Ext0.app {lo : Nat} {h m : Hp} : Ext0 lo h (h ++ m) := ⟨fun z9 z9 z9 x => oldAt x, fun z9 z9 x => oldAt x, by simp⟩
theorem Ext0.set {lo n : Nat} {h : Hp} {o o' : AO} (hn : h[n]? = some o) (hlo : lo <= n) (ho : ∀ xs, o ≠ .tup xs) : Ext0 lo h (h.set n o') := by
  refine ⟨fun m q hm x => ?_, fun m xs x => ?_, by simp⟩
  . refine rwE (List.getElem?_set_ne (Nat.ne_of_gt (Nat.lt_of_lt_of_le ‹_› ‹_›))) ?_; exact x
  . have : n ≠ m := fun q => by subst q; rw [hn] at x; exact ho xs (Option.some.inj x)
    refine rwE (List.getElem?_set_ne this) ?_; exact x
theorem keepAt {h : Hp} {m n : Nat} {o q x : AO} (hm : h[m]? = some o) (hn : h[n]? = some q) (hne : o ≠ q) : (h.set n x)[m]? = some o := by
  have : n ≠ m := fun e => by subst e; rw [hm] at hn; exact hne (Option.some.inj hn)
  refine rwE (List.getElem?_set_ne this) ?_; exact hm
section
variable {lo hi : Nat} {A : SAd} {ks : List Nat} {np : Nat -> Int} {su : Nat -> List Nat} {rn : AV} {po fi : Int} {h : Hp}
theorem Sor.keep (S : Sor lo hi A ks np su rn po fi h) {h' : Hp} (hk : ∀ n o, lo <= n -> n < hi -> h[n]? = some o -> h'[n]? = some o) : Sor lo hi A ks np su rn po fi h' :=
  { S with
    hs := hk _ _ S.bs.1 S.bs.2 S.hs
    hd := hk _ _ S.bd.1 S.bd.2 S.hd
    hn := hk _ _ S.bn.1 S.bn.2 S.hn
    nd := fun k hx => hk _ _ (S.bna k hx).1 (S.bna k hx).2 (S.nd k hx)
    ed := fun k hx => hk _ _ (S.bea k hx).1 (S.bea k hx).2 (S.ed k hx)
    sd := fun k hx => hk _ _ (S.bsa k hx).1 (S.bsa k hx).2 (S.sd k hx) }
theorem Sor.up (S : Sor lo hi A ks np su rn po fi h) {hi' : Nat} (hh : hi <= hi') : Sor lo hi' A ks np su rn po fi h :=
  { S with
    bs := ⟨S.bs.1, by have := S.bs.2; exact Nat.lt_of_lt_of_le ‹_› ‹_›⟩
    bd := ⟨S.bd.1, by have := S.bd.2; exact Nat.lt_of_lt_of_le ‹_› ‹_›⟩
    bn := ⟨S.bn.1, by have := S.bn.2; exact Nat.lt_of_lt_of_le ‹_› ‹_›⟩
    bna := fun k hx => ⟨(S.bna k hx).1, by have := (S.bna k hx).2; exact Nat.lt_of_lt_of_le ‹_› ‹_›⟩
    bea := fun k hx => ⟨(S.bea k hx).1, by have := (S.bea k hx).2; exact Nat.lt_of_lt_of_le ‹_› ‹_›⟩
    bsa := fun k hx => ⟨(S.bsa k hx).1, by have := (S.bsa k hx).2; exact Nat.lt_of_lt_of_le ‹_› ‹_›⟩ }
theorem Sor.app (S : Sor lo h.length A ks np su rn po fi h) {m : Hp} : Sor lo (h ++ m).length A ks np su rn po fi (h ++ m) := (S.keep (h' := h ++ m) fun z9 z9 z9 z9 x => oldAt x).up (by simp)
theorem Sor.na_inj (S : Sor lo hi A ks np su rn po fi h) {i j : Nat} (hi : i ∈ ks) (hj : j ∈ ks) (e : A.na i = A.na j) : i = j := by
  have h1 := S.nd i hi
  rw [e, S.nd j hj] at h1
  injection h1 with h1
  injection h1 with _ h1
  injection h1 with h1
  injection h1 with h1
  injection h1 with h1
  exact (letter_inj h1).symm
theorem Sor.setNp (S : Sor lo hi A ks np su rn po fi h) {k : Nat} (hk : k ∈ ks) (x : Int) : Sor lo hi A ks (updV np k x) su rn po fi (h.set (A.na k) (.node 91 [some (.str (letter k)), some (.int x), some (.obj (A.sa k))] (A.ea k))) :=
  { S with
    hs := keepAt S.hs (S.nd k hk) (by intro q; cases q)
    hd := keepAt S.hd (S.nd k hk) (by intro q; cases q)
    hn := keepAt S.hn (S.nd k hk) (by intro q; cases q)
    nd := fun i hx => by
      by_cases e : i = k
      . subst e
        refine rwE (getSet (S.nd i hk)) ?_
        simp [updV]
      . have : A.na k ≠ A.na i := fun q => e (S.na_inj hx hk q.symm)
        refine rwE (List.getElem?_set_ne this) (rwE (S.nd i hx) ?_)
        simp [updV, e]
    ed := fun i hx => keepAt (S.ed i hx) (S.nd k hk) (by intro q; cases q)
    sd := fun i hx => keepAt (S.sd i hx) (S.nd k hk) (by intro q; cases q) }
theorem Sor.setSu (S : Sor lo hi A ks np su rn po fi h) {k : Nat} (hk : k ∈ ks) (l : List Nat) : Sor lo hi A ks np (updV su k l) rn po fi (h.set (A.sa k) (.list (lets l))) :=
  { S with
    hs := keepAt S.hs (S.sd k hk) (by intro q; cases q)
    hd := keepAt S.hd (S.sd k hk) (by intro q; cases q)
    hn := keepAt S.hn (S.sd k hk) (by intro q; cases q)
    nd := fun i hx => keepAt (S.nd i hx) (S.sd k hk) (by intro q; cases q)
    ed := fun i hx => keepAt (S.ed i hx) (S.sd k hk) (by intro q; cases q)
    sd := fun i hx => by
      by_cases e : i = k
      . subst e
        refine rwE (getSet (S.sd i hk)) ?_
        simp [updV]
      . have : A.sa k ≠ A.sa i := fun q => e (S.si i hx k hk q.symm)
        refine rwE (List.getElem?_set_ne this) (rwE (S.sd i hx) ?_)
        simp [updV, e] }
theorem Sor.setAt (S : Sor lo hi A ks np su rn po fi h) (rn' : AV) (po' fi' : Int) : Sor lo hi A ks np su rn' po' fi' (h.set A.d (.attrs (att A.n rn' po' fi'))) :=
  { S with
    hs := keepAt S.hs S.hd (by intro q; cases q)
    hd := getSet S.hd
    hn := keepAt S.hn S.hd (by intro q; cases q)
    nd := fun i hx => keepAt (S.nd i hx) S.hd (by intro q; cases q)
    ed := fun i hx => keepAt (S.ed i hx) S.hd (by intro q; cases q)
    sd := fun i hx => keepAt (S.sd i hx) S.hd (by intro q; cases q) }
theorem Sor.addNode (S : Sor lo h.length A ks np su rn po fi h) {k : Nat} (hk : k ∉ ks) (hk5 : k <= 5) (h1 : np k = 0) (h2 : su k = []) :
    Sor lo (h.length + 3) ⟨A.s, A.d, A.n, updV A.na k (h.length + 1), updV A.sa k (h.length + 2), updV A.ea k h.length⟩ (ks ++ [k]) np su rn po fi
      ((h ++ [AO.attrs [], AO.node 91 [some (.str (letter k)), some (.int 0), some (.obj (h.length + 2))] h.length, AO.list []]).set A.n (.dict (dictOf (updV (fun k => .obj (A.na k)) k (.obj (h.length + 1))) (ks ++ [k])))) := by
  have hm : (h ++ [AO.attrs [], AO.node 91 [some (.str (letter k)), some (.int 0), some (.obj (h.length + 2))] h.length, AO.list []])[A.n]? = some (.dict (dictOf (fun k => .obj (A.na k)) ks)) := oldAt S.hn
  have hlo : lo <= h.length := by have := S.bs; lia
  have e : ∀ (f : Nat -> Nat) (x i : Nat), i ∈ ks -> updV f k x i = f i := fun f x i hi => by
    refine (?_ : (if i = k then x else f i) = f i)
    rw [if_neg]; intro q; subst q; exact hk hi
  have e0 : ∀ (f : Nat -> Nat) (x : Nat), updV f k x k = x := fun f x => by simp [updV]
  have hcase : ∀ i, i ∈ ks ++ [k] -> i ∈ ks ∨ i = k := fun i hi => by simpa using hi
  refine ⟨keepAt (oldAt S.hs) hm (by intro q; cases q), keepAt (oldAt S.hd) hm (by intro q; cases q), ?_, ?_, ?_, ?_, ?_, ?_, ?_, ?_, ?_, ?_, ?_, ?_, ?_⟩
  . refine rwE (getSet hm) ?_
    congr 2
    exact dictOf_congr fun i hi => by
      refine (?_ : (if i = k then _ else _) = AV.obj (if i = k then _ else _))
      split <;> rfl
  . refine rwE (propext List.nodup_append) ?_
    exact ⟨S.hk, by simp, fun a ha b hb q => by simp at hb; subst hb; subst q; exact hk ha⟩
  . intro i hi
    rcases hcase i hi with hi | rfl
    . exact S.h6 i hi
    . exact hk5
  . intro i hi
    try dsimp only
    rcases hcase i hi with hi | rfl
    . refine rwE (e _ _ i hi) (rwE (e _ _ i hi) (rwE (e _ _ i hi) ?_))
      exact keepAt (oldAt (S.nd i hi)) hm (by intro q; cases q)
    . refine rwE (e0 ..) (rwE (e0 ..) (rwE (e0 ..) (rwE (h1 ..) ?_)))
      refine keepAt ?_ hm (by intro q; cases q)
      simp
  . intro i hi
    try dsimp only
    rcases hcase i hi with hi | rfl
    . refine rwE (e _ _ i hi) ?_
      exact keepAt (oldAt (S.ed i hi)) hm (by intro q; cases q)
    . refine rwE (e0 ..) ?_
      refine keepAt ?_ hm (by intro q; cases q)
      simp
  . intro i hi
    try dsimp only
    rcases hcase i hi with hi | rfl
    . refine rwE (e _ _ i hi) ?_
      exact keepAt (oldAt (S.sd i hi)) hm (by intro q; cases q)
    . refine rwE (e0 ..) (rwE (h2 ..) ?_)
      refine keepAt ?_ hm (by intro q; cases q)
      simp [lets]
  . intro i hi j hj
    try dsimp only
    rcases hcase i hi with hi | hi <;> rcases hcase j hj with hj | hj
    . refine rwE (e _ _ i hi) (rwE (e _ _ j hj) ?_); exact S.si i hi j hj
    . refine rwE (hj ..) (rwE (e _ _ i hi ..) (rwE (e0 ..) ?_)); intro q; have := (S.bsa i hi).2; lia
    . refine rwE (hi ..) (rwE (e _ _ j hj ..) (rwE (e0 ..) ?_)); intro q; have := (S.bsa j hj).2; lia
    . intro _; exact rwE hi (rwE hj rfl)
  . have := S.bs; dsimp only; lia
  . have := S.bd; dsimp only; lia
  . have := S.bn; dsimp only; lia
  all_goals
    intro i hi
    try dsimp only
    rcases hcase i hi with hi | rfl
    . refine rwE (e _ _ i hi) ?_
      have := S.bna i hi; have := S.bea i hi; have := S.bsa i hi
      lia
    . refine rwE (e0 ..) ?_; lia
end
theorem nd_len : ∀ {l m : List Nat}, l.Nodup -> (∀ x ∈ l, x ∈ m) -> l.length <= m.length
  | [], _, _, _ => by exact Nat.zero_le _
  | x :: r, m, h, hs => by
    rw [List.nodup_cons] at h
    have hx := hs x (.head _)
    have := nd_len (m := m.erase x) h.2 fun y hy => (List.mem_erase_of_ne fun q => h.1 (by refine rwB q ?_; exact hy)).mpr (hs y (.tail _ hy))
    rw [List.length_erase_of_mem hx] at this
    have : 0 < m.length := List.length_pos_of_mem hx
    simp; lia
theorem bm_get {h : Hp} {n : Nat} {es : List (Str × AV)} {k : Str} (hn : h[n]? = some (.dict es)) : BM (.obj n) "get" h [.str k] h ((es.lookup k).getD .none) h := ⟨_, _, BI.dict hn F.slot_dict_get F.type_dict_get, MB.get hn⟩
theorem isNone {h : Hp} : CMP .Is .none .none h true := CMP.isNN
theorem isNoneF {n : Nat} {h : Hp} : CMP .Is (.obj n) .none h false := CMP.isON
theorem gni_sound {d lo : Nat} {A : SAd} {ks : List Nat} {np : Nat -> Int} {su : Nat -> List Nat} {rn : AV} {po fi : Int} {h : Hp} (S : Sor lo h.length A ks np su rn po fi h) {k : Nat} (hk5 : k <= 5) (h0 : k ∉ ks -> np k = 0 /\ su k = []) {P : AV -> Hp -> Prop}
    (hP : ∀ A' ks' h', Sor lo h'.length A' ks' np su rn po fi h' -> A'.s = A.s -> Ext0 lo h h' -> k ∈ ks' -> ks' = (if k ∈ ks then ks else ks ++ [k]) -> P (.obj (A'.na k)) h') : CALL (d + 2) fdGni [.obj A.s, .str (letter k)] h P := by
  refine CALL.intro (binds := [("self", .obj A.s), ("node", .str (letter k))]) (h1 := h) (st1 := ⟨h, [("node", .str (letter k)), ("self", .obj A.s)]⟩) (by kernel_rfl) (by kernel_rfl) ?_
  by_cases hk : k ∈ ks
  . have hg := bm_get (k := letter k) S.hn
    rw [dict_get hk] at hg
    apply DS.ifF0
    walk_at "mr"
    exact get_n2i S.hs S.hd
    walk_at "mr"
    exact hg
    walk_at "mr"
    exact isNoneF
    walk_at "mr"
    exact hP A ks h S rfl .refl hk (by exact rwE (if_pos hk) rfl)
  . have hg := bm_get (k := letter k) S.hn
    rw [dict_none hk] at hg
    apply DS.ifT
    walk_at "mr"
    exact get_n2i S.hs S.hd
    walk_at "mr"
    exact hg
    walk_at "mr"
    exact isNone
    have S' := S.addNode hk hk5 (h0 hk).1 (h0 hk).2
    have hz : ks.length <= 1000 := Nat.le_trans (nd_len S.hk (m := [0, 1, 2, 3, 4, 5]) fun i hi => six_mem (S.h6 i hi)) (by decide)
    refine EXS.cons (EX.assign (EV.callF rfl (by decide) (by kernel_rfl) Glob.NodeInfo (Or.inr (Or.inl rfl)) (EDS.cons rfl (ED.loc (by decide) (by kernel_rfl) (by walk_at "mlook"; done)) EDS.nil) (CALLV.node rfl (node_sound (v := .str (letter k)) ⟨rfl, ?_⟩))) rfl rfl)
    refine ASGS.cons (ASG.item (EV.ofD (ED.attr rfl (ED.loc (by decide) (by kernel_rfl) (by walk_at "mlook"; done)) (get_n2i (oldAt S.hs) (oldAt S.hd))) (EV.ofD (ED.loc (by decide) (by kernel_rfl) (by walk_at "mlook"; done)) ⟨_, set_new (i := k) (f := fun k => .obj (A.na k)) (l := ks) (oldAt S.hn) hz hk, ASGS.cons (ASG.name ⟨_, rfl, ASGS.nil ?_⟩)⟩)))
    refine EXS.nil ?_
    apply DS.ret
    walk_at "mr"
    have := hP ⟨A.s, A.d, A.n, updV A.na k (h.length + 1), updV A.sa k (h.length + 2), updV A.ea k h.length⟩ (ks ++ [k]) _ (S'.up (by simp)) rfl (Ext0.app.trans (Ext0.set (oldAt S.hn) S.bn.1 (by intro xs q; cases q))) (by simp) (by exact rwE (if_neg hk) rfl)
    simp only [updV, if_true] at this
    exact this
noncomputable def addSu (v : Nat) (cs : List Nat) (su : Nat -> List Nat) : Nat -> List Nat := cs.foldl (fun s c => updV s c (s c ++ [v])) su
noncomputable def Zero (ks : List Nat) (np : Nat -> Int) (su : Nat -> List Nat) : Prop := ∀ k, k ∉ ks -> np k = 0 /\ su k = []
theorem src_tup {h : Hp} {n : Nat} {xs : List AV} (hn : h[n]? = some (.tup xs)) (hz : xs.length <= 1000) : srcOf (.obj n) h = some ⟨.tup n, xs.map .one, some (n, .tup xs)⟩ := by
  unfold srcOf; simp only [hn]; exact rwE (if_pos hz) rfl
theorem src_list {h : Hp} {n : Nat} {xs : List AV} (hn : h[n]? = some (.list xs)) (hz : xs.length <= 1000) : srcOf (.obj n) h = some ⟨.list n, xs.map .one, some (n, .list xs)⟩ := by
  unfold srcOf; simp only [hn]; exact rwE (if_pos hz) rfl
theorem lets_its (l : List Nat) : (lets l).map It.one = letIts l := by delta lets letIts; refine rwE List.map_map ?_; rfl
theorem len_tup {h : Hp} {n : Nat} {xs : List AV} (hn : h[n]? = some (.tup xs)) (hz : xs.length <= 1000) : CAL (.builtin "len") [.obj n] h (.int xs.length) h := CAL.lenTup hn (Nat.le_trans hz (by decide))
theorem lets_len (l : List Nat) : (lets l).length = l.length := by exact List.length_map ..
theorem Zero.step {ks ks2 : List Nat} {np np2 : Nat -> Int} {su su2 : Nat -> List Nat} {v : Nat} (Z : Zero ks np su) (hk : ∀ i ∈ ks, i ∈ ks2) (hv : v ∈ ks2) (h1 : ∀ k, k ≠ v -> np2 k = np k) (h2 : ∀ k, k ≠ v -> su2 k = su k) : Zero ks2 np2 su2 := fun k q => by
  have hkv : k ≠ v := fun e => q (e ▸ hv)
  refine rwE (h1 k hkv) (rwE (h2 k hkv) ?_)
  exact Z k fun e => q (hk k e)
theorem updV_ne {α : Type} {f : Nat -> α} {v : Nat} {x : α} (k : Nat) (h : k ≠ v) : updV f v x k = f k := if_neg h
theorem sub_new {ks ks2 : List Nat} {k : Nat} (e : ks2 = if k ∈ ks then ks else ks ++ [k]) : ∀ i ∈ ks, i ∈ ks2 := fun i hi => by
  refine rwE e ?_; split
  . exact hi
  . exact List.mem_append_left _ hi
theorem addSu_snoc {v c : Nat} {dn : List Nat} {su : Nat -> List Nat} : addSu v (dn ++ [c]) su = updV (addSu v dn su) c (addSu v dn su c ++ [v]) := by simp [addSu]
theorem src_keep {n : Nat} {o : AO} {k : SK} {i : List It} {h : Hp} (hn : h[n]? = some o) : kept ⟨k, i, some (n, o)⟩ h = true := @decide_eq_true _ (Classical.propDecidable _) hn
theorem mr_srt {h : Hp} {s d n a : Nat} {rn : AV} {po fi : Int} {m : Str} {fd : FD} (hm : methAt m = some a) (hf : fdAt a = some fd) (hn : (List.lookup m (att n rn po fi)).isNone = true) (hs : h[s]? = some (.inst 188 d)) (hd : h[d]? = some (.attrs (att n rn po fi))) : MR (.obj s) m h fd := ⟨a, recv_srt hs hd hm hn, hf⟩
inductive InvA (lo n : Nat) (s v : Nat) (cs : List Nat) (ks : List Nat) (np : Nat -> Int) (su : Nat -> List Nat) (po fi : Int) (h : Hp) (m : Nat) (its : List It) (st : St) : Prop
  | mk (dn td : List Nat) (A : SAd) (ks' : List Nat) (h' : Hp) (lc : Loc) (hc : cs = dn ++ td) (hi : its = letIts td) (e : st = ⟨h', lc⟩) (S : Sor lo h'.length A ks' np (addSu v dn su) .none po fi h') (hA : A.s = s) (E : Ext0 lo h h') (ht : h'[n]? = some (.tup (lets cs))) (Z : Zero ks' np (addSu v dn su))
    (k1 : ∀ i ∈ ks, i ∈ ks') (k2 : v ∈ ks') (k3 : ∀ c ∈ dn, c ∈ ks') (k4 : ∀ c, (addSu v dn su c).length <= m + dn.length) (l1 : lc.lookup ("self" : Str) = some (.obj s)) (l2 : lc.lookup ("node" : Str) = some (.str (letter v)))
theorem Sor.upSet {lo n : Nat} {A : SAd} {ks : List Nat} {np : Nat -> Int} {su : Nat -> List Nat} {rn : AV} {po fi : Int} {h : Hp} {o : AO} (S : Sor lo h.length A ks np su rn po fi (h.set n o)) : Sor lo (h.set n o).length A ks np su rn po fi (h.set n o) := S.up (by refine rwE List.length_set ?_; exact Nat.le_refl _)
theorem isNotF {h : Hp} : CMP .IsNot .none .none h false := CMP.isnNN
set_option tactic.hygienic true in
theorem add_sound {d lo m : Nat} {A : SAd} {ks : List Nat} {np : Nat -> Int} {su : Nat -> List Nat} {po fi : Int} {h : Hp} (S : Sor lo h.length A ks np su .none po fi h) (Z : Zero ks np su) {v : Nat} {cs : List Nat} (hv : v <= 5) (hcs : ∀ c ∈ cs, c <= 5) (hm : ∀ c, (su c).length <= m) (hml : m + cs.length <= 900) {P : AV -> Hp -> Prop}
    (hP : ∀ A' ks' h', Sor lo h'.length A' ks' (updV np v (np v + cs.length)) (addSu v cs su) .none po fi h' -> A'.s = A.s -> Ext0 lo h h' -> Zero ks' (updV np v (np v + cs.length)) (addSu v cs su) -> (∀ i ∈ ks, i ∈ ks') -> v ∈ ks' -> (∀ c ∈ cs, c ∈ ks') -> (∀ c, (addSu v cs su c).length <= m + cs.length) -> P .none h') : CALL (d + 3) fdAdd (.obj A.s :: .str (letter v) :: lets cs) h P := by
  refine CALL.intro (binds := [("self", .obj A.s), ("node", .str (letter v)), ("predecessors", .obj h.length)]) (h1 := h ++ [.tup (lets cs)]) (st1 := ⟨h ++ [.tup (lets cs)], [("predecessors", .obj h.length), ("node", .str (letter v)), ("self", .obj A.s)]⟩) ?_ (by kernel_rfl) ?_
  . show (if _ then _ else _) = _
    rw [if_pos]
    . rfl
    . constructor
      . refine (?_ : 2 <= _)
        simp
      . simp [lets]; lia
  have ht : (h ++ [AO.tup (lets cs)])[h.length]? = some (.tup (lets cs)) := lastAt
  have S1 := S.app (m := [AO.tup (lets cs)])
  have E1 : Ext0 lo h (h ++ [AO.tup (lets cs)]) := .app
  have hz : (lets cs).length <= 1000 := by refine rwE (lets_len ..) ?_; lia
  have hl : (lets cs).length = cs.length := lets_len cs
  clear S
  generalize h ++ [AO.tup (lets cs)] = H at ht S1 E1
  apply DS.ifF0
  walk_at "mr"
  exact get_rn S1.hs S1.hd rfl
  walk_at "mr"
  exact isNotF
  walk_at "mr"
  exact mr_srt (a := 131) (by kernel_rfl) rfl (by kernel_rfl) S1.hs S1.hd
  walk_at "mr"
  refine gni_sound (d := d) S1 hv (fun hk => Z v hk) fun A2 ks2 h2 S2 hA2 E2 hk2 hks2 => ?_
  have ht2 := E2.tup _ _ ht
  have E2 := E1.trans E2
  clear E1 ht S1
  walk_at "mr"
  exact get_np (S2.nd v hk2) (S2.ed v hk2) rfl
  walk_at "mr"
  exact len_tup ht2 hz
  walk_at "mr"
  exact set_np (S2.nd v hk2) (S2.ed v hk2)
  refine rwE hl ?_
  have S3 := (S2.setNp hk2 (np v + cs.length)).upSet
  have E3 := Ext0.set (o' := .node 91 [some (.str (letter v)), some (.int (np v + cs.length)), some (.obj (A2.sa v))] (A2.ea v)) (S2.nd v hk2) (S2.bna v hk2).1 (by intro xs q; cases q)
  have ht3 := E3.tup _ _ ht2
  have E3 := E2.trans E3
  have Z3 := Z.step (sub_new hks2) hk2 (updV_ne (x := np v + cs.length)) (fun _ _ => rfl)
  clear S2 E2 ht2 Z
  generalize h2.set (A2.na v) (.node 91 [some (.str (letter v)), some (.int (np v + cs.length)), some (.obj (A2.sa v))] (A2.ea v)) = h3 at *
  generalize updV np v (np v + cs.length) = np at *
  apply DS.for (SD.gen (ED.loc (by decide) (by kernel_rfl) (by walk_at "mlook"; done)) (src_tup ht3 hz))
  refine FORL.inv (InvA lo h.length A.s v cs ks np su po fi h m) (fun st hI => ?_) (fun it r st hI => ?_)
    ⟨[], cs, A2, ks2, h3, _, rfl, lets_its cs, rfl, S3, hA2, E3, ht3, Z3, sub_new hks2, hk2, (by intro c hc; cases hc), hm, by kernel_rfl, by kernel_rfl⟩
  . clear Z3 S3 E3 ht3 hA2 hk2 hks2
    obtain ⟨dn, td, A', ks', h', lc, hcd, hits, rfl, S', hA', E', ht', Z', i1, i2, i3, i4, l1, l2⟩ := hI
    have : td = [] := by cases td with | nil => rfl | cons a b => cases hits
    subst this
    rw [List.append_nil] at hcd
    subst hcd
    exact ⟨src_keep ht', EXS.nil (hP A' ks' h' S' hA' E' Z' i1 i2 i3 i4)⟩
  . clear Z3 S3 E3 ht3 hA2 hk2 hks2
    obtain ⟨dn, td, A', ks', h', lc, hcd, hits, rfl, S', hA', E', ht', Z', i1, i2, i3, i4, l1, l2⟩ := hI
    cases td with
    | nil => cases hits
    | cons c td =>
      injection hits with q1 q2
      subst q1 q2
      have hc5 : c <= 5 := hcs c (by refine rwE hcd ?_; simp)
      have hcl : m + dn.length + 1 <= 900 := by rw [hcd] at hml; simp at hml; lia
      refine FT.mk (src_keep ht') (assignLoc (by kernel_rfl)) ?_
      rw [← hA'] at l1 ⊢
      walk_at "mr"
      exact mr_srt (a := 131) (by kernel_rfl) rfl (by kernel_rfl) S'.hs S'.hd
      walk_at "mr"
      refine gni_sound (d := d) S' hc5 (fun hk => Z' c hk) fun A4 ks4 h4 S4 hA4 E4 hk4 hks4 => ?_
      walk_at "mr"
      exact get_su (S4.nd c hk4) (S4.ed c hk4) rfl
      walk_at "mr"
      exact bm_append (S4.sd c hk4) (S4.sd c hk4) (by refine rwE (lets_len ..) ?_; have := i4 c; lia)
      refine rwE (show lets (addSu v dn su c) ++ [AV.str (letter v)] = lets (addSu v dn su c ++ [v]) by simp [lets]) ?_
      have S5 := (S4.setSu hk4 (addSu v dn su c ++ [v])).upSet
      have E5 := Ext0.set (o' := .list (lets (addSu v dn su c ++ [v]))) (S4.sd c hk4) (S4.bsa c hk4).1 (by intro xs q; cases q)
      have Z5 := Z'.step (sub_new hks4) hk4 (fun _ _ => rfl) (updV_ne (x := addSu v dn su c ++ [v]))
      have i5 : ∀ i, (updV (addSu v dn su) c (addSu v dn su c ++ [v]) i).length <= m + (dn.length + 1) := fun i => by
        have := i4 i
        unfold updV
        split
        . rename_i q; rw [q] at this; refine rwE List.length_append ?_; exact Nat.succ_le_succ this
        . exact Nat.le_succ_of_le this
      rw [← addSu_snoc] at S5 Z5 i5
      refine TurnF.nil ⟨dn ++ [c], td, A4, ks4, _, _, by refine rwE (hcd ..) (rwE (List.append_assoc ..) ?_); rfl, rfl, rfl, S5, hA4, (E'.trans E4).trans E5, E5.tup _ _ (E4.tup _ _ ht'), Z5, fun i hi => sub_new hks4 i (i1 i hi), sub_new hks4 v i2, fun i hi => ?_, by refine rwE List.length_append ?_; exact i5, l1, l2⟩
      rcases List.mem_append.mp hi with hi | hi
      . exact sub_new hks4 i (i3 i hi)
      . refine rwE (List.mem_singleton.mp hi) ?_; exact hk4
noncomputable def suF (pa : Nat -> Nat) (i c : Nat) : List Nat := if (1 <= c /\ c <= 5) /\ pa c < i then [pa c] else []
noncomputable def npF (pa : Nat -> Nat) (i v : Nat) : Int := if v < i then ((chl pa v).length : Int) else 0
theorem addSu_at {v c : Nat} : ∀ {cs : List Nat} {su : Nat -> List Nat}, cs.Nodup -> addSu v cs su c = if c ∈ cs then su c ++ [v] else su c
  | [], su, _ => by exact List.nil_append _
  | x :: r, su, h => by
    rw [List.nodup_cons] at h
    refine (?_ : addSu v r (updV su x (su x ++ [v])) c = _)
    refine rwE (addSu_at h.2) ?_
    by_cases hcx : c = x
    . subst hcx
      refine rwE (if_neg h.1) (rwE (if_pos (.head _)) ?_)
      simp [updV]
    . by_cases hcr : c ∈ r
      . refine rwE (if_pos hcr) (rwE (if_pos (.tail _ hcr)) ?_); simp [updV, hcx]
      . refine rwE (if_neg hcr) (rwE (if_neg (by simp [hcx, hcr])) ?_); simp [updV, hcx]
theorem suF_step (pa : Nat -> Nat) (i : Nat) : addSu i (chl pa i) (suF pa i) = suF pa (i + 1) := by
  funext c
  refine rwE (addSu_at (chl_nodup pa i)) ?_
  unfold suF
  by_cases hc : c ∈ chl pa i
  . refine rwE (if_pos hc) ?_
    have := mem_chl.mp hc
    refine rwE (if_neg (by lia)) (rwE (if_pos (by lia)) (rwE this.2 ?_)); rfl
  . refine rwE (if_neg hc) ?_
    by_cases h1 : (1 <= c /\ c <= 5) /\ pa c < i
    . exact rwE (if_pos h1) (rwE (if_pos ⟨h1.1, by lia⟩) rfl)
    . rw [if_neg h1, if_neg]
      intro q
      have : pa c = i := by lia
      exact hc (mem_chl.mpr ⟨q.1, this⟩)
theorem npF_step (pa : Nat -> Nat) (i : Nat) : updV (npF pa i) i (npF pa i i + (chl pa i).length) = npF pa (i + 1) := by
  funext v
  delta updV npF
  by_cases hv : v = i
  . subst hv; lia
  . refine rwE (if_neg hv) ?_
    by_cases h1 : v < i
    . exact rwE (if_pos h1) (rwE (if_pos (Nat.lt_succ_of_lt ‹_›)) rfl)
    . exact rwE (if_neg h1) (rwE (if_neg (by lia)) rfl)
theorem set_any {h : Hp} {s d : Nat} {es : List (Str × AV)} {a : Str} {v : AV} (hs : h[s]? = some (.inst 188 d)) (hd : h[d]? = some (.attrs es)) (ha : a ∈ attrNames) (hz : es.length <= 100) : SA h (.obj s) a v (h.set d (.attrs (putA a v es))) := .inst hs hd ha hz
theorem chl_len (pa : Nat -> Nat) (v : Nat) : (chl pa v).length <= 5 := by
  have := nd_len (chl_nodup pa v) (m := [1, 2, 3, 4, 5]) fun i hi => five_mem (mem_chl.mp hi).1.1 (mem_chl.mp hi).1.2
  simpa using this
theorem isNotO {n : Nat} {h : Hp} : CMP .IsNot (.obj n) .none h true := CMP.isnON
theorem DS.exprS {fe : FE} {st : St} {P : Fl -> St -> Prop} {r : List Stmt} {pos apos q bp : Pos} {x y b : Expr} {o a : AV} {h h1 h2 : Hp} {lc lc1 lc2 : Loc} {fd : FD} {j : Nat} {xs : List AV} (hf : methForm x apos q 2 = true) (hx : okE y = true) (ho : ED fe x st o ⟨h, lc⟩) (hm : MR o "add" h fd) (hy : ED fe y ⟨h, lc⟩ a ⟨h1, lc1⟩) (hb : ED fe b ⟨h1, lc1⟩ (.obj j) ⟨h2, lc2⟩) (hj : h2[j]? = some (.list xs)) (hz : xs.length <= 1000)
    (z : CALL fe.dep fd (o :: a :: xs) h2 (NextP fe r lc2 P)) : EXS fe (.Expr (.Call (.Attribute x "add" apos) [y, .Starred b bp] [] q) pos :: r) st P :=
  EXS.cons (EX.expr rfl (EV.star hf (ho (let ⟨m, q1, q2⟩ := hm; ⟨m, fd, q1, q2, hy (hb ⟨j, xs, rfl, hj, hz, z⟩)⟩)) hx))
noncomputable def sixIts (wl : Nat -> Nat) (i : Nat) : List It := ((List.range 6).drop i).map fun v => It.two (.str (letter v)) (.obj (wl v))
theorem sixIts_inj {wl : Nat -> Nat} {n : Nat} {l : List It} (h : l = sixIts wl n) : (l = [] -> 6 <= n) /\ ∀ i r, l = i :: r -> n < 6 /\ i = It.two (.str (letter n)) (.obj (wl n)) /\ r = sixIts wl (n + 1) := by
  unfold sixIts at *
  rcases Nat.lt_or_ge n 6 with q | q
  . rw [List.drop_eq_getElem_cons (by simpa using q), List.getElem_range] at h
    exact ⟨fun e => (by rw [h] at e; cases e), fun i r e => by rw [h] at e; injection e with e1 e2; exact ⟨q, e1.symm, e2.symm⟩⟩
  . rw [List.drop_eq_nil_of_le (by simpa using q)] at h
    exact ⟨fun z9 => q, fun i r e => by rw [h] at e; cases e⟩
theorem suF_len (pa : Nat -> Nat) (i c : Nat) : (suF pa i c).length <= 1 := by unfold suF; split <;> simp
inductive Inv6 (lo s : Nat) (pa wl : Nat -> Nat) (h0 : Hp) (its : List It) (st : St) : Prop
  | mk (i : Nat) (A : SAd) (ks : List Nat) (h' : Hp) (lc : Loc) (hi : i <= 6) (e : its = sixIts wl i) (e2 : st = ⟨h', lc⟩) (S : Sor lo h'.length A ks (npF pa i) (suF pa i) .none 0 0 h') (hA : A.s = s) (E : Ext0 lo h0 h') (Z : Zero ks (npF pa i) (suF pa i)) (hk : ∀ k, k < i -> k ∈ ks) (l1 : lc.lookup ("self" : Str) = some (.obj s))
theorem Sor.start {h : Hp} {g : Nat} {e : List (Str × AV)} (pa : Nat -> Nat) : Sor h.length (h.set g (.fro e) ++ [AO.attrs (att (h.length + 2) .none 0 0), AO.inst 188 h.length, AO.dict []]).length ⟨h.length + 1, h.length, h.length + 2, fun z9 => 0, fun z9 => 0, fun z9 => 0⟩ [] (npF pa 0) (suF pa 0) .none 0 0 (h.set g (.fro e) ++ [AO.attrs (att (h.length + 2) .none 0 0), AO.inst 188 h.length, AO.dict []]) := by
  have hl : (h.set g (.fro e)).length = h.length := List.length_set
  have hl2 : (h.set g (.fro e) ++ [AO.attrs (att (h.length + 2) .none 0 0), AO.inst 188 h.length, AO.dict []]).length = h.length + 3 := by refine rwE List.length_append (rwE hl ?_); rfl
  refine rwE hl2 (rwB hl ?_)
  refine ⟨beyond (i := 1), beyond (i := 0), beyond (i := 2), .nil, ?_, ?_, ?_, ?_, ?_, ⟨by lia, by lia⟩, ⟨by exact Nat.le_refl _, by lia⟩, ⟨by lia, by lia⟩, ?_, ?_, ?_⟩ <;> (intro k hk; cases hk)
theorem thaw_ext {h h0 h' : Hp} {g : Nat} {es : List (Str × AV)} {m : Hp} (hg : h[g]? = some (.dict es)) (e : h0 = h.set g (.fro es) ++ m) (E : Ext0 h.length h0 h') : thawed g h' = h'.set g (.dict es) /\ Ext0 h.length h (h'.set g (.dict es)) := by
  have hglt : g < h.length := (List.getElem?_eq_some_iff.mp hg).1
  have hg' := E.low g (.fro es) hglt (by refine rwE e ?_; exact oldAt (getSet hg))
  have hlow : ∀ n o, n < h.length -> n ≠ g -> h[n]? = some o -> h0[n]? = some o := fun n o hn hng hx => by
    refine rwE e ?_; exact oldAt (by refine rwE (List.getElem?_set_ne (Ne.symm hng)) ?_; exact hx)
  refine ⟨by unfold thawed; exact rwE hg' rfl, fun n o hn hx => ?_, fun n xs hx => ?_, ?_⟩
  . by_cases hng : n = g
    . subst hng; refine rwE (getSet hg') ?_; rw [hg] at hx; exact hx
    . refine rwE (List.getElem?_set_ne (Ne.symm hng)) ?_
      exact E.low n o hn (hlow n o hn hng hx)
  . exact keepAt (E.tup n xs (by refine rwE e ?_; exact oldAt (keepAt hx hg (by intro q; cases q)))) hg' (by intro q; cases q)
  . have := E.len; rw [e] at this; simp at this ⊢; exact Nat.le_trans (Nat.le_add_right _ _) ‹_›
theorem get3 {h : Hp} {a b c : AO} : (h ++ [a, b, c])[h.length]? = some a /\ (h ++ [a, b, c])[h.length + 1]? = some b := ⟨beyond (i := 0), beyond (i := 1)⟩
theorem set0 {h m : Hp} {o : AO} : (h ++ m).set h.length o = h ++ m.set 0 o := setAt (k := 0)
theorem init_sound {d g : Nat} {h : Hp} {pa wl : Nat -> Nat} (hg : h[g]? = some (.dict (dictOf (fun v => .obj (wl v)) [0, 1, 2, 3, 4, 5]))) (hw : ∀ v, v <= 5 -> h[wl v]? = some (.list (lets (chl pa v)))) {P : AV -> Hp -> Prop}
    (hP : ∀ A ks h', A.s = h.length + 1 -> Sor h.length h'.length A ks (npF pa 6) (suF pa 6) .none 0 0 h' -> (∀ k, k <= 5 -> k ∈ ks) -> Ext0 h.length h h' -> P .none h') :
    CALL (d + 4) fdInit [.obj (h.length + 1), .obj g] (h ++ [.attrs [], .inst 188 h.length]) P := by
  refine CALL.intro (binds := [("self", .obj (h.length + 1)), ("graph", .obj g)]) (h1 := h ++ [.attrs [], .inst 188 h.length]) (st1 := ⟨h ++ [.attrs [], .inst 188 h.length], [("graph", .obj g), ("self", .obj (h.length + 1))]⟩) (by kernel_rfl) (by kernel_rfl) ?_
  apply DS.setAttr
  walk_at "mr"
  exact set_any (oldAt two2) (oldAt two1) (by decide) (by decide)
  refine rwE (List.append_assoc ..) (rwE (set0 ..) (rwE (List.length_append ..) ?_))
  walk_at "mr"
  exact set_any get3.2 get3.1 (by decide) (Nat.le_of_ble_eq_true (by kernel_rfl))
  refine rwE set0 ?_
  walk_at "mr"
  exact set_any get3.2 get3.1 (by decide) (Nat.le_of_ble_eq_true (by kernel_rfl))
  refine rwE set0 ?_
  walk_at "mr"
  exact set_any get3.2 get3.1 (by decide) (Nat.le_of_ble_eq_true (by kernel_rfl))
  refine rwE set0 ?_
  apply DS.ifT
  walk_at "mr"
  exact isNotO
  apply DS.for
  . apply SD.items (by kernel_rfl)
    . walk_at "mr"
    . exact oldAt hg
    . exact Nat.le_of_ble_eq_true (by kernel_rfl)
  have hglt : g < h.length := (List.getElem?_eq_some_iff.mp hg).1
  have hfr : freeze ⟨.ditem g, (dictOf (fun v => AV.obj (wl v)) [0, 1, 2, 3, 4, 5]).map fun p => .two (.str p.1) p.2, none⟩ (h ++ [AO.attrs (att (h.length + 2) .none 0 0), AO.inst 188 h.length, AO.dict []]) = h.set g (.fro (dictOf (fun v => AV.obj (wl v)) [0, 1, 2, 3, 4, 5])) ++ [AO.attrs (att (h.length + 2) .none 0 0), AO.inst 188 h.length, AO.dict []] := by
    refine (?_ : froze g _ = _)
    unfold froze
    refine rwE (oldAt hg) ?_
    exact List.set_append_left _ _ hglt
  have S0 := Sor.start (h := h) (g := g) (e := dictOf (fun v => AV.obj (wl v)) [0, 1, 2, 3, 4, 5]) pa
  have hw0 : ∀ v, v <= 5 -> wl v < h.length /\ (h.set g (.fro (dictOf (fun v => AV.obj (wl v)) [0, 1, 2, 3, 4, 5])) ++ [AO.attrs (att (h.length + 2) .none 0 0), AO.inst 188 h.length, AO.dict []])[wl v]? = some (.list (lets (chl pa v))) := fun v hv =>
    ⟨(List.getElem?_eq_some_iff.mp (hw v hv)).1, oldAt (keepAt (hw v hv) hg (by intro q; cases q))⟩
  have hth := fun {h' : Hp} => thaw_ext (h' := h') (m := [AO.attrs (att (h.length + 2) .none 0 0), AO.inst 188 h.length, AO.dict []]) hg rfl
  refine FORL.inv (Inv6 h.length (h.length + 1) pa wl (h.set g (.fro (dictOf (fun v => AV.obj (wl v)) [0, 1, 2, 3, 4, 5])) ++ [AO.attrs (att (h.length + 2) .none 0 0), AO.inst 188 h.length, AO.dict []])) (fun st hI => ?_) (fun it r st hI => ?_)
    ⟨0, _, [], _, [("graph", .obj g), ("self", .obj (h.length + 1))], by decide, rfl, by refine rwB hfr ?_; kernel_rfl, S0, rfl, .refl, (fun k z9 => ⟨rfl, by unfold suF; exact rwE (if_neg (by lia)) rfl⟩), (fun k hk => absurd hk (Nat.not_lt_zero k)), by kernel_rfl⟩
  . clear S0 hw0
    generalize h.set g (.fro (dictOf (fun v => AV.obj (wl v)) [0, 1, 2, 3, 4, 5])) ++ [AO.attrs (att (h.length + 2) .none 0 0), AO.inst 188 h.length, AO.dict []] = h0 at *
    obtain ⟨i, A, ks, h', lc, hi, hits, rfl, S', hA, E', Z', hk, l1⟩ := hI
    cases Nat.le_antisymm hi ((sixIts_inj hits).1 rfl)
    refine ⟨rfl, Seq.go (EXS.nil (Seq.go (EXS.nil ?_)))⟩
    refine (?_ : P _ (thawed g h'))
    refine rwE ((hth E').1) ?_
    exact hP A ks _ hA (S'.keep (h' := h'.set g (.dict (dictOf (fun v => AV.obj (wl v)) [0, 1, 2, 3, 4, 5]))) fun n o h1 h2 hx => by refine rwE (List.getElem?_set_ne (Nat.ne_of_lt (Nat.lt_of_lt_of_le hglt h1))) ?_; exact hx).upSet (fun k h1 => hk k (Nat.lt_succ_of_le h1)) (hth E').2
  . clear S0 hth
    generalize h.set g (.fro (dictOf (fun v => AV.obj (wl v)) [0, 1, 2, 3, 4, 5])) ++ [AO.attrs (att (h.length + 2) .none 0 0), AO.inst 188 h.length, AO.dict []] = h0 at *
    obtain ⟨i, A, ks, h', lc, hi, hits, rfl, S', hA, E', Z', hk, l1⟩ := hI
    (refine xAA ((sixIts_inj hits).2 _ _ rfl) fun hi6 hz1 hz2 => ?_; subst hz1; subst hz2)
    have hi5 := Nat.le_of_lt_succ hi6
    rw [← hA] at l1 ⊢
    refine FT.mk rfl (assignTwo (by kernel_rfl) (by kernel_rfl)) ?_
    apply DS.exprS (by kernel_rfl) rfl
    walk_at "mr"
    exact mr_srt (a := 138) (fd := fdAdd) (by kernel_rfl) rfl (by kernel_rfl) S'.hs S'.hd
    walk_at "mr"
    exact E'.low _ _ (hw0 i hi5).1 (hw0 i hi5).2
    . refine rwE (lets_len ..) ?_; exact Nat.le_trans (chl_len pa i) (by decide)
    refine add_sound (d := d) (m := 1) S' Z' hi5 (fun c hc => (mem_chl.mp hc).1.2) (suF_len pa i) (by have := chl_len pa i; lia) fun A2 ks2 h2 S2 hA2 E2 Z2 j1 j2 j3 z9 => ?_
    rw [npF_step, suF_step] at S2 Z2
    refine TurnF.nil ⟨i + 1, A2, ks2, h2, _, hi6, rfl, rfl, S2, hA2, E'.trans E2, Z2, fun k hk2 => ?_, l1⟩
    rcases Nat.lt_or_eq_of_le (Nat.le_of_lt_succ hk2) with q | rfl
    . exact j1 k (hk k q)
    . exact j2
inductive Its (B : Nat) (A : SAd) (su : Nat -> List Nat) (hp : Hp) : Nat -> List Nat -> List AV -> Prop where
  | nil {m : Nat} : Its B A su hp m [] []
  | cons {m q t v : Nat} {Sr : List Nat} {tr : List AV} : Its B A su hp q Sr tr -> hp[q]? = some (.iter (A.sa v) (su v).length) -> hp[t]? = some (.nxt q) -> B <= q -> q < t -> t < m -> Its B A su hp m (v :: Sr) (.obj t :: tr)
theorem Its.mono {B : Nat} {A : SAd} {su : Nat -> List Nat} {hp hp' : Hp} {m : Nat} {Sr : List Nat} {tr : List AV} (x : Its B A su hp m Sr tr) (k1 : ∀ n a b, n < m -> hp[n]? = some (.iter a b) -> hp'[n]? = some (.iter a b)) (k2 : ∀ n a, n < m -> hp[n]? = some (.nxt a) -> hp'[n]? = some (.nxt a)) : Its B A su hp' m Sr tr := by
  induction x with
  | nil => exact .nil
  | cons _ a b c d e ih => exact .cons (ih (fun n a b h => k1 n a b (by lia)) (fun n a h => k2 n a (by lia))) (k1 _ _ _ (Nat.lt_trans ‹_› ‹_›) a) (k2 _ _ e b) c d e
theorem Its.len {B : Nat} {A : SAd} {su : Nat -> List Nat} {hp : Hp} {m : Nat} {Sr : List Nat} {tr : List AV} (x : Its B A su hp m Sr tr) : tr.length = Sr.length := by
  induction x with
  | nil => rfl
  | cons _ _ _ _ _ _ ih => simp [ih]
theorem Its.up {B : Nat} {A : SAd} {su : Nat -> List Nat} {hp : Hp} {m m' : Nat} {Sr : List Nat} {tr : List AV} (x : Its B A su hp m Sr tr) (hm : m <= m') : Its B A su hp m' Sr tr := by
  cases x with
  | nil => exact .nil
  | cons a b c d e f => exact .cons a b c d e (Nat.lt_of_lt_of_le ‹_› ‹_›)
structure Cy (B : Nat) (A : SAd) (h0 hp : Hp) (lc : Loc) (Sr : List Nat) (tr : List AV) (sn : List Nat) : Prop where
  low : ∀ n o, n < B -> h0[n]? = some o -> hp[n]? = some o
  c1 : hp[B]? = some (.list (lets Sr.reverse))
  c2 : hp[B + 1]? = some (.list tr.reverse)
  c3 : hp[B + 2]? = some (.set (sn.map letter))
  c4 : ∃ f, hp[B + 3]? = some (.dict (dictOf f Sr.reverse))
  nd : Sr.Nodup
  s6 : ∀ k ∈ Sr, k <= 5
  nd2 : sn.Nodup
  s62 : ∀ k ∈ sn, k <= 5
  l1 : lc.lookup ("n2i" : Str) = some (.obj A.n)
  l2 : lc.lookup ("stack" : Str) = some (.obj B)
  l3 : lc.lookup ("itstack" : Str) = some (.obj (B + 1))
  l4 : lc.lookup ("seen" : Str) = some (.obj (B + 2))
  l5 : lc.lookup ("node2stacki" : Str) = some (.obj (B + 3))
theorem len6 {l : List Nat} (h : l.Nodup) (h6 : ∀ k ∈ l, k <= 5) : l.length <= 6 := by
  have := nd_len h (m := [0, 1, 2, 3, 4, 5]) fun i hi => by have := h6 i hi; simp; lia
  simpa using this
theorem len5 {l : List Nat} {v : Nat} (h : l.Nodup) (h6 : ∀ k ∈ l, k <= 5) (hv : v <= 5) (hn : v ∉ l) : l.length <= 5 := by
  have := len6 (l := v :: l) (List.nodup_cons.mpr ⟨hn, h⟩) fun k hk => by
    rcases List.mem_cons.mp hk with rfl | hk
    . exact hv
    . exact h6 k hk
  simpa using this
theorem let_mem {l : List Nat} {v : Nat} : letter v ∈ l.map letter ↔ v ∈ l := by
  refine rwE (propext List.mem_map) ?_
  exact ⟨fun ⟨a, h1, h2⟩ => letter_inj h2 ▸ h1, fun h => ⟨v, h, rfl⟩⟩
theorem dict_some {f : Nat -> AV} {i : Nat} {l : List Nat} : ((dictOf f l).lookup (letter i)).isSome = decide (i ∈ l) := by
  by_cases h : i ∈ l
  . refine rwE (dict_get h) ?_; simp [h]
  . refine rwE (dict_none h) ?_; simp [h]
noncomputable def fdCycFE (d : Nat) : FE := ⟨fdCycle.scope.names, [], d, true⟩
theorem dict_del {f : Nat -> AV} {v : Nat} {l : List Nat} (h : v ∉ l) : (dictOf f (l ++ [v])).filter (fun q => decide (q.1 ≠ letter v)) = dictOf f l := by
  unfold dictOf
  refine rwE (List.map_append ..) (rwE (List.filter_append ..) ?_)
  have e1 : (l.map fun i => (letter i, f i)).filter (fun q => decide (q.1 ≠ letter v)) = l.map fun i => (letter i, f i) := by
    refine rwE (propext List.filter_eq_self) ?_
    intro a ha
    (refine xEA (List.mem_map.mp ha) fun i hi hz2 => ?_; subst hz2)
    have : letter i ≠ letter v := fun q => h (letter_inj q ▸ hi)
    lia
  refine rwE e1 ?_
  simp
section
variable {fe : FE} {B : Nat} {A : SAd} {su : Nat -> List Nat} {h0 hp : Hp} {lc : Loc} {Sr : List Nat} {tr : List AV} {sn : List Nat}
theorem stk_len {f : Nat -> AV} {a : AV} {tr : List AV} {Sr : List Nat} {v : Nat} (h : (a :: tr).length = (v :: Sr).length) (hl : (v :: Sr).length <= 6) : (tr.reverse ++ [a]).length <= 1000 /\ (lets Sr.reverse ++ [AV.str (letter v)]).length <= 1000 /\ (dictOf f (Sr.reverse ++ [v])).length <= 1000 := by
  unfold dictOf
  refine rwE (List.length_map ..) (rwE (List.length_append ..) (rwE (List.length_append ..) (rwE (List.length_append ..) (rwE (lets_len ..) (rwE (List.length_reverse ..) (rwE (List.length_reverse ..) ?_))))))
  exact ⟨Nat.le_trans (Nat.le_of_eq h) (Nat.le_trans hl (by decide)), Nat.le_trans hl (by decide), Nat.le_trans hl (by decide)⟩
theorem try_pop {v m : Nat}
    (C : Cy B A h0 hp lc (v :: Sr) tr sn) (I : Its B A su hp m (v :: Sr) tr) (hs : hp[A.sa v]? = some (.list (lets (su v)))) :
    ∃ hp' tr', TryN ⟨hp, lc⟩ .next ⟨hp', lc⟩ /\ Cy B A h0 hp' lc Sr tr' sn /\ Its B A su hp' m Sr tr' /\ hp'.length = hp.length := by
  obtain ⟨f, c4⟩ := C.c4
  have hlt := len6 C.nd C.s6
  have hnd := C.nd
  rw [List.nodup_cons] at hnd
  have htl := I.len
  cases I with
  | @cons _ q t _ _ tr0 I0 hq ht hBq hqt htm =>
    have c1 := C.c1
    have c2 := C.c2
    rw [List.reverse_cons] at c1 c2 c4
    have hl1 : (lets (Sr.reverse ++ [v])) = lets Sr.reverse ++ [.str (letter v)] := by simp [lets]
    rw [hl1] at c1
    let hp' := (((hp.set q .gone).set B (.list (lets Sr.reverse))).set (B + 3) (.dict (dictOf f Sr.reverse))).set (B + 1) (.list tr0.reverse)
    have hbq : q ≠ B /\ q ≠ B + 1 /\ q ≠ B + 2 /\ q ≠ B + 3 := by
      refine ⟨?_, ?_, ?_, ?_⟩ <;> intro e <;> subst e
      . rw [hq] at c1; cases c1
      . rw [hq] at c2; cases c2
      . have := C.c3; rw [hq] at this; cases this
      . rw [hq] at c4; cases c4
    have hkeep : ∀ n, n ≠ q -> n ≠ B -> n ≠ B + 1 -> n ≠ B + 3 -> hp'[n]? = hp[n]? := fun n h1 h2 h3 h4 => by
      refine (?_ : ((((hp.set q .gone).set B _).set (B + 3) _).set (B + 1) _)[n]? = _)
      exact rwE (List.getElem?_set_ne (Ne.symm h3)) (rwE (List.getElem?_set_ne (Ne.symm h4)) (rwE (List.getElem?_set_ne (Ne.symm h2)) (rwE (List.getElem?_set_ne (Ne.symm h1)) rfl)))
    have hlB : B + 3 < hp.length := (List.getElem?_eq_some_iff.mp c4).1
    refine ⟨hp', tr0.reverse.reverse, ?_, ⟨?_, ?_, ?_, ?_, ⟨f, ?_⟩, hnd.2, fun k hk => C.s6 k (.tail _ hk), C.nd2, C.s62, C.l1, C.l2, C.l3, C.l4, C.l5⟩, ?_, by simp [hp']⟩
    . obtain ⟨z1, z2, z3⟩ := stk_len (f := f) (a := AV.obj t) htl hlt
      have hx : ((dictOf f (Sr.reverse ++ [v])).lookup (letter v)).isSome = true := by refine rwE dict_some ?_; simp
      have hz : (lets (su v)).length <= (su v).length := Nat.le_of_eq (lets_len _)
      have := TryN.stop (st := ⟨hp, lc⟩) ⟨C.l3, C.l5, C.l2, c2, c4, c1, z1, z2, z3, Nat.succ_ne_self _, ht, hq, hs⟩ hz hx
      rw [dict_del (by simpa using hnd.1)] at this
      exact this
    . intro n o hn ho
      refine rwE (hkeep n (Nat.ne_of_lt (Nat.lt_of_lt_of_le ‹_› ‹_›)) (Nat.ne_of_lt ‹_›) (Nat.ne_of_lt (Nat.lt_trans ‹_› (Nat.lt_succ_self _))) (Nat.ne_of_lt (Nat.lt_of_lt_of_le ‹_› (Nat.le_add_right _ _)))) ?_
      exact C.low n o hn ho
    . refine (?_ : ((((hp.set q .gone).set B _).set (B + 3) _).set (B + 1) _)[B]? = _)
      refine rwE (List.getElem?_set_ne (Nat.succ_ne_self _)) (rwE (List.getElem?_set_ne (by lia)) (rwE (List.getElem?_set) ?_))
      simp; exact Nat.lt_of_le_of_lt (Nat.le_add_right _ _) ‹_›
    . refine (?_ : ((((hp.set q .gone).set B _).set (B + 3) _).set (B + 1) _)[B + 1]? = _)
      refine rwE (List.getElem?_set) ?_
      simp; lia
    . refine rwE (hkeep _ (Ne.symm hbq.2.2.1) (by lia) (Nat.succ_ne_self _) ((Nat.succ_ne_self _).symm)) ?_
      exact C.c3
    . refine (?_ : ((((hp.set q .gone).set B _).set (B + 3) _).set (B + 1) _)[B + 3]? = _)
      refine rwE (List.getElem?_set_ne (by lia)) (rwE (List.getElem?_set) ?_)
      simp; omega
    . refine rwE (List.reverse_reverse ..) ?_
      refine (I0.mono (fun n a b hn hx => ?_) fun n a hn hx => ?_).up (by lia)
      . refine rwE (hkeep n (by lia) (fun e => by subst e; rw [c1] at hx; cases hx) (fun e => by subst e; rw [c2] at hx; cases hx) (fun e => by subst e; rw [c4] at hx; cases hx)) ?_
        exact hx
      . refine rwE (hkeep n (by lia) (fun e => by subst e; rw [c1] at hx; cases hx) (fun e => by subst e; rw [c2] at hx; cases hx) (fun e => by subst e; rw [c4] at hx; cases hx)) ?_
        exact hx
theorem try_next {v w q t m : Nat} {tr0 : List AV}
    (C : Cy B A h0 hp lc (v :: Sr) (.obj t :: tr0) sn) (I0 : Its B A su hp q Sr tr0) (hq : hp[q]? = some (.iter (A.sa v) 0)) (ht : hp[t]? = some (.nxt q)) (hBq : B <= q) (hqt : q < t) (htm : t < m) (hw : su v = [w]) (hs : hp[A.sa v]? = some (.list (lets (su v)))) :
    ∃ hp', TryN ⟨hp, lc⟩ .brk ⟨hp', ("node", .str (letter w)) :: lc⟩ /\ Cy B A h0 hp' (("node", .str (letter w)) :: lc) (v :: Sr) (.obj t :: tr0) sn /\ Its B A su hp' m (v :: Sr) (.obj t :: tr0) /\ hp'.length = hp.length := by
  obtain ⟨f, c4⟩ := C.c4
  have hlt := len6 C.nd C.s6
  have htl := I0.len
  have c1 := C.c1
  have c2 := C.c2
  have hkeep : ∀ n, n ≠ q -> (hp.set q (.iter (A.sa v) 1))[n]? = hp[n]? := fun n h1 => by exact rwE (List.getElem?_set_ne (Ne.symm h1)) rfl
  have hbq : q ≠ B /\ q ≠ B + 1 /\ q ≠ B + 2 /\ q ≠ B + 3 := by
    refine ⟨?_, ?_, ?_, ?_⟩ <;> intro e <;> subst e
    . rw [hq] at c1; cases c1
    . rw [hq] at c2; cases c2
    . have := C.c3; rw [hq] at this; cases this
    . rw [hq] at c4; cases c4
  refine ⟨hp.set q (.iter (A.sa v) 1), ?_, ⟨fun n o hn ho => ?_, ?_, ?_, ?_, ⟨f, ?_⟩, C.nd, C.s6, C.nd2, C.s62, Eq.trans (by kernel_rfl) C.l1, Eq.trans (by kernel_rfl) C.l2, Eq.trans (by kernel_rfl) C.l3, Eq.trans (by kernel_rfl) C.l4, Eq.trans (by kernel_rfl) C.l5⟩, ?_, by simp⟩
  . rw [List.reverse_cons] at c1 c2
    have hl1 : (lets (Sr.reverse ++ [v])) = lets Sr.reverse ++ [.str (letter v)] := by simp [lets]
    rw [hl1] at c1
    obtain ⟨z1, z2, z3⟩ := stk_len (f := f) (a := AV.obj t) (tr := tr0) (Sr := Sr) (v := v) (congrArg (· + 1) htl) hlt
    exact TryN.item (st := ⟨hp, lc⟩) ⟨C.l3, C.l5, C.l2, c2, List.reverse_cons ▸ c4, c1, z1, z2, z3, Nat.succ_ne_self _, ht, hq, hs⟩ (by refine rwE hw ?_; rfl)
  . refine rwE (hkeep n (by lia)) ?_; exact C.low n o hn ho
  . refine rwE (hkeep _ (Ne.symm hbq.1)) ?_; exact c1
  . refine rwE (hkeep _ (Ne.symm hbq.2.1)) ?_; exact c2
  . refine rwE (hkeep _ (Ne.symm hbq.2.2.1)) ?_; exact C.c3
  . refine rwE (hkeep _ (Ne.symm hbq.2.2.2)) ?_; exact c4
  . refine .cons (q := q) (I0.mono (fun n a b hn hx => ?_) fun n a hn hx => ?_) ?_ ?_ hBq hqt htm
    . refine rwE (hkeep n (by lia)) ?_; exact hx
    . refine rwE (hkeep n (by lia)) ?_; exact hx
    . refine rwE (getSet hq) (rwE hw ?_); rfl
    . refine rwE (hkeep _ (Nat.ne_of_gt ‹_›)) ?_; exact ht
end
theorem src_dict {h : Hp} {n : Nat} {f : Nat -> AV} {l : List Nat} (hn : h[n]? = some (.dict (dictOf f l))) (hz : l.length <= 1000) : srcOf (.obj n) h = some ⟨.dkey n, letIts l, none⟩ := by
  unfold srcOf
  simp only [hn]
  refine rwE (if_pos (by simpa [dictOf] using hz)) ?_
  delta dictOf letIts
  refine rwE List.map_map ?_
  rfl
theorem in_set {h : Hp} {n v : Nat} {sn : List Nat} (hn : h[n]? = some (.set (sn.map letter))) : CMP .In (.str (letter v)) (.obj n) h (decide (v ∈ sn)) := by
  have := CMP.inSet (k := letter v) hn
  rwa [show decide (letter v ∈ sn.map letter) = decide (v ∈ sn) by refine rwE (propext decide_eq_decide) ?_; exact let_mem] at this
theorem in_dict {h : Hp} {n v : Nat} {f : Nat -> AV} {l : List Nat} (hn : h[n]? = some (.dict (dictOf f l))) : CMP .In (.str (letter v)) (.obj n) h (decide (v ∈ l)) := dict_some (f := f) (i := v) (l := l) ▸ CMP.inDict hn
theorem Cy.node {B : Nat} {A : SAd} {h0 hp : Hp} {lc : Loc} {Sr : List Nat} {tr : List AV} {sn : List Nat} (C : Cy B A h0 hp lc Sr tr sn) (v : AV) : Cy B A h0 hp (("node", v) :: lc) Sr tr sn :=
  { C with
    l1 := Eq.trans (by kernel_rfl) C.l1
    l2 := Eq.trans (by kernel_rfl) C.l2
    l3 := Eq.trans (by kernel_rfl) C.l3
    l4 := Eq.trans (by kernel_rfl) C.l4
    l5 := Eq.trans (by kernel_rfl) C.l5 }
theorem iter_list {h : Hp} {n : Nat} {xs : List AV} (hn : h[n]? = some (.list xs)) : CAL (.builtin "iter") [.obj n] h (.obj h.length) (h ++ [.iter n 0]) := CAL.iter hn
theorem get_next {h : Hp} {n a b : Nat} (hn : h[n]? = some (.iter a b)) : GA h (.obj n) "__next__" (.obj h.length) (h ++ [.nxt n]) := .next hn
theorem Cy.see {B : Nat} {A : SAd} {h0 hp : Hp} {lc : Loc} {Sr : List Nat} {tr : List AV} {sn : List Nat} {v : Nat} (C : Cy B A h0 hp lc Sr tr sn) (hv : v ∉ sn) (h5 : v <= 5) : Cy B A h0 (hp.set (B + 2) (.set ((sn ++ [v]).map letter))) lc Sr tr (sn ++ [v]) := by
  obtain ⟨f, c4⟩ := C.c4
  refine { C with low := fun n o hn ho => ?_, c1 := keepAt C.c1 C.c3 (by intro q; cases q), c2 := keepAt C.c2 C.c3 (by intro q; cases q), c3 := getSet C.c3, c4 := ⟨f, keepAt c4 C.c3 (by intro q; cases q)⟩, nd2 := ?_, s62 := fun k hk => ?_ }
  . refine rwE (List.getElem?_set_ne (by lia)) ?_; exact C.low n o hn ho
  . refine rwE (propext List.nodup_append) ?_
    exact ⟨C.nd2, by simp, fun a ha b hb q => by simp at hb; subst hb; subst q; exact hv ha⟩
  . rcases List.mem_append.mp hk with hk | hk
    . exact C.s62 k hk
    . have : k = v := by simpa using hk
      lia
theorem Cy.push {B : Nat} {A : SAd} {h0 hp : Hp} {lc : Loc} {Sr : List Nat} {tr : List AV} {sn : List Nat} {v n : Nat} {f : Nat -> AV} {x : AV} (C : Cy B A h0 hp lc Sr tr sn) (c4 : hp[B + 3]? = some (.dict (dictOf f Sr.reverse))) (hv : v ∉ Sr) (h5 : v <= 5) :
    let hp' : Hp := (((hp ++ [AO.iter n 0] ++ [AO.nxt hp.length]).set (B + 1) (AO.list (tr.reverse ++ [AV.obj (hp.length + 1)]))).set (B + 3) (AO.dict (dictOf (updV f v x) (Sr.reverse ++ [v])))).set B (AO.list (lets Sr.reverse ++ [AV.str (letter v)]))
    Cy B A h0 hp' lc (v :: Sr) (.obj (hp.length + 1) :: tr) sn /\ hp'[hp.length]? = some (AO.iter n 0) /\ hp'[hp.length + 1]? = some (AO.nxt hp.length) /\ hp'.length = hp.length + 2 /\ (∀ (a p q : Nat), hp[a]? = some (AO.iter p q) -> hp'[a]? = some (AO.iter p q)) /\ ∀ (a p : Nat), hp[a]? = some (AO.nxt p) -> hp'[a]? = some (AO.nxt p) := by
  intro hp'
  have hB : B + 3 < hp.length := (List.getElem?_eq_some_iff.mp c4).1
  have k1 : ∀ (a : Nat) (o : AO), (∀ es, o ≠ AO.list es) -> (∀ es, o ≠ AO.dict es) -> (hp ++ [AO.iter n 0] ++ [AO.nxt hp.length])[a]? = some o -> hp'[a]? = some o := fun a o n1 n2 ho => by
    have b1 : (hp ++ [AO.iter n 0] ++ [AO.nxt hp.length])[B + 1]? = some (.list tr.reverse) := oldAt (oldAt C.c2)
    have b2 : (hp ++ [AO.iter n 0] ++ [AO.nxt hp.length])[B + 3]? = some (.dict (dictOf f Sr.reverse)) := oldAt (oldAt c4)
    have b3 : (hp ++ [AO.iter n 0] ++ [AO.nxt hp.length])[B]? = some (.list (lets Sr.reverse)) := oldAt (oldAt C.c1)
    have e1 : a ≠ B + 1 := fun e => by subst e; rw [b1] at ho; exact n1 _ (Option.some.inj ho).symm
    have e2 : a ≠ B + 3 := fun e => by subst e; rw [b2] at ho; exact n2 _ (Option.some.inj ho).symm
    have e3 : a ≠ B := fun e => by subst e; rw [b3] at ho; exact n1 _ (Option.some.inj ho).symm
    refine (?_ : (((_ : Hp).set (B + 1) _).set (B + 3) _ |>.set B _)[a]? = _)
    refine rwE (List.getElem?_set_ne (Ne.symm e3)) (rwE (List.getElem?_set_ne (Ne.symm e2)) (rwE (List.getElem?_set_ne (Ne.symm e1)) ?_))
    exact ho
  refine ⟨⟨fun a o ha ho => ?_, ?_, ?_, ?_, ⟨updV f v x, ?_⟩, List.nodup_cons.mpr ⟨hv, C.nd⟩, fun k hk => ?_, C.nd2, C.s62, C.l1, C.l2, C.l3, C.l4, C.l5⟩, ?_, ?_, by simp [hp'], fun a p q ha => ?_, fun a p ha => ?_⟩
  . refine (?_ : (((_ : Hp).set (B + 1) _).set (B + 3) _ |>.set B _)[a]? = _)
    refine rwE (List.getElem?_set_ne (Nat.ne_of_gt ‹_›)) (rwE (List.getElem?_set_ne (by lia)) (rwE (List.getElem?_set_ne (by lia)) ?_))
    exact oldAt (oldAt (C.low a o ha ho))
  . refine (?_ : (((_ : Hp).set (B + 1) _).set (B + 3) _ |>.set B _)[B]? = _)
    refine rwE (List.getElem?_set) (rwE (if_pos rfl) (rwE (if_pos (by simp; lia)) (rwE List.reverse_cons ?_)))
    simp [lets]
  . refine (?_ : (((_ : Hp).set (B + 1) _).set (B + 3) _ |>.set B _)[B + 1]? = _)
    exact rwE (List.getElem?_set_ne ((Nat.succ_ne_self _).symm)) (rwE (List.getElem?_set_ne (by lia)) (rwE (List.getElem?_set) (rwE (if_pos rfl) (rwE (if_pos (by simp; lia)) (rwE List.reverse_cons rfl)))))
  . exact k1 _ _ (by intro es q; cases q) (by intro es q; cases q) (oldAt (oldAt C.c3))
  . refine (?_ : (((_ : Hp).set (B + 1) _).set (B + 3) _ |>.set B _)[B + 3]? = _)
    exact rwE (List.getElem?_set_ne (by lia)) (rwE (List.getElem?_set) (rwE (if_pos rfl) (rwE (if_pos (by simp; exact Nat.lt_of_lt_of_le ‹_› (Nat.le_add_right _ _))) (rwE List.reverse_cons rfl))))
  . rcases List.mem_cons.mp hk with rfl | hk
    . exact h5
    . exact C.s6 k hk
  . exact k1 _ _ (by intro es q; cases q) (by intro es q; cases q) (oldAt lastAt)
  . refine k1 _ _ (by intro es q; cases q) (by intro es q; cases q) ?_
    simp
  . exact k1 _ _ (by intro es q; cases q) (by intro es q; cases q) (oldAt (oldAt ha))
  . exact k1 _ _ (by intro es q; cases q) (by intro es q; cases q) (oldAt (oldAt ha))
noncomputable def stAt (l : List Stmt) (i : Nat) : Stmt := l.getD i (.Pass ⟨0, 0, 0, 0⟩)
noncomputable def elB (s : Stmt) : List Stmt := (stmtOf s).2
noncomputable def cycB : List Stmt := inB (inB fdCycle.body 5) 1
structure FF (B : Nat) (A : SAd) (ks : List Nat) (su : Nat -> List Nat) (np : Nat -> Int) (F : Hp) : Prop where
  an : A.n < B
  fn : F[A.n]? = some (.fro (dictOf (fun k => .obj (A.na k)) ks))
  nd : ∀ k ∈ ks, A.na k < B /\ F[A.na k]? = some (.node 91 [some (.str (letter k)), some (.int (np k)), some (.obj (A.sa k))] (A.ea k))
  ed : ∀ k ∈ ks, A.ea k < B /\ F[A.ea k]? = some (.attrs [])
  sd : ∀ k ∈ ks, A.sa k < B /\ F[A.sa k]? = some (.list (lets (su k)))
  h6 : ∀ k ∈ ks, k <= 5
  hs : ∀ v ∈ ks, su v = [] ∨ ∃ w, su v = [w] /\ w < v /\ w ∈ ks
inductive Mid (B : Nat) (A : SAd) (ks : List Nat) (su : Nat -> List Nat) (F : Hp) (k : Nat) (hp : Hp) (lc : Loc) : Prop
  | all (Sr : List Nat) (tr : List AV) (sn : List Nat) (C : Cy B A F hp lc Sr tr sn) (hk : ∀ x ∈ Sr, x ∈ ks) (I : Its B A su hp hp.length Sr tr)
  | one (u w q t : Nat) (Sr : List Nat) (tr : List AV) (sn : List Nat) (C : Cy B A F hp lc (u :: Sr) (.obj t :: tr) sn) (hk : ∀ x ∈ u :: Sr, x ∈ ks) (I : Its B A su hp q Sr tr) (h1 : hp[q]? = some (.iter (A.sa u) 0)) (h2 : hp[t]? = some (.nxt q)) (h3 : B <= q) (h4 : q < t) (h5 : t < hp.length) (h6 : su u = [w]) (h7 : w < k) (h8 : w ∈ ks) (h9 : ∀ x ∈ u :: Sr, w < x)
inductive Pre (B : Nat) (A : SAd) (ks : List Nat) (su : Nat -> List Nat) (F : Hp) (k : Nat) (st : St) : Prop
  | mk (hp : Hp) (lc : Loc) (Sr : List Nat) (tr : List AV) (sn : List Nat) (e : st = ⟨hp, lc⟩) (C : Cy B A F hp lc Sr tr sn) (I : Its B A su hp hp.length Sr tr) (l : lc.lookup ("node" : Str) = some (.str (letter k))) (hk : k ∈ ks) (h1 : ∀ x ∈ Sr, k < x) (h2 : ∀ x ∈ Sr, x ∈ ks)
theorem inYes {h : Hp} {v n : Nat} {b c : Bool} (q : CMP .In (.str (letter v)) (.obj n) h b) (e : b = c) : CMP .In (.str (letter v)) (.obj n) h c := e ▸ q
theorem bm_sadd {h : Hp} {n v : Nat} {sn : List Nat} (hn : h[n]? = some (.set (sn.map letter))) (hv : v ∉ sn) (hz : sn.length <= 5) : BM (.obj n) "add" h [.str (letter v)] h .none (h.set n (.set ((sn ++ [v]).map letter))) := ⟨_, _, BI.set hn F.slot_set_add F.type_set_add, by refine rwE List.map_append ?_; exact MB.add hn (by refine rwE (propext let_mem) ?_; exact hv) (by refine rwE (List.length_map ..) ?_; exact hz)⟩
theorem cyc_new {d B k : Nat} {A : SAd} {ks : List Nat} {np : Nat -> Int} {su : Nat -> List Nat} {F hp : Hp} {lc : Loc} {Sr : List Nat} {tr : List AV} {sn : List Nat} {P : Fl -> St -> Prop} {f : Nat -> AV} (W : FF B A ks su np F) (C : Cy B A F hp lc Sr tr sn) (c4 : hp[B + 3]? = some (.dict (dictOf f Sr.reverse))) (I : Its B A su hp hp.length Sr tr) (lu : lc.lookup ("node" : Str) = some (.str (letter k))) (huk : k ∈ ks) (hSu : ∀ x ∈ Sr, k < x) (hSk : ∀ x ∈ Sr, x ∈ ks)
    (hP : ∀ hp', Mid B A ks su F k hp' lc -> P .next ⟨hp', lc⟩) : EXS (fdCycFE d) ((elB (stAt cycB 0)).drop 1) ⟨hp, lc⟩ P := by
  have l1 := C.l1; have l2 := C.l2; have l3 := C.l3; have l4 := C.l4; have l5 := C.l5
  have hkS : k ∉ Sr := fun hx => Nat.lt_irrefl _ (hSu k hx)
  have hz : tr.length <= 6 := by refine rwE I.len ?_; exact len6 C.nd C.s6
  have hSl := len6 C.nd C.s6
  have hB : B + 3 < hp.length := (List.getElem?_eq_some_iff.mp c4).1
  have d1 : ∀ X : AO, ((hp ++ [AO.iter (A.sa k) 0] ++ [AO.nxt hp.length]).set (B + 1) X)[B]? = some (.list (lets Sr.reverse)) := fun X => by
    refine rwE (List.getElem?_set_ne (Nat.succ_ne_self _)) ?_; exact oldAt (oldAt C.c1)
  have d2 : ∀ X : AO, ((hp ++ [AO.iter (A.sa k) 0] ++ [AO.nxt hp.length]).set (B + 1) X)[B + 3]? = some (.dict (dictOf f Sr.reverse)) := fun X => by
    refine rwE (List.getElem?_set_ne (by lia)) ?_; exact oldAt (oldAt c4)
  have d3 : ∀ X Y : AO, (((hp ++ [AO.iter (A.sa k) 0] ++ [AO.nxt hp.length]).set (B + 1) X).set (B + 3) Y)[B]? = some (.list (lets Sr.reverse)) := fun X Y => by
    refine rwE (List.getElem?_set_ne (by lia)) ?_; exact d1 X
  apply DS.expr rfl
  walk_at "mr"
  exact item_fro (i := k) (C.low _ _ W.an W.fn) huk
  exact get_su (C.low _ _ (W.nd k huk).1 (W.nd k huk).2) (C.low _ _ (W.ed k huk).1 (W.ed k huk).2) rfl
  walk_at "mr"
  exact iter_list (C.low _ _ (W.sd k huk).1 (W.sd k huk).2)
  walk_at "mr"
  exact get_next lastAt
  walk_at "mr"
  exact bm_append C.c2 (oldAt (oldAt C.c2)) (by refine rwE List.length_reverse ?_; exact Nat.le_trans hz (by decide))
  walk_at "mr"
  exact len_list (d1 _) (by refine rwE (lets_len ..) (rwE (List.length_reverse ..) ?_); exact Nat.le_trans hSl (by decide))
  walk_at "mr"
  exact set_new (i := k) (d2 _) (by refine rwE List.length_reverse ?_; exact Nat.le_trans hSl (by decide)) (fun q => hkS (List.mem_reverse.mp q))
  walk_at "mr"
  exact bm_append (d3 _ _) (d3 _ _) (by refine rwE (lets_len ..) (rwE (List.length_reverse ..) ?_); exact Nat.le_trans hSl (by decide))
  refine xAAAAA (C.push (n := A.sa k) (x := .int (lets Sr.reverse).length) c4 hkS (W.h6 k huk)) fun C2 j1 j2 j3 j4 j5 => ?_
  refine rwE (show (hp ++ [AO.iter (A.sa k) 0]).length = hp.length + 1 from List.length_append) ?_
  have hk2 : ∀ x ∈ k :: Sr, x ∈ ks := fun x hx => by
    rcases List.mem_cons.mp hx with rfl | hx
    . exact huk
    . exact hSk x hx
  have I2 := I.mono (hp' := _) (fun n a b z9 hx => j4 n a b hx) (fun n a z9 hx => j5 n a hx)
  refine EXS.nil (hP _ ?_)
  rcases W.hs k huk with hs | ⟨w, hs, hwk, hwk2⟩
  . exact .all _ _ _ C2 hk2 (.cons I2 (by refine rwE hs ?_; exact j1) j2 (by lia) (Nat.lt_succ_self _) (by refine rwE j3 ?_; exact Nat.lt_succ_self _))
  . refine .one k w hp.length (hp.length + 1) Sr tr sn C2 hk2 I2 j1 j2 (by lia) (Nat.lt_succ_self _) (by refine rwE j3 ?_; lia) hs hwk hwk2 fun x hx => ?_
    rcases List.mem_cons.mp hx with rfl | hx
    . exact hwk
    . exact Nat.lt_trans hwk (hSu x hx)
theorem cyc_if {d B k : Nat} {A : SAd} {ks : List Nat} {np : Nat -> Int} {su : Nat -> List Nat} {F hp : Hp} {lc : Loc} {Sr : List Nat} {tr : List AV} {sn : List Nat} {r : List Stmt} {P : Fl -> St -> Prop} (W : FF B A ks su np F) (C : Cy B A F hp lc Sr tr sn) (I : Its B A su hp hp.length Sr tr) (lu : lc.lookup ("node" : Str) = some (.str (letter k))) (huk : k ∈ ks) (hSu : ∀ x ∈ Sr, k < x) (hSk : ∀ x ∈ Sr, x ∈ ks)
    (hP : ∀ hp', Mid B A ks su F k hp' lc -> EXS (fdCycFE d) r ⟨hp', lc⟩ P) : EXS (fdCycFE d) (stAt cycB 0 :: r) ⟨hp, lc⟩ P := by
  have l4 := C.l4; have l5 := C.l5
  obtain ⟨f, c4⟩ := C.c4
  by_cases hus : k ∈ sn
  . apply DS.ifT
    walk_at "mr"
    exact inYes (in_set C.c3) (decide_eq_true hus)
    apply DS.ifF0
    walk_at "mr"
    exact inYes (in_dict c4) (decide_eq_false fun q => Nat.lt_irrefl _ (hSu k (List.mem_reverse.mp q)))
    exact EXS.nil (hP hp (.all Sr tr sn C hSk I))
  . have hsl := len5 C.nd2 C.s62 (W.h6 k huk) hus
    have C1 := C.see hus (W.h6 k huk)
    have I1 := I.mono (hp' := hp.set (B + 2) (.set ((sn ++ [k]).map letter))) (fun n a b z9 hx => keepAt hx C.c3 (by intro q; cases q)) (fun n a z9 hx => keepAt hx C.c3 (by intro q; cases q))
    have c4' := keepAt (x := .set ((sn ++ [k]).map letter)) c4 C.c3 (by intro q; cases q)
    rw [show hp.length = (hp.set (B + 2) (.set ((sn ++ [k]).map letter))).length from List.length_set.symm] at I1
    apply DS.ifF
    walk_at "mr"
    exact inYes (in_set C.c3) (decide_eq_false hus)
    walk_at "md"
    walk_at "mr"
    exact bm_sadd C.c3 hus hsl
    exact cyc_new W C1 c4' I1 lu huk hSu hSk fun hp' M => hP hp' M
inductive InvP (B : Nat) (A : SAd) (ks : List Nat) (su : Nat -> List Nat) (F : Hp) (lc : Loc) (m : Nat) (st : St) : Prop
  | mk (hp : Hp) (Sr : List Nat) (tr : List AV) (sn : List Nat) (hm : m = Sr.length) (e : st = ⟨hp, lc⟩) (C : Cy B A F hp lc Sr tr sn) (I : Its B A su hp hp.length Sr tr) (hk : ∀ x ∈ Sr, x ∈ ks)
theorem DS.tryN {fe : FE} {st st1 : St} {P : Fl -> St -> Prop} {r : List Stmt} {kc : Nat} {px py pz pd kp yp pa pa' p1 p2 p3 pc ap bp pc2 ps pdel pc3 pe ph pos : Pos} {f : Fl} (F : TryFE fe)
    (hc : (methForm (.Name "stack" kp) pa pc2 0 && methForm (.Name "itstack" yp) pa' pc3 0) = true) (q : TryN st f st1) (h : Seq fe r P f st1) :
    EXS fe (tryStmt kc px py pz pd kp yp pa pa' p1 p2 p3 pc ap bp pc2 ps pdel pc3 pe ph pos :: r) st P := EXS.cons (EX.tryNext F hc q h)
theorem cyc_ok (d : Nat) : TryFE (fdCycFE d) := ⟨rfl, by kernel_rfl, by kernel_rfl, by kernel_rfl, by kernel_rfl, by kernel_rfl⟩
theorem truth_lets {h : Hp} {n : Nat} {l : List Nat} (hn : h[n]? = some (.list (lets l.reverse))) (hz : l.length <= 6) : TRU (.obj n) h (decide (l ≠ [])) := by
  refine TRU.list hn (by refine rwE (lets_len ..) (rwE (List.length_reverse ..) ?_); exact Nat.le_trans ‹_› (by decide)) ?_
  refine rwE (lets_len ..) (rwE (List.length_reverse ..) ?_)
  cases l <;> rfl
theorem cyc_back {d B k : Nat} {A : SAd} {ks : List Nat} {np : Nat -> Int} {su : Nat -> List Nat} {F hp : Hp} {lc : Loc} {P : Fl -> St -> Prop} (W : FF B A ks su np F) (M : Mid B A ks su F k hp lc) (hP : ∀ hp' sn, Cy B A F hp' lc [] [] sn -> P .next ⟨hp', lc⟩) : EXS (fdCycFE d) [stAt cycB 1] ⟨hp, lc⟩ (Turn (Pre B A ks su F) k P) := by
  apply DS.while
  cases M with
  | all Sr tr sn C hk I =>
    refine WHILE.inv (InvP B A ks su F lc) (fun m st hI => ?_) ⟨hp, Sr, tr, sn, rfl, rfl, C, I, hk⟩
    clear C I hk
    obtain ⟨hp, Sr, tr, sn, rfl, rfl, C, I, hk⟩ := hI
    have l2 := C.l2
    have hSl := len6 C.nd C.s6
    cases Sr with
    | nil =>
      apply DS.whileF
      walk_at "mr"
      exact truth_lets C.c1 hSl
      walk_at "mr"
      cases I
      exact hP hp sn C
    | cons u Sr =>
      have W' := W.sd u (hk u (.head _))
      refine xEEAAA (try_pop C I (C.low _ _ W'.1 W'.2)) fun hp' tr' e1 C' I' e2 => ?_
      apply DS.whileT
      walk_at "mr"
      exact truth_lets C.c1 hSl
      refine DS.tryN (cyc_ok d) (by kernel_rfl) e1 ?_
      exact EXS.nil (Turn.next (Nat.lt_succ_self _) ⟨hp', Sr, tr', sn, rfl, rfl, C', e2.symm ▸ I', fun x hx => hk x (.tail _ hx)⟩)
  | one u w q t Sr tr sn C hk I h1 h2 h3 h4 h5 h6 h7 h8 h9 =>
    have W' := W.sd u (hk u (.head _))
    have l2 := C.l2
    have hSl := len6 C.nd C.s6
    refine xEAAA (try_next (m := hp.length) C I h1 h2 h3 h4 h5 h6 (C.low _ _ W'.1 W'.2)) fun hp' e1 C' I' e2 => ?_
    refine WHILE.inv (fun m st => st = ⟨hp, lc⟩) (fun m st hI => ?_) (k := 0) rfl
    subst hI
    apply DS.whileT
    walk_at "mr"
    exact truth_lets C.c1 hSl
    refine DS.tryN (cyc_ok d) (by kernel_rfl) e1 ?_
    exact EXS.nil (Turn.next h7 ⟨hp', _, u :: Sr, .obj t :: tr, sn, rfl, C', e2.symm ▸ I', by kernel_rfl, h8, h9, hk⟩)
inductive InvY (B : Nat) (A : SAd) (ks : List Nat) (F : Hp) (its : List It) (st : St) : Prop
  | mk (dn td : List Nat) (hp : Hp) (lc : Loc) (sn : List Nat) (h1 : dn ++ td = ks) (h2 : its = letIts td) (e : st = ⟨hp, lc⟩) (C : Cy B A F hp lc [] [] sn)
theorem new_set {h : Hp} : CAL (.type "set") [] h (.obj h.length) (h ++ [.set []]) := CAL.set
theorem FF.mk' {lo hi : Nat} {A : SAd} {ks : List Nat} {np : Nat -> Int} {su : Nat -> List Nat} {rn : AV} {po fi : Int} {h : Hp} (S : Sor lo hi A ks np su rn po fi h)
    (hsu : ∀ v ∈ ks, su v = [] ∨ ∃ w, su v = [w] /\ w < v /\ w ∈ ks) : FF h.length A ks su np (h.set A.n (.fro (dictOf (fun k => .obj (A.na k)) ks))) := by
  have g : ∀ {n o}, h[n]? = some o -> n < h.length := fun x => (List.getElem?_eq_some_iff.mp x).1
  exact ⟨g S.hn, getSet S.hn, fun k hk => ⟨g (S.nd k hk), keepAt (S.nd k hk) S.hn (by intro q; cases q)⟩, fun k hk => ⟨g (S.ed k hk), keepAt (S.ed k hk) S.hn (by intro q; cases q)⟩, fun k hk => ⟨g (S.sd k hk), keepAt (S.sd k hk) S.hn (by intro q; cases q)⟩, S.h6, hsu⟩
theorem Cy.start {F : Hp} {A : SAd} {lc : Loc} (l1 : lc.lookup ("n2i" : Str) = some (.obj A.n)) (l2 : lc.lookup ("stack" : Str) = some (.obj F.length)) (l3 : lc.lookup ("itstack" : Str) = some (.obj (F.length + 1))) (l4 : lc.lookup ("seen" : Str) = some (.obj (F.length + 2))) (l5 : lc.lookup ("node2stacki" : Str) = some (.obj (F.length + 3))) : Cy F.length A F (F ++ [AO.list [], AO.list [], AO.set [], AO.dict []]) lc [] [] [] :=
  ⟨fun z9 z9 z9 ho => oldAt ho, beyond (i := 0), beyond (i := 1), beyond (i := 2), ⟨fun z9 => .none, beyond (i := 3)⟩, .nil, (by intro k hk; cases hk), .nil, (by intro k hk; cases hk), l1, l2, l3, l4, l5⟩
theorem cyc_sound {d lo hi : Nat} {A : SAd} {ks : List Nat} {np : Nat -> Int} {su : Nat -> List Nat} {rn : AV} {po fi : Int} {h : Hp} (S : Sor lo hi A ks np su rn po fi h)
    (hsu : ∀ v ∈ ks, su v = [] ∨ ∃ w, su v = [w] /\ w < v /\ w ∈ ks) {P : AV -> Hp -> Prop} (hP : ∀ h', (∀ (n : Nat) (o : AO), h[n]? = some o -> h'[n]? = some o) -> h.length <= h'.length -> P .none h') : CALL (d + 1) fdCycle [.obj A.s] h P := by
  refine CALL.intro (binds := [("self", .obj A.s)]) (h1 := h) (st1 := ⟨h, [("self", .obj A.s)]⟩) (by kernel_rfl) (by kernel_rfl) ?_
  refine (?_ : EXS (fdCycFE d) _ _ _)
  have hn4 : (h ++ [AO.list [], AO.list [], AO.set [], AO.dict []])[A.n]? = some (.dict (dictOf (fun k => .obj (A.na k)) ks)) := oldAt S.hn
  have hz := Nat.le_trans (len6 S.hk S.h6) (by decide : 6 <= 1000)
  have W := FF.mk' S hsu
  apply DS.assign (by kernel_rfl) rfl
  walk_at "mr"
  exact get_n2i S.hs S.hd
  walk_at "mr"
  exact new_set
  walk_at "mr"
  refine rwE (List.append_assoc ..) (rwE (List.append_assoc ..) (rwE (List.append_assoc ..) ?_))
  exact SD.gen (ED.loc (by decide) (by kernel_rfl) (by walk_at "mlook"; done)) (src_dict hn4 hz)
  have hfr : freeze ⟨.dkey A.n, letIts ks, none⟩ (h ++ [AO.list [], AO.list [], AO.set [], AO.dict []]) = h.set A.n (.fro (dictOf (fun k => .obj (A.na k)) ks)) ++ [AO.list [], AO.list [], AO.set [], AO.dict []] := by
    refine (?_ : froze A.n _ = _)
    unfold froze
    refine rwE hn4 ?_
    exact List.set_append_left _ _ W.an
  have hFl : (h.set A.n (.fro (dictOf (fun k => .obj (A.na k)) ks))).length = h.length := List.length_set
  have hFo : ∀ n o, n ≠ A.n -> h[n]? = some o -> (h.set A.n (.fro (dictOf (fun k => .obj (A.na k)) ks)))[n]? = some o := fun n o hn ho => by refine rwE (List.getElem?_set_ne (Ne.symm hn)) ?_; exact ho
  have e1 : (h ++ [AO.list []]).length = h.length + 1 := List.length_append
  have e2 : (h ++ [AO.list []] ++ [AO.list []]).length = h.length + 2 := by refine rwE List.length_append (rwE e1 ?_); rfl
  have e3 : (h ++ [AO.list []] ++ [AO.list []] ++ [AO.set []]).length = h.length + 3 := by refine rwE List.length_append (rwE e2 ?_); rfl
  refine FORL.inv (InvY h.length A ks (h.set A.n (.fro (dictOf (fun k => .obj (A.na k)) ks)))) (fun st hI => ?_) (fun it r st hI => ?_)
    ⟨[], ks, _, _, [], rfl, rfl, congrArg (St.mk · _) hfr, hFl ▸ Cy.start (by kernel_rfl) (by refine rwE hFl ?_; kernel_rfl) (by refine rwE hFl (rwB e1 ?_); kernel_rfl) (by refine rwE hFl (rwB e2 ?_); kernel_rfl) (by refine rwE hFl (rwB e3 ?_); kernel_rfl)⟩
  . generalize h.set A.n (.fro (dictOf (fun k => .obj (A.na k)) ks)) = F at *
    obtain ⟨dn, td, hp, lc, sn, hdt, hits, rfl, C⟩ := hI
    have hfn := C.low A.n _ W.an W.fn
    refine ⟨rfl, ?_⟩
    refine (?_ : EXS _ _ ⟨thawed A.n hp, lc⟩ _)
    rw [show thawed A.n hp = hp.set A.n (.dict (dictOf (fun k => .obj (A.na k)) ks)) by unfold thawed; exact rwE hfn rfl]
    walk_at "mr"
    refine hP _ (fun n o ho => ?_) (by refine rwE List.length_set ?_; exact Nat.le_of_lt (List.getElem?_eq_some_iff.mp C.c1).1)
    by_cases e : n = A.n
    . subst e
      refine rwE (getSet hfn) (rwB S.hn ?_); exact ho
    . refine rwE (List.getElem?_set_ne (Ne.symm e)) ?_
      exact C.low n o (List.getElem?_eq_some_iff.mp ho).1 (hFo n o e ho)
  . generalize h.set A.n (.fro (dictOf (fun k => .obj (A.na k)) ks)) = F at *
    obtain ⟨dn, td, hp, lc, sn, hdt, hits, rfl, C⟩ := hI
    cases td with
    | nil => cases hits
    | cons v td =>
      injection hits with q1 q2
      subst q1 q2
      refine FT.mk rfl (assignLoc (by kernel_rfl)) ?_
      have fin : ∀ hp' lc' sn', Cy h.length A F hp' lc' [] [] sn' -> InvY h.length A ks F (letIts td) ⟨hp', lc'⟩ := fun hp' lc' sn' C' => ⟨dn ++ [v], td, hp', lc', sn', by refine rwB (hdt ..) (rwE (List.append_assoc ..) ?_); rfl, rfl, rfl, C'⟩
      have C := C.node (.str (letter v))
      have l4 := C.l4
      by_cases hvs : v ∈ sn
      . apply DS.ifT
        walk_at "mr"
        exact inYes (in_set C.c3) (decide_eq_true hvs)
        walk_at "mr"
        exact fin _ _ _ C
      . apply DS.ifF0
        walk_at "mr"
        exact inYes (in_set C.c3) (decide_eq_false hvs)
        apply DS.while
        refine WHILE.inv (Pre h.length A ks su F) (fun k st hI => ?_) (k := v) ⟨hp, _, [], [], sn, rfl, C, .nil, by kernel_rfl, by refine rwB hdt ?_; simp, (by intro x hx; cases hx), (by intro x hx; cases hx)⟩
        clear l4 C
        obtain ⟨hp, lc, Sr, tr, sn, rfl, C, I, lu, hk, h1, h2⟩ := hI
        refine DS.whileT (TD.value rfl ED.bool TRU.bool) ?_
        exact cyc_if W C I lu hk h1 h2 fun hp' M => cyc_back W M fun hp2 sn2 C2 => EXS.nil (TurnF.next (fin _ _ _ C2))
structure Srt (lo hi : Nat) (A : SAd) (ks : List Nat) (np : Nat -> Int) (su : Nat -> List Nat) (r : Nat) (R : List Nat) (po fi : Int) (h : Hp) : Prop where
  S : Sor lo hi A ks np su (.obj r) po fi h
  hr : h[r]? = some (.list (lets R))
  br : lo <= r /\ r < hi
  ne : ∀ k ∈ ks, A.sa k ≠ r
theorem Srt.keep {lo hi : Nat} {A : SAd} {ks : List Nat} {np : Nat -> Int} {su : Nat -> List Nat} {r : Nat} {R : List Nat} {po fi : Int} {h h' : Hp} (T : Srt lo hi A ks np su r R po fi h) (hk : ∀ n o, lo <= n -> n < hi -> h[n]? = some o -> h'[n]? = some o) : Srt lo hi A ks np su r R po fi h' :=
  ⟨T.S.keep hk, hk _ _ T.br.1 T.br.2 T.hr, T.br, T.ne⟩
theorem Srt.up {lo hi hi' : Nat} {A : SAd} {ks : List Nat} {np : Nat -> Int} {su : Nat -> List Nat} {r : Nat} {R : List Nat} {po fi : Int} {h : Hp} (T : Srt lo hi A ks np su r R po fi h) (hh : hi <= hi') : Srt lo hi' A ks np su r R po fi h :=
  ⟨T.S.up hh, T.hr, ⟨T.br.1, by have := T.br.2; exact Nat.lt_of_lt_of_le ‹_› ‹_›⟩, T.ne⟩
theorem Srt.app {lo : Nat} {A : SAd} {ks : List Nat} {np : Nat -> Int} {su : Nat -> List Nat} {r : Nat} {R : List Nat} {po fi : Int} {h m : Hp} (T : Srt lo h.length A ks np su r R po fi h) : Srt lo (h ++ m).length A ks np su r R po fi (h ++ m) := (T.keep (h' := h ++ m) fun z9 z9 z9 z9 x => oldAt x).up (by simp)
theorem SD.values {fe : FE} {st : St} {o : Expr} {p q : Pos} {k : Nat} {h : Hp} {lc : Loc} {es : List (Str × AV)} (hf : methForm o p q 0 = true) (x : ED fe o st (.obj k) ⟨h, lc⟩) (e : h[k]? = some (.dict es)) (hz : es.length <= 1000) : SD fe (.Call (.Attribute o "values" p) [] [] q) st ⟨.dval k, es.map fun p => .one p.2, none⟩ ⟨h, lc⟩ :=
  fun z9 p => SRC.values hf (x ⟨k, es, rfl, e, hz, p⟩)
theorem Srt.of {lo : Nat} {A : SAd} {ks R : List Nat} {np : Nat -> Int} {su : Nat -> List Nat} {po fi : Int} {h h2 h3 : Hp} (S : Sor lo h.length A ks np su .none po fi h) (S2 : Sor lo h2.length A ks np su (.obj h.length) po fi h2) (hr : h2[h.length]? = some (.list (lets R))) (k : ∀ (n : Nat) (o : AO), h2[n]? = some o -> h3[n]? = some o) (hl : h2.length <= h3.length) : Srt lo h3.length A ks np su h.length R po fi h3 :=
  ⟨(S2.keep fun n o z9 z9 hx => k n o hx).up hl, k _ _ hr, ⟨Nat.le_of_lt (Nat.lt_of_le_of_lt S.bs.1 S.bs.2), (List.getElem?_eq_some_iff.mp (k _ _ hr)).1⟩, fun i hi => Nat.ne_of_lt (S.bsa i hi).2⟩
inductive InvV (A : SAd) (ks : List Nat) (np : Nat -> Int) (F : Hp) (its : List It) (hp : Hp) : Prop
  | mk (dn td : List Nat) (h1 : dn ++ td = ks) (h2 : its = td.map fun k => It.one (.obj (A.na k))) (e : hp = F ++ [.list (lets (dn.filter fun k => decide (np k = 0)))])
theorem prep_sound {d lo : Nat} {A : SAd} {ks : List Nat} {np : Nat -> Int} {su : Nat -> List Nat} {po fi : Int} {h : Hp} (S : Sor lo h.length A ks np su .none po fi h)
    (hsu : ∀ v ∈ ks, su v = [] ∨ ∃ w, su v = [w] /\ w < v /\ w ∈ ks) {P : AV -> Hp -> Prop} (hP : ∀ r h', Srt lo h'.length A ks np su r (ks.filter fun k => decide (np k = 0)) po fi h' -> Ext0 lo h h' -> P .none h') : CALL (d + 2) fdPrep [.obj A.s] h P := by
  refine CALL.intro (binds := [("self", .obj A.s)]) (h1 := h) (st1 := ⟨h, [("self", .obj A.s)]⟩) (by kernel_rfl) (by kernel_rfl) ?_
  have hz := len6 S.hk S.h6
  have W := FF.mk' S hsu
  have hth : ∀ o, thawed A.n (h.set A.n (.fro (dictOf (fun k => .obj (A.na k)) ks)) ++ [o]) = h ++ [o] := fun o => by
    unfold thawed
    refine rwE (oldAt W.fn) ?_
    refine (List.set_append_left _ _ (by refine rwE List.length_set ?_; exact W.an)).trans ?_
    exact rwE setSet (rwE (setSelf S.hn) rfl)
  have hfr : froze A.n (h ++ [AO.list []]) = h.set A.n (.fro (dictOf (fun k => .obj (A.na k)) ks)) ++ [AO.list []] := by
    unfold froze
    refine rwE (oldAt S.hn) ?_
    exact List.set_append_left _ _ W.an
  apply DS.ifF0
  walk_at "mr"
  exact get_rn S.hs S.hd rfl
  walk_at "mr"
  exact isNotF
  have S1 := S.app (m := [AO.list (lets (ks.filter fun k => decide (np k = 0)))])
  have hr2 := keepAt (x := .attrs (att A.n (.obj h.length) po fi)) (lastAt (h := h) (o := .list (lets (ks.filter fun k => decide (np k = 0))))) S1.hd (by intro q; cases q)
  have S2 := (S1.setAt (.obj h.length) po fi).upSet
  have E1 := (Ext0.app (m := [AO.list (lets (ks.filter fun k => decide (np k = 0)))])).trans (Ext0.set (o' := .attrs (att A.n (.obj h.length) po fi)) S1.hd S1.bd.1 (by intro xs q; cases q))
  walk_at "md"
  refine ED.ofC (v := .obj h.length) (st1 := ⟨h ++ [AO.list (lets (ks.filter fun k => decide (np k = 0)))], [("self", .obj A.s)]⟩) fun Q q => ?_
  refine EVC.listG (by kernel_rfl) (cs := []) (by kernel_rfl) (SD.values (by kernel_rfl) (ED.attr rfl (ED.loc (by decide) (by kernel_rfl) (by walk_at "mlook"; done)) (get_n2i S.hs S.hd)) S.hn (by rw [dictOf, List.length_map]; exact Nat.le_trans ‹_› (by decide))) rfl ?_
  have hl : (h.set A.n (.fro (dictOf (fun k => .obj (A.na k)) ks))).length = h.length := List.length_set
  refine LOOPC.idx (InvV A ks np (h.set A.n (.fro (dictOf (fun k => .obj (A.na k)) ks)))) (fun l hp hI => rfl) (fun i l hp lc hI => ?_) (fun hp lc hI => ?_) ⟨[], ks, rfl, by unfold dictOf; refine rwE List.map_map ?_; rfl, hfr⟩
  . obtain ⟨dn, td, h1, h2, rfl⟩ := hI
    cases td with
    | nil => cases h2
    | cons k td =>
      injection h2 with q1 q2
      subst q1 q2
      have hk : k ∈ ks := by refine rwB h1 ?_; simp
      by_cases h0 : np k = 0
      . apply CTurn.list (assignLoc (by kernel_rfl))
        . apply IFD.cons
          . walk_at "mr"
            exact get_np (oldAt (W.nd k hk).2) (oldAt (W.ed k hk).2) rfl
            walk_at "mr"
            exact cmpEq h0
          . exact IFD.nil
        . walk_at "mr"
          exact get_node (oldAt (W.nd k hk).2) (oldAt (W.ed k hk).2) rfl
        . exact hl ▸ lastAt
        . have h3 : (dn.filter fun k => decide (np k = 0)).length <= dn.length := List.length_filter_le _ _
          rw [← h1, List.length_append] at hz
          refine rwE (lets_len ..) ?_; lia
        . refine ⟨dn ++ [k], td, by refine rwB (h1 ..) (rwE (List.append_assoc ..) ?_); rfl, rfl, ?_⟩
          refine rwB (hl ..) (rwE (set_last ..) (rwE (List.filter_append ..) ?_))
          simp [lets, h0]
      . apply CTurn.no (assignLoc (by kernel_rfl))
        . apply IFD.no
          walk_at "mr"
          exact get_np (oldAt (W.nd k hk).2) (oldAt (W.ed k hk).2) rfl
          walk_at "mr"
          exact cmpEqF h0
        . refine ⟨dn ++ [k], td, by refine rwB (h1 ..) (rwE (List.append_assoc ..) ?_); rfl, rfl, ?_⟩
          refine rwE (List.filter_append ..) ?_
          simp [h0]
  . obtain ⟨dn, td, h1, h2, rfl⟩ := hI
    have : td = [] := by cases td with | nil => rfl | cons a b => cases h2
    subst this
    rw [List.append_nil] at h1
    subst h1
    refine (?_ : Q _ ⟨thawed A.n _, _⟩)
    refine rwE (hth ..) ?_
    exact q
  walk_at "mr"
  exact set_rn S1.hs S1.hd
  clear S1 hth hfr W
  generalize (h ++ [AO.list (lets (ks.filter fun k => decide (np k = 0)))]).set A.d (.attrs (att A.n (.obj h.length) po fi)) = h2 at *
  walk_at "mr"
  exact mr_srt (a := 178) (by kernel_rfl) rfl (by kernel_rfl) S2.hs S2.hd
  walk_at "mr"
  refine cyc_sound S2 hsu fun h3 hk3 hl3 => ?_
  walk_at "mr"
  apply DS.ifF0
  walk_at "mr"
  exact TRU.none
  exact EXS.nil (hP h.length h3 (.of S S2 hr2 hk3 hl3) (E1.trans ⟨fun n o z9 hx => hk3 n o hx, fun n xs hx => hk3 n _ hx, hl3⟩))
structure Ext1 (lo hi : Nat) (h h' : Hp) : Prop where
  out : ∀ (n : Nat) (o : AO), n < lo ∨ hi <= n -> h[n]? = some o -> h'[n]? = some o
  tup : ∀ (n : Nat) (xs : List AV), h[n]? = some (AO.tup xs) -> h'[n]? = some (AO.tup xs)
  len : h.length <= h'.length
theorem Ext1.refl {lo hi : Nat} {h : Hp} : Ext1 lo hi h h := ⟨fun z9 z9 z9 x => x, fun z9 z9 x => x, Nat.le_refl _⟩
theorem Ext1.trans {lo hi : Nat} {h h1 h2 : Hp} (a : Ext1 lo hi h h1) (b : Ext1 lo hi h1 h2) : Ext1 lo hi h h2 := ⟨fun n o x y => b.out n o x (a.out n o x y), fun n xs x => b.tup n xs (a.tup n xs x), Nat.le_trans a.len b.len⟩
theorem Ext1.app {lo hi : Nat} {h m : Hp} : Ext1 lo hi h (h ++ m) := ⟨fun z9 z9 z9 x => oldAt x, fun z9 z9 x => oldAt x, by simp⟩
theorem Ext1.set {lo hi n : Nat} {h : Hp} {o o' : AO} (hn : h[n]? = some o) (hlo : lo <= n /\ n < hi) (ho : ∀ xs, o ≠ .tup xs) : Ext1 lo hi h (h.set n o') := by
  refine ⟨fun m q hm x => ?_, fun m xs x => ?_, by simp⟩
  . refine rwE (List.getElem?_set_ne (by lia)) ?_; exact x
  . have : n ≠ m := fun q => by subst q; rw [hn] at x; exact ho xs (Option.some.inj x)
    refine rwE (List.getElem?_set_ne this) ?_; exact x
theorem Srt.app1 {lo hi : Nat} {A : SAd} {ks : List Nat} {np : Nat -> Int} {su : Nat -> List Nat} {r : Nat} {R : List Nat} {po fi : Int} {h m : Hp} (T : Srt lo hi A ks np su r R po fi h) : Srt lo hi A ks np su r R po fi (h ++ m) := T.keep (h' := h ++ m) fun z9 z9 z9 z9 x => oldAt x
section
variable {lo hi : Nat} {A : SAd} {ks : List Nat} {np : Nat -> Int} {su : Nat -> List Nat} {r : Nat} {R : List Nat} {po fi : Int} {h : Hp}
theorem Srt.setNp (T : Srt lo hi A ks np su r R po fi h) {k : Nat} (hk : k ∈ ks) (x : Int) : Srt lo hi A ks (updV np k x) su r R po fi (h.set (A.na k) (.node 91 [some (.str (letter k)), some (.int x), some (.obj (A.sa k))] (A.ea k))) :=
  ⟨T.S.setNp hk x, keepAt T.hr (T.S.nd k hk) (by intro q; cases q), T.br, T.ne⟩
theorem Srt.setR (T : Srt lo hi A ks np su r R po fi h) (R' : List Nat) : Srt lo hi A ks np su r R' po fi (h.set r (.list (lets R'))) :=
  ⟨{ T.S with
    hs := keepAt T.S.hs T.hr (by intro q; cases q)
    hd := keepAt T.S.hd T.hr (by intro q; cases q)
    hn := keepAt T.S.hn T.hr (by intro q; cases q)
    nd := fun i hx => keepAt (T.S.nd i hx) T.hr (by intro q; cases q)
    ed := fun i hx => keepAt (T.S.ed i hx) T.hr (by intro q; cases q)
    sd := fun i hx => by refine rwE (List.getElem?_set_ne (Ne.symm (T.ne i hx))) ?_; exact T.S.sd i hx }, getSet T.hr, T.br, T.ne⟩
theorem Srt.setAt (T : Srt lo hi A ks np su r R po fi h) (po' fi' : Int) : Srt lo hi A ks np su r R po' fi' (h.set A.d (.attrs (att A.n (.obj r) po' fi'))) :=
  ⟨T.S.setAt _ po' fi', keepAt T.hr T.S.hd (by intro q; cases q), T.br, T.ne⟩
theorem Srt.extNp (T : Srt lo hi A ks np su r R po fi h) {k : Nat} (hk : k ∈ ks) (o : AO) : Ext1 lo hi h (h.set (A.na k) o) := Ext1.set (T.S.nd k hk) (T.S.bna k hk) (by intro xs q; cases q)
theorem Srt.extR (T : Srt lo hi A ks np su r R po fi h) (o : AO) : Ext1 lo hi h (h.set r o) := Ext1.set T.hr T.br (by intro xs q; cases q)
theorem Srt.extAt (T : Srt lo hi A ks np su r R po fi h) (o : AO) : Ext1 lo hi h (h.set A.d o) := Ext1.set T.S.hd T.S.bd (by intro xs q; cases q)
end
theorem bool_list {h : Hp} {n : Nat} {xs : List AV} (hn : h[n]? = some (.list xs)) (hz : xs.length <= 1000) : CAL (.type "bool") [.obj n] h (.bool (decide (xs.length ≠ 0))) h := CAL.bool hn hz
theorem tup_list {h : Hp} {n : Nat} {xs : List AV} (hn : h[n]? = some (.list xs)) (hz : xs.length <= 1000) : CAL (.type "tuple") [.obj n] h (.obj h.length) (h ++ [.tup xs]) := CAL.tuple hn hz
theorem bm_clear {h : Hp} {n : Nat} {xs : List AV} (hn : h[n]? = some (.list xs)) (hz : xs.length <= 1000) : BM (.obj n) "clear" h [] h .none (h.set n (.list [])) := ⟨_, _, BI.list hn F.slot_list_clear F.type_list_clear, MB.clear hn hz⟩
section
variable {fe : FE} {st st1 st2 : St} {pos : Pos} {a b : AV} {h : Hp} {lc : Loc} {e y : Expr}
theorem ED.orT {r : List Expr} (x : ED fe e st a ⟨h, lc⟩) (q : TRU a h true) : ED fe (.BoolOp .Or (e :: y :: r) pos) st a ⟨h, lc⟩ := fun P p => EV.boolop (BL.or (x (P := fun a st1 => ∃ b, TRU a st1.hp b /\ if b then P a st1 else BL fe .Or (y :: r) st1 P) ⟨true, q, p⟩))
theorem ED.orF (x : ED fe e st a ⟨h, lc⟩) (q : TRU a h false) (z : ED fe y ⟨h, lc⟩ b st2) : ED fe (.BoolOp .Or [e, y] pos) st b st2 := fun P p => EV.boolop (BL.or (x (P := fun a st1 => ∃ b, TRU a st1.hp b /\ if b then P a st1 else BL fe .Or [y] st1 P) ⟨false, q, BL.one (z p)⟩))
theorem ED.andT (x : ED fe e st a ⟨h, lc⟩) (q : TRU a h true) (z : ED fe y ⟨h, lc⟩ b st2) : ED fe (.BoolOp .And [e, y] pos) st b st2 := fun P p => EV.boolop (BL.and (x (P := fun a st1 => ∃ b, TRU a st1.hp b /\ if b then BL fe .And [y] st1 P else P a st1) ⟨true, q, BL.one (z p)⟩))
end
theorem active_sound {d lo hi : Nat} {A : SAd} {ks : List Nat} {np : Nat -> Int} {su : Nat -> List Nat} {r : Nat} {R : List Nat} {po fi : Int} {h : Hp} (T : Srt lo hi A ks np su r R po fi h) (hR : R.length <= 6)
    {P : AV -> Hp -> Prop} (hP : P (.bool (decide (fi < po) || decide (R.length ≠ 0))) h) : CALL (d + 1) fdActive [.obj A.s] h P := by
  refine CALL.intro (binds := [("self", .obj A.s)]) (h1 := h) (st1 := ⟨h, [("self", .obj A.s)]⟩) (by kernel_rfl) (by kernel_rfl) ?_
  by_cases hlt : fi < po
  . rw [decide_eq_true hlt] at hP
    apply DS.ifF0
    walk_at "mr"
    exact get_rn T.S.hs T.S.hd rfl
    walk_at "mr"
    exact isNoneF
    walk_at "md"
    apply ED.orT
    walk_at "mr"
    exact get_fi T.S.hs T.S.hd
    walk_at "mr"
    exact get_po T.S.hs T.S.hd
    exact cmpLt hlt
    exact TRU.bool
    exact hP
  . rw [decide_eq_false hlt, Bool.false_or, ← lets_len] at hP
    apply DS.ifF0
    walk_at "mr"
    exact get_rn T.S.hs T.S.hd rfl
    walk_at "mr"
    exact isNoneF
    walk_at "md"
    apply ED.orF
    walk_at "mr"
    exact get_fi T.S.hs T.S.hd
    walk_at "mr"
    exact get_po T.S.hs T.S.hd
    exact cmpLtF hlt
    exact TRU.bool
    walk_at "mr"
    exact get_rn T.S.hs T.S.hd rfl
    walk_at "mr"
    exact bool_list T.hr (by refine rwE (lets_len ..) ?_; exact Nat.le_trans hR (by decide))
    exact hP
inductive InvR (lo hi : Nat) (A : SAd) (ks : List Nat) (np : Nat -> Int) (su : Nat -> List Nat) (r : Nat) (R : List Nat) (po fi : Int) (h : Hp) (n : Nat) (its : List It) (st : St) : Prop
  | mk (dn td : List Nat) (h' : Hp) (lc : Loc) (h1 : dn ++ td = R) (h2 : its = letIts td) (e : st = ⟨h', lc⟩) (T : Srt lo hi A ks (fun v => if v ∈ dn then -1 else np v) su r R po fi h') (E : Ext1 lo hi h h') (ht : h'[n]? = some (.tup (lets R))) (l1 : lc.lookup ("self" : Str) = some (.obj A.s)) (l2 : lc.lookup ("n2i" : Str) = some (.obj A.n)) (l3 : lc.lookup ("result" : Str) = some (.obj n))
theorem npR_nil {np : Nat -> Int} : (fun v => if v ∈ ([] : List Nat) then (-1 : Int) else np v) = np := by funext v; dsimp
theorem npR_step {dn : List Nat} {np : Nat -> Int} {k : Nat} : updV (fun v => if v ∈ dn then -1 else np v) k (-1) = fun v => if v ∈ dn ++ [k] then -1 else np v := by
  funext v
  unfold updV
  by_cases hv : v = k
  . subst hv; simp
  . simp [hv]
theorem ready_sound {d lo hi : Nat} {A : SAd} {ks : List Nat} {np : Nat -> Int} {su : Nat -> List Nat} {r : Nat} {R : List Nat} {po fi : Int} {h : Hp} (T : Srt lo hi A ks np su r R po fi h) (hR : R.length <= 6) (hRk : ∀ v ∈ R, v ∈ ks)
    {P : AV -> Hp -> Prop} (hP : ∀ t h', Srt lo hi A ks (fun v => if v ∈ R then -1 else np v) su r [] (po + R.length) fi h' -> Ext1 lo hi h h' -> h'[t]? = some (.tup (lets R)) -> P (.obj t) h') : CALL (d + 1) fdReady [.obj A.s] h P := by
  refine CALL.intro (binds := [("self", .obj A.s)]) (h1 := h) (st1 := ⟨h, [("self", .obj A.s)]⟩) (by kernel_rfl) (by kernel_rfl) ?_
  have hz : (lets R).length <= 1000 := by refine rwE (lets_len ..) ?_; exact Nat.le_trans hR (by decide)
  have T1 := T.app1 (m := [AO.tup (lets R)])
  have E1 : Ext1 lo hi h (h ++ [AO.tup (lets R)]) := .app
  have ht : (h ++ [AO.tup (lets R)])[h.length]? = some (.tup (lets R)) := lastAt
  apply DS.ifF0
  walk_at "mr"
  exact get_rn T.S.hs T.S.hd rfl
  walk_at "mr"
  exact isNoneF
  walk_at "mr"
  exact get_rn T.S.hs T.S.hd rfl
  walk_at "mr"
  exact tup_list T.hr hz
  walk_at "mr"
  exact get_n2i T1.S.hs T1.S.hd
  walk_at "mr"
  exact SD.gen (ED.loc (by decide) (by kernel_rfl) (by walk_at "mlook"; done)) (src_tup ht hz)
  refine FORL.inv (InvR lo hi A ks np su r R po fi h h.length) (fun st hI => ?_) (fun it r0 st hI => ?_)
    ⟨[], R, _, _, rfl, lets_its R, rfl, npR_nil.symm ▸ T1, E1, ht, by kernel_rfl, by kernel_rfl, by kernel_rfl⟩
  . clear T1 E1 ht
    obtain ⟨dn, td, h', lc, hdt, hits, rfl, T', E', ht', l1, l2, l3⟩ := hI
    have : td = [] := by cases td with | nil => rfl | cons a b => cases hits
    subst this
    rw [List.append_nil] at hdt
    subst hdt
    have T2 : Srt lo hi A ks _ su r [] po fi (h'.set r (.list [])) := T'.setR []
    have E2 := E'.trans (T'.extR (.list []))
    have ht2 := (T'.extR (.list [])).tup _ _ ht'
    refine ⟨src_keep ht', ?_⟩
    refine (?_ : EXS _ _ _ _)
    walk_at "mr"
    exact get_rn T'.S.hs T'.S.hd rfl
    walk_at "mr"
    exact bm_clear T'.hr hz
    walk_at "mr"
    exact get_po T2.S.hs T2.S.hd
    walk_at "mr"
    exact len_tup ht2 hz
    walk_at "mr"
    exact set_po T2.S.hs T2.S.hd
    walk_at "mr"
    refine rwE (lets_len ..) ?_
    exact hP h.length _ ((T2.setAt _ _)) (E2.trans (T2.extAt _)) ((T2.extAt _).tup _ _ ht2)
  . clear T1 E1 ht
    obtain ⟨dn, td, h', lc, hdt, hits, rfl, T', E', ht', l1, l2, l3⟩ := hI
    cases td with
    | nil => cases hits
    | cons k td =>
      injection hits with q1 q2
      subst q1 q2
      have hk : k ∈ ks := hRk k (by refine rwB hdt ?_; simp)
      have T2 := T'.setNp hk (-1)
      rw [npR_step] at T2
      refine FT.mk (src_keep ht') (assignLoc (by kernel_rfl)) ?_
      walk_at "mr"
      exact item_dict (i := k) (f := fun k => .obj (A.na k)) T'.S.hn hk
      exact set_np (T'.S.nd k hk) (T'.S.ed k hk)
      exact TurnF.nil ⟨dn ++ [k], td, _, _, by refine rwB (hdt ..) (rwE (List.append_assoc ..) ?_); rfl, rfl, rfl, T2, E'.trans (T'.extNp hk _), (T'.extNp hk _).tup _ _ ht', l1, l2, l3⟩
noncomputable def npD (np : Nat -> Int) (v : Nat) (l : List Nat) : Nat -> Int := match l with
  | [] => updV np v (-2)
  | w :: _ => updV (updV np v (-2)) w (np w - 1)
noncomputable def EndF (s : Src) (P : Fl -> St -> Prop) (f : Fl) (st : St) : Prop := match f with
  | .next | .cont => kept s st.hp = true /\ P .next st
  | .brk => P .next st
  | .ret v => P (.ret v) st
section
variable {fe : FE} {st st1 : St} {t : Expr} {b : List Stmt} {s : Src} {i : It} {P : Fl -> St -> Prop}
theorem FORL.one (hk : kept s st.hp = true) (q : assignIt fe t i st = some st1) (x : EXS fe b st1 (EndF s P)) : FORL fe t b s [i] st P :=
  FORL.cons hk ⟨st1, q, x.mono fun f st2 y => by
    cases f with
    | next => exact FORL.nil y.1 y.2
    | cont => exact FORL.nil y.1 y.2
    | brk => exact y
    | ret v => exact y⟩
theorem EndF.nil (hk : kept s st.hp = true) (x : P .next st) : EXS fe [] st (EndF s P) := EXS.nil ⟨hk, x⟩
end
theorem bm_got {h : Hp} {n : Nat} {es : List (Str × AV)} {k : Str} {v : AV} (hn : h[n]? = some (.dict es)) (q : es.lookup k = some v) : BM (.obj n) "get" h [.str k] h v h := ⟨_, _, BI.dict hn F.slot_dict_get F.type_dict_get, by have := MB.get (x := k) hn; rw [q] at this; exact this⟩
theorem DS.forL {fe : FE} {st : St} {pos : Pos} {h : Hp} {lc : Loc} {P : Fl -> St -> Prop} {r b : List Stmt} {e t : Expr} {s : Src} (hf : flatS s = true) (x : SD fe e st s ⟨h, lc⟩) (k : FORL fe t b s s.items ⟨h, lc⟩ (Seq fe r P)) : EXS fe (.For t e b [] pos :: r) st P := by
  refine DS.for x ?_
  rw [(flat_fz hf).1, show ThawP s (Seq fe r P) = Seq fe r P by funext f st; unfold ThawP; exact rwE ((flat_fz hf).2) rfl]
  exact k
theorem done_end {d lo hi : Nat} {A : SAd} {ks : List Nat} {np : Nat -> Int} {su : Nat -> List Nat} {r : Nat} {R : List Nat} {po fi : Int} {h h' : Hp} {lc : Loc} {n : Nat} {xs : List AV} {s : Src} (T : Srt lo hi A ks np su r R po fi h') (E : Ext1 lo hi h h') (ht : h'[n]? = some (.tup xs)) (hs : s.keep = some (n, .tup xs)) (hz : thaw s = thaw ⟨.tup n, [], none⟩) (l : lc.lookup ("self" : Str) = some (.obj A.s))
    {P : AV -> Hp -> Prop} (hP : ∀ h', Srt lo hi A ks np su r R po (fi + 1) h' -> Ext1 lo hi h h' -> P .none h') : EXS ⟨fdDone.scope.names, [], d, true⟩ ((inB fdDone.body 2).drop 5) ⟨h', lc⟩ (EndF s (ThawP s (Seq ⟨fdDone.scope.names, [], d, true⟩ [] (retP P)))) := by
  apply DS.augAttr
  walk_at "mr"
  exact get_fi T.S.hs T.S.hd
  walk_at "mr"
  exact set_fi T.S.hs T.S.hd
  refine EndF.nil ?_ ?_
  . unfold kept; refine rwE hs ?_; exact @decide_eq_true _ (Classical.propDecidable _) ((T.extAt (.attrs (att A.n (.obj r) po (fi + 1)))).tup _ _ ht)
  . unfold ThawP
    refine rwE hz ?_
    exact EXS.nil (hP _ (T.setAt _ _) (E.trans (T.extAt _)))
theorem done_sound {d lo hi : Nat} {A : SAd} {ks : List Nat} {np : Nat -> Int} {su : Nat -> List Nat} {r : Nat} {R : List Nat} {po fi : Int} {h : Hp} (T : Srt lo hi A ks np su r R po fi h) (hR : R.length <= 6) {v : Nat} (hv : v ∈ ks) (hnp : np v = -1) (hsu : su v = [] ∨ ∃ w, su v = [w] /\ w < v /\ w ∈ ks)
    {P : AV -> Hp -> Prop} (hP : ∀ h', Srt lo hi A ks (npD np v (su v)) su r (R ++ (su v).filter fun w => decide (np w - 1 = 0)) po (fi + 1) h' -> Ext1 lo hi h h' -> P .none h') : CALL (d + 1) fdDone [.obj A.s, .str (letter v)] h P := by
  refine CALL.intro (binds := [("self", .obj A.s), ("nodes", .obj h.length)]) (h1 := h ++ [.tup [.str (letter v)]]) (st1 := ⟨h ++ [.tup [.str (letter v)]], [("nodes", .obj h.length), ("self", .obj A.s)]⟩) (by kernel_rfl) (by kernel_rfl) ?_
  have T1 := T.app1 (m := [AO.tup [.str (letter v)]])
  have E1 : Ext1 lo hi h (h ++ [AO.tup [.str (letter v)]]) := .app
  have ht : (h ++ [AO.tup [.str (letter v)]])[h.length]? = some (.tup [.str (letter v)]) := lastAt
  have hg := bm_got T1.S.hn (dict_get hv)
  have T2 := (T1.setNp hv (-2))
  have E2 := E1.trans (T1.extNp hv (.node 91 [some (.str (letter v)), some (.int (-2)), some (.obj (A.sa v))] (A.ea v)))
  have ht2 := (T1.extNp hv (.node 91 [some (.str (letter v)), some (.int (-2)), some (.obj (A.sa v))] (A.ea v))).tup _ _ ht
  apply DS.ifF0
  walk_at "mr"
  exact get_rn T1.S.hs T1.S.hd rfl
  walk_at "mr"
  exact isNoneF
  walk_at "mr"
  exact get_n2i T1.S.hs T1.S.hd
  walk_at "mr"
  exact SD.gen (ED.loc (by decide) (by kernel_rfl) (by walk_at "mlook"; done)) (src_tup ht (Nat.le_of_ble_eq_true rfl))
  refine FORL.one (src_keep ht) (assignLoc (by kernel_rfl)) ?_
  apply DS.ifF0
  walk_at "mr"
  exact hg
  walk_at "mr"
  exact isNoneF
  walk_at "mr"
  exact get_np (T1.S.nd v hv) (T1.S.ed v hv) rfl
  apply DS.ifF0
  walk_at "mr"
  exact cmpNeF hnp
  walk_at "mr"
  exact set_np (T1.S.nd v hv) (T1.S.ed v hv)
  clear T1 E1 ht hg
  generalize (h ++ [AO.tup [AV.str (letter v)]]).set (A.na v) (.node 91 [some (.str (letter v)), some (.int (-2)), some (.obj (A.sa v))] (A.ea v)) = h2 at *
  have hs2 := T2.S.sd v hv
  have fin := fun (np' : Nat -> Int) (R' : List Nat) (h3 : Hp) (lc : Loc) (T3 : Srt lo hi A ks np' su r R' po fi h3) (E3 : Ext1 lo hi h h3) (ht3 : h3[h.length]? = some (.tup [.str (letter v)])) (l : lc.lookup ("self" : Str) = some (.obj A.s)) (e : npD np v (su v) = np' /\ R ++ (su v).filter (fun w => decide (np w - 1 = 0)) = R') =>
    done_end (d := d) (s := ⟨.tup h.length, List.map It.one [.str (letter v)], some (h.length, .tup [.str (letter v)])⟩) T3 E3 ht3 rfl rfl l (P := P) fun h' T' E' => hP h' (by refine rwE e.1 (rwE e.2 ?_); exact T') E'
  clear hP
  rcases hsu with q | ⟨w, q, hwv, hwk⟩
  . rw [q] at hs2 fin
    refine DS.forL rfl (SD.gen (ED.attr rfl (ED.loc (by decide) (by kernel_rfl) (by walk_at "mlook"; done)) (get_su (T2.S.nd v hv) (T2.S.ed v hv) rfl)) (src_list hs2 (Nat.zero_le _))) ?_
    refine FORL.nil (src_keep hs2) ?_
    exact fin _ R h2 _ T2 E2 ht2 (by kernel_rfl) ⟨rfl, List.append_nil R⟩
  . have hwv2 : w ≠ v := Nat.ne_of_lt hwv
    have hup : updV np v (-2) w = np w := updV_ne w hwv2
    have hup3 : updV (updV np v (-2)) w (np w - 1) w = np w - 1 := if_pos rfl
    have T3 := (T2.setNp hwk (np w - 1))
    have E3 := E2.trans (T2.extNp hwk (.node 91 [some (.str (letter w)), some (.int (np w - 1)), some (.obj (A.sa w))] (A.ea w)))
    have ht3 := (T2.extNp hwk (.node 91 [some (.str (letter w)), some (.int (np w - 1)), some (.obj (A.sa w))] (A.ea w))).tup _ _ ht2
    have hg := get_np (T3.S.nd w hwk) (T3.S.ed w hwk) rfl
    have hg2 := get_np (T2.S.nd w hwk) (T2.S.ed w hwk) rfl
    rw [hup3] at hg
    rw [hup] at hg2
    rw [q] at hs2 fin
    have hs3 := T3.S.sd v hv
    rw [q] at hs3
    refine DS.forL rfl (SD.gen (ED.attr rfl (ED.loc (by decide) (by kernel_rfl) (by walk_at "mlook"; done)) (get_su (T2.S.nd v hv) (T2.S.ed v hv) rfl)) (src_list hs2 (Nat.le_of_ble_eq_true rfl))) ?_
    refine FORL.one (src_keep hs2) (assignLoc (by kernel_rfl)) ?_
    apply DS.assign (by kernel_rfl) rfl
    walk_at "mr"
    exact item_dict (i := w) (f := fun k => .obj (A.na k)) T2.S.hn hwk
    walk_at "mr"
    exact hg2
    walk_at "mr"
    exact set_np (T2.S.nd w hwk) (T2.S.ed w hwk)
    generalize h2.set (A.na w) (.node 91 [some (.str (letter w)), some (.int (np w - 1)), some (.obj (A.sa w))] (A.ea w)) = h3 at *
    by_cases h0 : np w - 1 = 0
    . have T4 := (T3.setR (R ++ [w]))
      have E4 := E3.trans (T3.extR (.list (lets (R ++ [w]))))
      have ht4 := (T3.extR (.list (lets (R ++ [w])))).tup _ _ ht3
      have hs4 := T4.S.sd v hv
      rw [q] at hs4
      apply DS.ifT
      walk_at "mr"
      exact hg
      walk_at "mr"
      exact cmpEq h0
      walk_at "mr"
      exact get_rn T3.S.hs T3.S.hd rfl
      walk_at "mr"
      exact bm_append T3.hr T3.hr (by refine rwE (lets_len ..) ?_; exact Nat.le_trans hR (by decide))
      refine rwE (show lets R ++ [AV.str (letter w)] = lets (R ++ [w]) by simp [lets]) ?_
      refine EXS.nil (EndF.nil (src_keep hs4) ?_)
      exact fin _ _ _ _ T4 E4 ht4 (by kernel_rfl) ⟨rfl, by simp [h0]⟩
    . apply DS.ifF0
      walk_at "mr"
      exact hg
      walk_at "mr"
      exact cmpEqF h0
      refine EndF.nil (src_keep hs3) ?_
      exact fin _ R _ _ T3 E3 ht3 (by kernel_rfl) ⟨rfl, by simp [h0]⟩
noncomputable def mkOf (v : Nat) : Nat := if v % 2 = 0 then 124 else 34
noncomputable def digs (w : Int) : List Nat := if w = 5 then [53] else if w = 10 then [49, 48] else if w = 15 then [49, 53] else [50, 48]
noncomputable def W5 (W : Nat -> Int) : Prop := ∀ v, v <= 5 -> W v = 5 ∨ W v = 10 ∨ W v = 15 ∨ W v = 20
noncomputable def Tr (W : Nat -> Int) (s : Nat -> List Nat) (j : Nat -> Nat) (T : Nat -> WT) : Prop := ∀ v, v <= 5 -> T v = .node (97 + v) (mkOf v) (digs (W v)) (W v).toNat (((s v).drop (j v)).map T)
noncomputable def ub (f : Nat -> Nat) (v : Nat) : Nat := (if v < 1 then f 1 else 0) + (if v < 2 then f 2 else 0) + (if v < 3 then f 3 else 0) + (if v < 4 then f 4 else 0) + (if v < 5 then f 5 else 0)
section
variable {pa : Nat -> Nat} {W : Nat -> Int} {lim : Int} {gl : Nat -> Int} {s : Nat -> List Nat} {j : Nat -> Nat} {T : Nat -> WT}
theorem Tr.exists (G : Gr pa W lim gl s j) : ∃ T, Tr W s j T := by
  obtain ⟨T, h⟩ := tableFix (fun f v => if v <= 5 then WT.node (97 + v) (mkOf v) (digs (W v)) (W v).toNat (((s v).drop (j v)).map f) else .node 0 0 [] 0 []) (.node 0 0 [] 0 []) fun f g v h => by
    by_cases hv : v <= 5
    . show (if v <= 5 then _ else _) = if v <= 5 then _ else _
      refine rwE (if_pos hv) (rwE (if_pos hv) ?_)
      congr 1
      exact List.map_congr_left fun c hc => h c (G.s_lt hv (List.mem_of_mem_drop hc)).1 (G.s_lt hv (List.mem_of_mem_drop hc)).2
    . show (if v <= 5 then _ else _) = if v <= 5 then _ else _
      exact rwE (if_neg hv) (rwE (if_neg hv) rfl)
  exact ⟨T, fun v hv => by refine rwE (h v hv) ?_; exact if_pos hv⟩
theorem sub_sum {a b : List Nat} (h : a.Sublist b) : a.sum <= b.sum := by
  induction h with
  | slnil => exact Nat.le_refl _
  | cons x _ ih => simp; lia
  | cons_cons x _ ih => simp; assumption
theorem chl_sum (pa : Nat -> Nat) (f : Nat -> Nat) (v : Nat) : ((chl pa v).map f).sum = (if pa 1 = v then f 1 else 0) + (if pa 2 = v then f 2 else 0) + (if pa 3 = v then f 3 else 0) + (if pa 4 = v then f 4 else 0) + (if pa 5 = v then f 5 else 0) := by
  have : ∀ l : List Nat, ((l.filter fun c => pa c = v).map f).sum = (l.map fun c => if pa c = v then f c else 0).sum := fun l => by
    induction l with
    | nil => rfl
    | cons x r ih =>
      refine rwE List.filter_cons ?_
      by_cases hx : pa x = v
      . simp [hx, ih]
      . simp [hx, ih]
  unfold chl
  refine rwE (this ..) ?_
  simp
  lia
theorem kids_le (G : Gr pa W lim gl s j) {v : Nat} (hv : v <= 5) (f : Nat -> Nat) : (((s v).drop (j v)).map f).sum <= ub f v := by
  have h1 : (((s v).drop (j v)).map f).sum <= ((s v).map f).sum := sub_sum ((List.drop_sublist _ _).map f)
  have h2 := ((G.s_perm hv).map f).sum_nat
  have h3 : ∀ c, 1 <= c -> c <= 5 -> (if pa c = v then f c else 0) <= if v < c then f c else 0 := fun c h1 h2 => by
    by_cases q : pa c = v
    . refine rwE (if_pos q) (rwE (if_pos (by have := G.hpa c h1 h2; lia)) ?_); exact Nat.le_refl _
    . refine rwE (if_neg q) ?_; exact Nat.zero_le _
  have := h3 1 (Nat.succ_pos _) (Nat.succ_pos _); have := h3 2 (Nat.succ_pos _) (Nat.le_add_left _ _); have := h3 3 (Nat.succ_pos _) (Nat.le_add_left _ _); have := h3 4 (Nat.succ_pos _) (Nat.le_succ _); have := h3 5 (by lia) (Nat.lt_succ_self _)
  rw [chl_sum] at h2
  unfold ub
  lia
theorem digs_len (w : Int) : (digs w).length <= 2 := by unfold digs; split <;> (try split) <;> (try split) <;> simp
theorem cnt_nonneg : ∀ l : List Nat, 0 <= cnt 34 l
  | [] => Int.le_refl _
  | a :: b => by have := cnt_nonneg b; refine rwE (cnt_cons ..) ?_; split <;> lia
theorem cnt_le : ∀ l : List Nat, cnt 34 l <= l.length
  | [] => Int.le_refl _
  | a :: b => by have := cnt_le b; refine rwE (cnt_cons ..) ?_; simp only [List.length_cons]; split <;> lia
theorem dq_le (l : List Nat) : (dq l).length <= 2 * l.length := by have := dq_len l; have := cnt_le l; lia
theorem kidsW_le : ∀ l : List WT, (WT.kidsW l).length <= (l.map fun k => 6 + 2 * k.words.length).sum
  | [] => by exact Nat.le_refl _
  | k :: r => by
    refine rwE (kidsW_len ..) ?_
    have := kidsW_le r
    have := dq_le k.words
    simp only [List.map_cons, List.sum_cons]
    lia
theorem words_le (G : Gr pa W lim gl s j) (hT : Tr W s j T) : ∀ v, v <= 5 -> (T v).words.length + 3 <= 23 * 3 ^ (5 - v) := by
  refine downInd fun v hv ih => ?_
  rw [hT v hv, WT.words]
  have h1 := kidsW_le (((s v).drop (j v)).map T)
  rw [List.map_map] at h1
  have h2 := kids_le G hv ((fun k : WT => 6 + 2 * k.words.length) ∘ T)
  have h3 := digs_len (W v)
  have h4 : (head229 (97 + v) (mkOf v) (digs (W v))).length <= 14 := by simp [head229]; assumption
  refine rwE List.length_append ?_
  have h5 : ub ((fun k : WT => 6 + 2 * k.words.length) ∘ T) v + 17 <= 23 * 3 ^ (5 - v) := by
    have i1 := ih 1; have i2 := ih 2; have i3 := ih 3; have i4 := ih 4; have i5 := ih 5
    unfold ub
    dsimp only [Function.comp]
    rcases (by lia : v = 0 ∨ v = 1 ∨ v = 2 ∨ v = 3 ∨ v = 4 ∨ v = 5) with rfl | rfl | rfl | rfl | rfl | rfl <;> simp at i1 i2 i3 i4 i5 ⊢ <;> lia
  lia
theorem words_6000 (G : Gr pa W lim gl s j) (hT : Tr W s j T) {v : Nat} (hv : v <= 5) : (T v).words.length <= 6000 := by
  have := words_le G hT v hv
  have h : (3 : Nat) ^ (5 - v) <= 3 ^ 5 := Nat.pow_le_pow_right (by decide) (Nat.sub_le _ _)
  have : (3 : Nat) ^ 5 = 243 := by decide
  lia
theorem sizeK_map (l : List WT) : WT.sizeK l = (l.map WT.size).sum := by
  induction l with
  | nil => rfl
  | cons k r ih => simp [WT.sizeK, ih]
theorem size_le (G : Gr pa W lim gl s j) (hT : Tr W s j T) : ∀ v, v <= 5 -> (T v).size <= 2 ^ (5 - v) := by
  refine downInd fun v hv ih => ?_
  rw [hT v hv, WT.size, sizeK_map, List.map_map]
  have h2 := kids_le G hv (WT.size ∘ T)
  have h5 : ub (WT.size ∘ T) v + 1 <= 2 ^ (5 - v) := by
    have i1 := ih 1; have i2 := ih 2; have i3 := ih 3; have i4 := ih 4; have i5 := ih 5
    unfold ub
    dsimp only [Function.comp]
    rcases (by lia : v = 0 ∨ v = 1 ∨ v = 2 ∨ v = 3 ∨ v = 4 ∨ v = 5) with rfl | rfl | rfl | rfl | rfl | rfl <;> simp at i1 i2 i3 i4 i5 ⊢ <;> lia
  exact Nat.lt_of_le_of_lt ‹_› ‹_›
theorem heightK_le {l : List WT} {n : Nat} (h : ∀ k ∈ l, k.height <= n) : WT.heightK l <= n := by
  induction l with
  | nil => exact Nat.zero_le _
  | cons k r ih => rw [WT.heightK]; exact Nat.max_le.mpr ⟨h k (.head _), ih fun x hx => h x (.tail _ hx)⟩
theorem height_le (G : Gr pa W lim gl s j) (hT : Tr W s j T) : ∀ v, v <= 5 -> (T v).height <= 6 - v := by
  refine downInd fun v hv ih => ?_
  rw [hT v hv, WT.height]
  have := heightK_le (l := ((s v).drop (j v)).map T) (n := 5 - v) fun k hk => by
    (refine xEA (List.mem_map.mp hk) fun c hc hz2 => ?_; subst hz2)
    have hc := G.s_lt hv (List.mem_of_mem_drop hc)
    have := ih c hc.1 hc.2
    omega
  lia
theorem okK_of {l : List WT} (h : ∀ k ∈ l, k.ok) : WT.okK l := by
  induction l with
  | nil => simp [WT.okK]
  | cons k r ih => rw [WT.okK]; exact ⟨h k (.head _), ih fun x hx => h x (.tail _ hx)⟩
theorem split_ok : ∀ w : Int, w = 5 ∨ w = 10 ∨ w = 15 ∨ w = 20 -> ∀ m, m = 34 ∨ m = 124 -> Txt.split (SL (m :: m :: m :: (digs w ++ [m]))) (SL [m]) = [SL [], SL [], SL [], SL (digs w), SL []] := by
  rintro w (rfl | rfl | rfl | rfl) m (rfl | rfl) <;> kernel_rfl
theorem intText_ok : ∀ w : Int, w = 5 ∨ w = 10 ∨ w = 15 ∨ w = 20 -> intText (SL (digs w)) = some (w.toNat : Int) := by
  rintro w (rfl | rfl | rfl | rfl) <;> kernel_rfl
theorem textInt_ok : ∀ w : Int, w = 5 ∨ w = 10 ∨ w = 15 ∨ w = 20 -> textInt w = some (SL (digs w)) := by
  rintro w (rfl | rfl | rfl | rfl) <;> kernel_rfl
theorem digs_41 : ∀ w : Int, 41 ∉ digs w := by
  intro w; unfold digs; split <;> (try split) <;> (try split) <;> decide
theorem mkOf_or (v : Nat) : mkOf v = 34 ∨ mkOf v = 124 := by unfold mkOf; split <;> lia
theorem tree_ok (G : Gr pa W lim gl s j) (hT : Tr W s j T) (hW : W5 W) : ∀ v, v <= 5 -> (T v).ok := by
  refine downInd fun v hv ih => ?_
  rw [hT v hv, WT.ok]
  refine ⟨by lia, by lia, by rcases mkOf_or v with h | h <;> lia, digs_41 _, digs_len _, split_ok _ (hW v hv) _ (mkOf_or v), intText_ok _ (hW v hv), okK_of fun k hk => ?_⟩
  (refine xEA (List.mem_map.mp hk) fun c hc hz2 => ?_; subst hz2)
  have hc := G.s_lt hv (List.mem_of_mem_drop hc)
  exact ih c hc.1 hc.2
theorem rowsK_map (host : Str) (T : Nat -> WT) (l : List Nat) : WT.rowsK host (l.map T) = l.flatMap fun c => (T c).rows host := by
  induction l with
  | nil => exact List.nil_append _
  | cons k r ih => simp [WT.rowsK, ih]
theorem rows_eq (hT : Tr W s j T) {v : Nat} (hv : v <= 5) (host : Str) : (T v).rows host = (97 + v, host, (W v).toNat) :: ((s v).drop (j v)).flatMap fun c => (T c).rows (letter v) := by
  rw [hT v hv, WT.rows, rowsK_map]
  rfl
theorem rows_sum (G : Gr pa W lim gl s j) (hT : Tr W s j T) : ∀ v, v <= 5 -> ∀ host, (((T v).rows host).map fun q => (q.2.2 : Int)).sum = gl v := by
  refine downInd fun v hv ih => ?_
  intro host
  refine rwE (rows_eq hT hv ..) (rwE (List.map_cons ..) (rwE (List.sum_cons ..) (rwE (G.hl v hv ..) ?_)))
  have h1 := (G.w0 v hv).1
  have : ∀ l : List Nat, (∀ c ∈ l, v < c /\ c <= 5) -> ((l.flatMap fun c => (T c).rows (letter v)).map fun q => (q.2.2 : Int)).sum = (l.map gl).sum := fun l => by
    induction l with
    | nil => intro _; rfl
    | cons x r ih2 =>
      intro hl
      exact rwE (List.flatMap_cons ..) (rwE (List.map_append ..) (rwE (List.sum_append ..) (rwE (ih2 fun c hc => hl c (.tail _ hc) ..) (rwE (ih x (hl x (.head _)).1 (hl x (.head _)).2 ..) (rwE (List.map_cons ..) (rwE (List.sum_cons ..) rfl))))))
  refine rwE (this _ fun c hc => G.s_lt hv (List.mem_of_mem_drop hc)) ?_
  try dsimp only
  lia
noncomputable def hostOf (pa : Nat -> Nat) (s : Nat -> List Nat) (j : Nat -> Nat) (v : Nat) : Str := if v = 0 ∨ taken pa s j v = true then SL [] else letter (pa v)
noncomputable def rowOfP (pa : Nat -> Nat) (W : Nat -> Int) (s : Nat -> List Nat) (j : Nat -> Nat) (v : Nat) : Nat × Str × Nat := (97 + v, hostOf pa s j v, (W v).toNat)
theorem sum_splitN {s : List Nat} (hs : s.Nodup) (n : Nat) (f : Nat -> Nat) : (s.map fun c => if decide (c ∈ s.take n) then 0 else f c).sum = ((s.drop n).map f).sum := by
  have h1 : ∀ c ∈ s.drop n, c ∉ s.take n := fun c hc h2 => by
    have := List.take_append_drop n s ▸ hs
    rw [List.nodup_append] at this
    exact this.2.2 c h2 c hc rfl
  have h0 : ∀ t : List Nat, (∀ c ∈ t, c ∈ s.take n) -> (t.map fun c => if decide (c ∈ s.take n) then 0 else f c).sum = 0 := fun t => by
    induction t with
    | nil => intro _; rfl
    | cons x r ih => intro h; simp only [List.map_cons, List.sum_cons]; refine rwE (ih fun c hc => h c (.tail _ hc)) ?_; simp [h x (.head _)]
  have h2 : ((s.take n).map fun c => if decide (c ∈ s.take n) then 0 else f c).sum + ((s.drop n).map fun c => if decide (c ∈ s.take n) then 0 else f c).sum = (s.map fun c => if decide (c ∈ s.take n) then 0 else f c).sum := by
    exact rwB (List.sum_append ..) (rwB (List.map_append ..) (rwE (List.take_append_drop ..) rfl))
  refine rwB (h2 ..) (rwE (h0 _ fun c hc => hc ..) (rwE (Nat.zero_add ..) ?_))
  congr 1
  exact List.map_congr_left fun c hc => by simp [h1 c hc]
theorem taken_iff (G : Gr pa W lim gl s j) {v c : Nat} (hv : v <= 5) (hc : c ∈ s v) : taken pa s j c = decide (c ∈ (s v).take (j v)) := by
  have := mem_chl.mp ((G.s_perm hv).mem_iff.mp hc)
  unfold taken
  refine rwE this.2 ?_
  lia
theorem taken_drop (G : Gr pa W lim gl s j) {v c : Nat} (hv : v <= 5) (hc : c ∈ (s v).drop (j v)) : taken pa s j c = false /\ pa c = v /\ 1 <= c := by
  have hcs := List.mem_of_mem_drop hc
  have hp := G.s_perm hv
  have := mem_chl.mp (hp.mem_iff.mp hcs)
  refine ⟨?_, this.2, this.1.1⟩
  refine rwE (taken_iff G hv hcs) (rwE (propext decide_eq_false_iff_not) ?_)
  intro h2
  have := List.take_append_drop (j v) (s v) ▸ hp.nodup_iff.mpr (chl_nodup pa v)
  rw [List.nodup_append] at this
  exact this.2.2 c h2 c hc rfl
theorem count_flat {l : List Nat} {f : Nat -> List (Nat × Str × Nat)} (q : Nat × Str × Nat) : (l.flatMap f).count q = (l.map fun c => (f c).count q).sum := by
  induction l with
  | nil => rfl
  | cons x r ih => exact rwE List.flatMap_cons (rwE List.count_append (rwE ih (rwE List.map_cons (rwE List.sum_cons rfl))))
theorem rows_perm (G : Gr pa W lim gl s j) (hT : Tr W s j T) {sn : List Nat} (hsn : sn.Perm ([1, 2, 3, 4, 5].filter (taken pa s j))) :
    ((sn ++ [0]).flatMap fun c => (T c).rows (SL [])).Perm ([0, 1, 2, 3, 4, 5].map (rowOfP pa W s j)) := by
  refine rwE (propext List.perm_iff_count) ?_
  intro q
  let A : Nat -> Nat := fun v => ((T v).rows (hostOf pa s j v)).count q
  let e : Nat -> Nat := fun v => [rowOfP pa W s j v].count q
  have hA : ∀ v, v <= 5 -> A v = e v + ((chl pa v).map fun c => if taken pa s j c then 0 else A c).sum := fun v hv => by
    have hp := G.s_perm hv
    refine rwB ((hp.map fun c => if taken pa s j c then 0 else A c).sum_nat) ?_
    have h1 : ((s v).map fun c => if taken pa s j c then 0 else A c) = (s v).map fun c => if decide (c ∈ (s v).take (j v)) then 0 else A c := List.map_congr_left fun c hc => by exact rwE (taken_iff G hv hc) rfl
    refine rwE (h1 ..) (rwE (sum_splitN (hp.nodup_iff.mpr (chl_nodup pa v)) ..) ?_)
    refine (?_ : ((T v).rows (hostOf pa s j v)).count q = _)
    refine rwE (rows_eq hT hv ..) (rwB (List.singleton_append ..) (rwE (List.count_append ..) (rwE (count_flat ..) ?_)))
    congr 2
    refine List.map_congr_left fun c hc => ?_
    refine xAA (taken_drop G hv hc) fun k1 k2 k3 => ?_
    have : hostOf pa s j c = letter v := by
      unfold hostOf
      rw [if_neg (by refine rwE k1 ?_; simp; exact Nat.ne_of_gt ‹_›), k2]
    refine (?_ : _ = ((T c).rows (hostOf pa s j c)).count q)
    exact rwE this rfl
  obtain ⟨Z, hZ⟩ := tableFix (fun (f : Nat -> Nat) v => ((chl pa v).map fun c => (if taken pa s j c then A c else 0) + f c).sum) 0 fun f g v h => by
    show List.sum _ = List.sum _
    congr 1
    exact List.map_congr_left fun c hc => by exact rwE (h c (chl_lt G.hpa hc).1 (chl_lt G.hpa hc).2) rfl
  have hX := treeSum G.hpa (X := fun v => A v + Z v) (e := e) fun v hv => by
    refine rwE (hA v hv ..) (rwE (hZ v hv ..) (rwE (Nat.add_assoc ..) ?_))
    congr 1
    generalize chl pa v = l
    induction l with
    | nil => rfl
    | cons x r ih =>
      simp only [List.map_cons, List.sum_cons]
      by_cases hx : taken pa s j x = true <;> simp only [hx] <;> simp <;> lia
  have hY := treeSum G.hpa (X := fun v => Z v + if taken pa s j v then A v else 0) (e := fun v => if taken pa s j v then A v else 0) fun v hv => by
    refine rwE (hZ v hv ..) (rwE (Nat.add_comm ..) ?_)
    congr 2
    exact List.map_congr_left fun c hc => by exact Nat.add_comm _ _
  have ht0 : taken pa s j 0 = false := by rfl
  have hh : ∀ c, taken pa s j c = true -> ((T c).rows (SL [])).count q = A c := fun c hc => by
    refine (?_ : _ = ((T c).rows (hostOf pa s j c)).count q)
    unfold hostOf
    exact rwE (if_pos (.inr hc)) rfl
  have hh0 : ((T 0).rows (SL [])).count q = A 0 := by
    refine (?_ : _ = ((T 0).rows (hostOf pa s j 0)).count q)
    unfold hostOf
    exact rwE (if_pos (.inl rfl)) rfl
  refine rwE (count_flat ..) (rwE (List.map_append ..) (rwE (List.sum_append ..) ?_))
  refine rwE ((hsn.map fun c => ((T c).rows (SL [])).count q).sum_nat) ?_
  have hf : ∀ l : List Nat, ((l.filter (taken pa s j)).map fun c => ((T c).rows (SL [])).count q).sum = (l.map fun c => if taken pa s j c then A c else 0).sum := fun l => by
    induction l with
    | nil => rfl
    | cons x r ih =>
      refine rwE List.filter_cons ?_
      by_cases hx : taken pa s j x = true
      . exact rwE (if_pos hx) (rwE List.map_cons (rwE List.sum_cons (rwE ih (rwE List.map_cons (rwE List.sum_cons (rwE (hh x hx) (rwE (if_pos hx) rfl)))))))
      . exact rwE (if_neg hx ..) (rwE (ih ..) (rwE (List.map_cons ..) (rwE (List.sum_cons ..) (rwE (if_neg hx ..) (rwE (Nat.zero_add ..) rfl)))))
  refine rwE (hf ..) ?_
  have hE : ([0, 1, 2, 3, 4, 5].map (rowOfP pa W s j)).count q = e 0 + e 1 + e 2 + e 3 + e 4 + e 5 := by
    have : ∀ l : List Nat, (l.map (rowOfP pa W s j)).count q = (l.map e).sum := fun l => by
      induction l with
      | nil => rfl
      | cons x r ih => exact rwE List.map_cons (rwB List.singleton_append (rwE List.count_append (rwE ih (rwE List.map_cons (rwE List.sum_cons rfl)))))
    refine rwE (this ..) ?_
    simp
    lia
  refine rwE hE ?_
  simp only [ht0] at hY
  simp at hX hY ⊢
  refine rwE hh0 ?_
  lia
end
theorem perm_map {α β : Type} {f : α -> β} {l m : List β} (h : l.Perm m) : ∀ {cs : List α}, m = cs.map f -> ∃ q : List α, l = q.map f /\ q.Perm cs := by
  induction h with
  | nil => intro cs h; have : cs = [] := by cases cs with | nil => rfl | cons a b => cases h
           subst this; exact ⟨[], rfl, .refl _⟩
  | cons x _ ih =>
    intro cs h
    cases cs with
    | nil => cases h
    | cons a b =>
      injection h with h1 h2
      refine xEA (ih h2) fun q h3 h4 => ?_
      exact ⟨a :: q, by refine rwE h1 (rwE h3 ?_); rfl, h4.cons a⟩
  | swap x y l =>
    intro cs h
    match cs, h with
    | [], h => cases h
    | [a], h => cases h
    | a :: b :: c, h =>
      injection h with h1 h2
      injection h2 with h2 h3
      exact ⟨b :: a :: c, by refine rwE h1 (rwE h2 (rwE h3 ?_)); rfl, .swap a b c⟩
  | trans _ _ ih1 ih2 =>
    intro cs h
    refine xEA (ih2 h) fun q h3 h4 => ?_
    refine xEA (ih1 h3) fun q2 h5 h6 => ?_
    exact ⟨q2, h5, h6.trans h4⟩
noncomputable def natsOf : List AV -> List Nat
  | [] => []
  | .int i :: r => i.toNat :: natsOf r
  | _ :: r => natsOf r
noncomputable def chkQ (p : List Nat) : Bool := decide (heapP ltR (p.length / 2) (rks p) = rks (natsOf (heapP ltR (p.length / 2) (rks p)))) && (natsOf (heapP ltR (p.length / 2) (rks p))).isPerm p
theorem chkQ_all : ∀ n, n <= 5 -> ((allL n n).filter ndB).all chkQ = true := by
  intro n hn
  rcases (by lia : n = 0 ∨ n = 1 ∨ n = 2 ∨ n = 3 ∨ n = 4 ∨ n = 5) with rfl | rfl | rfl | rfl | rfl | rfl <;> decide +kernel
theorem chkQ_of {p : List Nat} (hl : p.length <= 5) (h : ∀ x ∈ p, x < p.length) (hn : p.Nodup) : (heapP ltR (p.length / 2) (rks p)).Perm (rks p) := by
  have := chkQ_all p.length hl
  rw [List.all_eq_true] at this
  have := this p (List.mem_filter.mpr ⟨mem_allL h, ndB_of hn⟩)
  unfold chkQ at this
  rw [Bool.and_eq_true, decide_eq_true_eq] at this
  refine rwE this.1 ?_
  exact (List.isPerm_iff.mp this.2).map _
theorem heap_perm {cs : List Nat} {gl : Nat -> Int} {ad : Nat -> Nat} {lt : AV -> AV -> Bool} (hnd : cs.Nodup) (hl : cs.length <= 5) (hlt : ∀ c ∈ cs, ∀ c' ∈ cs, lt (.obj (ad c)) (.obj (ad c')) = bef gl c c') :
    ∃ q : List Nat, heapP lt (cs.length / 2) (cs.map fun c => .obj (ad c)) = (q.map fun c => .obj (ad c)) /\ q.Perm cs := by
  let s := srtR gl cs
  have hsp : s.Perm cs := srtR_perm gl cs
  have hsl : s.length = cs.length := hsp.length_eq
  have hsn : s.Nodup := hsp.nodup_iff.mpr hnd
  have hss : s.Pairwise (fun a b => bef gl a b = true) := srtR_sorted hnd
  let p : List Nat := cs.map fun c => s.idxOf c
  have hpl : p.length = cs.length := by exact List.length_map ..
  let g : AV -> AV := fun a => match a with
    | .int r => .obj (ad (s.getD r.toNat 0))
    | a => a
  let S : AV -> Prop := fun a => ∃ r : Nat, r < s.length /\ a = .int r
  have hg : ∀ r : Nat, ∀ hr : r < s.length, g (.int r) = .obj (ad (s[r])) := fun r hr => by
    refine (?_ : AV.obj (ad (s.getD (r : Int).toNat 0)) = _)
    refine rwE (Int.toNat_natCast ..) ?_
    simp [List.getD, List.getElem?_eq_getElem hr]
  have hidx : ∀ c ∈ cs, s.idxOf c < s.length := fun c hc => List.idxOf_lt_length_iff.mpr (hsp.mem_iff.mpr hc)
  have hcomm : ∀ a b, S a -> S b -> lt (g a) (g b) = ltR a b := by
    rintro _ _ ⟨r, hr, rfl⟩ ⟨q, hq, rfl⟩
    refine rwE (hg r hr) (rwE (hg q hq) (rwE (hlt _ (hsp.mem_iff.mp (List.getElem_mem hr)) _ (hsp.mem_iff.mp (List.getElem_mem hq))) ?_))
    refine (?_ : _ = decide ((r : Int) < q))
    rw [List.pairwise_iff_getElem] at hss
    by_cases h1 : r < q
    . refine rwE (hss r q hr hq h1) ?_; simp; omega
    . by_cases h2 : r = q
      . subst h2; refine rwE bef_irr ?_; lia
      . have := hss q r hq hr (by lia)
        cases hb : bef gl s[r] s[q] with
        | false => simp; exact Nat.not_lt.mp ‹_›
        | true => have := bef_trans hb this; rw [bef_irr] at this; cases this
  have hpS : ∀ a ∈ rks p, S a := fun a ha => by
    (refine xEA (List.mem_map.mp ha) fun r hr hz2 => ?_; subst hz2)
    (refine xEA (List.mem_map.mp hr) fun c hc hz2 => ?_; subst hz2)
    exact ⟨_, hidx c hc, rfl⟩
  have hmap : (rks p).map g = cs.map fun c => .obj (ad c) := by
    unfold rks
    refine rwE List.map_map (rwE List.map_map ?_)
    refine List.map_congr_left fun c hc => ?_
    refine (?_ : g (.int (s.idxOf c : Nat)) = _)
    refine rwE (hg _ (hidx c hc)) ?_
    congr 2
    exact List.getElem_idxOf (hidx c hc)
  have hpn : p.Nodup := by
    show (cs.map fun c => s.idxOf c).Nodup
    unfold List.Nodup at hnd ⊢
    refine rwE (propext List.pairwise_map) ?_
    refine hnd.imp_of_mem fun {a b} ha hb hne q => hne ?_
    have h1 := List.getElem_idxOf (hidx a ha)
    have h2 := List.getElem_idxOf (hidx b hb)
    refine rwB h1 (rwB h2 ?_)
    congr 1
  have hchk := chkQ_of (p := p) (by lia) (fun x hx => by
    (refine xEA (List.mem_map.mp hx) fun c hc hz2 => ?_; subst hz2)
    refine rwE hpl (rwB hsl ?_); exact hidx c hc) hpn
  have h0 := heapP_map hcomm (p.length / 2) (rks p) hpS
  rw [hmap] at h0
  refine rwB hpl (rwE h0.1 ?_)
  exact perm_map (hchk.map g) hmap
noncomputable def fdPacked : FD := fdIn theText 19
noncomputable def pkBody : List Stmt := match fdPacked.body with
  | [_, _, _, .While _ [.For _ _ b _ _] _ _, _] => b
  | _ => []
noncomputable def pkFE (c0 d : Nat) : FE := ⟨fdPacked.scope.names, [("loads", c0)], d, true⟩
structure Pk (h0 : Hp) (b : Nat) (gl : Nat -> Int) (T : Nat -> WT) (D sn : List Nat) (hp : Hp) : Prop where
  low : ∀ n o, n < h0.length -> h0[n]? = some o -> hp[n]? = some o
  cel : hp[h0.length]? = some (.cell (some (.obj (b + 2))))
  snt : hp[b]? = some (.list (sn.map fun c => .str (SL (T c).words)))
  con : hp[b + 1]? = some (.dict (dictOf (fun c => .str (SL (T c).words)) D))
  lds : hp[b + 2]? = some (.dict (dictOf (fun c => .int (gl c)) D))
theorem Pk.keep {h0 : Hp} {b X : Nat} {gl : Nat -> Int} {T : Nat -> WT} {D sn : List Nat} {hp hp' : Hp} (K : Pk h0 b gl T D sn hp) (hb : h0.length < b) (hX : b + 2 < X) (hk : ∀ n o, n < X -> hp[n]? = some o -> hp'[n]? = some o) : Pk h0 b gl T D sn hp' :=
  ⟨fun n o hn ho => hk n o (by lia) (K.low n o hn ho), hk _ _ (by lia) K.cel, hk _ _ (Nat.lt_of_le_of_lt (Nat.le_add_right _ _) ‹_›) K.snt, hk _ _ (Nat.le_of_lt ‹_›) K.con, hk _ _ (by omega) K.lds⟩
theorem Pk.send {h0 : Hp} {b : Nat} {gl : Nat -> Int} {T : Nat -> WT} {D sn : List Nat} {hp : Hp} (K : Pk h0 b gl T D sn hp) (hb : h0.length < b) (c : Nat) : Pk h0 b gl T D (sn ++ [c]) (hp.set b (.list ((sn.map fun c => .str (SL (T c).words)) ++ [.str (SL (T c).words)]))) := by
  refine ⟨fun n o hn ho => ?_, keepAt K.cel K.snt (by intro q; cases q), ?_, keepAt K.con K.snt (by intro q; cases q), keepAt K.lds K.snt (by intro q; cases q)⟩
  . refine rwE (List.getElem?_set_ne (by lia)) ?_; exact K.low n o hn ho
  . refine rwE (getSet K.snt) ?_; simp
set_option tactic.hygienic true in
theorem Pk.add {h0 : Hp} {b v : Nat} {gl : Nat -> Int} {T : Nat -> WT} {D sn : List Nat} {hp : Hp} (K : Pk h0 b gl T D sn hp) (hb : h0.length < b) :
    Pk h0 b gl T (D ++ [v]) sn ((hp.set (b + 1) (.dict (dictOf (updV (fun c => .str (SL (T c).words)) v (.str (SL (T v).words))) (D ++ [v])))).set (b + 2) (.dict (dictOf (updV (fun c => .int (gl c)) v (.int (gl v))) (D ++ [v])))) := by
  have e : ∀ (f : Nat -> AV) , dictOf (updV f v (f v)) (D ++ [v]) = dictOf f (D ++ [v]) := fun f => dictOf_congr fun i _ => by
    refine (?_ : (if i = v then f v else f i) = f i)
    split
    . rename_i q; exact rwE q rfl
    . rfl
  refine rwE (e (fun c => .str (SL (T c).words))) (rwE (e (fun c => .int (gl c))) ?_)
  refine ⟨fun n o hn ho => ?_, ?_, ?_, ?_, ?_⟩
  . refine rwE (List.getElem?_set_ne (by lia)) (rwE (List.getElem?_set_ne (by lia)) ?_); exact K.low n o hn ho
  . refine rwE (List.getElem?_set_ne (by lia)) (rwE (List.getElem?_set_ne (by lia)) ?_); exact K.cel
  . refine rwE (List.getElem?_set_ne (by lia)) (rwE (List.getElem?_set_ne (Nat.succ_ne_self _)) ?_); exact K.snt
  . refine rwE (List.getElem?_set_ne (Nat.succ_ne_self _)) ?_; exact getSet K.con
  . refine getSet (o := .dict (dictOf (fun c => .int (gl c)) D)) ?_
    refine rwE (List.getElem?_set_ne ((Nat.succ_ne_self _).symm)) ?_; exact K.lds
theorem popP_len {lt : AV -> AV -> Bool} {ys : List AV} {last : AV} : (popP lt ys last).2.length = ys.length := by
  cases ys with
  | nil => rfl
  | cons y r => exact (upP_all (S := fun z9 => True) (lt := lt) (xs := last :: r) (p := 0) (x := last) trivial fun z9 z9 => trivial).2
theorem index_six {v : Nat} (hv : v <= 5) : PySem.Builtin.Str.occurrences "abcdef" (letter v) 0 ("abcdef" : Str).length 1 = [v] := by
  rcases (by lia : v = 0 ∨ v = 1 ∨ v = 2 ∨ v = 3 ∨ v = 4 ∨ v = 5) with rfl | rfl | rfl | rfl | rfl | rfl <;> kernel_rfl
theorem mark_at {v : Nat} {h : Hp} (hv : v <= 5) : ITEM (.str "|\"") (.int ((v % 2 : Nat) : Int)) h (.str (SL [mkOf v])) := by
  refine ITEM.str (k := v % 2) (c := mkOf v) ?_ (by decide)
  unfold mkOf
  rcases Nat.mod_two_eq_zero_or_one v with h | h <;> refine rwE h ?_ <;> rfl
theorem thrice {m : Nat} {h : Hp} : BIN .Mult (.int 3) (.str (SL [m])) h (.str (SL [m, m, m])) h := BIN.thrice rfl
theorem str_int {i : Int} {s : Str} {h : Hp} (hi : textInt i = some s) : CAL (.type "str") [.int i] h (.str s) h := CAL.strInt hi
theorem cat_lit {x : Str} {a b : List Nat} {h : Hp} (hx : x = SL a) (hz : a.length + b.length <= 1000000) : BIN .Add (.str x) (.str (SL b)) h (.str (SL (a ++ b))) h := by refine rwE hx ?_; exact cat_str hz
theorem cat_lit2 {y : Str} {a b : List Nat} {h : Hp} (hy : y = SL b) (hz : a.length + b.length <= 1000000) : BIN .Add (.str (SL a)) (.str y) h (.str (SL (a ++ b))) h := by refine rwE hy ?_; exact cat_str hz
theorem set_mid {hp tl : Hp} {a a' t : AO} : (hp ++ a :: tl ++ [t]).set hp.length a' = hp ++ a' :: (tl ++ [t]) := by
  refine rwE (List.append_assoc ..) (rwE (List.set_append_right _ _ (Nat.le_refl _) ..) ?_); simp
theorem at_mid {hp tl : Hp} {a : AO} : (hp ++ a :: tl)[hp.length]? = some a := by simp
theorem set_mid0 {hp tl : Hp} {a a' : AO} : (hp ++ a :: tl).set hp.length a' = hp ++ a' :: tl := by
  refine rwE (List.set_append_right _ _ (Nat.le_refl _)) ?_; simp
noncomputable def adOf (X : Nat) (cs : List Nat) (c : Nat) : Nat := X + 1 + cs.idxOf c
noncomputable def prOf (gl : Nat -> Int) (c : Nat) : AO := .tup [.int (-gl c), .str (letter c)]
theorem idx_new {dn td : List Nat} {c : Nat} (h : (dn ++ c :: td).Nodup) : (dn ++ c :: td).idxOf c = dn.length := by
  rw [List.nodup_append] at h
  refine rwE List.idxOf_append (rwE (if_neg fun q => h.2.2 c q c (.head _) rfl) ?_)
  simp
theorem pr_at {hp : Hp} {gl : Nat -> Int} {cs : List Nat} {a : AO} {c : Nat} (hc : c ∈ cs) : (hp ++ a :: cs.map (prOf gl))[adOf hp.length cs c]? = some (prOf gl c) := by
  unfold adOf
  refine rwE (List.getElem?_append_right (by lia) ..) (rwE (show hp.length + 1 + cs.idxOf c - hp.length = cs.idxOf c + 1 by lia) (rwE (List.getElem?_cons_succ ..) (rwE (List.getElem?_map ..) (rwE (List.getElem?_eq_getElem (List.idxOf_lt_length_iff.mpr hc) ..) (rwE (List.getElem_idxOf ..) ?_)))))
  rfl
theorem strLt_let {a b : Nat} : strLt (letter a) (letter b) = decide (a < b) := by
  unfold strLt
  refine rwE (propext decide_eq_decide) ?_
  refine (?_ : [97 + a] < [97 + b] ↔ _)
  refine rwE (propext List.cons_lt_cons_iff) ?_
  simp
theorem tupLt_pr {h : Hp} {gl : Nat -> Int} {i k c c' : Nat} (hi : h[i]? = some (prOf gl c)) (hk : h[k]? = some (prOf gl c')) : TLT h (.obj i) (.obj k) (bef gl c c') := by
  have := TLT.is hi hk
  rw [strLt_let] at this
  exact this
noncomputable def plOf (X : Nat) (cs : List Nat) : AV -> Nat
  | .obj n => (cs[n - (X + 1)]?).getD 0
  | _ => 0
theorem plOf_ad {X : Nat} {cs : List Nat} {c : Nat} (h : c ∈ cs) : plOf X cs (.obj (adOf X cs c)) = c := by
  delta plOf adOf
  refine (?_ : (cs[X + 1 + cs.idxOf c - (X + 1)]?).getD 0 = c)
  refine rwE (Nat.add_sub_cancel_left ..) (rwE (List.getElem?_eq_getElem (List.idxOf_lt_length_iff.mpr h) ..) (rwE (List.getElem_idxOf ..) ?_))
  rfl
theorem neg_sum (f : Nat -> Int) (l : List Nat) : (l.map fun c => -f c).sum = -(l.map f).sum := by
  induction l with
  | nil => rfl
  | cons x r ih => simp only [List.map_cons, List.sum_cons, ih]; lia
theorem kidsW_app (a b : List WT) : WT.kidsW (a ++ b) = WT.kidsW a ++ WT.kidsW b := by
  induction a with
  | nil => rfl
  | cons k r ih => rw [List.cons_append, WT.kidsW, WT.kidsW, ih]; simp
theorem rep_dq {l : List Nat} : Txt.replace (SL l) "\"" "\"\"" = SL (dq l) := by
  exact rwE (replace_dbl (SL l) _ _ 34 (by kernel_rfl) (by kernel_rfl)) rfl
theorem aug_str {a b : List Nat} {h : Hp} (hz : a.length + b.length <= 1000000) : AUG .Add (.str (SL a)) (.str (SL b)) h (.str (SL (a ++ b))) h := SL_cat a b ▸ AUG.cat (by refine rwE (SL_len ..) (rwE (SL_len ..) ?_); exact Nat.le_trans ‹_› (by decide))
theorem cutN_zero {lim L : Int} {l : List Int} (h : ¬ lim < L) : cutN lim L l = 0 := by
  cases l with
  | nil => rfl
  | cons x r => rw [cutN, if_neg h]
theorem bm_index {v : Nat} {h : Hp} (hv : v <= 5) : BM (.str "abcdef") "index" h [.str (letter v)] h (.int v) h := ⟨_, _, BI.str F.slot_str_index F.type_str_index, MB.index (index_six hv)⟩
theorem lookup_ne {x y : Str} {u : AV} {lc : Loc} (h : decide (y ≠ x) = true) : List.lookup y ((x, u) :: lc) = lc.lookup y := by
  exact rwE List.lookup_cons (rwE (beq_false_of_ne (of_decide_eq_true h)) rfl)
structure PL (g wd : Nat) (lim : Int) (s b v : Nat) (lc : Loc) : Prop where
  l1 : lc.lookup ("waits" : Str) = some (.obj g)
  l2 : lc.lookup ("weights" : Str) = some (.obj wd)
  l3 : lc.lookup ("limit" : Str) = some (.int lim)
  l4 : lc.lookup ("sorter" : Str) = some (.obj s)
  l5 : lc.lookup ("sent" : Str) = some (.obj b)
  l6 : lc.lookup ("contents" : Str) = some (.obj (b + 1))
  l7 : lc.lookup ("place" : Str) = some (.str (letter v))
theorem PL.cons {g wd s b v : Nat} {lim : Int} {lc : Loc} {x : Str} {u : AV} (L : PL g wd lim s b v lc) (h : ([("waits" : Str), "weights", "limit", "sorter", "sent", "contents", "place"].all fun y => decide (y ≠ x)) = true) : PL g wd lim s b v ((x, u) :: lc) := by
  simp only [List.all_cons, Bool.and_eq_true] at h
  refine xAAAAAAA (h) fun h1 h2 h3 h4 h5 h6 h7 z9 => ?_
  exact ⟨(lookup_ne h1).trans L.l1, (lookup_ne h2).trans L.l2, (lookup_ne h3).trans L.l3, (lookup_ne h4).trans L.l4, (lookup_ne h5).trans L.l5, (lookup_ne h6).trans L.l6, (lookup_ne h7).trans L.l7⟩
structure HF (X : Nat) (cs : List Nat) (gl : Nat -> Int) (hp : Hp) (l : List AV) : Prop where
  hX : hp[X]? = some (.list l)
  ht : ∀ c ∈ cs, hp[adOf X cs c]? = some (prOf gl c)
noncomputable def Sx (X : Nat) (cs : List Nat) (a : AV) : Prop := ∃ c ∈ cs, a = .obj (adOf X cs c)
structure HC (X : Nat) (cs : List Nat) (gl : Nat -> Int) (lt : AV -> AV -> Bool) (H : Nat -> List AV) (sv : List Nat) : Prop where
  lt2 : ∀ c ∈ cs, ∀ c' ∈ cs, lt (.obj (adOf X cs c)) (.obj (adOf X cs c')) = bef gl c c'
  sl : sv.length = cs.length
  cl : cs.length <= 5
  hn : H cs.length = []
  hl : ∀ i, i <= cs.length -> (H i).length + i = cs.length
  hS : ∀ i, i <= cs.length -> ∀ a ∈ H i, Sx X cs a
  pop : ∀ i, i < cs.length -> ∃ ys last c, H i = ys ++ [last] /\ sv[i]? = some c /\ c ∈ cs /\ popP lt ys last = (.obj (adOf X cs c), H (i + 1))
theorem HC.ord {X : Nat} {cs : List Nat} {gl : Nat -> Int} {lt : AV -> AV -> Bool} (l2 : ∀ c ∈ cs, ∀ c' ∈ cs, lt (.obj (adOf X cs c)) (.obj (adOf X cs c')) = bef gl c c') {hp : Hp} {l : List AV} (F : HF X cs gl hp l) : Ord hp X (Sx X cs) lt := by
  rintro ys a b ⟨c, hc, rfl⟩ ⟨c', hc', rfl⟩
  refine rwE (l2 c hc c' hc') ?_
  refine CMP.tups ?_
  exact tupLt_pr (keepAt (F.ht c hc) F.hX (by intro q; cases q)) (keepAt (F.ht c' hc') F.hX (by intro q; cases q))
theorem HC.make {X : Nat} {cs : List Nat} {gl : Nat -> Int} {lt : AV -> AV -> Bool} (hd : cs.Nodup) (hl : cs.length <= 5) (l2 : ∀ c ∈ cs, ∀ c' ∈ cs, lt (.obj (adOf X cs c)) (.obj (adOf X cs c')) = bef gl c c') :
    ∃ (H : Nat -> List AV) (q : List Nat), H 0 = heapP lt (cs.length / 2) (cs.map fun c => .obj (adOf X cs c)) /\ H 0 = (q.map fun c => .obj (adOf X cs c)) /\ q.Perm cs /\ HC X cs gl lt H (srtR gl cs) := by
  refine xEA (heap_perm (gl := gl) (ad := adOf X cs) (lt := lt) hd hl l2) fun q hq hqp => ?_
  refine xEAAA (heap_pops (gl := gl) (ad := adOf X cs) (lt := lt) hd hl l2) fun H hH0 hHn hHS hHp => ?_
  have hp := srtR_perm gl cs
  refine ⟨H, q, hH0, hH0.trans hq, hqp, l2, hp.length_eq, hl, hHn, fun i => ?_, hHS, fun i hi => ?_⟩
  . induction i with
    | zero => intro _; refine rwE (hH0 ..) (rwE (hq ..) (rwE (List.length_map ..) ?_)); exact hqp.length_eq
    | succ i ih =>
      intro hi
      have ih := ih (Nat.le_of_lt hi)
      refine xEEEAA (hHp i hi) fun ys last c e1 z9 e3 => ?_
      have := popP_len (lt := lt) (ys := ys) (last := last)
      rw [e3] at this
      rw [e1, List.length_append] at ih
      simp only [List.length_singleton] at ih
      simp only at this
      lia
  . refine xEEEAA (hHp i hi) fun ys last c e1 e2 e3 => ?_
    exact ⟨ys, last, c, e1, e2, hp.mem_iff.mp (List.mem_of_getElem? e2), e3⟩
section
variable {d b g wd lo hi : Nat} {h0 hp : Hp} {wl : Nat -> Nat} {pa : Nat -> Nat} {W : Nat -> Int} {lim : Int} {gl : Nat -> Int} {s : Nat -> List Nat} {j : Nat -> Nat} {T : Nat -> WT} {D sn : List Nat} {A : SAd} {ks : List Nat} {np : Nat -> Int} {su : Nat -> List Nat} {r : Nat} {R : List Nat} {po fi : Int} {lc : Loc} {v S0 : Nat} {P : Fl -> St -> Prop} {c0 : Nat}
theorem pk_words (hW : W5 W) (hv : v <= 5) (kwd : hp[wd]? = some (.dict (dictOf (intD W) [0, 1, 2, 3, 4, 5]))) (L : PL g wd lim S0 b v lc) (k : EXS (pkFE c0 d) (pkBody.drop 2) ⟨hp, ("words", .str (SL (head229 (97 + v) (mkOf v) (digs (W v))))) :: ("mark", .str (SL [mkOf v])) :: lc⟩ P) : EXS (pkFE c0 d) pkBody ⟨hp, lc⟩ P := by
  obtain ⟨l1, l2, l3, l4, l5, l6, l7⟩ := L
  have hz : ([50, 50, 57, 32] ++ [97 + v] ++ [32, 40] ++ [mkOf v, mkOf v, mkOf v] ++ digs (W v)).length <= 100 := by
    have := digs_len (W v)
    simp; exact Nat.le_trans ‹_› (by decide)
  have hz2 : ([50, 50, 57, 32] ++ [97 + v] ++ [32, 40] ++ [mkOf v, mkOf v, mkOf v] ++ digs (W v) ++ [mkOf v]).length <= 101 := by refine rwE List.length_append ?_; exact Nat.succ_le_succ hz
  have e : [50, 50, 57, 32] ++ [97 + v] ++ [32, 40] ++ [mkOf v, mkOf v, mkOf v] ++ digs (W v) ++ [mkOf v] ++ [41] = head229 (97 + v) (mkOf v) (digs (W v)) := by exact List.append_assoc ..
  apply DS.assign (by kernel_rfl) rfl
  walk_at "mr"
  exact bm_index hv
  walk_at "mr"
  exact fmod_nat (b := 2) (by decide)
  exact mark_at hv
  walk_at "mr"
  exact cat_lit (a := [50, 50, 57, 32]) (b := [97 + v]) (by kernel_rfl) (Nat.le_of_ble_eq_true rfl)
  walk_at "mr"
  exact cat_lit2 (b := [32, 40]) (by kernel_rfl) (Nat.le_of_ble_eq_true rfl)
  walk_at "mr"
  exact thrice
  exact cat_str (Nat.le_of_ble_eq_true rfl)
  walk_at "mr"
  exact item_dict (i := v) kwd (six_mem hv)
  walk_at "mr"
  exact str_int (textInt_ok _ (hW v hv))
  exact cat_str (by refine rwB List.length_append ?_; exact Nat.le_trans hz (by decide))
  walk_at "mr"
  exact cat_str (by refine rwB List.length_append ?_; exact Nat.le_trans hz2 (by decide))
  walk_at "mr"
  exact cat_lit2 (b := [41]) (by kernel_rfl) (Nat.le_trans (Nat.add_le_add_right hz2 1) (by decide))
  refine rwE e ?_
  exact k
inductive InvW (X : Nat) (cs : List Nat) (gl : Nat -> Int) (hp : Hp) (its : List It) (h : Hp) : Prop
  | mk (dn td : List Nat) (h1 : dn ++ td = cs) (h2 : its = letIts td) (e : h = hp ++ .list (dn.map fun c => .obj (adOf X cs c)) :: dn.map (prOf gl))
theorem turned_sum {q cs : List Nat} {w : Int} (h : q.Perm cs) : w - (q.map fun c => -gl c).sum = w + ((srtR gl cs).map gl).sum := by
  refine rwE (neg_sum ..) (rwE (sumI_perm ((h.trans (srtR_perm gl cs).symm).map gl) ..) ?_); lia
theorem subSum {w x : Int} {h : Hp} {y : Int} (e : w - x = y) : BIN .Sub (.int w) (.int x) h (.int y) h := e ▸ binSub
theorem pk_pairs {cs : List Nat} (kg : hp[g]? = some (.dict (dictOf (fun v => .obj (wl v)) [0, 1, 2, 3, 4, 5]))) (kw : hp[wl v]? = some (.list (lets cs))) (hv : v <= 5) (hd : cs.Nodup) (hl : cs.length <= 5) (cel : hp[c0]? = some (.cell (some (.obj (b + 2))))) (lds : hp[b + 2]? = some (.dict (dictOf (fun c => .int (gl c)) D))) (hcD : ∀ c ∈ cs, c ∈ D) (L : PL g wd lim S0 b v lc)
    (k : EXS (pkFE c0 d) (pkBody.drop 3) ⟨hp ++ .list (cs.map fun c => .obj (adOf hp.length cs c)) :: cs.map (prOf gl), ("heap", .obj hp.length) :: lc⟩ P) : EXS (pkFE c0 d) (pkBody.drop 2) ⟨hp, lc⟩ P := by
  refine DS.assignC (v := .obj hp.length) (h := hp ++ .list (cs.map fun c => .obj (adOf hp.length cs c)) :: cs.map (prOf gl)) (lc := lc) (by kernel_rfl) (fun Q q => ?_) k
  have hz : (lets cs).length <= 1000 := by refine rwE (lets_len ..) ?_; exact Nat.le_trans ‹_› (by decide)
  refine EVC.listG (by kernel_rfl) (cs := [("loads", c0)]) (by kernel_rfl) (SD.gen (ED.item (ED.loc (by decide) (by kernel_rfl) (.hyp L.l1)) (ED.loc (by decide) (by kernel_rfl) (.hyp L.l7)) (item_dict (i := v) kg (six_mem hv))) (src_list kw hz)) rfl ?_
  refine LOOPC.idx (InvW hp.length cs gl hp) (fun l h hI => ?_) (fun i l h lc2 hI => ?_) (fun h lc2 hI => ?_) ⟨[], cs, rfl, lets_its cs, rfl⟩
  . obtain ⟨dn, td, h1, h2, rfl⟩ := hI
    exact src_keep (oldAt kw)
  . obtain ⟨dn, td, h1, h2, rfl⟩ := hI
    cases td with
    | nil => cases h2
    | cons c td =>
      injection h2 with q1 q2
      subst q1 q2
      have hc : c ∈ cs := by refine rwB h1 ?_; simp
      have hid : adOf hp.length cs c = hp.length + 1 + dn.length := by
        unfold adOf
        rw [← h1, idx_new (by refine rwE h1 ?_; exact hd)]
      have hl2 : (hp ++ AO.list (dn.map fun c => .obj (adOf hp.length cs c)) :: dn.map (prOf gl)).length = adOf hp.length cs c := by refine rwE hid ?_; simp; lia
      apply CTurn.list (assignLoc (by kernel_rfl)) IFD.nil
      . walk_at "mr"
        apply (ED.cel)
        exact oldAt cel
        walk_at "mr"
        exact item_dict (i := c) (oldAt lds) (hcD c hc)
        walk_at "mr"
      . exact oldAt at_mid
      . refine rwE (List.length_map ..) ?_; rw [← h1, List.length_append] at hl; lia
      . refine ⟨dn ++ [c], td, by refine rwB (h1 ..) (rwE (List.append_assoc ..) ?_); rfl, rfl, ?_⟩
        refine rwE hl2 (rwE set_mid ?_)
        simp [prOf]
  . obtain ⟨dn, td, h1, h2, rfl⟩ := hI
    have : td = [] := by cases td with | nil => rfl | cons a b => cases h2
    subst this
    rw [List.append_nil] at h1
    subst h1
    exact q
theorem pk_heap {cs : List Nat} (kwd : hp[wd]? = some (.dict (dictOf (intD W) [0, 1, 2, 3, 4, 5]))) (hv : v <= 5) (hd : cs.Nodup) (hl : cs.length <= 5) (L : PL g wd lim S0 b v lc)
    (k : ∀ hpC lt H, HC hp.length cs gl lt H (srtR gl cs) -> HF hp.length cs gl hpC (H 0) -> (∀ (n : Nat) (o : AO), n < hp.length -> hp[n]? = some o -> hpC[n]? = some o) -> EXS (pkFE c0 (d + 4)) (pkBody.drop 5) ⟨hpC, ("load", .int (W v + ((srtR gl cs).map gl).sum)) :: ("heap", .obj hp.length) :: lc⟩ P) :
    EXS (pkFE c0 (d + 4)) (pkBody.drop 3) ⟨hp ++ .list (cs.map fun c => .obj (adOf hp.length cs c)) :: cs.map (prOf gl), ("heap", .obj hp.length) :: lc⟩ P := by
  have F0 : HF hp.length cs gl (hp ++ .list (cs.map fun c => .obj (adOf hp.length cs c)) :: cs.map (prOf gl)) (cs.map fun c => .obj (adOf hp.length cs c)) := ⟨at_mid, fun c hc => pr_at hc⟩
  have l2 : ∀ c ∈ cs, ∀ c' ∈ cs, (fun a b => bef gl (plOf hp.length cs a) (plOf hp.length cs b)) (.obj (adOf hp.length cs c)) (.obj (adOf hp.length cs c')) = bef gl c c' := fun c hc c' hc' => by
    refine (?_ : bef gl (plOf _ _ _) (plOf _ _ _) = _)
    exact rwE (plOf_ad hc) (rwE (plOf_ad hc') rfl)
  generalize (fun a b => bef gl (plOf hp.length cs a) (plOf hp.length cs b)) = lt at l2
  refine xEEAAA (HC.make hd hl l2) fun H q e1 e2 hq C => ?_
  have F1 : HF hp.length cs gl (hp ++ .list (H 0) :: cs.map (prOf gl)) (H 0) := ⟨at_mid, fun c hc => pr_at hc⟩
  have hkB : ∀ (n : Nat) (o : AO), hp[n]? = some o -> (hp ++ .list (H 0) :: cs.map (prOf gl))[n]? = some o := fun n o hx => oldAt hx
  have hz : (cs.map fun c => AV.obj (adOf hp.length cs c)).length <= 1000 := by refine rwE (List.length_map ..) ?_; lia
  have hz2 : (H 0).length <= 1000 /\ q.length <= 1000 := by refine rwE (e2 ..) (rwE (List.length_map ..) (rwE (hq.length_eq ..) ?_)); lia
  obtain ⟨m1, m2, m3, m4, m5, m6, m7⟩ := L.cons (x := "heap") (u := .obj hp.length) (by kernel_rfl)
  apply DS.exprF rfl (by decide) (by kernel_rfl) Glob.heapify (by walk_at "mok")
  walk_at "mr"
  refine CALLV.fn (a := 206) rfl (heapify_sound (d := d + 1) (S := Sx hp.length cs) (lt := lt) F0.hX (fun a ha => ?_) (HC.ord l2 F0) hz ?_)
  . (refine xEA (List.mem_map.mp ha) fun c hc hz2 => ?_; subst hz2)
    exact ⟨c, hc, rfl⟩
  refine rwE (List.length_map ..) (rwB (e1 ..) (rwE (set_mid0 ..) ?_))
  clear F0 l2 hz e1
  generalize hp ++ .list (H 0) :: cs.map (prOf gl) = hpB at *
  walk_at "mr"
  exact item_dict (i := v) (hkB _ _ kwd) (six_mem hv)
  walk_at "mr"
  . apply ED.ofC
    refine EDC.map q (fun c => .one (.obj (adOf hp.length cs c))) (fun c => .int (-gl c)) (cs := []) (by kernel_rfl) (by kernel_rfl) (fun z9 => rfl) (SD.gen (ED.loc (by decide) (by kernel_rfl) .here) (src_list F1.hX hz2.1)) rfl (src_keep F1.hX) (by refine rwE e2 (rwE List.map_map ?_); rfl) hz2.2 fun c hc xs lc2 => ?_
    refine ⟨_, assignT2 (k := 0) (p := ⟨212, 52, 212, 65⟩) (oldAt (F1.ht c (hq.mem_iff.mp hc))) (by kernel_rfl) (by kernel_rfl), ?_⟩
    walk_at "mr"
  walk_at "mr"
  exact sum_ints (l := q.map fun c => -gl c) (by refine rwE List.map_map ?_; exact lastAt) (by refine rwE (List.length_map ..) ?_; exact hz2.2)
  exact subSum (turned_sum hq)
  exact k _ lt H C ⟨oldAt F1.hX, fun c hc => oldAt (F1.ht c hc)⟩ fun n o z9 hx => oldAt (hkB n o hx)
structure PS (h0 : Hp) (b : Nat) (gl : Nat -> Int) (T : Nat -> WT) (D sn : List Nat) (lo hi : Nat) (A : SAd) (ks : List Nat) (np : Nat -> Int) (su : Nat -> List Nat) (r : Nat) (R : List Nat) (po fi : Int) (hp0 hp : Hp) : Prop where
  K : Pk h0 b gl T D sn hp
  S : Srt lo hi A ks np su r R po fi hp
  tk : ∀ (n : Nat) (xs : List AV), hp0[n]? = some (AO.tup xs) -> hp[n]? = some (AO.tup xs)
structure PB (h0 : Hp) (b lo hi X : Nat) : Prop where
  b0 : h0.length < b
  bX : b + 2 < X
  hb : hi <= b
  l0 : h0.length < lo
theorem PS.keep {hp0 hp' : Hp} {X : Nat} (Q : PS h0 b gl T D sn lo hi A ks np su r R po fi hp0 hp) (B : PB h0 b lo hi X) (hk : ∀ (n : Nat) (o : AO), n < X -> hp[n]? = some o -> hp'[n]? = some o) (ht : ∀ (n : Nat) (xs : List AV), hp[n]? = some (AO.tup xs) -> hp'[n]? = some (AO.tup xs)) : PS h0 b gl T D sn lo hi A ks np su r R po fi hp0 hp' :=
  ⟨Q.K.keep B.b0 B.bX hk, Q.S.keep fun n o z9 hn hx => hk n o (by have := B.bX; have := B.hb; lia) hx, fun n xs hx => ht n xs (Q.tk n xs hx)⟩
theorem PS.pop {hp0 : Hp} {X : Nat} {cs : List Nat} {l l' : List AV} (Q : PS h0 b gl T D sn lo hi A ks np su r R po fi hp0 hp) (B : PB h0 b lo hi X) (F : HF X cs gl hp l) : PS h0 b gl T D sn lo hi A ks np su r R po fi hp0 (hp.set X (.list l')) /\ HF X cs gl (hp.set X (.list l')) l' := by
  have h : ∀ (n : Nat) (xs : List AV), hp[n]? = some (AO.tup xs) -> (hp.set X (.list l'))[n]? = some (AO.tup xs) := fun n xs hx => keepAt hx F.hX (by intro q; cases q)
  exact ⟨Q.keep B (fun n o hn hx => by refine rwE (List.getElem?_set_ne (Nat.ne_of_gt hn)) ?_; exact hx) h, getSet F.hX, fun c hc => h _ _ (F.ht c hc)⟩
theorem PS.send {hp0 : Hp} {X : Nat} {cs : List Nat} {l : List AV} (Q : PS h0 b gl T D sn lo hi A ks np su r R po fi hp0 hp) (B : PB h0 b lo hi X) (F : HF X cs gl hp l) (c : Nat) : PS h0 b gl T D (sn ++ [c]) lo hi A ks np su r R po fi hp0 (hp.set b (.list ((sn.map fun c => .str (SL (T c).words)) ++ [.str (SL (T c).words)]))) /\ HF X cs gl (hp.set b (.list ((sn.map fun c => .str (SL (T c).words)) ++ [.str (SL (T c).words)]))) l := by
  have h : ∀ {n : Nat} {xs : List AV}, hp[n]? = some (AO.tup xs) -> (hp.set b (.list ((sn.map fun c => .str (SL (T c).words)) ++ [.str (SL (T c).words)])))[n]? = some (AO.tup xs) := fun hx => keepAt hx Q.K.snt (by intro q; cases q)
  have hX : X ≠ b := by have := B.bX; lia
  refine ⟨⟨Q.K.send B.b0 c, Q.S.keep fun n o z9 hn hx => ?_, fun n xs hx => h (Q.tk n xs hx)⟩, ?_, fun c hc => h (F.ht c hc)⟩
  . refine rwE (List.getElem?_set_ne (by have := B.hb; exact Nat.ne_of_gt (Nat.lt_of_lt_of_le ‹_› ‹_›))) ?_; exact hx
  . refine rwE (List.getElem?_set_ne (Ne.symm hX)) ?_; exact F.hX
theorem pop_call {d i : Nat} {h : Hp} {ys l : List AV} {last x : AV} {S : AV -> Prop} {lt : AV -> AV -> Bool} (e : popP lt ys last = (x, l)) (hi : h[i]? = some (.list (ys ++ [last]))) (hS : ∀ a ∈ ys ++ [last], S a) (ho : Ord h i S lt) (hz : ys.length < 1000) {P : AV -> Hp -> Prop} (hP : P x (h.set i (.list l))) : CALLV (d + 3) (.con (.ref 199)) [.obj i] h P :=
  CALLV.fn (a := 199) rfl (heappop_sound (d := d) hi (fun a ha => hS a (List.mem_append_left _ ha)) (hS last (by simp)) ho hz (by refine rwE e ?_; exact hP))
theorem assignP {fe : FE} {x y : Str} {px py p : Pos} {k n : Nat} {a b : AV} {h : Hp} {lc : Loc} (hn : h[n]? = some (.tup [a, b])) (hx : fe.names.lookup x = some .local) (hy : fe.names.lookup y = some .local) : assignPlain fe (.Tuple [.Name x px, .Name y py] k p) (.obj n) ⟨h, lc⟩ = some ⟨h, (y, b) :: (x, a) :: lc⟩ := assignT2 (st := ⟨h, lc⟩) hn hx hy
inductive InvC (h0 : Hp) (b : Nat) (gl : Nat -> Int) (T : Nat -> WT) (D sn : List Nat) (lo hi : Nat) (A : SAd) (ks : List Nat) (np : Nat -> Int) (su : Nat -> List Nat) (r : Nat) (R : List Nat) (po fi : Int) (hp0 : Hp) (X : Nat) (cs : List Nat) (H : Nat -> List AV) (sv : List Nat) (w lim : Int) (jv g wd v : Nat) (wds : List Nat) (m : Nat) (st : St) : Prop
  | mk (i : Nat) (hp : Hp) (lc : Loc) (hii : i <= cs.length) (hm : m = cs.length - i) (e : st = ⟨hp, lc⟩) (F : HF X cs gl hp (H i)) (Q : PS h0 b gl T D (sn ++ sv.take i) lo hi A ks np su r R po fi hp0 hp) (cut : cutN lim (w + ((sv.drop i).map gl).sum) ((sv.drop i).map gl) + i = jv) (L : PL g wd lim A.s b v lc)
    (l8 : lc.lookup ("heap" : Str) = some (.obj X)) (l9 : lc.lookup ("words" : Str) = some (.str (SL wds))) (l10 : lc.lookup ("load" : Str) = some (.int (w + ((sv.drop i).map gl).sum)))
theorem drop_get {l : List Nat} {i c : Nat} (h : l[i]? = some c) : l.drop i = c :: l.drop (i + 1) /\ l.take (i + 1) = l.take i ++ [c] := ⟨drop_at h, by refine rwE List.take_add_one (rwE h ?_); rfl⟩
theorem pk_cut {X : Nat} {cs : List Nat} {lt : AV -> AV -> Bool} {H : Nat -> List AV} {sv : List Nat} {w : Int} {jv : Nat} {wds : List Nat} {hp0 : Hp} (C : HC X cs gl lt H sv) (B : PB h0 b lo hi X) (hcD : ∀ c ∈ cs, c ∈ D) (hw : w <= lim) (hsn : sn.length <= 100) (F : HF X cs gl hp (H 0)) (Q : PS h0 b gl T D sn lo hi A ks np su r R po fi hp0 hp) (cut : jv = cutN lim (w + (sv.map gl).sum) (sv.map gl)) (L : PL g wd lim A.s b v lc)
    (l8 : lc.lookup ("heap" : Str) = some (.obj X)) (l9 : lc.lookup ("words" : Str) = some (.str (SL wds))) (l10 : lc.lookup ("load" : Str) = some (.int (w + (sv.map gl).sum)))
    (k : ∀ hp lc, jv <= cs.length -> HF X cs gl hp (H jv) -> PS h0 b gl T D (sn ++ sv.take jv) lo hi A ks np su r R po fi hp0 hp -> PL g wd lim A.s b v lc -> lc.lookup ("heap" : Str) = some (.obj X) -> lc.lookup ("words" : Str) = some (.str (SL wds)) -> lc.lookup ("load" : Str) = some (.int (w + ((sv.drop jv).map gl).sum)) -> EXS (pkFE c0 (d + 4)) (pkBody.drop 6) ⟨hp, lc⟩ P) :
    EXS (pkFE c0 (d + 4)) (pkBody.drop 5) ⟨hp, lc⟩ P := by
  apply DS.while
  refine WHILE.inv (InvC h0 b gl T D sn lo hi A ks np su r R po fi hp0 X cs H sv w lim jv g wd v wds) (fun m st hI => ?_) ⟨0, hp, lc, Nat.zero_le _, rfl, rfl, F, by refine rwE (List.take_zero ..) (rwE (List.append_nil ..) ?_); exact Q, cut.symm, L, l8, l9, l10⟩
  clear F Q cut L l8 l9 l10
  obtain ⟨i, hp, lc, hii, rfl, rfl, F, Q, cut, L, l8, l9, l10⟩ := hI
  have l3 := L.l3
  by_cases hlt : lim < w + ((sv.drop i).map gl).sum
  . have hic : i < cs.length := by
      rcases Nat.lt_or_ge i cs.length with h | h
      . exact h
      . rw [List.drop_eq_nil_of_le (C.sl ▸ h)] at hlt
        exact absurd hlt (by simp only [List.map_nil, List.sum_nil]; lia)
    refine xEEEAAA (C.pop i hic) fun ys last c eH ec hc epop => ?_
    obtain ⟨hdr, htk⟩ := drop_get ec
    have hl := C.hl i hii
    have hS := C.hS i hii
    have hz : ys.length < 1000 /\ (sn ++ sv.take i).length <= 1000 := by
      rw [eH] at hl
      have := C.cl
      simp at hl ⊢; lia
    obtain ⟨Q3, F3⟩ := Q.pop (l' := H (i + 1)) B F
    have ord := HC.ord C.lt2 F
    rw [eH] at hS F
    obtain ⟨Q4, F4⟩ := Q3.send B F3 c
    rw [List.append_assoc, ← htk] at Q4
    have hload : w + ((sv.drop i).map gl).sum + -gl c = w + ((sv.drop (i + 1)).map gl).sum := by
      refine rwE hdr (rwE List.map_cons (rwE List.sum_cons ?_)); lia
    have cut2 : cutN lim (w + ((sv.drop (i + 1)).map gl).sum) ((sv.drop (i + 1)).map gl) + (i + 1) = jv := by
      rw [← hload, ← cut, hdr, List.map_cons, cutN, if_pos (by refine rwB List.map_cons (rwB hdr ?_); exact hlt), List.sum_cons]
      refine rwE (show w + (gl c + (List.map gl (List.drop (i + 1) sv)).sum) + -gl c = w + (gl c + (List.map gl (List.drop (i + 1) sv)).sum) - gl c from rfl) ?_
      lia
    apply DS.whileT
    walk_at "mr"
    exact cmpGt hlt
    walk_at "mr"
    refine pop_call (d := d + 1) epop F.hX hS ord hz.1 ?_
    refine UnpP.mk (assignP (F3.ht c hc) (by kernel_rfl) (by kernel_rfl)) ?_
    have L2 := (L.cons (x := "turned") (u := .int (-gl c)) (by kernel_rfl)).cons (x := "child") (u := .str (letter c)) (by kernel_rfl)
    obtain ⟨n1, n2, n3, n4, n5, n6, n7⟩ := L2.cons (x := "load") (u := .int (w + ((sv.drop i).map gl).sum + -gl c)) (by kernel_rfl)
    walk_at "mr"
    exact item_dict (i := c) Q3.K.con (hcD c hc)
    walk_at "mr"
    exact bm_append Q3.K.snt Q3.K.snt (by refine rwE (List.length_map ..) ?_; exact hz.2)
    refine rwE hload ?_
    exact DS.turn (k' := cs.length - (i + 1)) (Nat.sub_lt_sub_left hic (Nat.lt_succ_self i)) ⟨i + 1, _, _, hic, rfl, rfl, F4, Q4, cut2, L2.cons (by kernel_rfl), l8, l9, by kernel_rfl⟩
  . rw [cutN_zero hlt, Nat.zero_add] at cut
    subst cut
    apply DS.whileF
    walk_at "mr"
    exact cmpGtF hlt
    exact EXS.nil (k hp lc hii F Q L l8 l9 l10)
theorem ED.replace {fe : FE} {o : Expr} {apos p p' pos : Pos} {y z x : Str} {n n' : Nat} {st st1 : St} (hf : methForm o apos pos 2 = true) (hyz : y ≠ z) (hz : z.length <= 2) (h : ED fe o st (.str x) st1) (hx : x.length <= 1000000) : ED fe (.Call (.Attribute o "replace" apos) [.Constant (.str y) n p, .Constant (.str z) n' p'] [] pos) st (.str (Txt.replace x y z)) st1 := fun z9 q => EV.replace hf hyz hz (h ⟨x, rfl, hx, q⟩)
inductive InvE (h0 : Hp) (b : Nat) (gl : Nat -> Int) (T : Nat -> WT) (D sn : List Nat) (lo hi : Nat) (A : SAd) (ks : List Nat) (np : Nat -> Int) (su : Nat -> List Nat) (r : Nat) (R : List Nat) (po fi : Int) (hp0 : Hp) (X : Nat) (cs : List Nat) (H : Nat -> List AV) (sv : List Nat) (ld lim : Int) (jv g wd v : Nat) (wds : List Nat) (m : Nat) (st : St) : Prop
  | mk (i : Nat) (hp : Hp) (lc : Loc) (hj : jv <= i) (hii : i <= cs.length) (hm : m = cs.length - i) (e : st = ⟨hp, lc⟩) (F : HF X cs gl hp (H i)) (Q : PS h0 b gl T D sn lo hi A ks np su r R po fi hp0 hp) (L : PL g wd lim A.s b v lc)
    (l8 : lc.lookup ("heap" : Str) = some (.obj X)) (l9 : lc.lookup ("words" : Str) = some (.str (SL (wds ++ WT.kidsW (((sv.drop jv).take (i - jv)).map T))))) (l10 : lc.lookup ("load" : Str) = some (.int ld))
theorem kidsW_part (wds : List Nat) (l : List WT) (n : Nat) : (wds ++ WT.kidsW (l.take n)).length <= (wds ++ WT.kidsW l).length := by
  refine rwE List.length_append (rwE List.length_append ?_)
  refine Nat.add_le_add_left ?_ _
  conv => rhs; rw [← List.take_append_drop n l, kidsW_app, List.length_append]
  exact Nat.le_add_right _ _
theorem take_sub {sv : List Nat} {i jv c : Nat} (hj : jv <= i) (h : sv[i]? = some c) : (sv.drop jv).take (i + 1 - jv) = (sv.drop jv).take (i - jv) ++ [c] := by
  refine rwE (Nat.succ_sub hj) (rwE List.take_add_one (rwE (List.getElem?_drop) (rwE (Nat.add_sub_cancel' hj) (rwE h ?_))))
  rfl
theorem pk_rest {X : Nat} {cs : List Nat} {lt : AV -> AV -> Bool} {H : Nat -> List AV} {sv : List Nat} {ld : Int} {jv : Nat} {wds : List Nat} {hp0 : Hp} (C : HC X cs gl lt H sv) (B : PB h0 b lo hi X) (hcD : ∀ c ∈ cs, c ∈ D) (h6 : ∀ c ∈ cs, (T c).words.length <= 6000) (hw : (wds ++ WT.kidsW ((sv.drop jv).map T)).length <= 6000) (hjc : jv <= cs.length) (F : HF X cs gl hp (H jv)) (Q : PS h0 b gl T D sn lo hi A ks np su r R po fi hp0 hp) (L : PL g wd lim A.s b v lc)
    (l8 : lc.lookup ("heap" : Str) = some (.obj X)) (l9 : lc.lookup ("words" : Str) = some (.str (SL wds))) (l10 : lc.lookup ("load" : Str) = some (.int ld))
    (k : ∀ hp lc, PS h0 b gl T D sn lo hi A ks np su r R po fi hp0 hp -> PL g wd lim A.s b v lc -> lc.lookup ("words" : Str) = some (.str (SL (wds ++ WT.kidsW ((sv.drop jv).map T)))) -> lc.lookup ("load" : Str) = some (.int ld) -> EXS (pkFE c0 (d + 4)) (pkBody.drop 7) ⟨hp, lc⟩ P) :
    EXS (pkFE c0 (d + 4)) (pkBody.drop 6) ⟨hp, lc⟩ P := by
  apply DS.while
  refine WHILE.inv (InvE h0 b gl T D sn lo hi A ks np su r R po fi hp0 X cs H sv ld lim jv g wd v wds) (fun m st hI => ?_) ⟨jv, hp, lc, Nat.le_refl _, hjc, rfl, rfl, F, Q, L, l8, by rw [Nat.sub_self, List.take_zero, List.map_nil, WT.kidsW, List.append_nil]; exact l9, l10⟩
  clear F Q L l8 l9 l10
  obtain ⟨i, hp, lc, hj, hii, rfl, rfl, F, Q, L, l8, l9, l10⟩ := hI
  have hl := C.hl i hii
  have hz : (H i).length <= 1000 := by have := C.cl; lia
  rcases Nat.lt_or_eq_of_le hii with hic | rfl
  . refine xEEEAAA (C.pop i hic) fun ys last c eH ec hc epop => ?_
    have hS := C.hS i hii
    have hz2 : ys.length < 1000 := by rw [eH, List.length_append] at hz; exact hz
    obtain ⟨Q3, F3⟩ := Q.pop (l' := H (i + 1)) B F
    have ord := HC.ord C.lt2 F
    have ht : TRU (.obj X) hp true := TRU.list F.hX (Nat.le_trans hz (by decide)) (decide_eq_true (by refine rwE eH ?_; lia))
    rw [eH] at hS F
    have hn := Nat.le_trans (kidsW_part wds ((sv.drop jv).map T) (i - jv)) hw
    rw [← List.map_take] at hn
    have hdq : ([50, 53, 55, 32, 34] ++ dq (T c).words ++ [34]).length <= 13000 /\ (dq (T c).words).length <= 12000 := by
      have := dq_le (T c).words; have := h6 c hc
      simp; lia
    have hfin : wds ++ WT.kidsW (((sv.drop jv).take (i - jv)).map T) ++ ([50, 53, 55, 32, 34] ++ dq (T c).words ++ [34]) = wds ++ WT.kidsW (((sv.drop jv).take (i + 1 - jv)).map T) := by
      refine rwE (take_sub hj ec ..) (rwE (List.map_append ..) (rwE (kidsW_app ..) ?_))
      exact List.append_assoc ..
    have L2 := (L.cons (x := "turned") (u := .int (-gl c)) (by kernel_rfl)).cons (x := "child") (u := .str (letter c)) (by kernel_rfl)
    obtain ⟨n1, n2, n3, n4, n5, n6, n7⟩ := L2
    have L2 := (L.cons (x := "turned") (u := .int (-gl c)) (by kernel_rfl)).cons (x := "child") (u := .str (letter c)) (by kernel_rfl)
    apply DS.whileT
    walk_at "mr"
    exact ht
    walk_at "mr"
    refine pop_call (d := d + 1) epop F.hX hS ord hz2 ?_
    refine UnpP.mk (assignP (F3.ht c hc) (by kernel_rfl) (by kernel_rfl)) ?_
    walk_at "md"; walk_at "md"; walk_at "md"; walk_at "md"
    . refine ED.replace (by kernel_rfl) (by decide) (by decide) (ED.item (ED.loc (by decide) (by kernel_rfl) (.hyp n6)) (ED.loc (by decide) (by kernel_rfl) .here) (item_dict (i := c) Q3.K.con (hcD c hc))) ?_
      refine rwE (SL_len ..) ?_; exact Nat.le_trans (h6 c hc) (by decide)
    refine rwE rep_dq ?_
    exact cat_lit (a := [50, 53, 55, 32, 34]) (by kernel_rfl) (by dsimp; lia)
    walk_at "mr"
    exact cat_lit2 (b := [34]) (by kernel_rfl) (by refine rwB List.length_append ?_; exact Nat.le_trans hdq.1 (by decide))
    exact aug_str (Nat.le_trans (Nat.add_le_add hn hdq.1) (by decide))
    refine rwE hfin ?_
    exact DS.turn (k' := cs.length - (i + 1)) (Nat.sub_lt_sub_left hic (Nat.lt_succ_self i)) ⟨i + 1, _, _, Nat.le_succ_of_le hj, hic, rfl, rfl, F3, Q3, L2.cons (by kernel_rfl), l8, by kernel_rfl, l10⟩
  . have e : ((sv.drop jv).take (cs.length - jv)) = sv.drop jv := List.take_of_length_le (by refine rwE List.length_drop (rwE C.sl ?_); exact Nat.le_refl _)
    rw [e] at l9
    apply DS.whileF
    walk_at "mr"
    exact TRU.list F.hX (Nat.le_trans hz (by decide)) (decide_eq_false (by refine rwE C.hn ?_; decide))
    exact EXS.nil (k hp lc Q L l9 l10)
theorem pk_fin {hp0 : Hp} (Q : PS h0 b gl T D sn lo hi A ks np su r R po fi hp0 hp) (b0 : h0.length < b) (hb : hi <= b) (l0 : h0.length < lo) (hR : R.length <= 6) (hvk : v ∈ ks) (hnp : np v = -1) (hsu : su v = [] ∨ ∃ w, su v = [w] /\ w < v /\ w ∈ ks) (hvD : v ∉ D) (hz : D.length <= 1000) (L : PL g wd lim A.s b v lc) (l9 : lc.lookup ("words" : Str) = some (.str (SL (T v).words))) (l10 : lc.lookup ("load" : Str) = some (.int (gl v)))
    (k : ∀ hp', Pk h0 b gl T (D ++ [v]) sn hp' -> Srt lo hi A ks (npD np v (su v)) su r (R ++ (su v).filter fun w => decide (np w - 1 = 0)) po (fi + 1) hp' -> (∀ (n : Nat) (xs : List AV), hp0[n]? = some (AO.tup xs) -> hp'[n]? = some (AO.tup xs)) -> P .next ⟨hp', lc⟩) :
    EXS (pkFE h0.length (d + 1)) (pkBody.drop 7) ⟨hp, lc⟩ P := by
  obtain ⟨l1, l2, l3, l4, l5, l6, l7⟩ := L
  have hld : (hp.set (b + 1) (.dict (dictOf (updV (fun c => .str (SL (T c).words)) v (.str (SL (T v).words))) (D ++ [v]))))[b + 2]? = some (.dict (dictOf (fun c => .int (gl c)) D)) := by refine rwE (List.getElem?_set_ne (Nat.ne_of_lt (Nat.lt_succ_self _))) ?_; exact Q.K.lds
  have K3 := Q.K.add (v := v) b0
  have S3 := Q.S.keep (h' := (hp.set (b + 1) (.dict (dictOf (updV (fun c => .str (SL (T c).words)) v (.str (SL (T v).words))) (D ++ [v])))).set (b + 2) (.dict (dictOf (updV (fun c => .int (gl c)) v (.int (gl v))) (D ++ [v])))) fun n o z9 hn hx => by
    refine rwE (List.getElem?_set_ne (by lia)) (rwE (List.getElem?_set_ne (by lia)) ?_); exact hx
  have tk3 : ∀ (n : Nat) (xs : List AV), hp0[n]? = some (AO.tup xs) -> ((hp.set (b + 1) (.dict (dictOf (updV (fun c => .str (SL (T c).words)) v (.str (SL (T v).words))) (D ++ [v])))).set (b + 2) (.dict (dictOf (updV (fun c => .int (gl c)) v (.int (gl v))) (D ++ [v]))))[n]? = some (AO.tup xs) := fun n xs hx => keepAt (keepAt (Q.tk n xs hx) Q.K.con (by intro q; cases q)) hld (by intro q; cases q)
  apply DS.setItem
  walk_at "mr"
  exact set_new (i := v) Q.K.con hz hvD
  walk_at "mr"
  apply (ED.cel)
  exact keepAt Q.K.cel Q.K.con (by intro q; cases q)
  walk_at "mr"
  exact set_new (i := v) hld hz hvD
  generalize (hp.set (b + 1) (.dict (dictOf (updV (fun c => .str (SL (T c).words)) v (.str (SL (T v).words))) (D ++ [v])))).set (b + 2) (.dict (dictOf (updV (fun c => .int (gl c)) v (.int (gl v))) (D ++ [v]))) = hp3 at *
  walk_at "mr"
  exact mr_srt (a := 171) (by kernel_rfl) rfl (by kernel_rfl) S3.S.hs S3.S.hd
  walk_at "mr"
  refine done_sound (d := d) S3 hR hvk hnp hsu fun hp4 S4 E4 => ?_
  exact EXS.nil (k hp4 ⟨fun n o hn ho => E4.out n o (.inl (Nat.lt_trans hn l0)) (K3.low n o hn ho), E4.out _ _ (.inl l0) K3.cel, E4.out _ _ (.inr hb) K3.snt, E4.out _ _ (.inr (Nat.le_succ_of_le hb)) K3.con, E4.out _ _ (.inr (Nat.le_add_right_of_le hb)) K3.lds⟩ S4 fun n xs hx => E4.tup n xs (tk3 n xs hx))
end
theorem pk_body {d b g wd lo hi : Nat} {h0 hp : Hp} {wl : Nat -> Nat} {pa : Nat -> Nat} {W : Nat -> Int} {lim : Int} {gl : Nat -> Int} {s : Nat -> List Nat} {j : Nat -> Nat} {T : Nat -> WT} {D sn : List Nat} {A : SAd} {ks : List Nat} {np : Nat -> Int} {su : Nat -> List Nat} {r : Nat} {R : List Nat} {po fi : Int} {lc : Loc} {v : Nat}
    (G : Gr pa W lim gl s j) (hT : Tr W s j T) (hW : W5 W) (hg : h0[g]? = some (.dict (dictOf (fun v => .obj (wl v)) [0, 1, 2, 3, 4, 5]))) (hw : ∀ v, v <= 5 -> h0[wl v]? = some (.list (lets (chl pa v)))) (hwd : h0[wd]? = some (.dict (dictOf (intD W) [0, 1, 2, 3, 4, 5])))
    (K : Pk h0 b gl T D sn hp) (S : Srt lo hi A ks np su r R po fi hp) (hlo : h0.length < lo) (hhi : hi <= b) (hv : v <= 5) (hvD : v ∉ D) (hcD : ∀ c ∈ chl pa v, c ∈ D) (hD : D.Nodup) (hD5 : ∀ k ∈ D, k <= 5) (hsn : sn.length <= 100)
    (hR : R.length <= 6) (hvk : v ∈ ks) (hnp : np v = -1) (hsu : su v = [] ∨ ∃ w, su v = [w] /\ w < v /\ w ∈ ks)
    (l1 : lc.lookup ("waits" : Str) = some (.obj g)) (l2 : lc.lookup ("weights" : Str) = some (.obj wd)) (l3 : lc.lookup ("limit" : Str) = some (.int lim)) (l4 : lc.lookup ("sorter" : Str) = some (.obj A.s)) (l5 : lc.lookup ("sent" : Str) = some (.obj b)) (l6 : lc.lookup ("contents" : Str) = some (.obj (b + 1))) (l7 : lc.lookup ("place" : Str) = some (.str (letter v)))
    {P : Fl -> St -> Prop} (hP : ∀ hp' lc', Pk h0 b gl T (D ++ [v]) (sn ++ (s v).take (j v)) hp' -> Srt lo hi A ks (npD np v (su v)) su r (R ++ (su v).filter fun w => decide (np w - 1 = 0)) po (fi + 1) hp' -> (∀ (n : Nat) (xs : List AV), hp[n]? = some (AO.tup xs) -> hp'[n]? = some (AO.tup xs)) ->
      lc'.lookup ("waits" : Str) = some (.obj g) -> lc'.lookup ("weights" : Str) = some (.obj wd) -> lc'.lookup ("limit" : Str) = some (.int lim) -> lc'.lookup ("sorter" : Str) = some (.obj A.s) -> lc'.lookup ("sent" : Str) = some (.obj b) -> lc'.lookup ("contents" : Str) = some (.obj (b + 1)) -> P .next ⟨hp', lc'⟩) :
    EXS (pkFE h0.length (d + 4)) pkBody ⟨hp, lc⟩ P := by
  have hlt : ∀ {n : Nat} {o : AO}, h0[n]? = some o -> n < h0.length := fun {n o} h => (List.getElem?_eq_some_iff.mp h).1
  have kg := K.low _ _ (hlt hg) hg
  have kw := K.low _ _ (hlt (hw v hv)) (hw v hv)
  have kwd := K.low _ _ (hlt hwd) hwd
  have L : PL g wd lim A.s b v lc := ⟨l1, l2, l3, l4, l5, l6, l7⟩
  have B : PB h0 b lo hi hp.length := ⟨Nat.lt_of_lt_of_le hlo (by have := S.br; lia), (List.getElem?_eq_some_iff.mp K.lds).1, hhi, hlo⟩
  have hcl := chl_len pa v
  have hcd := chl_nodup pa v
  have e1 := G.hs v hv
  have e2 := G.hj v hv
  have e3 := G.hl v hv
  have e4 : (T v).words = head229 (97 + v) (mkOf v) (digs (W v)) ++ WT.kidsW (((s v).drop (j v)).map T) := by rw [hT v hv, WT.words]
  have h6 : ∀ c ∈ chl pa v, (T c).words.length <= 6000 := fun c hc => words_6000 G hT (mem_chl.mp hc).1.2
  have h6v := words_6000 G hT hv
  rw [e4] at h6v
  have hwl := (G.w0 v hv).2
  refine pk_words hW hv kwd L ?_
  have L := (L.cons (x := "mark") (u := .str (SL [mkOf v])) (by kernel_rfl)).cons (x := "words") (u := .str (SL (head229 (97 + v) (mkOf v) (digs (W v))))) (by kernel_rfl)
  refine pk_pairs (cs := chl pa v) kg kw hv hcd hcl K.cel K.lds hcD L ?_
  refine pk_heap (cs := chl pa v) (d := d) kwd hv hcd hcl L fun hpC lt H C F hk => ?_
  rw [← e1] at C ⊢
  have Q : PS h0 b gl T D sn lo hi A ks np su r R po fi hp hpC := ⟨K.keep B.b0 B.bX hk, S.keep fun n o z9 hn hx => hk n o (by have := B.bX; lia) hx, fun n xs hx => hk n _ (List.getElem?_eq_some_iff.mp hx).1 hx⟩
  refine pk_cut (d := d) (wds := head229 (97 + v) (mkOf v) (digs (W v))) C B hcD hwl hsn F Q e2 ((L.cons (x := "heap") (by kernel_rfl)).cons (x := "load") (by kernel_rfl)) (by kernel_rfl) (by kernel_rfl) (by kernel_rfl) fun hp2 lc2 hjc F2 Q2 L2 m8 m9 m10 => ?_
  refine pk_rest (d := d) C B hcD h6 h6v hjc F2 Q2 L2 m8 m9 m10 fun hp3 lc3 Q3 L3 n9 n10 => ?_
  rw [← e4] at n9
  rw [← e3] at n10
  exact pk_fin (d := d + 3) Q3 B.b0 hhi hlo hR hvk hnp hsu hvD (Nat.le_trans (len6 hD hD5) (by decide)) L3 n9 n10 fun hp4 K4 S4 t4 => hP hp4 lc3 K4 S4 t4 L3.l1 L3.l2 L3.l3 L3.l4 L3.l5 L3.l6
noncomputable def cntN (pa : Nat -> Nat) (D : List Nat) (u : Nat) : Nat := ((chl pa u).filter fun c => decide (c ∉ D)).length
structure Stt (pa : Nat -> Nat) (D Q R : List Nat) (np : Nat -> Int) : Prop where
  dn : D.Nodup
  qn : Q.Nodup
  rn : R.Nodup
  d5 : ∀ v ∈ D, v <= 5 /\ ∀ c ∈ chl pa v, c ∈ D
  q5 : ∀ v ∈ Q, v <= 5 /\ v ∉ D /\ ∀ c ∈ chl pa v, c ∈ D
  r5 : ∀ v, v ∈ R ↔ v <= 5 /\ v ∉ D /\ v ∉ Q /\ ∀ c ∈ chl pa v, c ∈ D
  np : ∀ v, v <= 5 -> np v = if v ∈ D then -2 else if v ∈ Q then -1 else (cntN pa D v : Int)
theorem cntN_zero {pa : Nat -> Nat} {D : List Nat} {u : Nat} : cntN pa D u = 0 ↔ ∀ c ∈ chl pa u, c ∈ D := by
  unfold cntN
  refine rwE (propext List.length_eq_zero_iff) (rwE (propext List.filter_eq_nil_iff) ?_)
  constructor
  . intro h c hc
    have := h c hc
    simpa using this
  . intro h c hc
    simpa using h c hc
theorem flt_not {D : List Nat} {v : Nat} : ∀ {l : List Nat}, v ∉ l -> (l.filter fun c => decide (c ∉ D ++ [v])).length = (l.filter fun c => decide (c ∉ D)).length
  | [], _ => rfl
  | x :: r, h => by
    simp only [List.mem_cons, not_or] at h
    have ih := flt_not (D := D) (v := v) h.2
    have e : decide (x ∉ D ++ [v]) = decide (x ∉ D) := by
      refine rwE (propext decide_eq_decide) ?_; simp [Ne.symm h.1]
    refine rwE List.filter_cons (rwE List.filter_cons (rwE e ?_))
    split
    . exact rwE List.length_cons (rwE List.length_cons (rwE ih rfl))
    . exact ih
theorem flt_one {D : List Nat} {v : Nat} (hv : v ∉ D) : ∀ {l : List Nat}, l.Nodup -> v ∈ l -> (l.filter fun c => decide (c ∉ D)).length = (l.filter fun c => decide (c ∉ D ++ [v])).length + 1
  | x :: r, hn, h => by
    rw [List.nodup_cons] at hn
    by_cases hx : x = v
    . subst hx
      have := flt_not (D := D) hn.1
      refine rwE List.filter_cons (rwE List.filter_cons (rwE (if_pos (by simpa using hv)) (rwE (if_neg (by simp)) (rwE this ?_))))
      rfl
    . have hr : v ∈ r := by rcases List.mem_cons.mp h with q | q; exact absurd q.symm hx; exact q
      have ih := flt_one hv hn.2 hr
      have e : decide (x ∉ D ++ [v]) = decide (x ∉ D) := by
        refine rwE (propext decide_eq_decide) ?_; simp [hx]
      refine rwE List.filter_cons (rwE List.filter_cons (rwE e ?_))
      split
      . exact rwE List.length_cons (rwE List.length_cons (rwE ih rfl))
      . exact ih
theorem Stt.start {pa : Nat -> Nat} {ks : List Nat} (hk : ks.Nodup) (h5 : ∀ v, v ∈ ks ↔ v <= 5) : Stt pa [] [] (ks.filter fun k => decide (npF pa 6 k = 0)) (npF pa 6) := by
  have h0 : ∀ v, v <= 5 -> npF pa 6 v = (cntN pa [] v : Int) := fun v hv => by
    delta npF cntN
    exact rwE (if_pos (Nat.lt_succ_of_le ‹_›)) (rwE (List.filter_eq_self.mpr (by simp)) rfl)
  refine ⟨.nil, .nil, List.Pairwise.filter _ hk, by simp, by simp, fun v => ?_, fun v hv => by simp [h0 v hv]⟩
  refine rwE (propext (List.mem_filter ..)) (rwE (decide_eq_true_eq ..) (rwE (propext (h5 ..)) ?_))
  constructor
  . rintro ⟨h1, h2⟩
    rw [h0 v h1] at h2
    exact ⟨h1, by simp, by simp, cntN_zero.mp (Int.ofNat.inj ‹_›)⟩
  . rintro ⟨h1, _, _, h2⟩
    refine ⟨h1, ?_⟩
    refine rwE (h0 v h1) (rwE (cntN_zero.mpr h2) ?_); rfl
theorem Stt.ready {pa : Nat -> Nat} {D R : List Nat} {np : Nat -> Int} (S : Stt pa D [] R np) : Stt pa D R [] (fun v => if v ∈ R then -1 else np v) := by
  refine ⟨S.dn, S.rn, .nil, S.d5, fun v hv => ?_, fun v => ?_, fun v hv => ?_⟩
  . have := (S.r5 v).mp hv
    exact ⟨this.1, this.2.1, this.2.2.2⟩
  . constructor
    . intro h; cases h
    . rintro ⟨h1, h2, h3, h4⟩
      exact absurd ((S.r5 v).mpr ⟨h1, h2, by simp, h4⟩) h3
  . by_cases hR : v ∈ R
    . have := (S.r5 v).mp hR
      exact rwE (if_pos hR) (rwE (if_neg this.2.1) (rwE (if_pos hR) rfl))
    . refine rwE (if_neg hR) (rwE (S.np v hv) (rwE (if_neg hR) ?_))
      dsimp
theorem Stt.stop {pa : Nat -> Nat} (hpa : ∀ c, 1 <= c -> c <= 5 -> pa c < c) {D : List Nat} {np : Nat -> Int} (S : Stt pa D [] [] np) : ∀ v, v <= 5 -> v ∈ D := by
  refine downInd fun v hv ih => ?_
  refine Decidable.byContradiction fun h => ?_
  have := (S.r5 v).mpr ⟨hv, h, by simp, fun c hc => ih c (chl_lt hpa hc).1 (chl_lt hpa hc).2⟩
  cases this
theorem suF_six {pa : Nat -> Nat} (hpa : ∀ c, 1 <= c -> c <= 5 -> pa c < c) {v : Nat} (hv : v <= 5) : (v = 0 /\ suF pa 6 v = []) ∨ (1 <= v /\ suF pa 6 v = [pa v]) := by
  unfold suF
  by_cases h : 1 <= v
  . have := hpa v h hv
    exact .inr ⟨h, if_pos ⟨⟨h, hv⟩, by lia⟩⟩
  . exact .inl ⟨by lia, if_neg (by lia)⟩
theorem Stt.done {pa : Nat -> Nat} (hpa : ∀ c, 1 <= c -> c <= 5 -> pa c < c) {D Q R : List Nat} {np : Nat -> Int} {v : Nat} (S : Stt pa D (v :: Q) R np) : Stt pa (D ++ [v]) Q (R ++ (suF pa 6 v).filter fun w => decide (np w - 1 = 0)) (npD np v (suF pa 6 v)) := by
  have hq := S.q5 v (.head _)
  have hqn := S.qn
  rw [List.nodup_cons] at hqn
  have hdn : (D ++ [v]).Nodup := by
    refine rwE (propext List.nodup_append) ?_
    exact ⟨S.dn, by simp, fun a ha b hb q => by simp at hb; subst hb; subst q; exact hq.2.1 ha⟩
  have hd5 : ∀ u ∈ D ++ [v], u <= 5 /\ ∀ c ∈ chl pa u, c ∈ D ++ [v] := fun u hu => by
    rcases List.mem_append.mp hu with hu | hu
    . exact ⟨(S.d5 u hu).1, fun c hc => List.mem_append_left _ ((S.d5 u hu).2 c hc)⟩
    . have : u = v := by simpa using hu
      subst this
      exact ⟨hq.1, fun c hc => List.mem_append_left _ (hq.2.2 c hc)⟩
  have hq5 : ∀ u ∈ Q, u <= 5 /\ u ∉ D ++ [v] /\ ∀ c ∈ chl pa u, c ∈ D ++ [v] := fun u hu => by
    have h1 := S.q5 u (.tail _ hu)
    refine ⟨h1.1, ?_, fun c hc => List.mem_append_left _ (h1.2.2 c hc)⟩
    intro h
    rcases List.mem_append.mp h with h | h
    . exact h1.2.1 h
    . have : u = v := by simpa using h
      subst this; exact hqn.1 hu
  rcases suF_six hpa hq.1 with ⟨h0, hs⟩ | ⟨h1, hs⟩
  . refine rwE hs ?_
    have hch : ∀ u, v ∉ chl pa u := fun u hu => by have := (mem_chl.mp hu).1; lia
    have hall : ∀ u, (∀ c ∈ chl pa u, c ∈ D ++ [v]) ↔ ∀ c ∈ chl pa u, c ∈ D := fun u => by
      refine rwB (propext cntN_zero) (rwB (propext cntN_zero) ?_)
      unfold cntN
      rw [flt_not (hch u)]
    refine ⟨hdn, hqn.2, by simpa using S.rn, hd5, hq5, fun u => ?_, fun u hu => ?_⟩
    . rw [List.filter_nil, List.append_nil, S.r5, hall]
      simp only [List.mem_cons, not_or, List.mem_append, List.not_mem_nil, or_false]
      constructor
      . rintro ⟨a, b, c, d⟩; exact ⟨a, ⟨b, c.1⟩, c.2, d⟩
      . rintro ⟨a, b, c, d⟩; exact ⟨a, b.1, ⟨b.2, c⟩, d⟩
    . refine (?_ : updV np v (-2) u = _)
      unfold updV
      by_cases e : u = v
      . subst e; simp
      . refine rwE (if_neg e) (rwE (S.np u hu) ?_)
        simp only [List.mem_cons, List.mem_append, List.not_mem_nil, or_false, e, false_or, or_false]
        unfold cntN
        exact rwE (flt_not (hch u)) rfl
  . refine rwE hs ?_
    have hw := hpa v h1 hq.1
    have hvw : v ∈ chl pa (pa v) := mem_chl.mpr ⟨⟨h1, hq.1⟩, rfl⟩
    have hwD : pa v ∉ D := fun h => hq.2.1 ((S.d5 _ h).2 v hvw)
    have hwQ : pa v ∉ v :: Q := fun h => hq.2.1 ((S.q5 _ h).2.2 v hvw)
    have hwR : pa v ∉ R := fun h => hq.2.1 (((S.r5 _).mp h).2.2.2 v hvw)
    have hnw : np (pa v) = (cntN pa D (pa v) : Int) := by exact rwE (S.np _ (by lia)) (rwE (if_neg hwD) (rwE (if_neg hwQ) rfl))
    have hc1 : cntN pa D (pa v) = cntN pa (D ++ [v]) (pa v) + 1 := flt_one hq.2.1 (chl_nodup pa _) hvw
    have hcu : ∀ u, u ≠ pa v -> cntN pa (D ++ [v]) u = cntN pa D u := fun u hu => flt_not fun h => hu (mem_chl.mp h).2.symm
    have hall : ∀ u, u ≠ pa v -> ((∀ c ∈ chl pa u, c ∈ D ++ [v]) ↔ ∀ c ∈ chl pa u, c ∈ D) := fun u hu => by
      rw [← cntN_zero, ← cntN_zero, hcu u hu]
    have hR' : ∀ u, u ∈ R ++ [pa v].filter (fun w => decide (np w - 1 = 0)) ↔ u ∈ R ∨ (u = pa v /\ cntN pa (D ++ [v]) (pa v) = 0) := fun u => by
      rw [List.mem_append, List.mem_filter]
      simp only [List.mem_cons, List.not_mem_nil, or_false, decide_eq_true_eq]
      constructor
      . rintro (h | ⟨h, h2⟩)
        . exact .inl h
        . subst h; exact .inr ⟨rfl, by lia⟩
      . rintro (h | ⟨h, h2⟩)
        . exact .inl h
        . subst h; exact .inr ⟨rfl, by lia⟩
    refine ⟨hdn, hqn.2, ?_, hd5, hq5, fun u => ?_, fun u hu => ?_⟩
    . refine rwE (propext List.nodup_append) ?_
      refine ⟨S.rn, List.Pairwise.filter _ (by simp), fun a ha b hb q => ?_⟩
      have : b = pa v := by simpa using (List.mem_filter.mp hb).1
      subst this; subst q; exact hwR ha
    . rw [hR', S.r5]
      by_cases hu : u = pa v
      . subst hu
        simp only [List.mem_cons, not_or] at hwQ
        constructor
        . rintro (⟨a, b, c, d⟩ | ⟨_, d⟩)
          . exact absurd (d v hvw) hq.2.1
          . exact ⟨by lia, by simp [hwD, hwQ.1], hwQ.2, cntN_zero.mp d⟩
        . rintro ⟨a, b, c, d⟩; exact .inr ⟨rfl, cntN_zero.mpr d⟩
      . refine rwE (propext (hall u hu)) ?_
        simp only [List.mem_cons, not_or, List.mem_append, List.not_mem_nil, or_false, hu, false_and]
        constructor
        . rintro ⟨a, b, c, d⟩; exact ⟨a, ⟨b, c.1⟩, c.2, d⟩
        . rintro ⟨a, b, c, d⟩; exact ⟨a, b.1, ⟨b.2, c⟩, d⟩
    . refine (?_ : updV (updV np v (-2)) (pa v) (np (pa v) - 1) u = _)
      unfold updV
      by_cases hu2 : u = pa v
      . subst hu2
        simp only [List.mem_cons, not_or] at hwQ
        refine rwE (if_pos rfl) (rwE (if_neg (by simp [hwD, hwQ.1])) (rwE (if_neg hwQ.2) (rwE hnw ?_)))
        lia
      . refine rwE (if_neg hu2) ?_
        by_cases e : u = v
        . subst e; simp
        . refine rwE (if_neg e) (rwE (S.np u hu) (rwE (hcu u hu2) ?_))
          simp only [List.mem_cons, List.mem_append, List.not_mem_nil, or_false, e, false_or]
structure Snt (pa : Nat -> Nat) (s : Nat -> List Nat) (j : Nat -> Nat) (D sn : List Nat) : Prop where
  nd : sn.Nodup
  mem : ∀ c, c ∈ sn ↔ taken pa s j c = true /\ pa c ∈ D
theorem Snt.len {pa : Nat -> Nat} {s : Nat -> List Nat} {j : Nat -> Nat} {D sn : List Nat} (S : Snt pa s j D sn) : sn.length <= 6 := len6 S.nd fun c hc => by
  have := ((S.mem c).mp hc).1
  unfold taken at this
  simp at this; lia
theorem Snt.add {pa : Nat -> Nat} {W : Nat -> Int} {lim : Int} {gl : Nat -> Int} {s : Nat -> List Nat} {j : Nat -> Nat} (G : Gr pa W lim gl s j) {D sn : List Nat} {v : Nat} (S : Snt pa s j D sn) (hv : v <= 5) (hD : v ∉ D) : Snt pa s j (D ++ [v]) (sn ++ (s v).take (j v)) := by
  have hp := G.s_perm hv
  have hm : ∀ c, c ∈ (s v).take (j v) ↔ taken pa s j c = true /\ pa c = v := fun c => by
    constructor
    . intro h
      have hcs := List.mem_of_mem_take h
      exact ⟨by refine rwE (taken_iff G hv hcs) ?_; simpa using h, (mem_chl.mp (hp.mem_iff.mp hcs)).2⟩
    . rintro ⟨h1, h2⟩
      unfold taken at h1
      rw [h2] at h1
      simp at h1
      exact h1.2
  refine ⟨?_, fun c => ?_⟩
  . refine rwE (propext List.nodup_append) ?_
    refine ⟨S.nd, (hp.nodup_iff.mpr (chl_nodup pa v)).sublist (List.take_sublist _ _), fun a ha b hb q => ?_⟩
    subst q
    have h1 := ((S.mem a).mp ha).2
    rw [((hm a).mp hb).2] at h1
    exact hD h1
  . refine rwE (propext (List.mem_append ..)) (rwE (propext (S.mem ..)) (rwE (propext (hm ..)) (rwE (propext (List.mem_append ..)) (rwE (propext (List.mem_singleton ..)) ?_))))
    constructor
    . rintro (⟨a, b⟩ | ⟨a, b⟩)
      . exact ⟨a, .inl b⟩
      . exact ⟨a, .inr b⟩
    . rintro ⟨a, b | b⟩
      . exact .inl ⟨a, b⟩
      . exact .inr ⟨a, b⟩
theorem assignT3 {fe : FE} {x y z : Str} {px py pz p : Pos} {k n : Nat} {a b e : AV} {st st' : St} (hn : st.hp[n]? = some (.tup [a, b, e])) (hx : fe.names.lookup x = some .local) (hy : fe.names.lookup y = some .local) (hz : putName fe z e ⟨st.hp, (y, b) :: (x, a) :: st.lc⟩ = some st') : assignPlain fe (.Tuple [.Name x px, .Name y py, .Name z pz] k p) (.obj n) st = some st' := by
  have hx' : putName fe x a st = some ⟨st.hp, (x, a) :: st.lc⟩ := by unfold putName; exact rwE hx rfl
  have hy' : putName fe y b ⟨st.hp, (x, a) :: st.lc⟩ = some ⟨st.hp, (y, b) :: (x, a) :: st.lc⟩ := by unfold putName; exact rwE hy rfl
  unfold assignPlain
  simp only [hn, assignNames, hx', hy', hz, Option.bind_some]
inductive InvQ (pa : Nat -> Nat) (s : Nat -> List Nat) (j : Nat -> Nat) (h0 : Hp) (b : Nat) (gl : Nat -> Int) (T : Nat -> WT) (A : SAd) (ks : List Nat) (r t : Nat) (R : List Nat) (n g wd : Nat) (lim : Int) (its : List It) (st : St) : Prop
  | mk (D sn Q R' : List Nat) (np : Nat -> Int) (hp : Hp) (lc : Loc) (hi : its = letIts Q) (e : st = ⟨hp, lc⟩) (K : Pk h0 b gl T D sn hp) (S : Srt (h0.length + 1) b A ks np (suF pa 6) r R' (n : Int) (D.length : Nat) hp) (hl : D.length + Q.length = n) (X : Stt pa D Q R' np) (N : Snt pa s j D sn) (ht : hp[t]? = some (.tup (lets R)))
    (l1 : lc.lookup ("waits" : Str) = some (.obj g)) (l2 : lc.lookup ("weights" : Str) = some (.obj wd)) (l3 : lc.lookup ("limit" : Str) = some (.int lim)) (l4 : lc.lookup ("sorter" : Str) = some (.obj A.s)) (l5 : lc.lookup ("sent" : Str) = some (.obj b)) (l6 : lc.lookup ("contents" : Str) = some (.obj (b + 1)))
inductive InvK (pa : Nat -> Nat) (s : Nat -> List Nat) (j : Nat -> Nat) (h0 : Hp) (b : Nat) (gl : Nat -> Int) (T : Nat -> WT) (A : SAd) (ks : List Nat) (r g wd : Nat) (lim : Int) (m : Nat) (st : St) : Prop
  | mk (D sn R : List Nat) (np : Nat -> Int) (hp : Hp) (lc : Loc) (hm : m = 6 - D.length) (e : st = ⟨hp, lc⟩) (K : Pk h0 b gl T D sn hp) (S : Srt (h0.length + 1) b A ks np (suF pa 6) r R (D.length : Nat) (D.length : Nat) hp) (X : Stt pa D [] R np) (N : Snt pa s j D sn)
    (l1 : lc.lookup ("waits" : Str) = some (.obj g)) (l2 : lc.lookup ("weights" : Str) = some (.obj wd)) (l3 : lc.lookup ("limit" : Str) = some (.int lim)) (l4 : lc.lookup ("sorter" : Str) = some (.obj A.s)) (l5 : lc.lookup ("sent" : Str) = some (.obj b)) (l6 : lc.lookup ("contents" : Str) = some (.obj (b + 1)))
section
variable {d b g wd r : Nat} {h0 hp : Hp} {wl : Nat -> Nat} {pa : Nat -> Nat} {W : Nat -> Int} {lim : Int} {gl : Nat -> Int} {s : Nat -> List Nat} {j : Nat -> Nat} {T : Nat -> WT} {D sn : List Nat} {A : SAd} {ks : List Nat} {np : Nat -> Int} {R : List Nat} {lc : Loc} {P : Fl -> St -> Prop}
theorem packed_turn (G : Gr pa W lim gl s j) (hT : Tr W s j T) (hW : W5 W) (hg : h0[g]? = some (.dict (dictOf (fun v => .obj (wl v)) [0, 1, 2, 3, 4, 5]))) (hw : ∀ v, v <= 5 -> h0[wl v]? = some (.list (lets (chl pa v)))) (hwd : h0[wd]? = some (.dict (dictOf (intD W) [0, 1, 2, 3, 4, 5])))
    (hks : ∀ v, v ∈ ks ↔ v <= 5) (hsu : ∀ v ∈ ks, suF pa 6 v = [] ∨ ∃ w, suF pa 6 v = [w] /\ w < v /\ w ∈ ks) (hR : 0 < R.length) (K : Pk h0 b gl T D sn hp) (S : Srt (h0.length + 1) b A ks np (suF pa 6) r R (D.length : Nat) (D.length : Nat) hp) (X : Stt pa D [] R np) (N : Snt pa s j D sn)
    (l1 : lc.lookup ("waits" : Str) = some (.obj g)) (l2 : lc.lookup ("weights" : Str) = some (.obj wd)) (l3 : lc.lookup ("limit" : Str) = some (.int lim)) (l4 : lc.lookup ("sorter" : Str) = some (.obj A.s)) (l5 : lc.lookup ("sent" : Str) = some (.obj b)) (l6 : lc.lookup ("contents" : Str) = some (.obj (b + 1))) :
    EXS (pkFE h0.length (d + 4)) (inB fdPacked.body 3) ⟨hp, lc⟩ (Turn (InvK pa s j h0 b gl T A ks r g wd lim) (6 - D.length) P) := by
  have hR6 := len6 X.rn fun v hv => ((X.r5 v).mp hv).1
  refine EXS.cons (EX.for (SRC.gen (EV.callM (by kernel_rfl) rfl (ED.loc (by decide) (by kernel_rfl) (.hyp l4)) (mr_srt (a := 150) (by kernel_rfl) rfl (by kernel_rfl) S.S.hs S.S.hd) EDS.nil (ready_sound (d := d + 3) S hR6 (fun v hv => (hks v).mpr ((X.r5 v).mp hv).1) fun t hp2 S4 E4 ht => ⟨_, src_tup ht (by refine rwE (lets_len ..) ?_; exact Nat.le_trans hR6 (by decide)), ?_⟩))))
  have K4 : Pk h0 b gl T D sn hp2 := ⟨fun n o hn ho => E4.out n o (.inl (Nat.lt_succ_of_lt hn)) (K.low n o hn ho), E4.out _ _ (.inl (Nat.lt_succ_self _)) K.cel, E4.out _ _ (.inr (Nat.le_refl _)) K.snt, E4.out _ _ (.inr (Nat.le_succ _)) K.con, E4.out _ _ (.inr (Nat.le_add_right _ _)) K.lds⟩
  have X4 := X.ready
  clear K S X
  refine FORL.inv (InvQ pa s j h0 b gl T A ks r t R (D.length + R.length) g wd lim) (fun st hI => ?_) (fun it r0 st hI => ?_)
    ⟨D, sn, R, [], _, hp2, lc, lets_its R, rfl, K4, by refine rwE (Int.natCast_add ..) ?_; exact S4, rfl, X4, N, ht, l1, l2, l3, l4, l5, l6⟩
  . clear K4 S4 X4 N ht l1 l2 l3 l4 l5 l6
    obtain ⟨D', sn', Q, R', np', hp', lc', hits, rfl, K', S', hl', X', N', ht', l1, l2, l3, l4, l5, l6⟩ := hI
    have : Q = [] := by cases Q with | nil => rfl | cons a b => cases hits
    subst this
    have hD6 := len6 X'.dn fun v hv => (X'.d5 v hv).1
    rw [List.length_nil, Nat.add_zero] at hl'
    rw [← hl'] at S'
    refine ⟨src_keep ht', ?_⟩
    exact EXS.nil (Turn.next (k1 := 6 - D'.length) (by omega) ⟨D', sn', R', np', hp', lc', rfl, rfl, K', S', X', N', l1, l2, l3, l4, l5, l6⟩)
  . clear K4 S4 X4 N ht l1 l2 l3 l4 l5 l6
    obtain ⟨D', sn', Q, R', np', hp', lc', hits, rfl, K', S', hl', X', N', ht', l1, l2, l3, l4, l5, l6⟩ := hI
    cases Q with
    | nil => cases hits
    | cons v Q =>
      injection hits with q1 q2
      subst q1 q2
      have hq := X'.q5 v (.head _)
      have hvk := (hks v).mpr hq.1
      refine FT.mk (src_keep ht') (assignLoc (by kernel_rfl)) ?_
      refine pk_body (b := b) (d := d) (lc := ("place", .str (letter v)) :: lc') G hT hW hg hw hwd K' S' (Nat.lt_succ_self _) (Nat.le_refl _) hq.1 hq.2.1 hq.2.2 X'.dn (fun k hk => (X'.d5 k hk).1) (Nat.le_trans N'.len (by decide)) (len6 X'.rn fun v hv => ((X'.r5 v).mp hv).1) hvk (by exact rwE (X'.np v hq.1) (rwE (if_neg hq.2.1) (rwE (if_pos (.head _)) rfl))) (hsu v hvk) l1 l2 l3 l4 l5 l6 (by kernel_rfl) fun hp5 lc5 K5 S5 tk5 m1 m2 m3 m4 m5 m6 => ?_
      have e : ((D' ++ [v]).length : Nat) = D'.length + 1 := List.length_append
      rw [List.length_cons] at hl'
      exact ⟨D' ++ [v], _, Q, _, _, hp5, lc5, rfl, rfl, K5, by refine rwE e ?_; exact S5, by refine rwE e ?_; lia, X'.done G.hpa, N'.add G hq.1 hq.2.1, tk5 _ _ ht', m1, m2, m3, m4, m5, m6⟩
end
theorem item_a_at {h : Hp} {n : Nat} {f : Nat -> AV} {l : List Nat} (hn : h[n]? = some (.dict (dictOf f l))) (h0 : 0 ∈ l) : ITEM (.obj n) (.str "a") h (f 0) := by
  refine rwE letter_a ?_; exact item_dict hn h0
theorem sent_perm {pa : Nat -> Nat} {W : Nat -> Int} {lim : Int} {gl : Nat -> Int} {s : Nat -> List Nat} {j : Nat -> Nat} {D sn : List Nat} (G : Gr pa W lim gl s j) (N : Snt pa s j D sn) (hall : ∀ v, v <= 5 -> v ∈ D) : sn.Perm ([1, 2, 3, 4, 5].filter (taken pa s j)) := by
  refine rwE (propext (List.perm_ext_iff_of_nodup N.nd (List.Pairwise.filter _ (by decide)))) ?_
  intro c
  refine rwE (propext (N.mem ..)) (rwE (propext (List.mem_filter ..)) ?_)
  constructor
  . rintro ⟨h1, _⟩
    refine ⟨?_, h1⟩
    unfold taken at h1
    simp at h1
    exact five_mem h1.1.1 h1.1.2
  . rintro ⟨h1, h2⟩
    refine ⟨h2, hall _ ?_⟩
    have : 1 <= c /\ c <= 5 := by simp at h1; lia
    have := G.hpa c this.1 this.2
    lia
theorem packed_loop {d b g wd r : Nat} {h0 hp : Hp} {wl : Nat -> Nat} {pa : Nat -> Nat} {W : Nat -> Int} {lim : Int} {gl : Nat -> Int} {s : Nat -> List Nat} {j : Nat -> Nat} {T : Nat -> WT} {A : SAd} {ks R : List Nat} {np : Nat -> Int} {lc : Loc} (G : Gr pa W lim gl s j) (hT : Tr W s j T) (hW : W5 W) (hg : h0[g]? = some (.dict (dictOf (fun v => .obj (wl v)) [0, 1, 2, 3, 4, 5]))) (hw : ∀ v, v <= 5 -> h0[wl v]? = some (.list (lets (chl pa v)))) (hwd : h0[wd]? = some (.dict (dictOf (intD W) [0, 1, 2, 3, 4, 5])))
    (hks : ∀ v, v ∈ ks ↔ v <= 5) (hsu : ∀ v ∈ ks, suF pa 6 v = [] ∨ ∃ w, suF pa 6 v = [w] /\ w < v /\ w ∈ ks) (K : Pk h0 b gl T [] [] hp) (S : Srt (h0.length + 1) b A ks np (suF pa 6) r R 0 0 hp) (X : Stt pa [] [] R np)
    (l1 : lc.lookup ("waits" : Str) = some (.obj g)) (l2 : lc.lookup ("weights" : Str) = some (.obj wd)) (l3 : lc.lookup ("limit" : Str) = some (.int lim)) (l4 : lc.lookup ("sorter" : Str) = some (.obj A.s)) (l5 : lc.lookup ("sent" : Str) = some (.obj b)) (l6 : lc.lookup ("contents" : Str) = some (.obj (b + 1)))
    {P : AV -> Hp -> Prop} (hP : ∀ rr sn h', (∀ (n : Nat) (o : AO), h0[n]? = some o -> h'[n]? = some o) -> h0.length <= rr -> h'[rr]? = some (.list ((sn ++ [0]).map fun c => .str (SL (T c).words))) -> sn.Perm ([1, 2, 3, 4, 5].filter (taken pa s j)) -> P (.obj rr) h') :
    EXS (pkFE h0.length (d + 4)) (fdPacked.body.drop 3) ⟨hp, lc⟩ (retP P) := by
  apply DS.while
  refine WHILE.inv (InvK pa s j h0 b gl T A ks r g wd lim) (fun m st hI => ?_) (k := 6) ⟨[], [], R, np, hp, lc, rfl, rfl, K, S, X, ⟨.nil, fun c => by simp⟩, l1, l2, l3, l4, l5, l6⟩
  clear K S X l1 l2 l3 l4 l5 l6
  obtain ⟨D, sn, R, np, hp, lc, rfl, rfl, K, S, X, N, l1, l2, l3, l4, l5, l6⟩ := hI
  refine TR.value rfl (EV.callM (by kernel_rfl) rfl (ED.loc (by decide) (by kernel_rfl) (.hyp l4)) (mr_srt (a := 157) (by kernel_rfl) rfl (by kernel_rfl) S.S.hs S.S.hd) EDS.nil (active_sound (d := d + 3) S (len6 X.rn fun v hv => ((X.r5 v).mp hv).1) ⟨_, TRU.bool, ?_⟩))
  rcases Nat.eq_zero_or_pos R.length with hR | hR
  . rw [if_neg (by lia)]
    cases List.length_eq_zero_iff.mp hR
    have hall := X.stop G.hpa
    apply EXS.nil
    walk_at "mr"
    exact item_a_at K.con (hall 0 (Nat.zero_le _))
    walk_at "mr"
    exact cat_list (oldAt K.snt) lastAt (by refine rwE (List.length_map ..) ?_; exact Nat.le_trans (Nat.succ_le_succ N.len) (by decide))
    refine hP _ sn _ (fun n o ho => oldAt (oldAt (K.low n o (List.getElem?_eq_some_iff.mp ho).1 ho))) ?_ ?_ (sent_perm G N hall)
    . have := (List.getElem?_eq_some_iff.mp K.cel).1
      refine rwE List.length_append ?_; lia
    . refine rwE List.map_append ?_; exact lastAt
  . rw [if_pos (by simp; intro q; rw [q] at hR; exact absurd hR (Nat.lt_irrefl 0))]
    exact packed_turn G hT hW hg hw hwd hks hsu hR K S X N l1 l2 l3 l4 l5 l6
theorem packed_sound {d g wd : Nat} {h0 : Hp} {wl : Nat -> Nat} {pa : Nat -> Nat} {W : Nat -> Int} {lim : Int} {gl : Nat -> Int} {s : Nat -> List Nat} {j : Nat -> Nat} {T : Nat -> WT}
    (G : Gr pa W lim gl s j) (hT : Tr W s j T) (hW : W5 W) (hg : h0[g]? = some (.dict (dictOf (fun v => .obj (wl v)) [0, 1, 2, 3, 4, 5]))) (hw : ∀ v, v <= 5 -> h0[wl v]? = some (.list (lets (chl pa v)))) (hwd : h0[wd]? = some (.dict (dictOf (intD W) [0, 1, 2, 3, 4, 5])))
    {P : AV -> Hp -> Prop} (hP : ∀ rr sn h', (∀ (n : Nat) (o : AO), h0[n]? = some o -> h'[n]? = some o) -> h0.length <= rr -> h'[rr]? = some (.list ((sn ++ [0]).map fun c => .str (SL (T c).words))) -> sn.Perm ([1, 2, 3, 4, 5].filter (taken pa s j)) -> P (.obj rr) h') : CALL (d + 5) fdPacked [.obj g, .obj wd, .int lim] h0 P := by
  have hlt : ∀ {n : Nat} {o : AO}, h0[n]? = some o -> n < h0.length := fun {n o} h => (List.getElem?_eq_some_iff.mp h).1
  refine CALL.intro (binds := [("waits", .obj g), ("weights", .obj wd), ("limit", .int lim)]) (h1 := h0) (st1 := ⟨h0 ++ [.cell none], [("limit", .int lim), ("weights", .obj wd), ("waits", .obj g)]⟩) (by kernel_rfl) (by kernel_rfl) ?_
  have hlt : ∀ {n : Nat} {o : AO}, h0[n]? = some o -> n < h0.length := fun {n o} h => (List.getElem?_eq_some_iff.mp h).1
  refine (?_ : EXS (pkFE h0.length (d + 4)) _ _ _)
  have hL1 : (h0 ++ [AO.cell none]).length = h0.length + 1 := List.length_append
  apply DS.nameF rfl (by decide) (by kernel_rfl) Glob.TopologicalSorter (by walk_at "mok") (by kernel_rfl)
  walk_at "mr"
  refine CALLV.sorter rfl (init_sound (d := d) (g := g) (wl := wl) (pa := pa) (oldAt hg) (fun v hv => oldAt (hw v hv)) fun A ks h1 hA S1 hk6 E1 => ⟨rfl, ?_⟩)
  refine rwB hA ?_
  rw [hL1] at S1 E1
  walk_at "mr"
  exact mr_srt (a := 143) (by kernel_rfl) rfl (by kernel_rfl) S1.hs S1.hd
  walk_at "mr"
  have hsu : ∀ v ∈ ks, suF pa 6 v = [] ∨ ∃ w, suF pa 6 v = [w] /\ w < v /\ w ∈ ks := fun v hv => by
    have hv5 := S1.h6 v hv
    rcases suF_six G.hpa hv5 with ⟨_, h⟩ | ⟨h1, h⟩
    . exact .inl h
    . have := G.hpa v h1 hv5
      exact .inr ⟨pa v, h, this, hk6 _ (Nat.le_trans (Nat.le_of_lt ‹_›) ‹_›)⟩
  have hks : ∀ v, v ∈ ks ↔ v <= 5 := fun v => ⟨S1.h6 v, hk6 v⟩
  have hnd := S1.hk
  refine prep_sound (d := d + 2) S1 hsu fun r h2 S2 E2 => ?_
  have hlo2 : h0.length < h2.length := by have := E2.len; have := E1.len; rw [hL1] at this; exact Nat.lt_of_lt_of_le ‹_› ‹_›
  have hlow : ∀ (n : Nat) (o : AO), h0[n]? = some o -> h2[n]? = some o := fun n o ho => E2.low n o (Nat.lt_succ_of_lt (hlt ho)) (E1.low n o (Nat.lt_succ_of_lt (hlt ho)) (oldAt ho))
  have hcel : h2[h0.length]? = some (.cell none) := E2.low _ _ (Nat.lt_succ_self _) (E1.low _ _ (Nat.lt_succ_self _) lastAt)
  clear S1 E1 E2
  have K3 : Pk h0 h2.length gl T [] [] ((h2 ++ [AO.list [], AO.dict [], AO.dict [], AO.tup [AV.obj h2.length, AV.obj (h2.length + 1), AV.obj (h2.length + 2)]]).set h0.length (.cell (some (.obj (h2.length + 2))))) :=
    ⟨fun n o hn ho => by refine rwE (List.getElem?_set_ne (Nat.ne_of_gt hn)) ?_; exact oldAt (hlow n o ho), getSet (oldAt hcel), keepAt (beyond (i := 0)) (oldAt hcel) (by intro q; cases q), keepAt (beyond (i := 1)) (oldAt hcel) (by intro q; cases q), keepAt (beyond (i := 2)) (oldAt hcel) (by intro q; cases q)⟩
  have S3 : Srt (h0.length + 1) h2.length A ks (npF pa 6) (suF pa 6) r (ks.filter fun k => decide (npF pa 6 k = 0)) 0 0 ((h2 ++ [AO.list [], AO.dict [], AO.dict [], AO.tup [AV.obj h2.length, AV.obj (h2.length + 1), AV.obj (h2.length + 2)]]).set h0.length (.cell (some (.obj (h2.length + 2))))) := S2.keep fun n o hn z9 hx => by refine rwE (List.getElem?_set_ne (Nat.ne_of_lt hn)) ?_; exact oldAt hx
  have e1 : (h2 ++ [AO.list []]).length = h2.length + 1 := List.length_append
  have e2 : (h2 ++ [AO.list []] ++ [AO.dict []]).length = h2.length + 2 := by refine rwE List.length_append (rwE e1 ?_); rfl
  have hcel4 := oldAt (r := [AO.list [], AO.dict [], AO.dict [], AO.tup [AV.obj h2.length, AV.obj (h2.length + 1), AV.obj (h2.length + 2)]]) hcel
  apply DS.unpack (by kernel_rfl)
  walk_at "mr"
  refine rwE e1 (rwE e2 (rwE List.length_append (rwE e2 ?_)))
  simp only [List.append_assoc]
  refine assignT3 (n := h2.length + 3) (beyond (i := 3)) (by kernel_rfl) (by kernel_rfl) (putCell (c := h0.length) (by kernel_rfl) (by kernel_rfl) hcel4)
  exact packed_loop G hT hW hg hw hwd hks hsu K3 S3 (Stt.start hnd hks) (by kernel_rfl) (by kernel_rfl) (by kernel_rfl) (by kernel_rfl) (by kernel_rfl) (by kernel_rfl) hP
noncomputable def insAll (x : Nat) : List Nat -> List (List Nat)
  | [] => [[x]]
  | y :: r => (x :: y :: r) :: (insAll x r).map (y :: ·)
noncomputable def pmAll : List Nat -> List (List Nat)
  | [] => [[]]
  | x :: r => (pmAll r).flatMap (insAll x)
theorem mem_ins {x : Nat} {b : List Nat} : ∀ a : List Nat, a ++ x :: b ∈ insAll x (a ++ b)
  | [] => by cases b <;> exact .head _
  | y :: r => .tail _ (List.mem_map.mpr ⟨_, mem_ins r, rfl⟩)
theorem mem_pm : ∀ {m l : List Nat}, l.Perm m -> l ∈ pmAll m
  | [], l, h => by refine rwE h.eq_nil ?_; exact .head _
  | x :: r, l, h => by
    (refine xEE (List.append_of_mem (h.mem_iff.mpr (.head _))) fun a b hz2 => ?_; subst hz2)
    have h2 : (a ++ b).Perm r := (List.perm_middle.symm.trans h).cons_inv
    exact List.mem_flatMap.mpr ⟨_, mem_pm h2, mem_ins a⟩
noncomputable def ltP (p : List Nat) (i j : Nat) : Bool := match p[i]?, p[j]? with
  | some a, some b => decide (a < b)
  | none, some _ => true
  | _, none => false
noncomputable def chkS (p : List Nat) : Bool := decide ((kasRun (ltP p) (W.kas_sort 6)).toList.map (fun i => p[i]?) = [some 0, some 1, some 2, some 3, some 4, some 5])
theorem chkS_all : (pmAll [0, 1, 2, 3, 4, 5]).all chkS = true := by decide +kernel
theorem strLt_nil {x : Str} : strLt x "" = false := by
  unfold strLt
  refine rwE (propext decide_eq_false_iff_not) ?_
  exact List.not_lt_nil _
theorem strLt_nil2 {b : Nat} : strLt "" (letter b) = true := by
  unfold strLt
  refine rwE decide_eq_true_eq ?_
  refine (?_ : ([] : List Nat) < [97 + b])
  exact List.nil_lt_cons _ _
theorem sort_rows {ps : List Nat} (hp : ps.Perm [0, 1, 2, 3, 4, 5]) (ad : Nat -> AV) : sortRows (ps.map fun v => (letter v, ad v)) = [0, 1, 2, 3, 4, 5].map ad := by
  have hc := List.all_eq_true.mp chkS_all ps (mem_pm hp)
  unfold chkS at hc
  rw [decide_eq_true_eq] at hc
  have hg : ∀ i, (ps.map fun v => (letter v, ad v)).getD i ("", .none) = match ps[i]? with | some v => (letter v, ad v) | none => ("", .none) := fun i => by
    rw [List.getD, List.getElem?_map]
    cases ps[i]? <;> rfl
  have hlt : (fun i j => strLt ((ps.map fun v => (letter v, ad v)).getD i ("", .none)).1 ((ps.map fun v => (letter v, ad v)).getD j ("", .none)).1) = ltP ps := by
    funext i j
    refine rwE (hg ..) (rwE (hg ..) ?_)
    unfold ltP
    cases ps[i]? <;> cases ps[j]? <;> dsimp only
    . exact strLt_nil
    . exact strLt_nil2
    . exact strLt_nil
    . exact strLt_let
  unfold sortRows
  refine rwE hlt ?_
  have h2 : (kasRun (ltP ps) (W.kas_sort 6)).toList.map (fun i => ((ps.map fun v => (letter v, ad v)).getD i ("", .none)).2) = ((kasRun (ltP ps) (W.kas_sort 6)).toList.map (fun i => ps[i]?)).map fun o => (match o with | some v => ad v | none => .none : AV) := by
    refine rwE List.map_map ?_
    refine List.map_congr_left fun i z9 => ?_
    refine rwE (hg ..) ?_
    refine (?_ : _ = (match ps[i]? with | some v => ad v | none => .none : AV))
    cases ps[i]? <;> rfl
  refine rwE h2 (rwE hc ?_)
  rfl
theorem Rows.split {h : Hp} {ρ : Nat -> Nat × Str × Nat} : ∀ {ps : List Nat} {vs : List AV}, Rows h vs (ps.map ρ) -> ps.Nodup -> ∃ ad : Nat -> AV, vs = ps.map ad /\ ∀ v ∈ ps, ∃ n, ad v = .obj n /\ h[n]? = some (.tup [.str (SL [(ρ v).1]), .str (ρ v).2.1, .int (ρ v).2.2])
  | [], vs, hr, _ => by
    cases hr
    exact ⟨fun z9 => .none, rfl, by simp⟩
  | p :: ps, vs, hr, hn => by
    rw [List.nodup_cons] at hn
    rw [List.map_cons] at hr
    generalize hρ : ρ p = q at hr
    cases hr with
    | @cons n c host w us rs h1 h2 =>
      refine xEA (Rows.split h2 hn.2) fun ad e1 e2 => ?_
      refine ⟨fun k => if k = p then .obj n else ad k, ?_, fun v hv => ?_⟩
      . refine rwE List.map_cons (rwE (if_pos rfl) (rwE e1 ?_))
        congr 1
        refine List.map_congr_left fun k hk => ?_
        rw [if_neg]
        intro q; subst q; exact hn.1 hk
      . rcases List.mem_cons.mp hv with rfl | hv
        . exact ⟨n, if_pos rfl, by refine rwE (hρ) ?_; exact h1⟩
        . refine xEA (e2 v hv) fun m e3 e4 => ?_
          refine ⟨m, ?_, e4⟩
          have hvp : v ≠ p := fun q => hn.1 (q ▸ hv)
          try dsimp only
          exact rwE (if_neg hvp) (rwE e3 rfl)
theorem rowsOf_map {h : Hp} {ad : Nat -> AV} {ps : List Nat} (hp : ∀ v ∈ ps, ∃ n host w, ad v = .obj n /\ h[n]? = some (.tup [.str (letter v), .str host, .int w])) : RowsOf h (ps.map ad) (ps.map fun v => (letter v, ad v)) := by
  induction ps with
  | nil => exact .nil
  | cons p r ih =>
    refine xEEEA (hp p (.head _)) fun n host w e1 e2 => ?_
    refine rwE List.map_cons (rwE List.map_cons (rwE e1 ?_))
    exact .cons e2 (ih fun v hv => hp v (.tail _ hv))
theorem eqTups_map {h : Hp} {f g : Nat -> AV} {l : List Nat} (hl : ∀ v ∈ l, ∃ i j xs, f v = .obj i /\ g v = .obj j /\ h[i]? = some (.tup xs) /\ h[j]? = some (.tup xs) /\ Leaves xs) : EqTups h (l.map f) (l.map g) := by
  induction l with
  | nil => exact .nil
  | cons x r ih =>
    obtain ⟨i, j, xs, h1, h2, h3, h4, h5⟩ := hl x (.head _)
    refine rwE List.map_cons (rwE List.map_cons (rwE h1 (rwE h2 ?_)))
    exact .cons h3 h4 h5 (ih fun v hv => hl v (.tail _ hv))
theorem letter_ok {v : Nat} (hv : v <= 5) : PyData.strOk (letter v) = true := by
  rcases (by lia : v = 0 ∨ v = 1 ∨ v = 2 ∨ v = 3 ∨ v = 4 ∨ v = 5) with rfl | rfl | rfl | rfl | rfl | rfl <;> kernel_rfl
theorem LOOPC.indM {fe : FE} {e : Expr} {a : Nat} {s : Src} {P : St -> Prop} {g g' : Comprehension} {m : List Comprehension} (I : List It -> St -> Prop) (nil : ∀ st, I [] st -> kept s st.hp = true /\ P st)
    (cons : ∀ i r st, I (i :: r) st -> kept s st.hp = true /\ ∃ st1, assignIt fe g.target i st = some st1 /\ IFS fe g.ifs st1 fun b st2 => if b then SRC fe g'.iter st2 fun s' st3 => LOOPC fe e (g' :: m) a s' s'.items ⟨freeze s' st3.hp, st3.lc⟩ fun st4 => I r ⟨thaw s' st4.hp, st4.lc⟩ else I r st2) :
    ∀ its st, I its st -> LOOPC fe e (g :: g' :: m) a s its st P
  | [], st, h => LOOPC.nil (nil st h).1 (nil st h).2
  | i :: r, st, h => by
    refine xAEA (cons i r st h) fun hk st1 e1 h2 => ?_
    refine LOOPC.cons hk ⟨st1, e1, IFS.mono h2 fun b st2 h2 => ?_⟩
    cases b with
    | true => exact SRC.mono h2 fun s' st3 h3 => LOOPC.mono h3 fun st4 h4 => LOOPC.indM I nil cons r _ h4
    | false => exact LOOPC.indM I nil cons r st2 h2
theorem pickA_len {xs : List AV} {lo hi st : Option Int} (h : 0 < st.getD 1) : (pickA xs lo hi st).length <= xs.length := by
  unfold pickA
  refine Nat.le_trans (List.length_filterMap_le _ _) ?_
  refine sliceRange_length_le _ _ _ _ (fun z9 => ?_) (fun hc => absurd h hc)
  unfold sliceBounds
  try dsimp only
  refine rwE (if_pos h) (rwE (if_pos h) ?_)
  constructor
  . cases lo with
    | none => exact Int.le_refl _
    | some i => dsimp only; refine rwE (if_pos h) ?_; exact Int.le_max_left _ _
  . cases hi with
    | none => exact Int.le_refl _
    | some i => dsimp only; refine rwE (if_pos h) ?_; omega
theorem pickA_ints (l : List Int) (lo hi st : Option Int) : ∃ l' : List Int, pickA (l.map .int) lo hi st = l'.map .int := by
  unfold pickA
  generalize sliceRange _ _ _ = r
  refine ⟨r.filterMap (l[·]?), ?_⟩
  refine rwE List.map_filterMap ?_
  congr 1
  funext i
  exact rwE (List.getElem?_map) rfl
theorem slice_list {h : Hp} {n : Nat} {xs : List AV} {l u st : AV} {lo hi sp : Option Int} (hn : h[n]? = some (.list xs)) (hz : xs.length <= 1000) (h1 : partOf l = some lo) (h2 : partOf u = some hi) (h3 : partOf st = some sp) (hs : sp ≠ some 0) : SLC (.obj n) l u st h (.obj h.length) (h ++ [.list (pickA xs lo hi sp)]) := SLC.list hn h1 h2 h3 hs hz
theorem slice_flist {h : Hp} {n : Nat} {xs : List AV} {l u st : AV} {lo hi sp : Option Int} (hn : h[n]? = some (.flist xs)) (hz : xs.length <= 1000) (h1 : partOf l = some lo) (h2 : partOf u = some hi) (h3 : partOf st = some sp) (hs : sp ≠ some 0) : SLC (.obj n) l u st h (.obj h.length) (h ++ [.list (pickA xs lo hi sp)]) := SLC.flist hn h1 h2 h3 hs hz
theorem int_int {i : Int} {h : Hp} : CAL (.type "int") [.int i] h (.int i) h := CAL.intInt
theorem mul_int {x y : Int} {h : Hp} (hx : x.natAbs <= 1000) : BIN .Mult (.int x) (.int y) h (.int (x * y)) h := BIN.mul hx
theorem strsOf_map (l : List Str) : strsOf (l.map .str) = some l := by
  induction l with
  | nil => rfl
  | cons x r ih => simp [strsOf, ih]
theorem in_list {h : Hp} {n : Nat} {x : Str} {l : List Str} (hn : h[n]? = some (.list (l.map .str))) : CMP .In (.str x) (.obj n) h (decide (x ∈ l)) := CMP.inList hn (strsOf_map l)
noncomputable def lawB : List Stmt := lawFd.body.drop 7
noncomputable def lawFE : FE := ⟨lawFd.scope.names, [("heads", 4), ("over", 3), ("weights", 2), ("cells", 1)], 99, true⟩
noncomputable def Tol (T : Nat -> WT) (m : Nat) (h : Hp) (ps : List (Nat × Nat)) : Prop := ∀ p ∈ ps, m <= p.1 /\ ∃ vs, h[p.1]? = some (.list vs) /\ Rows h vs ((T p.2).rows (SL []))
theorem Tol.mono {T : Nat -> WT} {m : Nat} {h h' : Hp} {ps : List (Nat × Nat)} (x : Tol T m h ps) (k1 : ∀ (n : Nat) (xs : List AV), m <= n -> h[n]? = some (AO.list xs) -> h'[n]? = some (AO.list xs)) (k2 : ∀ (n : Nat) (xs : List AV), h[n]? = some (AO.tup xs) -> h'[n]? = some (AO.tup xs)) : Tol T m h' ps := fun p hp => by
  refine xAEA (x p hp) fun a vs b c => ?_
  exact ⟨a, vs, k1 _ _ a b, c.mono k2⟩
noncomputable def rwO (pa : Nat -> Nat) (W : Nat -> Int) (s : Nat -> List Nat) (j : Nat -> Nat) (v : Nat) : AO := .tup [.str (letter v), .str (hostOf pa s j v), .int (W v)]
theorem sorted_call {h : Hp} {n : Nat} {ps : List Nat} {ad : Nat -> AV} (hp : ps.Perm [0, 1, 2, 3, 4, 5]) (hn : h[n]? = some (.list (ps.map ad))) (hr : ∀ v ∈ ps, ∃ n host w, ad v = .obj n /\ h[n]? = some (.tup [.str (letter v), .str host, .int w])) :
    CAL (.builtin "sorted") [.obj n] h (.obj h.length) (h ++ [.list ([0, 1, 2, 3, 4, 5].map ad)]) := by
  refine rwB (sort_rows hp ad) ?_
  refine CAL.sorted hn (rowsOf_map hr) (by refine rwE (List.length_map ..) (rwE (hp.length_eq ..) ?_); rfl) ?_
  refine rwE List.map_map ?_
  have : ps.Nodup := hp.nodup_iff.mpr (by decide)
  unfold List.Nodup at this ⊢
  refine rwE (propext List.pairwise_map) ?_
  exact this.imp fun hne q => hne (letter_inj q)
theorem ne_lists {h : Hp} {i k : Nat} {xs ys : List AV} (hi : h[i]? = some (.list xs)) (hk : h[k]? = some (.list ys)) (he : EqTups h xs ys) : CMP .NotEq (.obj i) (.obj k) h false := CMP.neLists hi hk he
theorem rw_eq {h : Hp} {pa : Nat -> Nat} {W : Nat -> Int} {s : Nat -> List Nat} {j : Nat -> Nat} {v n m : Nat} (hv : v <= 5) (hpa : ∀ c, 1 <= c -> c <= 5 -> pa c < c) (hw : 0 <= W v) (hn : h[n]? = some (.tup [.str (SL [(rowOfP pa W s j v).1]), .str (rowOfP pa W s j v).2.1, .int (rowOfP pa W s j v).2.2])) (hm : h[m]? = some (rwO pa W s j v)) : ∃ xs, h[n]? = some (.tup xs) /\ h[m]? = some (.tup xs) /\ Leaves xs := by
  have h1 : PyData.strOk (hostOf pa s j v) = true := by
    unfold hostOf
    by_cases hc : v = 0 ∨ taken pa s j v = true
    . refine rwE (if_pos hc) ?_; kernel_rfl
    . refine rwE (if_neg hc) ?_
      have : 1 <= v := by
        rcases Nat.eq_zero_or_pos v with h | h
        . exact absurd (.inl h) hc
        . exact h
      have := hpa v this hv
      exact letter_ok (Nat.le_trans (Nat.le_of_lt ‹_›) ‹_›)
  refine ⟨_, hn, ?_, .str (letter_ok hv) (.str h1 (.int .nil))⟩
  refine rwE hm ?_
  refine (?_ : some (AO.tup [.str (letter v), .str (hostOf pa s j v), .int (W v)]) = some (.tup [.str (letter v), .str (hostOf pa s j v), .int ((W v).toNat : Int)]))
  exact rwE (Int.toNat_of_nonneg hw) rfl
theorem itemV_last {h : Hp} {n : Nat} {xs : List AV} {v : AV} (hn : h[n]? = some (.list (xs ++ [v]))) (hz : xs.length <= 1000) : ITEM (.obj n) (.int (-1)) h v := ITEM.last hn (by refine rwE List.length_append ?_; exact Nat.le_trans (Nat.succ_le_succ hz) (by decide)) (by simp)
theorem flt_len2 (b : Nat -> Bool) : ([1, 2, 3, 4, 5].filter b).length = (b 1).toNat + (b 2).toNat + (b 3).toNat + (b 4).toNat + (b 5).toNat := by
  refine rwE (flt_cons ..) (rwE (flt_cons ..) (rwE (flt_cons ..) (rwE (flt_cons ..) (rwE (flt_cons ..) (rwE (List.filter_nil ..) (rwE (List.length_nil ..) ?_))))))
  lia
theorem eq_tup2 {h : Hp} {i k : Nat} {a b : Int} (hi : h[i]? = some (.tup [.int a, .int b])) (hk : h[k]? = some (.tup [.int a, .int b])) : CMP .Eq (.obj i) (.obj k) h true := CMP.eqTup hi hk (.int (.int .nil))
structure FB (o wd X : Nat) (pa : Nat -> Nat) (W : Nat -> Int) (T : Nat -> WT) (ps : List (Nat × Nat)) (H : Hp) : Prop where
  c2 : H[2]? = some (.cell (some (.obj wd)))
  c3 : H[3]? = some (.cell (some (.obj o)))
  ho : H[o]? = some (.dict (dictOf (strD pa) [1, 2, 3, 4, 5]))
  hwd : H[wd]? = some (.dict (dictOf (intD W) [0, 1, 2, 3, 4, 5]))
  hX : H[X]? = some (.list (ps.map fun p => .obj p.1))
  tol : Tol T (X + 1) H ps
theorem FB.ext {o wd X : Nat} {pa : Nat -> Nat} {W : Nat -> Int} {T : Nat -> WT} {ps : List (Nat × Nat)} {H H' : Hp} (F : FB o wd X pa W T ps H) (k : ∀ (n : Nat) (x : AO), x ≠ .cell none -> H[n]? = some x -> H'[n]? = some x) : FB o wd X pa W T ps H' :=
  ⟨k _ _ (by intro q; cases q) F.c2, k _ _ (by intro q; cases q) F.c3, k _ _ (by intro q; cases q) F.ho, k _ _ (by intro q; cases q) F.hwd, k _ _ (by intro q; cases q) F.hX, F.tol.mono (fun n xs z9 hx => k _ _ (by intro q; cases q) hx) fun n xs hx => k _ _ (by intro q; cases q) hx⟩
theorem FB.app {o wd X : Nat} {pa : Nat -> Nat} {W : Nat -> Int} {T : Nat -> WT} {ps : List (Nat × Nat)} {H m : Hp} (F : FB o wd X pa W T ps H) : FB o wd X pa W T ps (H ++ m) := F.ext fun z9 z9 z9 hx => oldAt hx
theorem CTurn.listE {fe : FE} {e t elt : Expr} {gs : List Comprehension} {sc : Scope} {pos : Pos} {n : Nat} {it : It} {Q : Hp -> Prop} {st st1 : St} {asy : Nat} (q : assignIt fe t it st = some st1) (x : EV fe elt st1 fun v st2 => ∃ xs, st2.hp[n]? = some (.list xs) /\ xs.length <= 1000 /\ Q (st2.hp.set n (.list (xs ++ [v])))) : CTurn fe (.ListComp elt gs sc pos) n ⟨t, e, [], asy⟩ it Q st :=
  ⟨st1, q, IFS.nil (P := fun b st2 => if b then EMIT fe _ n st2 (fun st3 => Q st3.hp) else Q st2.hp) (EMIT.list x)⟩
inductive InvL (T : Nat -> WT) (h1 : Hp) (cs : List Nat) (its : List It) (hp : Hp) : Prop
  | mk (ps : List (Nat × Nat)) (td : List Nat) (e : ps.map Prod.snd ++ td = cs) (hi : its = td.map fun c => It.one (.str (SL (T c).words))) (low : ∀ (n : Nat) (o : AO), n < h1.length -> h1[n]? = some o -> hp[n]? = some o) (hX : hp[h1.length]? = some (.list (ps.map fun p => .obj p.1))) (tol : Tol T (h1.length + 1) hp ps)
theorem size_32 {pa : Nat -> Nat} {W : Nat -> Int} {lim : Int} {gl : Nat -> Int} {s : Nat -> List Nat} {j : Nat -> Nat} {T : Nat -> WT} (G : Gr pa W lim gl s j) (hT : Tr W s j T) {c : Nat} (hc : c <= 5) : (T c).size <= 32 := by
  have := size_le G hT c hc
  have h2 : (2 : Nat) ^ (5 - c) <= 2 ^ 5 := Nat.pow_le_pow_right (by decide) (Nat.sub_le _ _)
  exact Nat.le_trans this (Nat.le_trans h2 (by decide))
section
variable {g wd o X : Nat} {wl : Nat -> Nat} {pa : Nat -> Nat} {W : Nat -> Int} {lim : Int} {gl : Nat -> Int} {s : Nat -> List Nat} {j : Nat -> Nat} {T : Nat -> WT} {hp H : Hp} {lc : Loc} {P : Fl -> St -> Prop} {ps : List (Nat × Nat)}
theorem lw_told (G : Gr pa W lim gl s j) (hT : Tr W s j T) (hW : W5 W) (hg : hp[g]? = some (.dict (dictOf (fun v => .obj (wl v)) [0, 1, 2, 3, 4, 5]))) (hw : ∀ v, v <= 5 -> hp[wl v]? = some (.list (lets (chl pa v)))) (hwd : hp[wd]? = some (.dict (dictOf (intD W) [0, 1, 2, 3, 4, 5])))
    (ho : hp[o]? = some (.dict (dictOf (strD pa) [1, 2, 3, 4, 5]))) (c2 : hp[2]? = some (.cell (some (.obj wd)))) (c3 : hp[3]? = some (.cell (some (.obj o)))) (c4 : hp[4]? = some (.cell none)) (l1 : lc.lookup ("waits" : Str) = some (.obj g)) (l2 : lc.lookup ("limit" : Str) = some (.int lim))
    (k : ∀ H X ps sn, FB o wd X pa W T ps H -> H[4]? = some (.cell none) -> ps.map Prod.snd = sn ++ [0] -> sn.Perm ([1, 2, 3, 4, 5].filter (taken pa s j)) -> EXS lawFE (lawB.drop 1) ⟨H, ("told", .obj X) :: lc⟩ P) : EXS lawFE lawB ⟨hp, lc⟩ P := by
  refine EXS.cons (EX.assignC (EVC.list (by kernel_rfl) (by kernel_rfl) (SRC.gen (EV.callF rfl (by decide) (by kernel_rfl) Glob.law_packed (by walk_at "mok") (h := hp) (lc := lc) (vs := [.obj g, .obj wd, .int lim]) ?_ (CALLV.fn (a := 225) rfl (packed_sound (d := 94) G hT hW hg hw hwd fun rr sn h1 low1 hrr hlist hsn => ?_))))))
  . walk_at "mr"
    apply (ED.cel)
    exact c2
    walk_at "mr"
  have hsl : sn.length <= 5 := by refine rwE hsn.length_eq ?_; exact List.length_filter_le _ _
  have hcl : (sn ++ [0]).length <= 6 := by refine rwE List.length_append ?_; exact Nat.succ_le_succ hsl
  have hc5 : ∀ c ∈ sn ++ [0], c <= 5 := fun c hc => by
    rcases List.mem_append.mp hc with hc | hc
    . exact ((by decide : ∀ c ∈ [1, 2, 3, 4, 5], c <= 5) c (List.mem_filter.mp (hsn.mem_iff.mp hc)).1)
    . refine rwE (List.mem_singleton.mp hc) ?_; decide
  have hrlt : rr < h1.length := (List.getElem?_eq_some_iff.mp hlist).1
  have fin := fun H X ps => k H X ps sn
  refine ⟨_, src_list hlist (by refine rwE (List.length_map ..) ?_; exact Nat.le_trans hcl (by decide)), [], by kernel_rfl, ?_⟩
  generalize sn ++ [0] = cs at *
  refine LOOPC.idx (InvL T h1 cs) (fun l h hI => ?_) (fun it l h lc2 hI => ?_) (fun h lc2 hI => ?_) ⟨[], cs, rfl, by refine rwE List.map_map ?_; rfl, fun n o z9 hx => oldAt hx, lastAt, fun p hp => by cases hp⟩
  . obtain ⟨ps, td, e, hi, low, hX, tol⟩ := hI
    exact src_keep (low _ _ hrlt hlist)
  . obtain ⟨ps, td, e, hi, low, hX, tol⟩ := hI
    cases td with
    | nil => cases hi
    | cons c td =>
      injection hi with q1 q2
      subst q1 q2
      have hc := hc5 c (by refine rwB e ?_; simp)
      have hz : (ps.map fun p => AV.obj p.1).length <= 1000 := by
        have := congrArg List.length e
        simp at this ⊢; lia
      have hXl : h1.length < h.length := (List.getElem?_eq_some_iff.mp hX).1
      refine CTurn.listE (assignLoc (by kernel_rfl)) (EV.callF rfl (by decide) (by kernel_rfl) Glob.law_told (by walk_at "mok") (vs := [.str (SL (T c).words), .str (SL [])]) (h := h) (lc := ("words", .str (SL (T c).words)) :: lc2) ?_ (CALLV.fn (a := 232) rfl (told_sound 5 (T c) (by have := height_le G hT c hc; lia) 92 (tree_ok G hT hW c hc) (Nat.le_trans (words_6000 G hT hc) (by decide)) (Nat.le_trans (size_32 G hT hc) (by decide)) _ _ _ fun r more vs hv hr hrows => ?_)))
      . walk_at "mr"
        exact ED.str
        walk_at "mr"
      have k1 : ∀ (n : Nat) (xs : List AV), h1.length + 1 <= n -> (h ++ more)[n]? = some (AO.list xs) -> ((h ++ more).set h1.length (.list ((ps.map fun p => AV.obj p.1) ++ [.obj r])))[n]? = some (AO.list xs) := fun n xs hn hx => by refine rwE (List.getElem?_set_ne (Nat.ne_of_lt hn)) ?_; exact hx
      have k2 : ∀ (n : Nat) (xs : List AV), (h ++ more)[n]? = some (AO.tup xs) -> ((h ++ more).set h1.length (.list ((ps.map fun p => AV.obj p.1) ++ [.obj r])))[n]? = some (AO.tup xs) := fun n xs hx => keepAt hx (oldAt hX) (by intro q; cases q)
      refine ⟨_, oldAt hX, hz, ps ++ [(r, c)], td, by refine rwB e ?_; simp, rfl, fun n o hn hx => ?_, by refine rwE List.map_append ?_; exact getSet (oldAt hX), fun p hp => ?_⟩
      . refine rwE (List.getElem?_set_ne (Nat.ne_of_gt hn)) ?_; exact oldAt (low n o hn hx)
      . rcases List.mem_append.mp hp with hp | hp
        . exact ((tol.mono (fun n xs z9 hx => oldAt hx) (fun n xs hx => oldAt hx)).mono k1 k2) p hp
        . refine rwE (List.mem_singleton.mp hp) ?_
          exact ⟨Nat.lt_of_lt_of_le hXl hr, vs, k1 _ _ (Nat.lt_of_lt_of_le hXl hr) hv, hrows.mono k2⟩
  . obtain ⟨ps, td, e, hi, low, hX, tol⟩ := hI
    have : td = [] := by cases td with | nil => rfl | cons a b => cases hi
    subst this
    rw [List.append_nil] at e
    have lowH : ∀ (n : Nat) (o : AO), hp[n]? = some o -> h[n]? = some o := fun n o hx => low n o (List.getElem?_eq_some_iff.mp (low1 n o hx)).1 (low1 n o hx)
    exact ASGC.mk rfl (fin h h1.length ps ⟨lowH _ _ c2, lowH _ _ c3, lowH _ _ ho, lowH _ _ hwd, hX, tol⟩ (lowH _ _ c4) e hsn)
theorem first_row (hT : Tr W s j T) {c : Nat} (hc : c <= 5) {h : Hp} {vs : List AV} (R : Rows h vs ((T c).rows (SL []))) : ∃ n host w, vs[0]? = some (.obj n) /\ h[n]? = some (.tup [.str (letter c), .str host, .int w]) := by
  rw [rows_eq hT hc] at R
  cases R with
  | cons hn _ => exact ⟨_, _, _, rfl, hn⟩
theorem lw_heads (hT : Tr W s j T) (F : FB o wd X pa W T ps H) (c4 : H[4]? = some (.cell none)) (h5 : ∀ p ∈ ps, p.2 <= 5 /\ (T p.2).size <= 32) (hz : ps.length <= 6) (l : lc.lookup ("told" : Str) = some (.obj X))
    (k : ∀ H Y, FB o wd X pa W T ps H -> H[4]? = some (.cell (some (.obj Y))) -> H[Y]? = some (.list (ps.map fun p => .str (letter p.2))) -> EXS lawFE (lawB.drop 2) ⟨H, lc⟩ P) : EXS lawFE (lawB.drop 1) ⟨H, lc⟩ P := by
  have c4' := oldAt (r := [.list (ps.map fun p => .str (letter p.2))]) c4
  refine DS.assignCC (c := 4) (by kernel_rfl) (by kernel_rfl) (EDC.map ps (fun p => .one (.obj p.1)) (fun p => .str (letter p.2)) (cs := []) (by kernel_rfl) (by kernel_rfl) (fun z9 => rfl) (SD.gen (ED.loc (by decide) (by kernel_rfl) (.hyp l)) (src_list F.hX (by refine rwE (List.length_map ..) ?_; exact Nat.le_trans hz (by decide)))) rfl (src_keep F.hX) (by refine rwE List.map_map ?_; rfl) (Nat.le_trans hz (by decide)) fun p hp xs => ?_) c4' ?_
  . refine xAEA (F.tol p hp) fun z9 vs hv R => ?_
    refine xEEEA (first_row hT (h5 p hp).1 R) fun n host w e1 e2 => ?_
    have hl : vs.length <= 1000 := by refine rwE (R.length ..) (rwE (rows_len ..) ?_); exact Nat.le_trans (h5 p hp).2 (by decide)
    refine Pure1.name (by kernel_rfl) fun lc => ?_
    walk_at "mr"
    exact itemV_list (k := 0) (oldAt hv) hl e1
    walk_at "mr"
    exact itemV_tup (k := 0) (oldAt e2) (Nat.le_of_ble_eq_true rfl) rfl
  . exact k _ H.length (F.app.ext fun n x hx hn => keepAt hn c4' hx) (getSet c4') (keepAt lastAt c4' (by intro q; cases q))
theorem ED.ifT {fe : FE} {t b o : Expr} {pos : Pos} {st st1 st2 : St} {v : AV} (x : TD fe t st true st1) (y : ED fe b st1 v st2) : ED fe (.IfExp t b o pos) st v st2 := fun P p => EV.ifexp (x (P := fun c st1 => if c then EV fe b st1 P else EV fe o st1 P) (y p))
theorem ED.ifF {fe : FE} {t b o : Expr} {pos : Pos} {st st1 st2 : St} {v : AV} (x : TD fe t st false st1) (y : ED fe o st1 v st2) : ED fe (.IfExp t b o pos) st v st2 := fun P p => EV.ifexp (x (P := fun c st1 => if c then EV fe b st1 P else EV fe o st1 P) (y p))
inductive InvRw (pa : Nat -> Nat) (W : Nat -> Int) (s : Nat -> List Nat) (j : Nat -> Nat) (H : Hp) (its : List It) (h : Hp) : Prop
  | mk (i : Nat) (hi : i <= 6) (h2 : its = letIts ((List.range 6).drop i)) (e : h = H ++ .list ((List.range i).map fun v => .obj (H.length + 1 + v)) :: (List.range i).map (rwO pa W s j))
theorem letIts_inj {n : Nat} {l : List It} (h : l = letIts ((List.range 6).drop n)) : (l = [] -> 6 <= n) /\ ∀ i r, l = i :: r -> n < 6 /\ i = .one (.str (letter n)) /\ r = letIts ((List.range 6).drop (n + 1)) := by
  rcases Nat.lt_or_ge n 6 with q | q
  . rw [List.drop_eq_getElem_cons (by simpa using q), List.getElem_range] at h
    exact ⟨fun e => (by rw [h] at e; cases e), fun i r e => by rw [h] at e; injection e with e1 e2; exact ⟨q, e1.symm, e2.symm⟩⟩
  . rw [List.drop_eq_nil_of_le (by simpa using q)] at h
    exact ⟨fun z9 => q, fun i r e => by rw [h] at e; cases e⟩
theorem lw_rows {Y : Nat} (F : FB o wd X pa W T ps H) (c4 : H[4]? = some (.cell (some (.obj Y)))) (hY : H[Y]? = some (.list (ps.map fun p => .str (letter p.2)))) (hm : ∀ v, v <= 5 -> (letter v ∈ ps.map (fun p => letter p.2) ↔ (v = 0 ∨ taken pa s j v = true)))
    (k : ∀ H Z, FB o wd X pa W T ps H -> H[Z]? = some (.list ([0, 1, 2, 3, 4, 5].map fun v => .obj (Z + 1 + v))) -> (∀ v, v < 6 -> H[Z + 1 + v]? = some (rwO pa W s j v)) -> EXS lawFE (lawB.drop 3) ⟨H, ("rows", .obj Z) :: lc⟩ P) : EXS lawFE (lawB.drop 2) ⟨H, lc⟩ P := by
  have hin : ∀ {v : Nat} {h : Hp}, h[Y]? = some (.list (ps.map fun p => .str (letter p.2))) -> CMP .In (.str (letter v)) (.obj Y) h (decide (letter v ∈ ps.map fun p => letter p.2)) := fun {v h} q => in_list (l := ps.map fun p => letter p.2) (by refine rwE q (rwE List.map_map ?_); rfl)
  refine DS.assignC (v := .obj H.length) (h := H ++ .list ((List.range 6).map fun v => .obj (H.length + 1 + v)) :: (List.range 6).map (rwO pa W s j)) (lc := lc) (by kernel_rfl) (fun Q q => ?_) (k _ H.length F.app at_mid fun v hv => ?_)
  . refine EVC.listG (by kernel_rfl) (cs := [("weights", 2), ("over", 3), ("heads", 4)]) (by kernel_rfl) (SD.gen ED.str src_six) rfl ?_
    refine LOOPC.idx (InvRw pa W s j H) (fun l h hI => rfl) (fun it l h lc2 hI => ?_) (fun h lc2 hI => ?_) ⟨0, by decide, rfl, rfl⟩
    . obtain ⟨i, hi, hits, rfl⟩ := hI
      (refine xAA ((letIts_inj hits).2 _ _ rfl) fun hi6 hz1 hz2 => ?_; subst hz1; subst hz2)
      have hi5 := Nat.le_of_lt_succ hi6
      apply CTurn.list (assignLoc (by kernel_rfl)) IFD.nil
      . apply ED.tuple (vs := [.str (letter i), .str (hostOf pa s j i), .int (W i)])
        . walk_at "mr"
          . by_cases hc : letter i ∈ ps.map fun p => letter p.2
            . have e : ("" : Str) = hostOf pa s j i := by unfold hostOf; refine rwE (if_pos ((hm i hi5).mp hc)) ?_; kernel_rfl
              apply ED.ifT
              . walk_at "mr"
                apply (ED.cel)
                exact oldAt c4
                exact CMP.as (hin (oldAt hY)) (decide_eq_true hc)
              . refine rwB e ?_
                exact ED.str
            . have hno := fun q => hc ((hm i hi5).mpr q)
              have e : (.str (hostOf pa s j i) : AV) = strD pa i := by unfold hostOf; refine rwE (if_neg hno) ?_; rfl
              have hi1 : 1 <= i := by
                rcases Nat.eq_zero_or_pos i with h | h
                . exact absurd (.inl h) hno
                . exact h
              apply ED.ifF
              . walk_at "mr"
                apply (ED.cel)
                exact oldAt c4
                exact CMP.as (hin (oldAt hY)) (decide_eq_false hc)
              . refine rwE e ?_
                walk_at "mr"
                apply (ED.cel)
                exact oldAt F.c3
                walk_at "mr"
                exact item_dict (i := i) (oldAt F.ho) (five_mem hi1 hi5)
          . walk_at "mr"
            apply (ED.cel)
            exact oldAt F.c2
            walk_at "mr"
            exact item_dict (i := i) (oldAt F.hwd) (six_mem hi5)
            walk_at "mr"
        . walk_at "mr"
      . exact oldAt at_mid
      . refine rwE (List.length_map ..) (rwE (List.length_range ..) ?_); exact Nat.le_trans ‹_› (by decide)
      . refine ⟨i + 1, hi6, rfl, ?_⟩
        refine rwE set_mid ?_
        have hl : (H ++ AO.list ((List.range i).map fun v => .obj (H.length + 1 + v)) :: (List.range i).map (rwO pa W s j)).length = H.length + 1 + i := by simp; lia
        refine rwE hl (rwE List.range_succ (rwE List.map_append (rwE List.map_append ?_)))
        rfl
    . obtain ⟨i, hi, hits, rfl⟩ := hI
      cases Nat.le_antisymm hi ((letIts_inj hits).1 rfl)
      exact q
  . refine rwE (Nat.add_assoc ..) (rwE (beyond ..) (rwE (Nat.add_comm 1 v ..) (rwE (List.getElem?_cons_succ ..) (rwE (List.getElem?_map ..) (rwE (List.getElem?_range hv ..) ?_)))))
    rfl
inductive InvFl (T : Nat -> WT) (ps : List (Nat × Nat)) (H : Hp) (its : List It) (h : Hp) : Prop
  | mk (dn td : List (Nat × Nat)) (flat : List AV) (e : dn ++ td = ps) (hi : its = td.map fun p => It.one (.obj p.1)) (R : Rows H flat (dn.flatMap fun p => (T p.2).rows (SL []))) (e2 : h = H ++ [.list flat])
inductive InvFp (H : Hp) (flat vs : List AV) (its : List It) (h : Hp) : Prop
  | mk (d t : List AV) (e : d ++ t = vs) (hi : its = t.map It.one) (e2 : h = H ++ [.list (flat ++ d)])
theorem CTurn2 {fe : FE} {c t it0 : Expr} {g' : Comprehension} {m : List Comprehension} {asy n : Nat} {i : It} {st : St} {h1 : Hp} {lc1 : Loc} {s : Src} {Q : St -> Prop} (q : assignIt fe t i st = some ⟨h1, lc1⟩) (x : SD fe g'.iter ⟨h1, lc1⟩ s ⟨h1, lc1⟩) (hf : flatS s = true) (y : LOOPC fe c (g' :: m) n s s.items ⟨h1, lc1⟩ Q) :
    ∃ st1, assignIt fe (Comprehension.mk t it0 [] asy).target i st = some st1 /\ IFS fe (Comprehension.mk t it0 [] asy).ifs st1 fun b st2 => if b then SRC fe g'.iter st2 fun s' st3 => LOOPC fe c (g' :: m) n s' s'.items ⟨freeze s' st3.hp, st3.lc⟩ fun st4 => Q ⟨thaw s' st4.hp, st4.lc⟩ else Q st2 := by
  refine ⟨_, q, IFS.nil ?_⟩
  refine rwE (if_pos rfl) ?_
  refine x ?_
  rw [(flat_fz hf).1, show (fun st4 : St => Q ⟨thaw s st4.hp, st4.lc⟩) = Q by funext st; exact rwE ((flat_fz hf).2) rfl]
  exact y
theorem src_obj {h : Hp} {n : Nat} {xs : List AV} {s : Src} (hn : h[n]? = some (.list xs)) (hz : xs.length <= 1000) (e : s = ⟨.list n, xs.map .one, some (n, .list xs)⟩) : srcOf (.obj n) h = some s := e ▸ src_list hn hz
theorem lw_flat (F : FB o wd X pa W T ps H) (hz : ps.length <= 6) (hs : (ps.flatMap fun p => (T p.2).rows (SL [])).length <= 900) (l : lc.lookup ("told" : Str) = some (.obj X)) {e : Expr} {sc : Scope} {pos p1 p2 p3 p4 p5 : Pos} {a1 a2 : Nat} (he : e = .ListComp (.Name "row" p1) [⟨.Name "parcel" p2, .Name "told" p3, [], a1⟩, ⟨.Name "row" p4, .Name "parcel" p5, [], a2⟩] sc pos)
    (hok : compOk sc [⟨.Name "parcel" p2, .Name "told" p3, [], a1⟩, ⟨.Name "row" p4, .Name "parcel" p5, [], a2⟩] = true) (hsc : sc.names = [((".0" : Str), NameKind.local), ("parcel", .local), ("row", .local)]) {Q : AV -> St -> Prop} (k : ∀ flat, Rows H flat (ps.flatMap fun p => (T p.2).rows (SL [])) -> Q (.obj H.length) ⟨H ++ [.list flat], lc⟩) : EV lawFE e ⟨H, lc⟩ Q := by
  subst he
  have hX := F.hX
  refine EV.comp (EVC.list hok (by refine rwE hsc ?_; kernel_rfl) (SD.gen (ED.loc (by decide) (by kernel_rfl) (.hyp l)) (src_list hX (by refine rwE (List.length_map ..) ?_; exact Nat.le_trans hz (by decide))) ⟨[], by refine rwE hsc ?_; kernel_rfl, ?_⟩))
  have hnc : newCells sc.names (H ++ [AO.list []]) [] = (H ++ [AO.list []], []) := by refine rwE hsc ?_; rfl
  refine (?_ : LOOPC ⟨compNames lawFE sc.names, (newCells sc.names (H ++ [AO.list []]) []).2, lawFE.dep, false⟩ _ _ _ _ _ ⟨(newCells sc.names (H ++ [AO.list []]) []).1, []⟩ _)
  refine rwE hnc ?_
  have hfe : compNames lawFE sc.names = [((".0" : Str), NameKind.local), ("parcel", .local), ("row", .local)] := by refine rwE hsc ?_; kernel_rfl
  refine rwE hfe ?_
  refine LOOPC.indM (fun its st => InvFl T ps H its st.hp) (fun st hI => ?_) (fun it r st hI => ?_) _ _ ⟨[], ps, [], rfl, by refine rwE List.map_map ?_; rfl, .nil, rfl⟩
  . obtain ⟨dn, td, flat, h1, h2, R, h3⟩ := hI
    have : td = [] := by cases td with | nil => rfl | cons a b => cases h2
    subst this
    rw [List.append_nil] at h1
    subst h1
    refine rwE h3 ?_
    exact ⟨src_keep (oldAt hX), k flat R⟩
  . obtain ⟨hp, lc2⟩ := st
    obtain ⟨dn, td, flat, h1, h2, R, rfl⟩ := hI
    cases td with
    | nil => cases h2
    | cons p td =>
      injection h2 with q1 q2
      subst q1 q2
      refine xAEA (F.tol p (by refine rwB h1 ?_; simp)) fun z9 vs hv Rv => ?_
      have hl : flat.length + vs.length <= 900 := by
        refine rwE R.length (rwE Rv.length ?_)
        rw [← h1, List.flatMap_append, List.flatMap_cons, List.length_append, List.length_append] at hs
        lia
      refine ⟨src_keep (oldAt hX), CTurn2 (assignLoc (by kernel_rfl)) (SD.gen (ED.loc (by decide) (by kernel_rfl) .here) (src_list (oldAt hv) (by lia))) rfl ?_⟩
      refine LOOPC.idx (InvFp H flat vs) (fun l h hI => ?_) (fun i l h lc3 hI => ?_) (fun h lc3 hI => ?_) ⟨[], vs, rfl, rfl, by exact rwE (List.append_nil ..) rfl⟩
      . obtain ⟨d, t, e, hi, rfl⟩ := hI
        exact src_keep (oldAt hv)
      . obtain ⟨d, t, e, hi, rfl⟩ := hI
        cases t with
        | nil => cases hi
        | cons y t =>
          injection hi with q1 q2
          subst q1 q2
          refine CTurn.list (assignLoc (by kernel_rfl)) IFD.nil (ED.loc (by decide) (by kernel_rfl) .here) lastAt ?_ ⟨d ++ [y], t, by refine rwB (e ..) (rwE (List.append_assoc ..) ?_); rfl, rfl, by exact rwE (set_last ..) (rwE (List.append_assoc ..) rfl)⟩
          rw [← e, List.length_append] at hl
          refine rwE List.length_append ?_; lia
      . obtain ⟨d, t, e, hi, rfl⟩ := hI
        have : t = [] := by cases t with | nil => rfl | cons a b => cases hi
        subst this
        rw [List.append_nil] at e
        subst e
        exact ⟨dn ++ [p], td, _, by refine rwB (h1 ..) (rwE (List.append_assoc ..) ?_); rfl, rfl, by refine rwE List.flatMap_append ?_; exact R.append (by simpa using Rv), rfl⟩
theorem lw_sorted {Z : Nat} (G : Gr pa W lim gl s j) (F : FB o wd X pa W T ps H) (hz : ps.length <= 6) (hfl : (ps.flatMap fun p => (T p.2).rows (SL [])).Perm ([0, 1, 2, 3, 4, 5].map (rowOfP pa W s j))) (hZ : H[Z]? = some (.list ([0, 1, 2, 3, 4, 5].map fun v => .obj (Z + 1 + v)))) (hrw : ∀ v, v < 6 -> H[Z + 1 + v]? = some (rwO pa W s j v)) (l : lc.lookup ("told" : Str) = some (.obj X)) (l2 : lc.lookup ("rows" : Str) = some (.obj Z))
    (k : ∀ H, FB o wd X pa W T ps H -> EXS lawFE (lawB.drop 4) ⟨H, lc⟩ P) : EXS lawFE (lawB.drop 3) ⟨H, lc⟩ P := by
  have hs : (ps.flatMap fun p => (T p.2).rows (SL [])).length <= 900 := by refine rwE hfl.length_eq ?_; exact Nat.le_of_ble_eq_true rfl
  refine EXS.cons (EX.cond (TR.compare (EV.call (by decide) (by kernel_rfl) Glob.sorted.eq trivial (EVS.cons (lw_flat F hz hs l rfl (by kernel_rfl) rfl fun flat R => ?_) rfl) rfl) rfl))
  refine xEA (perm_map (f := rowOfP pa W s j) hfl rfl) fun qs hps hpp => ?_
  rw [hps] at R
  (refine xEA (R.split (hpp.nodup_iff.mpr (by decide))) fun ad hz1 had => ?_; subst hz1)
  have hp5 : ∀ v ∈ qs, v <= 5 := fun v hv => (by decide : ∀ c ∈ [0, 1, 2, 3, 4, 5], c <= 5) v (hpp.mem_iff.mp hv)
  have hL2 : ∀ v ∈ [0, 1, 2, 3, 4, 5], ∃ i j xs, ad v = .obj i /\ AV.obj (Z + 1 + v) = .obj j /\ (H ++ [AO.list (qs.map ad)] ++ [AO.list ([0, 1, 2, 3, 4, 5].map ad)])[i]? = some (.tup xs) /\ (H ++ [AO.list (qs.map ad)] ++ [AO.list ([0, 1, 2, 3, 4, 5].map ad)])[j]? = some (.tup xs) /\ Leaves xs := fun v hv => by
    have hvp := hpp.mem_iff.mpr hv
    have hv5 := hp5 v hvp
    refine xEA (had v hvp) fun n e1 e2 => ?_
    exact xEAA (rw_eq hv5 G.hpa (by have := (G.w0 v hv5).1; exact Int.le_of_lt ‹_›) (oldAt (oldAt e2)) (oldAt (oldAt (hrw v (Nat.lt_succ_of_le hv5))))) fun xs h1 h2 h3 => ⟨n, _, xs, e1, rfl, h1, h2, h3⟩
  refine EVS.nil (CALLV.builtin trivial ⟨_, _, sorted_call (ps := qs) (ad := ad) hpp lastAt (fun v hv => ?_), EV.ofD (ED.loc (by decide) (by kernel_rfl) (.hyp l2)) ⟨false, ne_lists lastAt (oldAt (oldAt hZ)) (eqTups_map hL2), ?_⟩⟩)
  . refine xEA (had v hv) fun n e1 e2 => ?_
    exact ⟨n, _, _, e1, oldAt e2⟩
  . refine rwE (if_neg (by decide)) ?_
    exact EXS.nil (k _ F.app.app)
theorem Rows.pairs {h : Hp} {vs : List AV} {rs : List (Nat × Str × Nat)} (R : Rows h vs rs) : ∃ l : List (Nat × Nat × Str × Nat), vs = l.map (fun q => .obj q.1) /\ rs = l.map Prod.snd /\ ∀ q ∈ l, h[q.1]? = some (.tup [.str (SL [q.2.1]), .str q.2.2.1, .int q.2.2.2]) := by
  induction R with
  | nil => exact ⟨[], rfl, rfl, fun q hq => by cases hq⟩
  | @cons n c host w vs rs hn _ ih =>
    refine xEAA (ih) fun l e1 e2 e3 => ?_
    refine ⟨(n, c, host, w) :: l, by refine rwE e1 ?_; rfl, by refine rwE e2 ?_; rfl, fun q hq => ?_⟩
    rcases List.mem_cons.mp hq with rfl | hq
    . exact hn
    . exact e3 q hq
inductive InvLd (gl : Nat -> Int) (ps : List (Nat × Nat)) (H : Hp) (its : List It) (h : Hp) : Prop
  | mk (dn td : List (Nat × Nat)) (more : Hp) (e : dn ++ td = ps) (hi : its = td.map fun p => It.one (.obj p.1)) (e2 : h = H ++ .list ((dn.map fun p => gl p.2).map .int) :: more)
theorem lw_loads (G : Gr pa W lim gl s j) (hT : Tr W s j T) (F : FB o wd X pa W T ps H) (hz : ps.length <= 6) (h5 : ∀ p ∈ ps, p.2 <= 5 /\ (T p.2).size <= 32) (l : lc.lookup ("told" : Str) = some (.obj X))
    (k : ∀ H V, FB o wd X pa W T ps H -> H[V]? = some (.list ((ps.map fun p => gl p.2).map .int)) -> EXS lawFE (lawB.drop 5) ⟨H, ("loads", .obj V) :: lc⟩ P) : EXS lawFE (lawB.drop 4) ⟨H, lc⟩ P := by
  have hX := F.hX
  refine EXS.cons (EX.assignC (EVC.listG (by kernel_rfl) (cs := []) (by kernel_rfl) (SD.gen (ED.loc (by decide) (by kernel_rfl) (.hyp l)) (src_list hX (by refine rwE (List.length_map ..) ?_; exact Nat.le_trans hz (by decide)))) rfl ?_))
  refine LOOPC.idx (InvLd gl ps H) (fun l h hI => ?_) (fun i l h lc2 hI => ?_) (fun h lc2 hI => ?_) ⟨[], ps, [], rfl, by refine rwE List.map_map ?_; rfl, rfl⟩
  . obtain ⟨dn, td, more, h1, h2, rfl⟩ := hI
    exact src_keep (oldAt hX)
  . obtain ⟨dn, td, more, h1, h2, rfl⟩ := hI
    cases td with
    | nil => cases h2
    | cons p td =>
      injection h2 with q1 q2
      subst q1 q2
      have hp : p ∈ ps := by refine rwB h1 ?_; simp
      refine xAEA (F.tol p hp) fun z9 vs hv R => ?_
      have hl : vs.length <= 1000 := by refine rwE (R.length ..) (rwE (rows_len ..) ?_); exact Nat.le_trans (h5 p hp).2 (by decide)
      refine xEAA (R.pairs) fun ls e1 e2 e3 => ?_
      have hsum := rows_sum G hT p.2 (h5 p hp).1 (SL [])
      rw [e2, List.map_map] at hsum
      have hm : (ls.map fun q => AV.int q.2.2.2) = (ls.map fun q => (q.2.2.2 : Int)).map .int := by refine rwE List.map_map ?_; rfl
      have hll : ls.length <= 1000 := by rw [e1, List.length_map] at hl; exact hl
      apply CTurn.list (assignLoc (by kernel_rfl)) IFD.nil
      . walk_at "mr"
        . apply ED.ofC
          refine EDC.map ls (fun q => .one (.obj q.1)) (fun q => .int q.2.2.2) (cs := []) (by kernel_rfl) (by kernel_rfl) (fun z9 => rfl) (SD.gen (ED.loc (by decide) (by kernel_rfl) .here) (src_list (oldAt hv) hl)) rfl (src_keep (oldAt hv)) (by refine rwE e1 (rwE List.map_map ?_); rfl) hll fun q hq xs lc3 => ?_
          refine ⟨("weight", .int q.2.2.2) :: ("host", .str q.2.2.1) :: ("place", .str (SL [q.2.1])) :: lc3, assignT3 (k := 0) (p := ⟨260, 29, 260, 48⟩) (oldAt (oldAt (e3 q hq))) (by kernel_rfl) (by kernel_rfl) (by kernel_rfl), ?_⟩
          walk_at "mr"
        walk_at "mr"
        exact sum_ints (l := ls.map fun q => (q.2.2.2 : Int)) (by refine rwB hm ?_; exact lastAt) (by refine rwE (List.length_map ..) ?_; exact hll)
      . exact oldAt at_mid
      . refine rwE (List.length_map ..) (rwE (List.length_map ..) ?_); rw [← h1, List.length_append] at hz; lia
      . refine ⟨dn ++ [p], td, more ++ [.list (ls.map fun q => .int q.2.2.2)], by refine rwB (h1 ..) (rwE (List.append_assoc ..) ?_); rfl, rfl, ?_⟩
        refine rwE set_mid (rwE (show (ls.map fun q => (q.2.2.2 : Int)).sum = gl p.2 from hsum) ?_)
        simp
  . obtain ⟨dn, td, more, h1, h2, rfl⟩ := hI
    have : td = [] := by cases td with | nil => rfl | cons a b => cases h2
    subst this
    rw [List.append_nil] at h1
    subst h1
    exact ASGC.mk rfl (k _ _ F.app at_mid)
theorem lw_end {V : Nat} {sn : List Nat} (G : Gr pa W lim gl s j) (F : FB o wd X pa W T ps H) (hz : ps.length <= 6) (h5 : ∀ p ∈ ps, p.2 <= 5) (hsn : sn.Perm ([1, 2, 3, 4, 5].filter (taken pa s j))) (e : ps.map Prod.snd = sn ++ [0]) (hV : H[V]? = some (.list ((ps.map fun p => gl p.2).map .int))) (l : lc.lookup ("loads" : Str) = some (.obj V)) (l2 : lc.lookup ("limit" : Str) = some (.int lim)) : EXS lawFE (lawB.drop 5) ⟨H, lc⟩ fun f z9 => f = .ret (.bool true) := by
  have hl : (ps.map fun p => gl p.2).length <= 1000 := by refine rwE (List.length_map ..) ?_; exact Nat.le_trans hz (by decide)
  have hg : (ps.map fun p => gl p.2) = sn.map gl ++ [gl 0] := by
    have := congrArg (List.map gl) e
    rw [List.map_map, List.map_append] at this
    exact this
  refine xEA (max_ints (h := H) (by refine rwE hg ?_; simp) hV hl) fun mx e1 e2 => ?_
  have hle : mx <= lim := (e2 lim).mpr fun y hy => by
    (refine xEA (List.mem_map.mp hy) fun p hp hz2 => ?_; subst hz2)
    exact (G.gl_ok p.2 (h5 p hp)).2
  have hlast : ITEM (.obj V) (.int (-1)) H (.int (gl 0)) := by
    rw [hg, List.map_append] at hV
    refine itemV_last (xs := (sn.map gl).map .int) hV ?_
    rw [hg, List.length_append] at hl
    refine rwE (List.length_map ..) ?_
    exact Nat.le_of_succ_le hl
  have hN : (((ps.map fun p => gl p.2).map AV.int).length : Int) = ((j 0 + j 1 + j 2 + j 3 + j 4 + j 5 : Nat) : Int) + 1 := by
    have h1 := taken_cnt G
    have h2 := flt_len2 (taken pa s j)
    rw [← hsn.length_eq] at h2
    refine rwE hg ?_
    simp; lia
  obtain ⟨m1, m2⟩ := best_pair G (N := j 0 + j 1 + j 2 + j 3 + j 4 + j 5) rfl
  rw [← hN] at m1 m2
  refine EXS.cons (EX.ret (EV.boolop (BL.and (EV.ofD (v := .bool true) (st1 := ⟨H, lc⟩) ?_ ⟨true, TRU.bool, BL.one (EV.compare (EV.ofD (v := .obj H.length) (st1 := ⟨H ++ [.tup [.int ((ps.map fun p => gl p.2).map AV.int).length, .int (gl 0)]], lc⟩) ?_ (EV.callF rfl (by decide) (by kernel_rfl) Glob.law_best (by walk_at "mok") (vs := [.obj o, .obj wd, .int lim]) (h := H ++ [.tup [.int ((ps.map fun p => gl p.2).map AV.int).length, .int (gl 0)]]) (lc := lc) ?_ (CALLV.fn (a := 237) rfl (best_sound (d := 98) G.hpa (oldAt F.ho) (oldAt F.hwd) m1 m2 fun r2 more2 hr2 => ⟨true, eq_tup2 (oldAt lastAt) hr2, rfl⟩)))) rfl)⟩))))
  . walk_at "mr"
    exact e1
    walk_at "mr"
    exact cmpLeB (decide_eq_true hle)
  . walk_at "mr"
    exact len_list hV (by refine rwE (List.length_map ..) ?_; exact hl)
    walk_at "mr"
    exact hlast
    walk_at "mr"
  . walk_at "mr"
    apply (ED.cel)
    exact oldAt F.c3
    walk_at "mr"
    apply (ED.cel)
    exact oldAt F.c2
    walk_at "mr"
end
theorem lawB_sound {hp : Hp} {lc : Loc} {g wd o : Nat} {wl : Nat -> Nat} {pa : Nat -> Nat} {W : Nat -> Int} {lim : Int} {gl : Nat -> Int} {s : Nat -> List Nat} {j : Nat -> Nat} {T : Nat -> WT}
    (G : Gr pa W lim gl s j) (hT : Tr W s j T) (hW : W5 W) (hg : hp[g]? = some (.dict (dictOf (fun v => .obj (wl v)) [0, 1, 2, 3, 4, 5]))) (hw : ∀ v, v <= 5 -> hp[wl v]? = some (.list (lets (chl pa v)))) (hwd : hp[wd]? = some (.dict (dictOf (intD W) [0, 1, 2, 3, 4, 5])))
    (ho : hp[o]? = some (.dict (dictOf (strD pa) [1, 2, 3, 4, 5]))) (c2 : hp[2]? = some (.cell (some (.obj wd)))) (c3 : hp[3]? = some (.cell (some (.obj o)))) (c4 : hp[4]? = some (.cell none))
    (l1 : lc.lookup ("waits" : Str) = some (.obj g)) (l2 : lc.lookup ("limit" : Str) = some (.int lim)) : EXS lawFE lawB ⟨hp, lc⟩ fun f z9 => f = .ret (.bool true) := by
  refine lw_told G hT hW hg hw hwd ho c2 c3 c4 l1 l2 fun H X ps sn F c4 e hsn => ?_
  have hz : ps.length <= 6 := by
    have h1 := congrArg List.length e
    have h2 := hsn.length_eq
    have h3 := List.length_filter_le (taken pa s j) [1, 2, 3, 4, 5]
    simp at h1 h3; lia
  have h5 : ∀ p ∈ ps, p.2 <= 5 /\ (T p.2).size <= 32 := fun p hp => by
    have h : p.2 ∈ sn ++ [0] := e ▸ List.mem_map.mpr ⟨p, hp, rfl⟩
    have : p.2 <= 5 := by
      rcases List.mem_append.mp h with hc | hc
      . exact (by decide : ∀ c ∈ [1, 2, 3, 4, 5], c <= 5) _ (List.mem_filter.mp (hsn.mem_iff.mp hc)).1
      . refine rwE (List.mem_singleton.mp hc) ?_; decide
    exact ⟨this, size_32 G hT this⟩
  have hfl := rows_perm G hT hsn
  rw [← e, List.flatMap_map] at hfl
  have hmem : ∀ v, v <= 5 -> (letter v ∈ ps.map (fun p => letter p.2) ↔ (v = 0 ∨ taken pa s j v = true)) := fun v hv => by
    have h0 : ps.map (fun p => letter p.2) = (sn ++ [0]).map letter := by refine rwB e (rwE List.map_map ?_); rfl
    refine rwE h0 (rwE (propext let_mem) (rwE (propext List.mem_append) (rwE (propext hsn.mem_iff) (rwE (propext List.mem_filter) ?_))))
    constructor
    . rintro (h | h)
      . exact .inr h.2
      . exact .inl (List.mem_singleton.mp h)
    . rintro (h | h)
      . exact .inr (h ▸ .head _)
      . refine .inl ⟨?_, h⟩
        have : 1 <= v := by unfold taken at h; simp at h; lia
        exact five_mem this hv
  refine lw_heads hT F c4 h5 hz (by kernel_rfl) fun H Y F c4 hY => ?_
  refine lw_rows F c4 hY hmem fun H Z F hZ hrw => ?_
  refine lw_sorted G F hz hfl hZ hrw (by kernel_rfl) (by kernel_rfl) fun H F => ?_
  refine lw_loads G hT F hz h5 (by kernel_rfl) fun H V F hV => ?_
  exact lw_end G F hz (fun p hp => (h5 p hp).1) hsn e hV (by kernel_rfl) l2
noncomputable def ens (f : Nat -> Int) (i m : Nat) : List It := enumIts i (((List.range m).drop i).map fun k => AV.int (f k))
theorem ens_step (f : Nat -> Int) {i m : Nat} (hi : i < m) : ens f i m = .two (.int i) (.int (f i)) :: ens f (i + 1) m := by
  unfold ens
  refine rwE (List.drop_eq_getElem_cons (by simpa using hi) ..) (rwE (List.getElem_range ..) ?_)
  rfl
theorem ens_end (f : Nat -> Int) {i m : Nat} (hi : ¬ i < m) : ens f i m = [] := by
  unfold ens
  refine rwE (List.drop_eq_nil_of_le (by simp; exact Nat.not_lt.mp ‹_›)) ?_
  rfl
noncomputable def f0 (k : Nat) : Int := [8, 1, 9, 12, 10, 13].getD k 0
theorem list_range {ns : List Int} {m : Nat} (h : ns.length = m) : ns = (List.range m).map fun k => ns.getD k 0 := by
  subst h
  refine List.ext_getElem (by simp) fun i h1 h2 => ?_
  simp [h1]
theorem mod_int {x y : Int} {h : Hp} (hy : 0 < y) : BIN .Mod (.int x) (.int y) h (.int (Int.fmod x y)) h := BIN.mod hy
theorem div_int {x y : Int} {h : Hp} (hy : 0 < y /\ y <= 1000000) : BIN .FloorDiv (.int x) (.int y) h (.int (Int.fdiv x y)) h := BIN.div hy
theorem slice_one (f : Nat -> Int) : pickA ((List.range 6).map fun k => AV.int (f k)) (some 1) none none = (List.range 5).map fun k => AV.int (f (k + 1)) := by kernel_rfl
noncomputable def wOf (n : Nat -> Int) (k : Nat) : Int := 5 * (Int.fmod (n k) 4 + 1)
noncomputable def paOf (n : Nat -> Int) (c : Nat) : Nat := (Int.fmod (Int.fdiv (n c) 4) (c : Int)).toNat
theorem pow_million {h : Hp} : BIN .Pow (.int 10) (.int 6) h (.int 1000000) h := BIN.pow (by decide)
theorem set_cell {hp tl : Hp} {a b b' : AO} : (hp ++ a :: b :: tl).set (hp.length + 1) b' = hp ++ a :: b' :: tl := by
  refine rwE (List.set_append_right _ _ (Nat.le_add_right _ _) ..) (rwE (Nat.add_sub_cancel_left ..) ?_); rfl
theorem at_cell {hp tl : Hp} {a b : AO} : (hp ++ a :: b :: tl)[hp.length + 1]? = some b := by
  refine rwE (List.getElem?_append_right (Nat.le_add_right _ _) ..) (rwE (Nat.add_sub_cancel_left ..) ?_); rfl
theorem cmp_strs {a b : Nat} {h : Hp} : CMP .Eq (.str (letter a)) (.str (letter b)) h (decide (a = b)) := CMP.eqS (by refine rwE (propext decide_eq_decide) ?_; exact ⟨letter_inj, fun q => by exact rwE q rfl⟩)
theorem assignOne {fe : FE} {x : Str} {p : Pos} {v : AV} {st r : St} (h : putName fe x v st = some r) : assignIt fe (.Name x p) (.one v) st = some r := h
theorem EDC.filt {fe : FE} {st : St} {pos : Pos} {h : Hp} {lc : Loc} {t : Expr} {s : Src} {elt it0 : Expr} {sc : Scope} {ifs : List Expr} {cs : List (Str × Nat)} {asy : Nat} (l : List Nat) (i : Nat -> It) (f : Nat -> AV) (p : Nat -> Bool) (hok : compOk sc [⟨t, it0, ifs, asy⟩] = true) (hcs : closure fe sc.names [] = some cs) (hn : ∀ h, newCells sc.names h cs = (h, cs)) (x : SD fe it0 st s ⟨h, lc⟩) (hf : flatS s = true) (hk : kept s h = true) (hi : s.items = l.map i) (hz : l.length <= 1000)
    (step : ∀ x ∈ l, ∀ xs lc, ∃ lc1, assignIt ⟨compNames fe sc.names, cs, fe.dep, false⟩ t (i x) ⟨h ++ [.list xs], lc⟩ = some ⟨h ++ [.list xs], lc1⟩ /\ IFD ⟨compNames fe sc.names, cs, fe.dep, false⟩ ifs ⟨h ++ [.list xs], lc1⟩ (p x) ⟨h ++ [.list xs], lc1⟩ /\ ED ⟨compNames fe sc.names, cs, fe.dep, false⟩ elt ⟨h ++ [.list xs], lc1⟩ (f x) ⟨h ++ [.list xs], lc1⟩) : EDC fe (.ListComp elt [⟨t, it0, ifs, asy⟩] sc pos) st (.obj h.length) ⟨h ++ [.list ((l.filter p).map f)], lc⟩ := fun P q => by
  refine EVC.listG hok hcs x (hn _) ?_
  refine rwE ((flat_fz hf).1) ?_
  refine LOOPC.idx (fun r hp => ∃ d u, d ++ u = l /\ r = u.map i /\ hp = h ++ [.list ((d.filter p).map f)]) (fun r hp hI => ?_) (fun y r hp lc2 hI => ?_) (fun hp lc2 hI => ?_) ⟨[], l, rfl, hi, rfl⟩
  . (refine xEEAA (hI) fun d u z9 z9 hz4 => ?_; subst hz4)
    exact kept_app hk
  . (refine xEEAA (hI) fun d u h1 h2 hz4 => ?_; subst hz4)
    cases u with
    | nil => cases h2
    | cons z u =>
      injection h2 with h2 h3
      subst h2 h3
      refine xEAA (step z (by refine rwB h1 ?_; simp) ((d.filter p).map f) lc2) fun lc1 q e1 e2 => ?_
      cases hp : p z with
      | true =>
        rw [hp] at e1
        refine CTurn.list q e1 e2 lastAt ?_ ⟨d ++ [z], u, by refine rwB h1 ?_; exact List.append_assoc .., rfl, ?_⟩
        . have h3 : (d.filter p).length <= d.length := List.length_filter_le _ _
          refine rwE (List.length_map ..) ?_
          rw [← h1, List.length_append] at hz
          exact Nat.le_trans h3 (Nat.le_trans (Nat.le_add_right _ _) hz)
        . refine rwE (set_last ..) (rwE (List.filter_append ..) (rwE (List.map_append ..) ?_))
          simp [hp]
      | false =>
        rw [hp] at e1
        refine CTurn.no q e1 ⟨d ++ [z], u, by refine rwB h1 ?_; exact List.append_assoc .., rfl, ?_⟩
        refine rwE (List.filter_append ..) ?_
        simp [hp]
  . (refine xEEAA (hI) fun d u h1 h2 hz4 => ?_; subst hz4)
    have : u = [] := by cases u with | nil => rfl | cons a b => cases h2
    subst this
    rw [List.append_nil] at h1
    subst h1
    unfold ThawC
    refine rwE ((flat_fz hf).2) ?_
    exact q
structure C4 (H : Hp) (a b c d : Option AV) : Prop where
  c1 : H[1]? = some (.cell a)
  c2 : H[2]? = some (.cell b)
  c3 : H[3]? = some (.cell c)
  c4 : H[4]? = some (.cell d)
theorem C4.app {H m : Hp} {a b c d : Option AV} (C : C4 H a b c d) : C4 (H ++ m) a b c d := ⟨oldAt C.c1, oldAt C.c2, oldAt C.c3, oldAt C.c4⟩
theorem C4.len {H : Hp} {a b c d : Option AV} (C : C4 H a b c d) : 5 <= H.length := (List.getElem?_eq_some_iff.mp C.c4).1
section
variable {H : Hp} {a b c d x : Option AV}
theorem C4.set1 (C : C4 H a b c d) : C4 (H.set 1 (.cell x)) x b c d := ⟨getSet C.c1, by refine rwE (List.getElem?_set_ne (by decide)) ?_; exact C.c2, by refine rwE (List.getElem?_set_ne (by decide)) ?_; exact C.c3, by refine rwE (List.getElem?_set_ne (by decide)) ?_; exact C.c4⟩
theorem C4.set2 (C : C4 H a b c d) : C4 (H.set 2 (.cell x)) a x c d := ⟨by refine rwE (List.getElem?_set_ne (by decide)) ?_; exact C.c1, getSet C.c2, by refine rwE (List.getElem?_set_ne (by decide)) ?_; exact C.c3, by refine rwE (List.getElem?_set_ne (by decide)) ?_; exact C.c4⟩
theorem C4.set3 (C : C4 H a b c d) : C4 (H.set 3 (.cell x)) a b x d := ⟨by refine rwE (List.getElem?_set_ne (by decide)) ?_; exact C.c1, by refine rwE (List.getElem?_set_ne (by decide)) ?_; exact C.c2, getSet C.c3, by refine rwE (List.getElem?_set_ne (by decide)) ?_; exact C.c4⟩
end
theorem cellNe {H : Hp} {n : Nat} {o : AO} {x : AO} {u : Option AV} (h : H[n]? = some o) (hc : ∀ v, o ≠ .cell v) {k : Nat} (hk : H[k]? = some (.cell u)) : (H.set k x)[n]? = some o := keepAt h hk (hc u)
noncomputable def nums (n : Nat -> Int) : List AV := (List.range 6).map fun k => AV.int (n k)
section
variable {H : Hp} {lc : Loc} {P : Fl -> St -> Prop} {n : Nat -> Int} {p : Nat}
theorem la_weights {a : Option AV} (C : C4 H a none none none) (hn : H[p]? = some (.list (nums n))) (l : lc.lookup ("numbers" : Str) = some (.obj p))
    (k : ∀ H w, C4 H a (some (.obj w)) none none -> H[p]? = some (.list (nums n)) -> H[w]? = some (.dict (dictOf (intD (wOf n)) [0, 1, 2, 3, 4, 5])) -> EXS lawFE (lawFd.body.drop 4) ⟨H, lc⟩ P) : EXS lawFE (lawFd.body.drop 3) ⟨H, lc⟩ P := by
  have C' := C.app (m := [.dict (dictOf (intD (wOf n)) [0, 1, 2, 3, 4, 5])])
  refine DS.assignCC (c := 2) (by kernel_rfl) (by kernel_rfl) (EDC.mapD [0, 1, 2, 3, 4, 5] (fun k => .two (.int (k : Nat)) (.int (n k))) (intD (wOf n)) (cs := []) (by kernel_rfl) (by kernel_rfl) (fun z9 => rfl) (SD.enum (by kernel_rfl) (ED.loc (by decide) (by kernel_rfl) (.hyp l)) hn (Nat.le_of_ble_eq_true rfl)) rfl (src_keep hn) rfl (by decide) (by decide) fun i hi es => ?_) C'.c2 ?_
  . have h5 : i <= 5 := (by decide : ∀ c ∈ [0, 1, 2, 3, 4, 5], c <= 5) i hi
    refine Pure2.two (by kernel_rfl) (by kernel_rfl) fun lc => ⟨?_, ?_⟩
    . walk_at "mr"
      exact at_six h5
    . walk_at "mr"
      exact mod_int (by decide)
      walk_at "mr"
      exact mul_int (by decide)
  . exact k _ H.length C'.set2 (keepAt (oldAt hn) C'.c2 (by intro q; cases q)) (keepAt lastAt C'.c2 (by intro q; cases q))
theorem pa_mod {n : Nat -> Int} {c : Nat} (h : 1 <= c) : Int.fmod (Int.fdiv (n c) 4) (c : Int) = ((paOf n c : Nat) : Int) /\ paOf n c < c := by
  have h0 := Int.fmod_nonneg_of_pos (Int.fdiv (n c) 4) (b := (c : Int)) (Int.ofNat_lt.mpr ‹_›)
  have h1 := Int.fmod_lt_of_pos (Int.fdiv (n c) 4) (b := (c : Int)) (by lia)
  unfold paOf
  omega
theorem modPa {n : Nat -> Int} {c : Nat} {i : Int} {h : Hp} (hc : 1 <= c) (e : i = c) : BIN .Mod (.int (Int.fdiv (n c) 4)) (.int i) h (.int (paOf n c : Nat)) h := by
  have := (pa_mod (n := n) hc).1
  subst e
  exact this ▸ BIN.mod (by lia)
theorem la_over {a : Option AV} {w : Nat} (C : C4 H a (some (.obj w)) none none) (hn : H[p]? = some (.list (nums n))) (hw : H[w]? = some (.dict (dictOf (intD (wOf n)) [0, 1, 2, 3, 4, 5]))) (l : lc.lookup ("numbers" : Str) = some (.obj p))
    (k : ∀ H o, C4 H a (some (.obj w)) (some (.obj o)) none -> H[p]? = some (.list (nums n)) -> H[w]? = some (.dict (dictOf (intD (wOf n)) [0, 1, 2, 3, 4, 5])) -> H[o]? = some (.dict (dictOf (strD (paOf n)) [1, 2, 3, 4, 5])) -> EXS lawFE (lawFd.body.drop 5) ⟨H, lc⟩ P) : EXS lawFE (lawFd.body.drop 4) ⟨H, lc⟩ P := by
  have hs := slice_list (h := H) (l := .int 1) (u := .none) (st := .none) hn (Nat.le_of_ble_eq_true rfl) rfl rfl rfl (by decide)
  rw [show nums n = (List.range 6).map fun k => AV.int (n k) from rfl, slice_one] at hs
  have C' := (C.app (m := [.list ((List.range 5).map fun k => AV.int (n (k + 1)))])).app (m := [.dict (dictOf (strD (paOf n)) [1, 2, 3, 4, 5])])
  refine DS.assignCC (c := 3) (by kernel_rfl) (by kernel_rfl) (EDC.mapD [1, 2, 3, 4, 5] (fun c => .two (.int (c - 1 : Nat)) (.int (n c))) (strD (paOf n)) (cs := []) (by kernel_rfl) (by kernel_rfl) (fun z9 => rfl) (SD.enum (by kernel_rfl) (ED.slice (ED.loc (by decide) (by kernel_rfl) (.hyp l)) (EDO.some ED.int) EDO.none EDO.none hs) lastAt (Nat.le_of_ble_eq_true rfl)) rfl (src_keep lastAt) rfl (by decide) (by decide) fun i hi es => ?_) C'.c3 ?_
  . have h5 : 1 <= i /\ i <= 5 := (by decide : ∀ c ∈ [1, 2, 3, 4, 5], 1 <= c /\ c <= 5) i hi
    have h6 := at_five (k := i - 1) (h := H ++ [.list ((List.range 5).map fun k => AV.int (n (k + 1)))] ++ [AO.dict es]) (by lia)
    rw [Nat.sub_add_cancel h5.1] at h6
    have h7 := (pa_mod (n := n) h5.1).2
    refine Pure2.two (by kernel_rfl) (by kernel_rfl) fun lc => ⟨?_, ?_⟩
    . walk_at "mr"
      exact h6
    . walk_at "mr"
      exact div_int (by decide)
      walk_at "mr"
      exact modPa h5.1 (by lia)
      exact at_six (by lia)
  . exact k _ _ C'.set3 (keepAt (oldAt (oldAt hn)) C'.c3 (by intro q; cases q)) (keepAt (oldAt (oldAt hw)) C'.c3 (by intro q; cases q)) (keepAt lastAt C'.c3 (by intro q; cases q))
inductive InvWa (pa : Nat -> Nat) (H : Hp) (its : List It) (h : Hp) : Prop
  | mk (i : Nat) (u : Option AV) (hi : i <= 6) (h2 : its = letIts ((List.range 6).drop i)) (e : h = H ++ .dict (dictOf (fun v => .obj (H.length + 2 + v)) (List.range i)) :: .cell u :: (List.range i).map (fun v => .list (lets (chl pa v))))
theorem la_waits {a : Option AV} {w o : Nat} {pa : Nat -> Nat} (C : C4 H a (some (.obj w)) (some (.obj o)) none) (hn : H[p]? = some (.list (nums n))) (hw : H[w]? = some (.dict (dictOf (intD (wOf n)) [0, 1, 2, 3, 4, 5]))) (ho : H[o]? = some (.dict (dictOf (strD pa) [1, 2, 3, 4, 5])))
    (k : ∀ H g, C4 H a (some (.obj w)) (some (.obj o)) none -> H[p]? = some (.list (nums n)) -> H[w]? = some (.dict (dictOf (intD (wOf n)) [0, 1, 2, 3, 4, 5])) -> H[o]? = some (.dict (dictOf (strD pa) [1, 2, 3, 4, 5])) -> H[g]? = some (.dict (dictOf (fun v => .obj (g + 2 + v)) [0, 1, 2, 3, 4, 5])) -> (∀ v, v <= 5 -> H[g + 2 + v]? = some (.list (lets (chl pa v)))) -> EXS lawFE (lawFd.body.drop 6) ⟨H, ("waits", .obj g) :: lc⟩ P) : EXS lawFE (lawFd.body.drop 5) ⟨H, lc⟩ P := by
  have hL : (H ++ [AO.dict []]).length = H.length + 1 := List.length_append
  refine EXS.cons (EX.assignC (EVC.dictG (by kernel_rfl) (cs := [("over", 3)]) (cs1 := [("place", H.length + 1), ("over", 3)]) (by kernel_rfl) (SD.gen ED.str src_six) (h1 := H ++ [AO.dict []] ++ [.cell none]) (by refine rwB hL ?_; rfl) ?_))
  refine LOOPC.idx (InvWa pa H) (fun l h hI => rfl) (fun it l h lc2 hI => ?_) (fun h lc2 hI => ?_) ⟨0, none, by decide, rfl, List.append_assoc ..⟩
  . obtain ⟨i, u, hi, hits, rfl⟩ := hI
    (refine xAA ((letIts_inj hits).2 _ _ rfl) fun hi6 hz1 hz2 => ?_; subst hz1; subst hz2)
    have j3 : (H ++ AO.dict (dictOf (fun v => .obj (H.length + 2 + v)) (List.range i)) :: AO.cell (some (.str (letter i))) :: (List.range i).map (fun v => AO.list (lets (chl pa v))))[3]? = _ := oldAt C.c3
    have jo : (H ++ AO.dict (dictOf (fun v => .obj (H.length + 2 + v)) (List.range i)) :: AO.cell (some (.str (letter i))) :: (List.range i).map (fun v => AO.list (lets (chl pa v))))[o]? = _ := oldAt ho
    have jp : (H ++ AO.dict (dictOf (fun v => .obj (H.length + 2 + v)) (List.range i)) :: AO.cell (some (.str (letter i))) :: (List.range i).map (fun v => AO.list (lets (chl pa v))))[H.length + 1]? = some (.cell (some (.str (letter i)))) := at_cell
    have jd : (H ++ AO.dict (dictOf (fun v => .obj (H.length + 2 + v)) (List.range i)) :: AO.cell (some (.str (letter i))) :: (List.range i).map (fun v => AO.list (lets (chl pa v))))[H.length]? = some (.dict (dictOf (fun v => .obj (H.length + 2 + v)) (List.range i))) := at_mid
    have hlen : (H ++ AO.dict (dictOf (fun v => .obj (H.length + 2 + v)) (List.range i)) :: AO.cell (some (.str (letter i))) :: (List.range i).map (fun v => AO.list (lets (chl pa v)))).length = H.length + 2 + i := by simp; lia
    refine CTurn.dict (h := H ++ AO.dict (dictOf (fun v => .obj (H.length + 2 + v)) (List.range i)) :: AO.cell (some (.str (letter i))) :: (List.range i).map (fun v => AO.list (lets (chl pa v)))) (lc := lc2) (x := letter i) (es := dictOf (fun v => .obj (H.length + 2 + v)) (List.range i)) (assignOne (putCell (c := H.length + 1) (by kernel_rfl) (by kernel_rfl) at_cell)) (by refine rwE set_cell ?_; exact IFD.nil) ?_ (ED.ofC (EDC.filt [1, 2, 3, 4, 5] (fun c => .one (.str (letter c))) (fun c => .str (letter c)) (fun c => decide (pa c = i)) (cs := [("place", H.length + 1), ("over", 3)]) (by kernel_rfl) (by kernel_rfl) (fun z9 => rfl) (SD.gen ED.str src_five) rfl rfl rfl (by decide) fun c hc xs lc3 => ?_)) (oldAt jd) (by rw [dictOf, List.length_map, List.length_range]; exact Nat.le_trans ‹_› (by decide)) ?_
    . apply (ED.cel)
      exact jp
    . refine ⟨_, assignLoc (by kernel_rfl), ?_, ?_⟩
      . cases hp : decide (pa c = i) with
        | true =>
          apply IFD.cons _ IFD.nil
          walk_at "mr"
          apply (ED.cel)
          exact oldAt j3
          walk_at "mr"
          exact item_dict (i := c) (oldAt jo) hc
          apply (ED.cel)
          exact oldAt jp
          exact CMP.as cmp_strs hp
        | false =>
          apply IFD.no
          walk_at "mr"
          apply (ED.cel)
          exact oldAt j3
          walk_at "mr"
          exact item_dict (i := c) (oldAt jo) hc
          apply (ED.cel)
          exact oldAt jp
          exact CMP.as cmp_strs hp
      . walk_at "mr"
    . refine ⟨i + 1, some (.str (letter i)), hi6, rfl, ?_⟩
      refine rwE hlen (rwE set_mid (rwE (dictOf_same (f := fun v => .obj (H.length + 2 + v)) (by simp)) (rwE List.range_succ (rwE List.map_append ?_))))
      rfl
  . obtain ⟨i, u, hi, hits, rfl⟩ := hI
    cases Nat.le_antisymm hi ((letIts_inj hits).1 rfl)
    have hwl : ∀ v, v <= 5 -> (H ++ AO.dict (dictOf (fun v => .obj (H.length + 2 + v)) (List.range 6)) :: AO.cell u :: (List.range 6).map (fun v => AO.list (lets (chl pa v))))[H.length + 2 + v]? = some (.list (lets (chl pa v))) := fun v hv => by
      refine rwE (Nat.add_assoc ..) (rwE (beyond ..) (rwE (Nat.add_comm 2 v ..) (rwE (List.getElem?_cons_succ ..) (rwE (List.getElem?_cons_succ ..) (rwE (List.getElem?_map ..) (rwE (List.getElem?_range (Nat.lt_succ_of_le hv) ..) ?_))))))
      rfl
    exact ASGC.mk rfl (k _ _ C.app (oldAt hn) (oldAt hw) (oldAt ho) at_mid hwl)
theorem la_cells {l : List Int} (hl : l.length <= 63) (C : C4 H none none none none) (h0 : H[0]? = some (.flist (l.map .int))) (l1 : lc.lookup ("script" : Str) = some (.obj 0))
    (k : ∀ H q (cl : List Int), C4 H (some (.obj q)) none none none -> H[q]? = some (.list (cl.map .int)) -> cl.length <= 900 -> EXS lawFE (lawFd.body.drop 1) ⟨H, lc⟩ P) : EXS lawFE lawFd.body ⟨H, lc⟩ P := by
  have hs := slice_flist (l := .none) (u := .int 12) (st := .none) h0 (by refine rwE (List.length_map ..) ?_; exact Nat.le_trans hl (by decide)) rfl rfl rfl (by decide)
  obtain ⟨l2, hl2⟩ := pickA_ints l none (some 12) none
  have hz := pickA_len (xs := l.map .int) (lo := none) (hi := some 12) (st := none) (by decide)
  rw [hl2, List.length_map, List.length_map] at hz
  rw [hl2] at hs
  have hz2 := Nat.le_trans hz (Nat.le_trans hl (by decide : 63 <= 900))
  have hz3 := Nat.le_trans hz2 (by decide : 900 <= 1000)
  have C' := (C.app (m := [.list (l2.map .int)])).app (m := [.list (l2.map fun y => .int (Int.fmod y 1000000))])
  refine DS.assignCC (c := 1) (by kernel_rfl) (by kernel_rfl) (EDC.map l2 (fun y => .one (.int y)) (fun y => .int (Int.fmod y 1000000)) (cs := []) (by kernel_rfl) (by kernel_rfl) (fun z9 => rfl) (SD.gen (ED.slice (ED.loc (by decide) (by kernel_rfl) (.hyp l1)) EDO.none (EDO.some ED.int) EDO.none hs) (src_list lastAt (by refine rwE (List.length_map ..) ?_; exact hz3))) rfl (src_keep lastAt) (by refine rwE List.map_map ?_; rfl) hz3 fun y hy xs => ?_) C'.c1 ?_
  . refine Pure1.name (by kernel_rfl) fun lc => ?_
    walk_at "mr"
    exact int_int
    walk_at "mr"
    exact pow_million
    exact mod_int (by decide)
  . refine k _ _ (l2.map fun y => Int.fmod y 1000000) C'.set1 (keepAt ?_ C'.c1 (by intro q; cases q)) (by refine rwE (List.length_map ..) ?_; exact hz2)
    refine rwE List.map_map ?_; exact lastAt
inductive InvNu (E : Hp) (its : List It) (h : Hp) : Prop
  | mk (i : Nat) (ns : List Int) (more : Hp) (hi : i <= 6) (h2 : its = ens f0 i 6) (hl : ns.length = i) (e : h = E ++ .list (ns.map .int) :: more)
theorem la_numbers {q : Nat} {cl : List Int} (C : C4 H (some (.obj q)) none none none) (hc : H[q]? = some (.list (cl.map .int))) (hz : cl.length <= 900)
    (k : ∀ H p f (n : Nat -> Int), C4 H (some (.obj q)) none none none -> H[p]? = some (.list (nums n)) -> EXS lawFE (lawFd.body.drop 3) ⟨H, ("numbers", .obj p) :: ("firsts", .obj f) :: lc⟩ P) : EXS lawFE (lawFd.body.drop 1) ⟨H, lc⟩ P := by
  have hz1 : (cl.map AV.int).length <= 1000 := by refine rwE (List.length_map ..) ?_; exact Nat.le_trans hz (by decide)
  have C' := C.app (m := [.list [.int 8, .int 1, .int 9, .int 12, .int 10, .int 13]])
  have hc' := oldAt (r := [.list [.int 8, .int 1, .int 9, .int 12, .int 10, .int 13]]) hc
  have hf := lastAt (h := H) (o := .list [.int 8, .int 1, .int 9, .int 12, .int 10, .int 13])
  apply DS.assign (by kernel_rfl) rfl
  walk_at "mr"
  generalize H ++ [AO.list [.int 8, .int 1, .int 9, .int 12, .int 10, .int 13]] = E at *
  refine EXS.cons (EX.assignC (EVC.listG (by kernel_rfl) (cs := [("cells", 1)]) (by kernel_rfl) (SD.enum (by kernel_rfl) (ED.loc (by decide) (by kernel_rfl) .here) hf (Nat.le_of_ble_eq_true rfl)) rfl ?_))
  refine LOOPC.idx (InvNu E) (fun l h hI => ?_) (fun it l h lc2 hI => ?_) (fun h lc2 hI => ?_) ⟨0, [], [], by decide, rfl, rfl, rfl⟩
  . obtain ⟨i, ns, more, hi, hits, hl, rfl⟩ := hI
    exact src_keep (oldAt hf)
  . obtain ⟨i, ns, more, hi, hits, hl, rfl⟩ := hI
    have hi6 : i < 6 := by
      rcases Nat.lt_or_ge i 6 with h | h
      . exact h
      . rw [ens_end _ (Nat.not_lt_of_le h)] at hits; cases hits
    rw [ens_step _ hi6] at hits
    injection hits with q1 q2
    subst q1 q2
    have hs := slice_list (h := E ++ AO.list (ns.map .int) :: more) (l := .int i) (u := .none) (st := .int 6) (oldAt hc') hz1 rfl rfl rfl (by decide)
    obtain ⟨l3, hl3⟩ := pickA_ints cl (some i) none (some 6)
    have hl3z := pickA_len (xs := cl.map .int) (lo := some i) (hi := none) (st := some 6) (by decide)
    rw [hl3, List.length_map, List.length_map] at hl3z
    rw [hl3] at hs
    apply CTurn.list (assignTwo (by kernel_rfl) (by kernel_rfl)) IFD.nil
    . walk_at "mr"
      apply (ED.cel)
      exact oldAt C'.c1
      walk_at "mr"
      exact hs
      walk_at "mr"
      exact sum_ints lastAt (Nat.le_trans hl3z (Nat.le_trans hz (by decide)))
      walk_at "mr"
      apply (ED.cel)
      exact oldAt (oldAt C'.c1)
      walk_at "mr"
      exact sum_ints (oldAt (oldAt hc')) (Nat.le_trans hz (by decide))
      exact mul_int (Nat.le_trans ‹_› (by decide))
      walk_at "mr"
    . exact oldAt at_mid
    . refine rwE (List.length_map ..) (rwE (hl ..) ?_); lia
    . refine ⟨i + 1, ns ++ [f0 i + l3.sum + i * cl.sum], more ++ [.list (l3.map .int)], hi6, rfl, by refine rwE List.length_append (rwE hl ?_); rfl, ?_⟩
      refine rwE set_mid (rwE List.map_append ?_)
      rfl
  . obtain ⟨i, ns, more, hi, hits, hl, rfl⟩ := hI
    have hi6 : i = 6 := by
      rcases Nat.lt_or_ge i 6 with h | h
      . rw [ens_step _ h] at hits; cases hits
      . exact Nat.le_antisymm hi h
    subst hi6
    have e : ns.map AV.int = nums fun k => ns.getD k 0 := by
      have := congrArg (List.map AV.int) (list_range hl)
      refine rwE this (rwE List.map_map ?_); rfl
    refine rwE e ?_
    exact ASGC.mk rfl (k _ _ _ _ C'.app at_mid)
theorem limit_at {n : Nat -> Int} {h : Hp} : BIN .Mult (.int 5) (.int (4 + Int.fmod (Int.fdiv (n 0) 4) 4)) h (.int (5 * (4 + Int.fmod (Int.fdiv (n 0) 4) 4))) h := mul_int (by decide)
theorem la_end {q w o g f : Nat} (C : C4 H (some (.obj q)) (some (.obj w)) (some (.obj o)) none) (hn : H[p]? = some (.list (nums n))) (hw : H[w]? = some (.dict (dictOf (intD (wOf n)) [0, 1, 2, 3, 4, 5]))) (ho : H[o]? = some (.dict (dictOf (strD (paOf n)) [1, 2, 3, 4, 5]))) (hg : H[g]? = some (.dict (dictOf (fun v => .obj (g + 2 + v)) [0, 1, 2, 3, 4, 5]))) (hwl : ∀ v, v <= 5 -> H[g + 2 + v]? = some (.list (lets (chl (paOf n) v)))) :
    EXS lawFE (lawFd.body.drop 6) ⟨H, ("waits", .obj g) :: ("numbers", .obj p) :: ("firsts", .obj f) :: lc⟩ fun f z9 => f = .ret (.bool true) := by
  have hW : W5 (wOf n) := fun v z9 => by
    have h0 := Int.fmod_nonneg_of_pos (n v) (b := 4) (Int.natCast_nonneg _)
    have h1 := Int.fmod_lt_of_pos (n v) (b := 4) (by lia)
    unfold wOf
    lia
  have hq0 := Int.fmod_nonneg_of_pos (Int.fdiv (n 0) 4) (b := 4) (by lia)
  obtain ⟨gl, s, j, G⟩ := Gr.exists (W := wOf n) (lim := 5 * (4 + Int.fmod (Int.fdiv (n 0) 4) 4)) (fun c h1 z9 => (pa_mod (n := n) h1).2) fun v hv => by
    rcases hW v hv with h | h | h | h <;> omega
  obtain ⟨T, hT⟩ := Tr.exists G
  apply DS.assign (by kernel_rfl) rfl
  walk_at "mr"
  exact itemV_list (k := 0) hn (Nat.le_of_ble_eq_true rfl) rfl
  walk_at "mr"
  exact div_int (by decide)
  walk_at "mr"
  exact mod_int (by decide)
  walk_at "mr"
  exact limit_at
  exact lawB_sound (wl := fun v => g + 2 + v) G hT hW hg hwl hw ho C.c2 C.c3 C.c4 (by kernel_rfl) (by kernel_rfl)
end
theorem law_run {l : List Int} (hl : l.length <= 63) : EXS ⟨lawFd.scope.names, (newCells lawFd.scope.names [.flist (l.map .int)] []).2, 99, true⟩ lawFd.body ⟨(newCells lawFd.scope.names [.flist (l.map .int)] []).1, [("script", .obj 0)]⟩ (retP fun v z9 => v = .bool true) := by
  refine (?_ : EXS ⟨lawFd.scope.names, (newCells lawFd.scope.names [.flist (l.map .int)] []).2, 99, true⟩ lawFd.body ⟨[.flist (l.map .int), .cell none, .cell none, .cell none, .cell none], [("script", .obj 0)]⟩ (retP fun v z9 => v = .bool true))
  have hfe : (FE.mk lawFd.scope.names (newCells lawFd.scope.names [AO.flist (l.map AV.int)] []).2 99 true) = lawFE := by kernel_rfl
  refine rwE hfe ?_
  have C : C4 [.flist (l.map .int), .cell none, .cell none, .cell none, .cell none] none none none none := ⟨rfl, rfl, rfl, rfl⟩
  refine EXS.mono (P := fun f z9 => f = .ret (.bool true)) (la_cells hl C rfl (by kernel_rfl) fun H q cl C hc hz => la_numbers C hc hz fun H p f n C hn => la_weights C hn (by kernel_rfl) fun H w C hn hw => la_over C hn hw (by kernel_rfl) fun H o C hn hw ho => la_waits C hn hw ho fun H g C hn hw ho hg hwl => la_end C hn hw ho hg hwl) ?_
  rintro f st' rfl
  rfl
theorem law_true : PySem.Challenge.rw_om0120_01.Holds := law_of_eval fun z9 hl => law_run hl
end Mine
end
theorem PySem.Challenge.cw_om0120_01_holds : PySem.Challenge.rw_om0120_01.Holds :=
  Mine.law_true
