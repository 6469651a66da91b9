import PyProof.Rows.All
import Wide.All
import OpenK.AllK
import Wide.FinOn
import KE.KItem
import KE.KSortTup
import Lean
import PySem.Challenge.RW_xg0032_03
set_option Elab.async false
set_option maxRecDepth 100000
set_option maxHeartbeats 8000000
set_option linter.all false
set_option genSizeOf false
set_option bootstrap.genMatcherCode false
set_option tactic.hygienic false
set_option genInjectivity false
namespace Mine
open PySem PySem.Calls PyProof.Rows
noncomputable def Ok (prog : Program) (w : World) {α : Type} (A : Around) (t : Sem α) (s : Shared) (Q : α -> Shared -> Prop) : Prop :=
 ∀ E : Value -> Shared -> Prop, wpAny (model prog w) A t Q E s
section
variable {prog : Program} {w : World} {α β : Type} {A : Around} {s : Shared}
theorem Ok.bind {m : Sem α} {f : α -> Sem β} {Q : β -> Shared -> Prop} (h : Ok prog w A m s fun a s' => Ok prog w A (f a) s' Q) : Ok prog w A (m >>= f) s Q :=
 fun E => wpAny_bind (wpAny_mono (h E) (fun _ _ k => k E) fun _ _ e => e)
theorem Ok.mono {m : Sem α} {Q Q' : α -> Shared -> Prop} (h : Ok prog w A m s Q) (k : ∀ a s', Q a s' -> Q' a s') : Ok prog w A m s Q' :=
 fun E => wpAny_mono (h E) k fun _ _ e => e
theorem Ok.pure {a : α} {Q : α -> Shared -> Prop} (h : Q a s) : Ok prog w A (Pure.pure a) s Q := fun _ => wpAny_pure h
theorem Ok.of {m : Sem α} {Q : α -> Shared -> Prop} (h : ∀ E, wpAny (model prog w) A m Q E s) : Ok prog w A m s Q := h
theorem Ok.to {m : Sem α} {Q Q' : α -> Shared -> Prop} {E : Value -> Shared -> Prop} (h : Ok prog w A m s Q) (k : ∀ a s', Q a s' -> Q' a s') : wpAny (model prog w) A m Q' E s :=
 wpAny_mono (h E) k fun _ _ e => e
theorem Ok.t2 {β α : Type} {m : Sem α} {P1 P2 : β -> α -> Shared -> Prop} {Q : α -> Shared -> Prop} {E : Value -> Shared -> Prop} (h : Ok prog w A m s fun a s' => ∃ b, P1 b a s' /\ P2 b a s') (k : ∀ a s' b, P1 b a s' -> P2 b a s' -> Q a s') : wpAny (model prog w) A m Q E s :=
 h.to fun a s' ⟨b, h1, h2⟩ => k a s' b h1 h2
theorem Ok.t3 {β α : Type} {m : Sem α} {P1 P2 P3 : β -> α -> Shared -> Prop} {Q : α -> Shared -> Prop} {E : Value -> Shared -> Prop} (h : Ok prog w A m s fun a s' => ∃ b, P1 b a s' /\ P2 b a s' /\ P3 b a s') (k : ∀ a s' b, P1 b a s' -> P2 b a s' -> P3 b a s' -> Q a s') : wpAny (model prog w) A m Q E s :=
 h.to fun a s' ⟨b, h1, h2, h3⟩ => k a s' b h1 h2 h3
end
theorem ZaN  {P1 P2 : Prop} {R : Prop} (h : P1 /\ P2) (k : P1 -> P2 -> R) : R := k h.1 h.2
theorem Xx  {P1 P2 P3 : Prop} {R : Prop} (h : P1 /\ P2 /\ P3) (k : P1 -> P2 -> P3 -> R) : R := k h.1 h.2.1 h.2.2
theorem ZcR  {P1 P2 P3 P4 : Prop} {R : Prop} (h : P1 /\ P2 /\ P3 /\ P4) (k : P1 -> P2 -> P3 -> P4 -> R) : R := k h.1 h.2.1 h.2.2.1 h.2.2.2
theorem ZfN  {P1 P2 P3 P4 P5 : Prop} {R : Prop} (h : P1 /\ P2 /\ P3 /\ P4 /\ P5) (k : P1 -> P2 -> P3 -> P4 -> P5 -> R) : R := k h.1 h.2.1 h.2.2.1 h.2.2.2.1 h.2.2.2.2
theorem Ztc  {P1 P2 P3 P4 P5 P6 : Prop} {R : Prop} (h : P1 /\ P2 /\ P3 /\ P4 /\ P5 /\ P6) (k : P1 -> P2 -> P3 -> P4 -> P5 -> P6 -> R) : R := k h.1 h.2.1 h.2.2.1 h.2.2.2.1 h.2.2.2.2.1 h.2.2.2.2.2
theorem Zb1 {A : Sort _} {P1 : A -> Prop} {R : Prop} (h : ∃ a, P1 a) (k : ∀ a, P1 a -> R) : R := h.elim fun a h => k a h
theorem Zg {A : Sort _} {P1 P2 : A -> Prop} {R : Prop} (h : ∃ a, P1 a /\ P2 a) (k : ∀ a, P1 a -> P2 a -> R) : R := h.elim fun a h => k a h.1 h.2
theorem Zp {A B : Type _} {f : A -> B} {o : Option A} {b : B} {R : Prop} (h : o.map f = some b) (k : ∀ a, o = some a -> f a = b -> R) : R := Zg (Option.map_eq_some_iff.mp h) k
theorem Z6 {A B : Type _} {f : A -> Option B} {o : Option A} {b : B} {R : Prop} (h : o.bind f = some b) (k : ∀ a, o = some a -> f a = some b -> R) : R := Zg (Option.bind_eq_some_iff.mp h) k
theorem XS {A : Sort _} {P1 P2 P3 : A -> Prop} {R : Prop} (h : ∃ a, P1 a /\ P2 a /\ P3 a) (k : ∀ a, P1 a -> P2 a -> P3 a -> R) : R := h.elim fun a h => k a h.1 h.2.1 h.2.2
theorem Zbf {A : Sort _} {P1 P2 P3 P4 : A -> Prop} {R : Prop} (h : ∃ a, P1 a /\ P2 a /\ P3 a /\ P4 a) (k : ∀ a, P1 a -> P2 a -> P3 a -> P4 a -> R) : R := h.elim fun a h => k a h.1 h.2.1 h.2.2.1 h.2.2.2
theorem ZnW {A : Sort _} {P1 P2 P3 P4 P5 : A -> Prop} {R : Prop} (h : ∃ a, P1 a /\ P2 a /\ P3 a /\ P4 a /\ P5 a) (k : ∀ a, P1 a -> P2 a -> P3 a -> P4 a -> P5 a -> R) : R := h.elim fun a h => k a h.1 h.2.1 h.2.2.1 h.2.2.2.1 h.2.2.2.2
theorem ZqJ {A : Sort _} {P1 P2 P3 P4 P5 P6 P7 : A -> Prop} {R : Prop} (h : ∃ a, P1 a /\ P2 a /\ P3 a /\ P4 a /\ P5 a /\ P6 a /\ P7 a) (k : ∀ a, P1 a -> P2 a -> P3 a -> P4 a -> P5 a -> P6 a -> P7 a -> R) : R := h.elim fun a h => k a h.1 h.2.1 h.2.2.1 h.2.2.2.1 h.2.2.2.2.1 h.2.2.2.2.2.1 h.2.2.2.2.2.2
theorem Zbz {A : Sort _} {B : Sort _} {P1 : A -> B -> Prop} {R : Prop} (h : ∃ a b, P1 a b) (k : ∀ a b, P1 a b -> R) : R := h.elim fun a h => h.elim fun b h => k a b h
theorem YA {A : Sort _} {B : Sort _} {P1 P2 : A -> B -> Prop} {R : Prop} (h : ∃ a b, P1 a b /\ P2 a b) (k : ∀ a b, P1 a b -> P2 a b -> R) : R := h.elim fun a h => h.elim fun b h => k a b h.1 h.2
theorem YH {A : Sort _} {B : Sort _} {P1 P2 P3 : A -> B -> Prop} {R : Prop} (h : ∃ a b, P1 a b /\ P2 a b /\ P3 a b) (k : ∀ a b, P1 a b -> P2 a b -> P3 a b -> R) : R := h.elim fun a h => h.elim fun b h => k a b h.1 h.2.1 h.2.2
theorem ZbZ {A : Sort _} {B : Sort _} {P1 P2 P3 P4 : A -> B -> Prop} {R : Prop} (h : ∃ a b, P1 a b /\ P2 a b /\ P3 a b /\ P4 a b) (k : ∀ a b, P1 a b -> P2 a b -> P3 a b -> P4 a b -> R) : R := h.elim fun a h => h.elim fun b h => k a b h.1 h.2.1 h.2.2.1 h.2.2.2
theorem ZeG {A : Sort _} {B : Sort _} {P1 P2 P3 P4 P5 : A -> B -> Prop} {R : Prop} (h : ∃ a b, P1 a b /\ P2 a b /\ P3 a b /\ P4 a b /\ P5 a b) (k : ∀ a b, P1 a b -> P2 a b -> P3 a b -> P4 a b -> P5 a b -> R) : R := h.elim fun a h => h.elim fun b h => k a b h.1 h.2.1 h.2.2.1 h.2.2.2.1 h.2.2.2.2
theorem Zak {A : Sort _} {B : Sort _} {P1 P2 P3 P4 P5 P6 : A -> B -> Prop} {R : Prop} (h : ∃ a b, P1 a b /\ P2 a b /\ P3 a b /\ P4 a b /\ P5 a b /\ P6 a b) (k : ∀ a b, P1 a b -> P2 a b -> P3 a b -> P4 a b -> P5 a b -> P6 a b -> R) : R := h.elim fun a h => h.elim fun b h => k a b h.1 h.2.1 h.2.2.1 h.2.2.2.1 h.2.2.2.2.1 h.2.2.2.2.2
theorem Zs5 {A : Sort _} {B : Sort _} {P1 P2 P3 P4 P5 P6 P7 : A -> B -> Prop} {R : Prop} (h : ∃ a b, P1 a b /\ P2 a b /\ P3 a b /\ P4 a b /\ P5 a b /\ P6 a b /\ P7 a b) (k : ∀ a b, P1 a b -> P2 a b -> P3 a b -> P4 a b -> P5 a b -> P6 a b -> P7 a b -> R) : R := h.elim fun a h => h.elim fun b h => k a b h.1 h.2.1 h.2.2.1 h.2.2.2.1 h.2.2.2.2.1 h.2.2.2.2.2.1 h.2.2.2.2.2.2
theorem Zqz {A : Sort _} {B : Sort _} {C : Sort _} {P1 : A -> B -> C -> Prop} {R : Prop} (h : ∃ a b c, P1 a b c) (k : ∀ a b c, P1 a b c -> R) : R := h.elim fun a h => h.elim fun b h => h.elim fun c h => k a b c h
theorem Zs4 {A : Sort _} {B : Sort _} {C : Sort _} {P1 P2 : A -> B -> C -> Prop} {R : Prop} (h : ∃ a b c, P1 a b c /\ P2 a b c) (k : ∀ a b c, P1 a b c -> P2 a b c -> R) : R := h.elim fun a h => h.elim fun b h => h.elim fun c h => k a b c h.1 h.2
theorem YD {A : Sort _} {B : Sort _} {C : Sort _} {P1 P2 P3 : A -> B -> C -> Prop} {R : Prop} (h : ∃ a b c, P1 a b c /\ P2 a b c /\ P3 a b c) (k : ∀ a b c, P1 a b c -> P2 a b c -> P3 a b c -> R) : R := h.elim fun a h => h.elim fun b h => h.elim fun c h => k a b c h.1 h.2.1 h.2.2
theorem Xl {A : Sort _} {B : Sort _} {C : Sort _} {P1 P2 P3 P4 : A -> B -> C -> Prop} {R : Prop} (h : ∃ a b c, P1 a b c /\ P2 a b c /\ P3 a b c /\ P4 a b c) (k : ∀ a b c, P1 a b c -> P2 a b c -> P3 a b c -> P4 a b c -> R) : R := h.elim fun a h => h.elim fun b h => h.elim fun c h => k a b c h.1 h.2.1 h.2.2.1 h.2.2.2
theorem Zh2 {A : Sort _} {B : Sort _} {C : Sort _} {P1 P2 P3 P4 P5 : A -> B -> C -> Prop} {R : Prop} (h : ∃ a b c, P1 a b c /\ P2 a b c /\ P3 a b c /\ P4 a b c /\ P5 a b c) (k : ∀ a b c, P1 a b c -> P2 a b c -> P3 a b c -> P4 a b c -> P5 a b c -> R) : R := h.elim fun a h => h.elim fun b h => h.elim fun c h => k a b c h.1 h.2.1 h.2.2.1 h.2.2.2.1 h.2.2.2.2
theorem ZmN {A : Sort _} {B : Sort _} {C : Sort _} {P1 P2 P3 P4 P5 P6 : A -> B -> C -> Prop} {R : Prop} (h : ∃ a b c, P1 a b c /\ P2 a b c /\ P3 a b c /\ P4 a b c /\ P5 a b c /\ P6 a b c) (k : ∀ a b c, P1 a b c -> P2 a b c -> P3 a b c -> P4 a b c -> P5 a b c -> P6 a b c -> R) : R := h.elim fun a h => h.elim fun b h => h.elim fun c h => k a b c h.1 h.2.1 h.2.2.1 h.2.2.2.1 h.2.2.2.2.1 h.2.2.2.2.2
theorem Ztb {A : Sort _} {B : Sort _} {C : Sort _} {D : Sort _} {P1 P2 : A -> B -> C -> D -> Prop} {R : Prop} (h : ∃ a b c d, P1 a b c d /\ P2 a b c d) (k : ∀ a b c d, P1 a b c d -> P2 a b c d -> R) : R := h.elim fun a h => h.elim fun b h => h.elim fun c h => h.elim fun d h => k a b c d h.1 h.2
theorem ZfQ {A : Sort _} {B : Sort _} {C : Sort _} {D : Sort _} {P1 P2 P3 : A -> B -> C -> D -> Prop} {R : Prop} (h : ∃ a b c d, P1 a b c d /\ P2 a b c d /\ P3 a b c d) (k : ∀ a b c d, P1 a b c d -> P2 a b c d -> P3 a b c d -> R) : R := h.elim fun a h => h.elim fun b h => h.elim fun c h => h.elim fun d h => k a b c d h.1 h.2.1 h.2.2
theorem Zcv {A : Sort _} {B : Sort _} {C : Sort _} {D : Sort _} {P1 P2 P3 P4 : A -> B -> C -> D -> Prop} {R : Prop} (h : ∃ a b c d, P1 a b c d /\ P2 a b c d /\ P3 a b c d /\ P4 a b c d) (k : ∀ a b c d, P1 a b c d -> P2 a b c d -> P3 a b c d -> P4 a b c d -> R) : R := h.elim fun a h => h.elim fun b h => h.elim fun c h => h.elim fun d h => k a b c d h.1 h.2.1 h.2.2.1 h.2.2.2
theorem Zkl {A : Sort _} {B : Sort _} {C : Sort _} {D : Sort _} {P1 P2 P3 P4 P5 : A -> B -> C -> D -> Prop} {R : Prop} (h : ∃ a b c d, P1 a b c d /\ P2 a b c d /\ P3 a b c d /\ P4 a b c d /\ P5 a b c d) (k : ∀ a b c d, P1 a b c d -> P2 a b c d -> P3 a b c d -> P4 a b c d -> P5 a b c d -> R) : R := h.elim fun a h => h.elim fun b h => h.elim fun c h => h.elim fun d h => k a b c d h.1 h.2.1 h.2.2.1 h.2.2.2.1 h.2.2.2.2
theorem ZmI {A : Sort _} {B : Sort _} {C : Sort _} {D : Sort _} {P1 P2 P3 P4 P5 P6 P7 : A -> B -> C -> D -> Prop} {R : Prop} (h : ∃ a b c d, P1 a b c d /\ P2 a b c d /\ P3 a b c d /\ P4 a b c d /\ P5 a b c d /\ P6 a b c d /\ P7 a b c d) (k : ∀ a b c d, P1 a b c d -> P2 a b c d -> P3 a b c d -> P4 a b c d -> P5 a b c d -> P6 a b c d -> P7 a b c d -> R) : R := h.elim fun a h => h.elim fun b h => h.elim fun c h => h.elim fun d h => k a b c d h.1 h.2.1 h.2.2.1 h.2.2.2.1 h.2.2.2.2.1 h.2.2.2.2.2.1 h.2.2.2.2.2.2
theorem ZsX {A : Sort _} {B : Sort _} {C : Sort _} {D : Sort _} {P1 P2 P3 P4 P5 P6 P7 P8 : A -> B -> C -> D -> Prop} {R : Prop} (h : ∃ a b c d, P1 a b c d /\ P2 a b c d /\ P3 a b c d /\ P4 a b c d /\ P5 a b c d /\ P6 a b c d /\ P7 a b c d /\ P8 a b c d) (k : ∀ a b c d, P1 a b c d -> P2 a b c d -> P3 a b c d -> P4 a b c d -> P5 a b c d -> P6 a b c d -> P7 a b c d -> P8 a b c d -> R) : R := h.elim fun a h => h.elim fun b h => h.elim fun c h => h.elim fun d h => k a b c d h.1 h.2.1 h.2.2.1 h.2.2.2.1 h.2.2.2.2.1 h.2.2.2.2.2.1 h.2.2.2.2.2.2.1 h.2.2.2.2.2.2.2
theorem ZsK {A : Sort _} {B : Sort _} {C : Sort _} {D : Sort _} {E : Sort _} {P1 P2 P3 P4 : A -> B -> C -> D -> E -> Prop} {R : Prop} (h : ∃ a b c d e, P1 a b c d e /\ P2 a b c d e /\ P3 a b c d e /\ P4 a b c d e) (k : ∀ a b c d e, P1 a b c d e -> P2 a b c d e -> P3 a b c d e -> P4 a b c d e -> R) : R := h.elim fun a h => h.elim fun b h => h.elim fun c h => h.elim fun d h => h.elim fun e h => k a b c d e h.1 h.2.1 h.2.2.1 h.2.2.2
theorem ZqF {A : Sort _} {B : Sort _} {C : Sort _} {D : Sort _} {E : Sort _} {P1 P2 P3 P4 P5 P6 P7 : A -> B -> C -> D -> E -> Prop} {R : Prop} (h : ∃ a b c d e, P1 a b c d e /\ P2 a b c d e /\ P3 a b c d e /\ P4 a b c d e /\ P5 a b c d e /\ P6 a b c d e /\ P7 a b c d e) (k : ∀ a b c d e, P1 a b c d e -> P2 a b c d e -> P3 a b c d e -> P4 a b c d e -> P5 a b c d e -> P6 a b c d e -> P7 a b c d e -> R) : R := h.elim fun a h => h.elim fun b h => h.elim fun c h => h.elim fun d h => h.elim fun e h => k a b c d e h.1 h.2.1 h.2.2.1 h.2.2.2.1 h.2.2.2.2.1 h.2.2.2.2.2.1 h.2.2.2.2.2.2
theorem ZqV {A : Sort _} {B : Sort _} {C : Sort _} {D : Sort _} {E : Sort _} {F : Sort _} {P1 P2 P3 P4 : A -> B -> C -> D -> E -> F -> Prop} {R : Prop} (h : ∃ a b c d e f, P1 a b c d e f /\ P2 a b c d e f /\ P3 a b c d e f /\ P4 a b c d e f) (k : ∀ a b c d e f, P1 a b c d e f -> P2 a b c d e f -> P3 a b c d e f -> P4 a b c d e f -> R) : R := h.elim fun a h => h.elim fun b h => h.elim fun c h => h.elim fun d h => h.elim fun e h => h.elim fun f h => k a b c d e f h.1 h.2.1 h.2.2.1 h.2.2.2
theorem nn {α : Type} {x : α} {P : Prop} (h : (Option.none : Option α) = some x) : P := nomatch h
noncomputable abbrev Sb {α : Type} (P : α -> Prop) : Type := {o : Option α // ∀ r, o = some r -> P r}
noncomputable def Sb.no {α : Type} {P : α -> Prop} : Sb P := ⟨none, fun _ h => nn h⟩
noncomputable def Sb.ok {α : Type} {P : α -> Prop} (a : α) (h : P a) : Sb P := ⟨some a, fun _ e => Option.some.inj e ▸ h⟩
noncomputable def Sb.bind {α β : Type} {P : β -> Prop} : (o : Option α) -> (∀ a, o = some a -> Sb P) -> Sb P
 | none, _ => .no
 | some a, k => k a rfl
theorem Sb.bind_eq {α β : Type} {P : β -> Prop} {o : Option α} {k : ∀ a, o = some a -> Sb P} {a : α} (h : o = some a) : Sb.bind o k = k a h := by
 cases h
 rfl
theorem Zah {c : Prop} [Decidable c] {α : Type} {a b : Option α} {r : α} (h : (if c then a else b) = some r) : (c /\ a = some r) \/ (¬ c /\ b = some r) := by
 by_cases hc : c
 ·exact .inl ⟨hc, (if_pos hc).symm.trans h⟩
 ·exact .inr ⟨hc, (if_neg hc).symm.trans h⟩
theorem Yp {c : Prop} [Decidable c] {α : Type} {a : Option α} {r : α} (h : (if c then a else none) = some r) : c /\ a = some r := (Zah h).elim id fun h => nn h.2
noncomputable def Sb.ite {c : Prop} [Decidable c] {α : Type} {P : α -> Prop} (a : α) (h : c -> P a) : Sb P := ⟨if c then some a else none, fun _ e => Option.some.inj (Yp e).2 ▸ h (Yp e).1⟩
theorem Zdo (h : Heap) (a : Addr) (f : Obj -> Obj) : (h.update a f).objs.size = h.objs.size := by
 cases h; simp [Heap.update]
theorem Zdf {M : Model} {Γ : Ctx} {p : Pos} {t : Sem PySem.Fin} {fs : List Frame} {s s' : Shared} {e : End} (h : Runs M Γ p t fs s e s') : s.heap.objs.size <= s'.heap.objs.size := by
 induction h <;> (try simp only [Shared.setGen, Heap.size_push, Zdo] at *) <;> omega
theorem ZgR {M : Model} {Γ : Ctx} {p : Pos} {s s' : Shared} {r : Result} (h : Returns M Γ p s r s') : s.heap.objs.size <= s'.heap.objs.size := Zdf h
theorem Zjo {M : Model} {Γ : Ctx} {p : Pos} {g : Nat} {r : Resume} {s s' : Shared} {res : GenResult} (h : Wakes M Γ p g r s res s') : s.heap.objs.size <= s'.heap.objs.size := by
 unfold Wakes at h
 split at h
 ·exact h.elim
 ·split at h
  ·obtain ⟨e'1, s'1, hr, _, _, rfl⟩ := h; exact (Zdf hr : (s.setGen g .running).heap.objs.size <= s'1.heap.objs.size)
  ·rw [h.2]; exact Nat.le_refl _
  ·rw [h.2]; exact Nat.le_refl _
 ·obtain ⟨e'1, s'1, hr, _, _, rfl⟩ := h; exact (Zdf hr : (s.setGen g .running).heap.objs.size <= s'1.heap.objs.size)
 ·rw [h.2]; exact Nat.le_refl _
 ·rw [h.2]; exact Nat.le_refl _
theorem Zpm {α : Type} (M : Model) (Γ : Ctx) (n : Nat) (t : Sem α) : ∀ (Q : α -> Pos -> Shared -> Prop) (E : Value -> Pos -> Shared -> Prop) (p : Pos) (s : Shared), n <= s.heap.objs.size -> Sem.wp M Γ t Q E p s ->
  Sem.wp M Γ t (fun a p' s' => n <= s'.heap.objs.size /\ Q a p' s') E p s := by
 induction t with
 | pure a => intro Q E p s hn h; exact ⟨hn, h⟩
 | raise e => intro Q E p s hn h; exact h
 | unsupported _ => intro Q E p s _ h; exact h
 | finish _ => intro Q E p s _ h; exact h
 | rule _ k ih => intro Q E p s hn h; exact ih () Q E p s hn h
 | «at» p' k ih => intro Q E p s hn h; exact ih () Q E p' s hn h
 | load a _ k ih => intro Q E p s hn h; obtain ⟨o, ho, h⟩ := h; exact ⟨o, ho, ih o Q E p s hn h⟩
 | update a _ f k ih => intro Q E p s hn h; exact ⟨h.1, ih () Q E p _ (by rw [Zdo]; exact hn) h.2⟩
 | loadIfAlive a k ih => intro Q E p s hn h; exact ih _ Q E p s hn h
 | point _ k ih => intro Q E p s hn h; exact ih () Q E p s hn h
 | register _ _ => intro Q E p s _ h; exact h
 | alloc o k ih => intro Q E p s hn h; exact ih _ Q E p _ (by rw [Heap.size_push]; omega) h
 | fresh k ih => intro Q E p s hn h; exact ih _ Q E p _ hn h
 | ask k ih => intro Q E p s hn h; exact ih _ Q E p s hn h
 | choose src m k ih => intro Q E p s hn h; exact ⟨h.1, ih _ Q E p _ hn h.2⟩
 | os q _ k ih => intro Q E p s hn h; exact ih _ Q E p _ hn h
 | call c hd _ _ k ih => intro Q E p s hn h; obtain ⟨r, s', hr, h⟩ := h; exact ⟨r, s', hr, ih r Q E p s' (Nat.le_trans hn (ZgR hr)) h⟩
 | handled own k ih => intro Q E p s hn h; exact ih _ Q E p s hn h
 | genState g k ih => intro Q E p s hn h; obtain ⟨st, hs, h⟩ := h; exact ⟨st, hs, ih _ Q E p s hn h⟩
 | newGen c k ih => intro Q E p s hn h; exact ih _ Q E p _ hn h
 | resume g r _ k ih => intro Q E p s hn h; obtain ⟨res, s', hw, h⟩ := h; exact ⟨res, s', hw, ih res Q E p s' (Nat.le_trans hn (Zjo hw)) h⟩
 | yield _ _ _ _ => intro Q E p s _ h; exact h
 | stack k ih => intro Q E p s hn h; exact ih _ Q E p s hn h
 | fork _ _ => intro Q E p s _ h; exact h
 | thread k ih => intro Q E p s hn h; exact ih _ Q E p s hn h
 | await _ _ _ _ _ => intro Q E p s _ h; exact h
theorem Ok.size {prog : Program} {w : World} {α : Type} {A : Around} {s : Shared} {m : Sem α} {Q : α -> Shared -> Prop} (h : Ok prog w A m s Q) :
  Ok prog w A m s fun a s' => s.heap.objs.size <= s'.heap.objs.size /\ Q a s' :=
 fun E Γ p hΓ => Zpm _ Γ _ m _ _ p s (Nat.le_refl _) (h E Γ p hΓ)
set_option genInjectivity true in
inductive V where
 | none
 | bool (b : Bool)
 | int (i : Int)
 | str (s : Str)
 | tup (xs : List V)
 | list (xs : List V)
 | dict (ks : List Str) (vs : List V)
 | box (n : Nat)
 | range (a b : Int)
 | tc (c : V)
 deriving Inhabited
noncomputable def ZsZ (d : V) : Sb fun x => d = .str x := match d with
 | .str x => .ok x rfl
 | _ => .no
noncomputable def Zpl (d : V) : Sb fun x => d = .int x := match d with
 | .int x => .ok x rfl
 | _ => .no
noncomputable def ZlA (d : V) : Sb fun xs => d = .tup xs := match d with
 | .tup xs => .ok xs rfl
 | _ => .no
noncomputable def ZqR (d : V) : Sb fun xs => d = .list xs := match d with
 | .list xs => .ok xs rfl
 | _ => .no
noncomputable def ZqP (d : V) : Sb fun (p : List Str × List V) => d = .dict p.1 p.2 := match d with
 | .dict ks vs => .ok (ks, vs) rfl
 | _ => .no
theorem ZfE {α β : Type} {o : Option α} {f : α -> Option β} {r : β} {P : Prop} (h : o.bind f = some r) (k : ∀ a, o = some a -> f a = some r -> P) : P := Zg (Option.bind_eq_some_iff.mp h) k
structure GC where
 prog : Program
 w : World
 H0 : Heap
 os0 : OsState
 mg : Str -> Option Value
 mb : Str -> Option Value
 tabs : List (Addr × Addr)
 tcC : Addr
noncomputable def GC.Tb (G : GC) (a : Addr) : Prop := ∃ c, (c, a) ∈ G.tabs
structure Wd (G : GC) (s : Shared) : Prop where
 keep : ∀ b o, G.H0.get? b = some o -> ¬ G.Tb b -> s.heap.get? b = some o
 tab : ∀ c P, (c, P) ∈ G.tabs -> ∃ ps, s.heap.IsCode c P ps /\ s.heap.TableAt c P ps
 gens : AllBare s.gens
 os : s.os = G.os0
structure Ext (s s' : Shared) : Prop where
 keep : ∀ b o, s.heap.get? b = some o -> s'.heap.get? b = some o
 size : s.heap.objs.size <= s'.heap.objs.size
 gens : s'.gens = s.gens
 os : s'.os = s.os
theorem Ext.refl (s : Shared) : Ext s s := ⟨fun _ _ e => e, Nat.le_refl _, rfl, rfl⟩
theorem Ext.trans {a b c : Shared} (x : Ext a b) (y : Ext b c) : Ext a c :=
 ⟨fun q o e => y.keep q o (x.keep q o e), Nat.le_trans x.size y.size, y.gens.trans x.gens, y.os.trans x.os⟩
theorem Ext.toks (s : Shared) (t : Nat) : Ext s { s with toks := t } := ⟨fun _ _ e => e, Nat.le_refl _, rfl, rfl⟩
theorem Ext.push (s : Shared) (o : Obj) : Ext s { s with heap := s.heap.push o } :=
 ⟨fun _ _ e => Heap.get?_push_of_some _ e, by rw [Heap.size_push]; exact Nat.le_succ _, rfl, rfl⟩
theorem Wd.ext {G : GC} {s s' : Shared} (W : Wd G s) (x : Ext s s') : Wd G s' where
 keep := fun b o e n => x.keep b o (W.keep b o e n)
 tab := fun c P m => let ⟨ps, a, b⟩ := W.tab c P m; ⟨ps, a.keeps x.keep, b.keeps x.keep⟩
 gens := x.gens ▸ W.gens
 os := x.os.trans W.os
noncomputable def Z9 (vs : Array Value) (n : Nat) : Obj := ⟨.type "list", none, .seq vs n, #[]⟩
noncomputable def YG (vs : Array Value) (n : Nat) : Obj := ⟨.type "tuple", none, .seq vs n, #[]⟩
noncomputable def ZiS (od : Obj) (v : Value) : Prop := PySem.W.lookIn "comp_select_list" od = some (some v) /\ PySem.W.lookIn "compare" od = some Option.none
mutual
inductive Rep (G : GC) (av : Addr -> Prop) (β : List Addr) (h : Heap) : Value -> V -> Prop
 | none : Rep G av β h .none .none
 | bool (b : Bool) : Rep G av β h (.bool b) (.bool b)
 | int (i : Int) (t : Tok) : Rep G av β h (.int i t) (.int i)
 | str (x : Str) (t : Tok) : Rep G av β h (.str x t) (.str x)
 | tup {a : Addr} {vs : Array Value} {n : Nat} {ds : List V} : h.get? a = some (YG vs n) -> ¬ av a -> Zb G av β h vs.toList ds -> Rep G av β h (.ref a) (.tup ds)
 | list {a : Addr} {vs : Array Value} {n : Nat} {ds : List V} : h.get? a = some (Z9 vs n) -> ¬ av a -> Zb G av β h vs.toList ds -> Rep G av β h (.ref a) (.list ds)
 | dict {a : Addr} {kvs : List (Str × Value)} {ks : List Str} {ds : List V} : h.DictOf (PySem.strKind G.prog G.w) a kvs -> (a == sysModules) = false -> ¬ av a ->
   kvs.map (·.1) = ks -> Zb G av β h (kvs.map (·.2)) ds -> Rep G av β h (.ref a) (.dict ks ds)
 | box {a : Addr} {n : Nat} : β[n]? = some a -> Rep G av β h (.ref a) (.box n)
 | range {a : Addr} {lo hi : Int} {t u v : Tok} : IsRange h a lo hi 1 t u v -> ¬ av a -> Rep G av β h (.ref a) (.range lo hi)
 | tc {a D : Addr} {od : Obj} {v : Value} {c : V} : h.get? a = some ⟨.ref G.tcC, some D, .plain, #[]⟩ -> ¬ av a -> ¬ av D -> h.get? D = some od -> ZiS od v ->
   Rep G av β h v c -> Rep G av β h (.ref a) (.tc c)
inductive Zb (G : GC) (av : Addr -> Prop) (β : List Addr) (h : Heap) : List Value -> List V -> Prop
 | nil : Zb G av β h [] []
 | cons {v : Value} {d : V} {vs : List Value} {ds : List V} : Rep G av β h v d -> Zb G av β h vs ds -> Zb G av β h (v :: vs) (d :: ds)
end
section
variable {G : GC} {av av' : Addr -> Prop} {β β' : List Addr} {h h' : Heap}
theorem Zbu {a : Addr} {kvs : List (Str × Value)} (x : h.DictOf (PySem.strKind G.prog G.w) a kvs) (e : ∀ o, h.get? a = some o -> h'.get? a = some o) : h'.DictOf (PySem.strKind G.prog G.w) a kvs :=
 let ⟨o, es, ep, ho, r⟩ := x; ⟨o, es, ep, e o ho, r⟩
theorem Xc {a : Addr} {kvs : List (Str × Value)} (x : h.DictOf (PySem.strKind G.prog G.w) a kvs) : ∃ o, h.get? a = some o :=
 let ⟨o, _, _, ho, _⟩ := x; ⟨o, ho⟩
theorem ZgU {a : Addr} {lo hi st : Int} {t u v : Tok} (x : IsRange h a lo hi st t u v) (e : ∀ o, h.get? a = some o -> h'.get? a = some o) : IsRange h' a lo hi st t u v := e _ x
noncomputable def Sh (G : GC) (av : Addr -> Prop) (β : List Addr) (h : Heap) (v : Value) : V -> Prop
 | .none => v = .none
 | .bool b => v = .bool b
 | .int i => ∃ t, v = .int i t
 | .str x => ∃ t, v = .str x t
 | .tup ds => ∃ a vs n, v = .ref a /\ h.get? a = some (YG vs n) /\ ¬ av a /\ Zb G av β h vs.toList ds
 | .list ds => ∃ a vs n, v = .ref a /\ h.get? a = some (Z9 vs n) /\ ¬ av a /\ Zb G av β h vs.toList ds
 | .dict ks ds => ∃ a kvs, v = .ref a /\ h.DictOf (PySem.strKind G.prog G.w) a kvs /\ (a == sysModules) = false /\ ¬ av a /\ kvs.map (·.1) = ks /\ Zb G av β h (kvs.map (·.2)) ds
 | .box n => ∃ a, v = .ref a /\ β[n]? = some a
 | .range lo hi => ∃ a t u w, v = .ref a /\ IsRange h a lo hi 1 t u w /\ ¬ av a
 | .tc c => ∃ a D od x, v = .ref a /\ h.get? a = some ⟨.ref G.tcC, some D, .plain, #[]⟩ /\ ¬ av a /\ ¬ av D /\ h.get? D = some od /\ ZiS od x /\ Rep G av β h x c
theorem Rep.sh {v : Value} {d : V} (r : Rep G av β h v d) : Sh G av β h v d :=
 Rep.rec (motive_1 := fun v d _ => Sh G av β h v d) (motive_2 := fun _ _ _ => True) rfl (fun _ => rfl) (fun _ t => ⟨t, rfl⟩) (fun _ t => ⟨t, rfl⟩) (fun e n r _ => ⟨_, _, _, rfl, e, n, r⟩) (fun e n r _ => ⟨_, _, _, rfl, e, n, r⟩)
  (fun x hs n e r _ => ⟨_, _, rfl, x, hs, n, e, r⟩) (fun e => ⟨_, rfl, e⟩) (fun x n => ⟨_, _, _, _, rfl, x, n⟩) (fun e n n' x hm r _ => ⟨_, _, _, _, rfl, e, n, n', x, hm, r⟩) trivial (fun _ _ _ _ => trivial) r
theorem Zb.ind {P : List Value -> List V -> Prop} (nil : P [] []) (cons : ∀ {v : Value} {d : V} {vs : List Value} {ds : List V}, Rep G av β h v d -> Zb G av β h vs ds -> P vs ds -> P (v :: vs) (d :: ds)) {vs : List Value} {ds : List V}
  (r : Zb G av β h vs ds) : P vs ds :=
 Zb.rec (motive_1 := fun _ _ _ => True) (motive_2 := fun vs ds _ => P vs ds) trivial (fun _ => trivial) (fun _ _ => trivial) (fun _ _ => trivial) (fun _ _ _ _ => trivial) (fun _ _ _ _ => trivial)
  (fun _ _ _ _ _ _ => trivial) (fun _ => trivial) (fun _ _ => trivial) (fun _ _ _ _ _ _ _ => trivial) nil (fun r rs _ ih => cons r rs ih) r
theorem Rep.mono (hk : ∀ b o, h.get? b = some o -> ¬ av b -> h'.get? b = some o /\ ¬ av' b) (hβ : ∀ (n : Nat) (a : Addr), β[n]? = some a -> β'[n]? = some a) {v : Value} {d : V} (r : Rep G av β h v d) : Rep G av' β' h' v d :=
 Rep.rec (motive_1 := fun v d _ => Rep G av' β' h' v d) (motive_2 := fun vs ds _ => Zb G av' β' h' vs ds) .none (fun b => .bool b) (fun i t => .int i t) (fun x t => .str x t)
  (fun e n _ r => .tup (hk _ _ e n).1 (hk _ _ e n).2 r) (fun e n _ r => .list (hk _ _ e n).1 (hk _ _ e n).2 r)
  (fun x hs n e _ r => .dict (Zbu x fun o ho => (hk _ _ ho n).1) hs ((Xc x).elim fun _ ho => (hk _ _ ho n).2) e r) (fun e => .box (hβ _ _ e))
  (fun x n => .range (ZgU x fun o ho => (hk _ _ ho n).1) (hk _ _ x n).2) (fun e n n' x hm _ r => .tc (hk _ _ e n).1 (hk _ _ e n).2 (hk _ _ x n').2 (hk _ _ x n').1 hm r) .nil (fun _ _ r rs => .cons r rs) r
theorem Zb.mono (hk : ∀ b o, h.get? b = some o -> ¬ av b -> h'.get? b = some o /\ ¬ av' b) (hβ : ∀ (n : Nat) (a : Addr), β[n]? = some a -> β'[n]? = some a) {vs : List Value} {ds : List V} (r : Zb G av β h vs ds) : Zb G av' β' h' vs ds :=
 Zb.ind .nil (fun r _ ih => .cons (r.mono hk hβ) ih) r
theorem Zb.length {vs : List Value} {ds : List V} (r : Zb G av β h vs ds) : vs.length = ds.length := Zb.ind (P := fun vs ds => vs.length = ds.length) rfl (fun _ _ ih => congrArg (· + 1) ih) r
theorem Zb.append {vs vs' : List Value} {ds ds' : List V} (r : Zb G av β h vs ds) (y : Zb G av β h vs' ds') : Zb G av β h (vs ++ vs') (ds ++ ds') :=
 Zb.ind (P := fun vs ds => Zb G av β h (vs ++ vs') (ds ++ ds')) y (fun r _ ih => .cons r ih) r
theorem Zb.both {vs : List Value} {ds : List V} (r : Zb G av β h vs ds) : ∀ i : Nat, (vs[i]? = none /\ ds[i]? = none) \/ ∃ v d, vs[i]? = some v /\ ds[i]? = some d /\ Rep G av β h v d :=
 Zb.ind (P := fun vs ds => ∀ i : Nat, (vs[i]? = none /\ ds[i]? = none) \/ ∃ v d, vs[i]? = some v /\ ds[i]? = some d /\ Rep G av β h v d) (fun _ => .inl ⟨rfl, rfl⟩)
  (fun r _ ih i => Nat.casesOn (motive := fun i => ((_ :: _)[i]? = none /\ (_ :: _)[i]? = none) \/ ∃ v d, (_ :: _)[i]? = some v /\ (_ :: _)[i]? = some d /\ Rep G av β h v d) i (.inr ⟨_, _, rfl, rfl, r⟩) fun n => ih n) r
theorem Zb.get {vs : List Value} {ds : List V} (r : Zb G av β h vs ds) {i : Nat} {d : V} (e : ds[i]? = some d) : ∃ v, vs[i]? = some v /\ Rep G av β h v d :=
 (r.both i).elim (fun z => nomatch z.2.symm.trans e) fun ⟨v, d', h1, h2, h3⟩ => ⟨v, h1, Option.some.inj (h2.symm.trans e) ▸ h3⟩
theorem Zb.getV {vs : List Value} {ds : List V} (r : Zb G av β h vs ds) {i : Nat} {v : Value} (e : vs[i]? = some v) : ∃ d, ds[i]? = some d /\ Rep G av β h v d :=
 (r.both i).elim (fun z => nomatch z.1.symm.trans e) fun ⟨v', d, h1, h2, h3⟩ => ⟨d, h2, Option.some.inj (h1.symm.trans e) ▸ h3⟩
theorem Zb.sh {vs : List Value} {ds : List V} (r : Zb G av β h vs ds) : (∀ e : ds = [], vs = []) /\ ∀ d ds', ds = d :: ds' -> ∃ v vs', vs = v :: vs' /\ Rep G av β h v d /\ Zb G av β h vs' ds' :=
 Zb.ind (P := fun vs ds => (∀ e : ds = [], vs = []) /\ ∀ d ds', ds = d :: ds' -> ∃ v vs', vs = v :: vs' /\ Rep G av β h v d /\ Zb G av β h vs' ds') ⟨fun _ => rfl, fun _ _ e => nomatch e⟩
  (fun r rs _ => ⟨fun e => (nomatch e), fun d ds' e => ⟨_, _, rfl, (List.cons.inj e).1 ▸ r, (List.cons.inj e).2 ▸ rs⟩⟩) r
theorem Zb.take {vs : List Value} {ds : List V} (n : Nat) (r : Zb G av β h vs ds) : Zb G av β h (vs.take n) (ds.take n) :=
 Zb.ind (P := fun vs ds => ∀ n, Zb G av β h (vs.take n) (ds.take n)) (fun n => by rw [List.take_nil, List.take_nil]; exact .nil) (fun r _ ih n => by
  cases n with
  | zero => exact .nil
  | succ n => exact .cons r (ih n)) r n
theorem Zb.drop {vs : List Value} {ds : List V} (n : Nat) (r : Zb G av β h vs ds) : Zb G av β h (vs.drop n) (ds.drop n) :=
 Zb.ind (P := fun vs ds => ∀ n, Zb G av β h (vs.drop n) (ds.drop n)) (fun n => by rw [List.drop_nil, List.drop_nil]; exact .nil) (fun r rs ih n => by
  cases n with
  | zero => exact .cons r rs
  | succ n => exact ih n) r n
theorem Zb.set {vs : List Value} {ds : List V} (n : Nat) {v : Value} {d : V} (r : Zb G av β h vs ds) (x : Rep G av β h v d) : Zb G av β h (vs.set n v) (ds.set n d) :=
 Zb.ind (P := fun vs ds => ∀ n, Zb G av β h (vs.set n v) (ds.set n d)) (fun n => .nil) (fun r rs ih n => by
  cases n with
  | zero => exact .cons x rs
  | succ n => exact .cons r (ih n)) r n
theorem Zb.eraseIdx {vs : List Value} {ds : List V} (n : Nat) (r : Zb G av β h vs ds) : Zb G av β h (vs.eraseIdx n) (ds.eraseIdx n) :=
 Zb.ind (P := fun vs ds => ∀ n, Zb G av β h (vs.eraseIdx n) (ds.eraseIdx n)) (fun n => .nil) (fun r rs ih n => by
  cases n with
  | zero => exact rs
  | succ n => exact .cons r (ih n)) r n
end
structure Cx where
 env : Env
 names : List Str
 av : Addr -> Prop
 mu : Addr -> Prop
 asg : List Str
 gen : Bool
noncomputable def Cx.look (C : Cx) (σ : List (Option V)) (x : Str) : Option V := (σ[C.names.idxOf x]?).join
noncomputable def Zbe (k : Option NameKind) : Prop := k = some .local \/ k = some .cell \/ k = some .free
noncomputable def Bnd (h : Heap) (env : Env) (x : Str) (v : Value) : Prop :=
 (env.kindOf x = some .local /\ ∃ m, h.Ns env.locals m /\ m x = some v) \/
 ((env.kindOf x = some .cell \/ env.kindOf x = some .free) /\ ∃ c, env.cells.lookup x = some c /\ h.IsCell c (some v))
inductive Yf (G : GC) (av : Addr -> Prop) (β : List Addr) (h : Heap) : Addr -> V -> Prop
 | list {a : Addr} {vs : Array Value} {n : Nat} {ds : List V} : h.get? a = some (Z9 vs n) -> Zb G av β h vs.toList ds -> Yf G av β h a (.list ds)
 | dict {a : Addr} {kvs : List (Str × Value)} {ks : List Str} {ds : List V} : h.DictOf (PySem.strKind G.prog G.w) a kvs -> (a == sysModules) = false ->
   kvs.map (·.1) = ks -> Zb G av β h (kvs.map (·.2)) ds -> Yf G av β h a (.dict ks ds)
noncomputable def BSh (G : GC) (av : Addr -> Prop) (β : List Addr) (h : Heap) (a : Addr) : V -> Prop
 | .list ds => ∃ vs n, h.get? a = some (Z9 vs n) /\ Zb G av β h vs.toList ds
 | .dict ks ds => ∃ kvs : List (Str × Value), h.DictOf (PySem.strKind G.prog G.w) a kvs /\ (a == sysModules) = false /\ kvs.map (·.1) = ks /\ Zb G av β h (kvs.map (·.2)) ds
 | _ => False
theorem Yf.sh {G : GC} {av : Addr -> Prop} {β : List Addr} {h : Heap} {a : Addr} {d : V} (x : Yf G av β h a d) : BSh G av β h a d :=
 Yf.rec (motive := fun d _ => BSh G av β h a d) (fun e r => ⟨_, _, e, r⟩) (fun x hs e r => ⟨_, x, hs, e, r⟩) x
noncomputable def avB (av : Addr -> Prop) (β : List Addr) (a : Addr) : Prop := av a \/ a ∈ β
structure ZbY (G : GC) (av : Addr -> Prop) (β : List Addr) (B : List V) (h : Heap) : Prop where
 len : β.length = B.length
 nodup : β.Nodup
 apart : ∀ a ∈ β, ¬ av a
 high : ∀ a ∈ β, G.H0.objs.size <= a
 at' : ∀ (n : Nat) (a : Addr) (d : V), β[n]? = some a -> B[n]? = some d -> Yf G (avB av β) β h a d
structure GOk (G : GC) : Prop where
 g : G.H0.Ns mainGlobals G.mg
 b : G.H0.Ns builtinsNs G.mb
 gT : ¬ G.Tb mainGlobals
 bT : ¬ G.Tb builtinsNs
 nolimit : G.H0.NoLimit
 sT : ¬ G.Tb cStatics
 tabs : ∀ c P, (c, P) ∈ G.tabs -> c < G.H0.objs.size /\ P < G.H0.objs.size /\ ¬ G.Tb c
 one : ∀ c c' P, (c, P) ∈ G.tabs -> (c', P) ∈ G.tabs -> c = c'
 bm : ∃ bm o, G.mg "__builtins__" = some (.ref bm) /\ bm ≠ builtinsNs /\ G.H0.get? bm = some o /\ o.cls = .type "module" /\ o.dict = some builtinsNs /\ o.data = .plain /\ ¬ G.Tb bm
structure Zv (G : GC) (C : Cx) : Prop where
 gok : GOk G
 kind : C.env.scope.kind = .function
 globals : C.env.globals = mainGlobals
 builtins : C.env.builtins = builtinsNs
 muav : ∀ a, C.mu a -> C.av a
 tbav : ∀ a, G.Tb a -> C.av a
 muL : C.mu C.env.locals
 mu0 : ∀ a, C.mu a -> G.H0.objs.size <= a
 cellmu : ∀ x c, x ∈ C.asg -> C.env.kindOf x = some .cell -> C.env.cells.lookup x = some c -> C.mu c
 cellav : ∀ x c, C.env.cells.lookup x = some c -> C.av c
 inj : ∀ x y c, C.env.cells.lookup x = some c -> C.env.cells.lookup y = some c -> x = y
 has : ∀ x, C.env.kindOf x = some .cell \/ C.env.kindOf x = some .free -> ∃ c, C.env.cells.lookup x = some c
 cell0 : ∀ x c, C.env.cells.lookup x = some c -> G.H0.objs.size <= c
 known : ∀ x, Zbe (C.env.kindOf x) -> x ∈ C.names
 dbg : C.env.kindOf "__debug__" = Option.none
 code : C.gen = true -> ∃ c P, C.env.code = .ref c /\ (c, P) ∈ G.tabs
structure Inv (G : GC) (C : Cx) (β : List Addr) (B : List V) (σ : List (Option V)) (s : Shared) : Prop where
 wd : Wd G s
 low : ∀ a, C.av a -> a < s.heap.objs.size
 ns : ∃ m, s.heap.Ns C.env.locals m
 cells : ∀ x, x ∈ C.asg -> C.env.kindOf x = some .cell -> ∃ c v, C.env.cells.lookup x = some c /\ s.heap.IsCell c v
 vars : ∀ x d, C.look σ x = some d -> Zbe (C.env.kindOf x) -> ∃ v, Bnd s.heap C.env x v /\ Rep G (avB C.av β) β s.heap v d
 slots : σ.length = C.names.length
 boxes : ZbY G C.av β B s.heap
structure ZdG (G : GC) (X : Addr -> Prop) (s s' : Shared) : Prop where
 keep : ∀ b o, s.heap.get? b = some o -> ¬ X b -> ¬ G.Tb b -> s'.heap.get? b = some o
 size : s.heap.objs.size <= s'.heap.objs.size
structure ZsL (L : Addr) (s s' : Shared) : Prop where
 keep : ∀ b o, b ≠ L -> s.heap.get? b = some o -> s'.heap.get? b = some o
 ns : ∀ m, s.heap.Ns L m -> s'.heap.Ns L m
 size : s.heap.objs.size <= s'.heap.objs.size
 gens : s'.gens = s.gens
 os : s'.os = s.os
theorem ZdG.refl (G : GC) (X : Addr -> Prop) (s : Shared) : ZdG G X s s := ⟨fun _ _ e _ _ => e, Nat.le_refl _⟩
theorem ZdG.trans {G : GC} {X Y : Addr -> Prop} {a b c : Shared} (x : ZdG G X a b) (y : ZdG G Y b c) (h : ∀ q, q < a.heap.objs.size -> Y q -> X q) : ZdG G X a c :=
 ⟨fun q o e n t => y.keep q o (x.keep q o e n t) (fun z => n (h q (Heap.lt_size e) z)) t, Nat.le_trans x.size y.size⟩
theorem ZdG.mono {G : GC} {X Y : Addr -> Prop} {a b : Shared} (x : ZdG G X a b) (h : ∀ q, q < a.heap.objs.size -> X q -> Y q) : ZdG G Y a b :=
 ⟨fun q o e n t => x.keep q o e (fun z => n (h q (Heap.lt_size e) z)) t, x.size⟩
theorem Ext.grow {s s' : Shared} (x : Ext s s') (G : GC) (X : Addr -> Prop) : ZdG G X s s' := ⟨fun b o e _ _ => x.keep b o e, x.size⟩
structure AOk (H : Nat) (A : Around) : Prop where
 handled : A.handled = Option.none
 guards : A.guards = some []
 depth : A.depth + H <= 900
 units : A.units + 40 * H <= 9000
theorem AOk.deeper {H : Nat} {A : Around} (x : AOk (H + 1) A) (env : Env) : AOk H (A.deeper env) :=
 ⟨x.handled, x.guards, by have := x.depth; show A.depth + 1 + H <= 900; omega, by have := x.units; show A.units + 3 + 40 * H <= 9000; omega⟩
theorem AOk.le {H H' : Nat} {A : Around} (x : AOk H A) (h : H' <= H) : AOk H' A :=
 ⟨x.handled, x.guards, by have := x.depth; omega, by have := x.units; omega⟩
theorem AOk.room {H : Nat} {A : Around} (x : AOk H A) : A.depth < recursionLimit := by
 have := x.depth;show A.depth < 1000;omega
theorem AOk.room3 {H : Nat} {A : Around} (x : AOk H A) : A.units + 500 < cLine := by
 have := x.units;show A.units + 500 < 9900;omega
structure Adv (G : GC) (X : Addr -> Prop) (β : List Addr) (s : Shared) (β' : List Addr) (s' : Shared) : Prop where
 pre : ∃ βn, β' = β ++ βn /\ ∀ a ∈ βn, s.heap.objs.size <= a
 grow : ZdG G (fun a => X a \/ a ∈ β) s s'
section
variable {G : GC} {C : Cx} {X : Addr -> Prop} {β β' β'' : List Addr} {B : List V} {σ : List (Option V)} {s s' s'' : Shared}
theorem Adv.refl : Adv G X β s β s := ⟨⟨[], by simp, fun _ h => by simp at h⟩, ZdG.refl ..⟩
theorem Adv.trans (x : Adv G X β s β' s') (y : Adv G X β' s' β'' s'') : Adv G X β s β'' s'' := by
 refine Zg x.pre fun βn z_1 h1 => ?_;subst z_1;refine Zg y.pre fun βm z_1 h2 => ?_;subst z_1;refine ⟨⟨βn ++ βm, by simp, fun a ha => ?_⟩, x.grow.trans y.grow fun q hq hy => ?_⟩
 ·rcases List.mem_append.mp ha with h | h
  ·exact h1 a h
  ·exact Nat.le_trans x.grow.size (h2 a h)
 ·rcases hy with h | h
  ·exact .inl h
  ·rcases List.mem_append.mp h with h | h
   ·exact .inr h
   ·exact absurd hq (Nat.not_lt.mpr (h1 q h))
theorem Adv.mono {Y : Addr -> Prop} (x : Adv G X β s β' s') (h : ∀ a, X a -> Y a) : Adv G Y β s β' s' :=
 ⟨x.pre, x.grow.mono fun q _ z => z.imp (h q) id⟩
theorem Adv.ofExt (x : Ext s s') : Adv G X β s β s' := ⟨⟨[], by simp, fun _ h => by simp at h⟩, x.grow G _⟩
theorem Adv.repKeep (O : Zv G C) (hX : ∀ a, X a -> C.av a) (x : Adv G X β s β' s') :
  ∀ b o, s.heap.get? b = some o -> ¬ avB C.av β b -> s'.heap.get? b = some o /\ ¬ avB C.av β' b := by
 intro b o e n;refine ⟨x.grow.keep b o e (fun z => n (z.imp (hX b) id)) (fun z => n (.inl (O.tbav b z))), ?_⟩;refine Zg x.pre fun βn z_1 h1 => ?_;subst z_1
 rintro (z | z)
 ·exact n (.inl z)
 ·rcases List.mem_append.mp z with z | z
  ·exact n (.inr z)
  ·exact absurd (Heap.lt_size e) (Nat.not_lt.mpr (h1 b z))
theorem Adv.pre' (x : Adv G X β s β' s') (n : Nat) (a : Addr) (h : β[n]? = some a) : β'[n]? = some a := by
 refine Zg x.pre fun βn z_1 _ => ?_;subst z_1;rw [List.getElem?_append_left (List.getElem?_eq_some_iff.mp h).1]; exact h
theorem Adv.rep (O : Zv G C) (hX : ∀ a, X a -> C.av a) (x : Adv G X β s β' s') {v : Value} {d : V} (r : Rep G (avB C.av β) β s.heap v d) : Rep G (avB C.av β') β' s'.heap v d :=
 Rep.mono (x.repKeep O hX) x.pre' r
theorem Adv.repAll (O : Zv G C) (hX : ∀ a, X a -> C.av a) (x : Adv G X β s β' s') {vs : List Value} {ds : List V} (r : Zb G (avB C.av β) β s.heap vs ds) : Zb G (avB C.av β') β' s'.heap vs ds :=
 Zb.mono (x.repKeep O hX) x.pre' r
theorem Adv.e (O : Zv G C) (x : Adv G C.mu β s β' s') {v : Value} {d : V} (r : Rep G (avB C.av β) β s.heap v d) : Rep G (avB C.av β') β' s'.heap v d :=
 x.rep O O.muav r
theorem Adv.eAll (O : Zv G C) (x : Adv G C.mu β s β' s') {vs : List Value} {ds : List V} (r : Zb G (avB C.av β) β s.heap vs ds) : Zb G (avB C.av β') β' s'.heap vs ds :=
 x.repAll O O.muav r
theorem Ext.repKeep (x : Ext s s') (av : Addr -> Prop) : ∀ b o, s.heap.get? b = some o -> ¬ av b -> s'.heap.get? b = some o /\ ¬ av b := fun b o e n => ⟨x.keep b o e, n⟩
theorem Ext.rep (x : Ext s s') {av : Addr -> Prop} {v : Value} {d : V} (r : Rep G av β s.heap v d) : Rep G av β s'.heap v d := Rep.mono (x.repKeep av) (fun _ _ h => h) r
theorem Ext.repAll (x : Ext s s') {av : Addr -> Prop} {vs : List Value} {ds : List V} (r : Zb G av β s.heap vs ds) : Zb G av β s'.heap vs ds := Zb.mono (x.repKeep av) (fun _ _ h => h) r
theorem Bnd.keeps {h h' : Heap} {env : Env} {x : Str} {v : Value} (b : Bnd h env x v) (hk : ∀ b o, h.get? b = some o -> h'.get? b = some o) : Bnd h' env x v := by
 rcases b with ⟨k, m, hn, hm⟩ | ⟨k, c, hc, hv⟩
 ·exact .inl ⟨k, m, hn.keeps hk, hm⟩
 ·exact .inr ⟨k, c, hc, hv.keeps hk⟩
theorem Yf.mono {av av' : Addr -> Prop} {h h' : Heap} (hk : ∀ b o, h.get? b = some o -> ¬ av b -> h'.get? b = some o /\ ¬ av' b) (hβ : ∀ (n : Nat) (a : Addr), β[n]? = some a -> β'[n]? = some a)
  {a : Addr} {d : V} (hat : ∀ o, h.get? a = some o -> h'.get? a = some o) (x : Yf G av β h a d) : Yf G av' β' h' a d := by
 cases x with
 | list e r => exact .list (hat _ e) (Zb.mono hk hβ r)
 | dict e hs he r => exact .dict (Zbu e hat) hs he (Zb.mono hk hβ r)
theorem ZbY.keeps {av : Addr -> Prop} {h h' : Heap} (x : ZbY G av β B h) (hk : ∀ b o, h.get? b = some o -> h'.get? b = some o) : ZbY G av β B h' :=
 ⟨x.len, x.nodup, x.apart, x.high, fun n a d e1 e2 => (x.at' n a d e1 e2).mono (fun b o e n => ⟨hk b o e, n⟩) (fun _ _ e => e) fun o e => hk a o e⟩
theorem Inv.ext (I : Inv G C β B σ s) (x : Ext s s') : Inv G C β B σ s' where
 wd := I.wd.ext x
 low := fun a h => Nat.lt_of_lt_of_le (I.low a h) x.size
 ns := let ⟨m, hn⟩ := I.ns; ⟨m, hn.keeps x.keep⟩
 cells := fun y ya hy => let ⟨c, v, h1, h2⟩ := I.cells y ya hy; ⟨c, v, h1, h2.keeps x.keep⟩
 vars := fun y d e k => let ⟨v, b, r⟩ := I.vars y d e k; ⟨v, b.keeps x.keep, x.rep r⟩
 slots := I.slots
 boxes := I.boxes.keeps x.keep
theorem Inv.extL (O : Zv G C) (I : Inv G C β B σ s) (x : ZsL C.env.locals s s') : Inv G C β B σ s' /\ Adv G C.mu β s β s' := by
 have hL0 := O.mu0 _ O.muL;have hlt : ∀ {b}, b < G.H0.objs.size -> b ≠ C.env.locals := fun e z => absurd e (Nat.not_lt.mpr (z ▸ hL0))
 have hk : ∀ b o, s.heap.get? b = some o -> ¬ avB C.av β b -> s'.heap.get? b = some o /\ ¬ avB C.av β b :=
  fun b o e n => ⟨x.keep b o (fun z => n (.inl (O.muav b (z ▸ O.muL)))) e, n⟩
 obtain ⟨m, hm⟩ := I.ns
 have cne : ∀ {c v}, s.heap.IsCell c v -> c ≠ C.env.locals := by
  rintro c v ⟨o', e3, e4⟩ rfl
  refine YD hm fun o es ep e1 e2 _ => ?_;clear hm;rw [e1] at e3; cases e3; rw [e2] at e4; cases e4
 have hcell : ∀ {c v}, s.heap.IsCell c v -> s'.heap.IsCell c v := fun h => let ⟨o, ho, hd⟩ := h; ⟨o, x.keep _ o (cne h) ho, hd⟩
 refine ⟨⟨⟨fun b o e n => x.keep b o (hlt (Heap.lt_size e)) (I.wd.keep b o e n), fun c P m => ?_, x.gens ▸ I.wd.gens, x.os.trans I.wd.os⟩, fun b hb' => Nat.lt_of_lt_of_le (I.low b hb') x.size, ⟨m, x.ns m hm⟩,
  fun y ya hy => let ⟨c, v, h1, h2⟩ := I.cells y ya hy; ⟨c, v, h1, hcell h2⟩, fun y e hy ky => ?_, I.slots,
  ⟨I.boxes.len, I.boxes.nodup, I.boxes.apart, I.boxes.high, fun n b e e1 e2 => ?_⟩⟩, ⟨⟨[], by simp, fun _ h => by simp at h⟩, fun b o e n t => x.keep b o (fun z => n (.inl (z ▸ O.muL))) e, x.size⟩⟩
 ·refine Zg (I.wd.tab c P m) fun ps h1 h2 => ?_
  refine Xx (O.gok.tabs c P m) fun hc hP _ => ?_;have ex : Heap.ExtBut C.env.locals s.heap s'.heap := fun b o n e => x.keep b o n e;exact ⟨ps, h1.extBut ex (hlt hc) (hlt hP), h2.extBut ex (hlt hc) (hlt hP)⟩
 ·refine Zg (I.vars y e hy ky) fun v' b' r' => ?_
  refine ⟨v', ?_, Rep.mono hk (fun _ _ e => e) r'⟩;rcases b' with ⟨k, m2, hn, hm2⟩ | ⟨k, c, hc, hv⟩
  ·exact .inl ⟨k, m2, x.ns m2 hn, hm2⟩
  ·exact .inr ⟨k, c, hc, hcell hv⟩
 ·exact (I.boxes.at' n b e e1 e2).mono hk (fun _ _ z => z) fun o z => x.keep b o (fun q => I.boxes.apart b (List.mem_of_getElem? e1) (O.muav b (q ▸ O.muL))) z
end
noncomputable def Zs (G : GC) (C : Cx) (β : List Addr) (σ : List (Option V)) (s : Shared) (d : V) (B' : List V) (v : Value) (s' : Shared) : Prop :=
 ∃ β', Adv G C.mu β s β' s' /\ Inv G C β' B' σ s' /\ Rep G (avB C.av β') β' s'.heap v d
noncomputable def Zsd (G : GC) (C : Cx) (β : List Addr) (σ : List (Option V)) (s : Shared) (ds : List V) (B' : List V) (vs : List Value) (s' : Shared) : Prop :=
 ∃ β', Adv G C.mu β s β' s' /\ Inv G C β' B' σ s' /\ Zb G (avB C.av β') β' s'.heap vs ds
noncomputable def Zkb (G : GC) (C : Cx) (β : List Addr) (σ : List (Option V)) (s : Shared) (b : Bool) (B' : List V) (b' : Bool) (s' : Shared) : Prop :=
 ∃ β', Adv G C.mu β s β' s' /\ Inv G C β' B' σ s' /\ b' = b
noncomputable def Yn (G : GC) (H : Nat) (C : Cx) (σ : List (Option V)) (B : List V) (t : Sem Value) (d : V) (B' : List V) : Prop :=
 ∀ A β s, AOk H A -> Inv G C β B σ s -> Ok G.prog G.w A t s (Zs G C β σ s d B')
noncomputable def Zj2 (G : GC) (H : Nat) (C : Cx) (σ : List (Option V)) (B : List V) (t : Sem (List Value)) (ds : List V) (B' : List V) : Prop :=
 ∀ A β s, AOk H A -> Inv G C β B σ s -> Ok G.prog G.w A t s (Zsd G C β σ s ds B')
noncomputable def EvB (G : GC) (H : Nat) (C : Cx) (σ : List (Option V)) (B : List V) (t : Sem Bool) (b : Bool) (B' : List V) : Prop :=
 ∀ A β s, AOk H A -> Inv G C β B σ s -> Ok G.prog G.w A t s (Zkb G C β σ s b B')
section
variable {G : GC} {C : Cx} {β β' : List Addr} {B B' : List V} {σ : List (Option V)} {s s' s'' : Shared} {d : V} {v : Value}
theorem Zs.from (x : Adv G C.mu β s β' s') (y : Zs G C β' σ s' d B' v s'') : Zs G C β σ s d B' v s'' :=
 let ⟨β'', a, i, r⟩ := y; ⟨β'', x.trans a, i, r⟩
theorem Zs.ofExtL (O : Zv G C) (I : Inv G C β B σ s) (x : ZsL C.env.locals s s') (r : Rep G (avB C.av β) β s'.heap v d) : Zs G C β σ s d B v s' :=
 let ⟨i, a⟩ := I.extL O x; ⟨β, a, i, r⟩
theorem Zs.ofExt (I : Inv G C β B σ s) (x : Ext s s') (r : Rep G (avB C.av β) β s'.heap v d) : Zs G C β σ s d B v s' := ⟨β, .ofExt x, I.ext x, r⟩
end
section
variable {G : GC} {C : Cx} {β : List Addr} {B : List V} {σ : List (Option V)} {s s' : Shared} {H : Nat} {d : V} {v : Value}
theorem ZkK (O : Zv G C) {x : Str} (k : Zbe (C.env.kindOf x)) : (x == ("__debug__" : Str)) = false := by
 cases h : x == ("__debug__" : Str) with
 | false => rfl
 | true =>
  rw [beq_iff_eq] at h;subst h;rw [O.dbg] at k;rcases k with k | k | k <;> cases k
theorem Bnd.load (O : Zv G C) {x : Str} {A : Around} {E : Value -> Shared -> Prop} {Q : Value -> Shared -> Prop} (b : Bnd s.heap C.env x v) (h : Q v s)
  (hd : (x == ("__classdict__" : Str)) = false) : wpAny (model G.prog G.w) A (loadName C.env x) Q E s := by
 rcases b with ⟨k, m, hn, hm⟩ | ⟨k | k, c, hc, hv⟩
 ·exact wpAny_loadName_local O.kind k hn hm h
 ·exact wpAny_loadName_cell O.kind k hc hv h
 ·exact wpAny_loadName_free O.kind k hc hv h hd
theorem ZrD (O : Zv G C) {x : Str} {pos : Pos} (k : Zbe (C.env.kindOf x)) (hd : C.look σ x = some d) (hx : (x == ("__classdict__" : Str)) = false) :
  Yn G H C σ B (eval (.Name x pos) C.env) d B := by
 intro A β s hA I E;refine Zg (I.vars x d hd k) fun v b r => ?_;exact wpAny_Name (b.load O (Zs.ofExt I (Ext.refl s) r) hx) (ZkK O k)
theorem Zpw (O : Zv G C) {x : Str} (k : Zbe (C.env.kindOf x)) (hd : C.look σ x = some d) (hx : (x == ("__classdict__" : Str)) = false) :
  Yn G H C σ B (loadName C.env x) d B := by
 intro A β s hA I E;refine Zg (I.vars x d hd k) fun v b r => ?_;exact b.load O (Zs.ofExt I (Ext.refl s) r) hx
theorem J3 {h : Heap} {a b : Addr} {m : Str -> Option Value} {v : Option Value} (x : h.Ns a m) (y : h.IsCell b v) : b ≠ a := by
 rintro rfl
 refine YD x fun o es ep e1 e2 _ => ?_;clear x;refine Zg y fun o' e3 e4 => ?_;clear y;rw [e1] at e3; cases e3; rw [e2] at e4; cases e4
theorem Zfm (hσ : σ.length = C.names.length) {x : Str} (hx : x ∈ C.names) (d : V) : C.look (σ.set (C.names.idxOf x) (some d)) x = some d := by
 unfold Cx.look;have : C.names.idxOf x < σ.length := by rw [hσ]; exact List.idxOf_lt_length_of_mem hx
 simp [List.getElem?_set_self this]
theorem getElem?_idxOf' : ∀ {l : List Str} {x : Str}, x ∈ l -> l[l.idxOf x]? = some x
 | y :: l, x, h => by
  rw [List.idxOf_cons]
  by_cases e : y = x
  ·subst e; simp
  ·have : (y == x) = false := by simpa using e
   rw [this];rcases List.mem_cons.mp h with h | h
   ·exact absurd h.symm e
   ·simpa using getElem?_idxOf' h
theorem Zhi {l : List Str} {x y : Str} (hx : x ∈ l) (h : x ≠ y) : l.idxOf x ≠ l.idxOf y := by
 intro e;apply h;have h1 := getElem?_idxOf' hx;have hy : y ∈ l := List.idxOf_lt_length_iff.mp (e ▸ List.idxOf_lt_length_of_mem hx);have h2 := getElem?_idxOf' hy;rw [e] at h1;exact Option.some.inj (h1.symm.trans h2)
theorem Zg0 {x y : Str} (hx : x ∈ C.names) (h : y ≠ x) (d : V) : C.look (σ.set (C.names.idxOf x) (some d)) y = C.look σ y := by
 unfold Cx.look;rw [List.getElem?_set_ne (Zhi hx (Ne.symm h))]
theorem Inv.same (O : Zv G C) (I : Inv G C β B σ s) {a : Addr} {h' : Heap} {tk : Nat} (ha : C.mu a) (hs : Heap.SameBut a s.heap h') {x : Str} (hx : x ∈ C.names) (hxk : Zbe (C.env.kindOf x))
  (hns : ∃ m, h'.Ns C.env.locals m)
  (hcells : ∀ y, y ∈ C.asg -> C.env.kindOf y = some .cell -> ∃ c v, C.env.cells.lookup y = some c /\ h'.IsCell c v)
  (hbnd : ∀ y v, y ≠ x -> Bnd s.heap C.env y v -> Bnd h' C.env y v)
  (hb : Bnd h' C.env x v) (r : Rep G (avB C.av β) β s.heap v d) : Inv G C β B (σ.set (C.names.idxOf x) (some d)) { s with heap := h', toks := tk } /\
   Adv G C.mu β s β { s with heap := h', toks := tk } := by
 have hne : ∀ b o, s.heap.get? b = some o -> b ≠ a -> h'.get? b = some o := fun b o e n => (hs.2 b n).trans e
 have hk : ∀ b o, s.heap.get? b = some o -> ¬ avB C.av β b -> h'.get? b = some o /\ ¬ avB C.av β b :=
  fun b o e n => ⟨hne b o e fun z => n (.inl (O.muav b (z ▸ ha))), n⟩
 have hr : ∀ {v d}, Rep G (avB C.av β) β s.heap v d -> Rep G (avB C.av β) β h' v d := fun r => Rep.mono hk (fun _ _ e => e) r;have hβ : ∀ b ∈ β, b ≠ a := fun b hb e => I.boxes.apart b hb (O.muav b (e ▸ ha));have ha0 : G.H0.objs.size <= a := O.mu0 a ha;have hlt : ∀ {b o}, G.H0.get? b = some o -> b ≠ a := fun e z => absurd (Heap.lt_size e) (Nat.not_lt.mpr (z ▸ ha0))
 refine ⟨⟨⟨fun b o e n => hne b o (I.wd.keep b o e n) (hlt e), fun c P m => ?_, I.wd.gens, I.wd.os⟩, fun b hb' => by show b < h'.objs.size; rw [hs.1]; exact I.low b hb', hns, hcells, fun y e hy ky => ?_, by rw [List.length_set]; exact I.slots,
  ⟨I.boxes.len, I.boxes.nodup, I.boxes.apart, I.boxes.high, fun n b e e1 e2 => ?_⟩⟩, ⟨⟨[], by simp, fun _ h => by simp at h⟩, fun b o e n t => hne b o e fun z => n (.inl (z ▸ ha)), by show s.heap.objs.size <= h'.objs.size; rw [hs.1]; exact Nat.le_refl _⟩⟩
 ·refine Zg (I.wd.tab c P m) fun ps h1 h2 => ?_
  refine Xx (O.gok.tabs c P m) fun hc hP _ => ?_;have n1 : c ≠ a := fun z => absurd hc (Nat.not_lt.mpr (z ▸ ha0));have n2 : P ≠ a := fun z => absurd hP (Nat.not_lt.mpr (z ▸ ha0));exact ⟨ps, h1.extBut hs.extBut n1 n2, h2.extBut hs.extBut n1 n2⟩
 ·by_cases hyx : y = x
  ·subst hyx
   rw [Zfm I.slots hx] at hy
   first | exact nn hy | cases hy
   exact ⟨v, hb, hr r⟩
  ·rw [Zg0 hx hyx] at hy
   refine Zg (I.vars y e hy ky) fun v' b' r' => ?_;exact ⟨v', hbnd y v' hyx b', hr r'⟩
 ·exact (I.boxes.at' n b e e1 e2).mono hk (fun _ _ z => z) fun o z => hne b o z (hβ b (List.mem_of_getElem? e1))
theorem ZhL (O : Zv G C) (I : Inv G C β B σ s) {A : Around} {x : Str} (hxa : x ∈ C.asg) (k : C.env.kindOf x = some .local \/ C.env.kindOf x = some .cell) (r : Rep G (avB C.av β) β s.heap v d) :
  Ok G.prog G.w A (storeName C.env x v) s fun _ s' => Inv G C β B (σ.set (C.names.idxOf x) (some d)) s' /\ Adv G C.mu β s β s' := by
 intro E;have kv : Zbe (C.env.kindOf x) := k.imp id .inl;have hx := O.known x kv;obtain ⟨m, hn⟩ := I.ns;rcases k with k | k
 ·refine wpAny_storeName_local k hn (fun h' hn' hs' => ?_) (by rw [O.kind]; rfl)
  refine I.same O O.muL hs' hx kv ⟨_, hn'⟩ (fun y ya hy => ?_) (fun y v' hyx b => ?_) (.inl ⟨k, _, hn', by simp⟩) r
  ·refine YA (I.cells y ya hy) fun c v0 h1 h2 => ?_
   exact ⟨c, v0, h1, h2.sameBut hs' (J3 hn h2)⟩
  ·rcases b with ⟨ky, m2, hn2, hm2⟩ | ⟨ky, c, hc, hv⟩
   ·refine .inl ⟨ky, _, hn', ?_⟩
    show (if y = x then some v else m y) = some v';rw [if_neg hyx, Heap.Ns.agree hn hn2 y]; exact hm2
   ·exact .inr ⟨ky, c, hc, hv.sameBut hs' (J3 hn hv)⟩
 ·refine YA (I.cells x hxa k) fun c v0 hc hv => ?_
  refine wpAny_storeName_cell O.kind k hc hv fun h' hv' hs' => ?_;refine I.same O (O.cellmu x c hxa k hc) hs' hx kv ⟨m, hn.sameBut hs' (Ne.symm (J3 hn hv))⟩ (fun y ya hy => ?_) (fun y v' hyx b => ?_) (.inr ⟨.inl k, c, hc, hv'⟩) r
  ·by_cases hyx : y = x
   ·subst hyx; exact ⟨c, some v, hc, hv'⟩
   ·refine YA (I.cells y ya hy) fun c2 v2 h1 h2 => ?_
    exact ⟨c2, v2, h1, h2.sameBut hs' fun z => hyx (O.inj y x c (z ▸ h1) hc)⟩
  ·rcases b with ⟨ky, m2, hn2, hm2⟩ | ⟨ky, c2, hc2, hv2⟩
   ·exact .inl ⟨ky, m2, hn2.sameBut hs' (Ne.symm (J3 hn2 hv)), hm2⟩
   ·exact .inr ⟨ky, c2, hc2, hv2.sameBut hs' fun z => hyx (O.inj y x c (z ▸ hc2) hc)⟩
theorem ZjR (O : Zv G C) (I : Inv G C β B σ s) {A : Around} {x : Str} (hxa : x ∈ C.asg) (k : C.env.kindOf x = some .local \/ C.env.kindOf x = some .cell) (r : Rep G (avB C.av β) β s.heap v d) :
  Ok G.prog G.w A (bindName C.env x v) s fun _ s' => Inv G C β B (σ.set (C.names.idxOf x) (some d)) s' /\ Adv G C.mu β s β s' := by
 intro E;unfold bindName;refine wpAny_bind (wpAny_holding (wpAny_point (wpAny_bind ((ZhL O I hxa k r).to fun _ s' h => wpAny_point h))))
theorem Zfn (O : Zv G C) (I : Inv G C β B σ s) {A : Around} {x : Str} {pos : Pos} (hxa : x ∈ C.asg) (k : C.env.kindOf x = some .local \/ C.env.kindOf x = some .cell) (r : Rep G (avB C.av β) β s.heap v d) :
  Ok G.prog G.w A (assign (.Name x pos) C.env v) s fun _ s' => Inv G C β B (σ.set (C.names.idxOf x) (some d)) s' /\ Adv G C.mu β s β s' :=
 fun E => wpAny_bind (wpAny_standAt (ZjR O I hxa k r E))
end
section
variable {G : GC} {C : Cx} {β : List Addr} {B B' B₁ B₂ : List V} {σ : List (Option V)} {s s' : Shared} {H : Nat} {d d₁ d₂ : V} {v : Value}
theorem ZrT (O : Zv G C) {i : Int} {k : Nat} {pos : Pos} : Yn G H C σ B (eval (.Constant (.int i) k pos) C.env) (.int i) B :=
 fun A β s hA I E => wpAny_Constant_int (Zs.ofExt I (Ext.toks s _) (.int _ _))
theorem Zri (O : Zv G C) {x : Str} {k : Nat} {pos : Pos} : Yn G H C σ B (eval (.Constant (.str x) k pos) C.env) (.str x) B :=
 fun A β s hA I E => Constant_str (Zs.ofExt I (Ext.toks s _) (.str _ _))
theorem Zo2 (O : Zv G C) {b : Bool} {k : Nat} {pos : Pos} : Yn G H C σ B (eval (.Constant (.bool b) k pos) C.env) (.bool b) B :=
 fun A β s hA I E => fun _ _ _ => Zs.ofExt I (Ext.refl s) (.bool b)
theorem ZpK : Zj2 G H C σ B (spliced []) [] B := fun A β s hA I E => spliced_nil ⟨β, .refl, I, .nil⟩
theorem Znm (O : Zv G C) {t : Sem Value} {rest : List (Bool × Sem Value)} {ds : List V} (h : Yn G H C σ B t d B₁) (hr : Zj2 G H C σ B₁ (spliced rest) ds B₂) :
  Zj2 G H C σ B (spliced ((false, t) :: rest)) (d :: ds) B₂ := fun A β s hA I E =>
 spliced_cons ((h A β s hA I).t3 fun v s'1 β1 a'1 i'1 r'1 => (hr A β1 s'1 hA i'1).t3 fun vs s'2 β2 a'2 i'2 r'2 =>
  ⟨β2, a'1.trans a'2, i'2, .cons (a'2.e O r'1) r'2⟩)
noncomputable def XE (e : Expr) : Bool := !(Nat.beq e.ctorIdx 22)
theorem ZA {e : Expr} {rest : List Expr} {env : Env} (h : XE e = true) : starEach (e :: rest) env = (false, eval e env) :: starEach rest env := by
 cases e <;> first | rfl | cases h
theorem ZW {pos : Pos} {t : Sem Value} {rest : List (Bool × Sem Value)} : backTo pos ((false, t) :: rest) = (false, t) :: backTo pos rest := rfl
inductive Row (G : GC) (H : Nat) (C : Cx) (σ : List (Option V)) : List V -> List Expr -> List V -> List V -> Prop
 | nil (B : List V) : Row G H C σ B [] [] B
 | cons (B B₁ B₂ : List V) (e : Expr) (es : List Expr) (d : V) (ds : List V) : XE e = true -> Yn G H C σ B (eval e C.env) d B₁ -> Row G H C σ B₁ es ds B₂ -> Row G H C σ B (e :: es) (d :: ds) B₂
theorem Row.evs (O : Zv G C) {es : List Expr} {ds : List V} {pos : Pos} (R : Row G H C σ B es ds B') : Zj2 G H C σ B (spliced (backTo pos (starEach es C.env))) ds B' := by
 induction R with
 | nil => exact ZpK
 | cons _ _ _ _ _ _ _ hn h _ ih => rw [ZA hn, ZW]; exact Znm O h ih
theorem Row.plain {es : List Expr} {ds : List V} {pos : Pos} (R : Row G H C σ B es ds B') : (backTo pos (starEach es C.env)).any (·.1) = false := by
 induction R with
 | nil => rfl
 | cons _ _ _ _ _ _ _ hn h _ ih => rw [ZA hn, ZW, List.any_cons, ih]; rfl
theorem Row.all {es : List Expr} {ds : List V} {pos : Pos} (R : Row G H C σ B es ds B') : (backTo pos (starEach es C.env)).all (!·.1) = true := by
 induction R with
 | nil => rfl
 | cons _ _ _ _ _ _ _ hn h _ ih => rw [ZA hn, ZW, List.all_cons, ih]; rfl
theorem Row.len {es : List Expr} {ds : List V} (R : Row G H C σ B es ds B') : es.length = ds.length := by
 induction R with
 | nil => rfl
 | cons _ _ _ _ _ _ _ hn h _ ih => simp [ih]
theorem Zdy {av : Addr -> Prop} {h : Heap} {a : Addr} {d : V} (x : Yf G av β h a d) : ∃ o, h.get? a = some o := by
 cases x with
 | list e _ => exact ⟨_, e⟩
 | dict e _ _ _ => exact Xc e
theorem Inv.fresh (I : Inv G C β B σ s) {a : Addr} (h : s.heap.objs.size <= a) : ¬ avB C.av β a := by
 rintro (z | z)
 ·exact absurd (I.low _ z) (Nat.not_lt.mpr h)
 ·obtain ⟨n, hn⟩ := List.getElem?_of_mem z
  have hB := I.boxes.len;have hlt : n < B.length := by rw [<- hB]; exact (List.getElem?_eq_some_iff.mp hn).1
  obtain ⟨o, ho⟩ := Zdy (I.boxes.at' n _ _ hn (List.getElem?_eq_getElem hlt));exact absurd (Heap.lt_size ho) (Nat.not_lt.mpr h)
theorem ZoZ (I : Inv G C β B σ s) {vs : List Value} {ds : List V} {A : Around} (r : Zb G (avB C.av β) β s.heap vs ds) (hsz : ds.length <= sizeLine) :
  Ok G.prog G.w A (newTuple vs) s fun v s' => v = .ref s.heap.objs.size /\ s' = { s with heap := s.heap.push (YG vs.toArray 0) } /\ Ext s s' /\ Rep G (avB C.av β) β s'.heap v (.tup ds) := by
 intro E;refine wpAny_newObj_type ⟨rfl, rfl, Ext.push s _, ?_⟩ (by show vs.toArray.size <= sizeLine; rw [List.size_toArray, r.length]; exact hsz);exact .tup (vs := vs.toArray) (n := 0) (Heap.get?_push_size _ rfl) (I.fresh (Nat.le_refl _)) (Ext.repAll (Ext.push s (YG vs.toArray 0)) r)
theorem ZnQ (O : Zv G C) {es : List Expr} {ds : List V} {k : Nat} {pos : Pos} (R : Row G H C σ B es ds B') (hsz : ds.length <= sizeLine) :
  Yn G H C σ B (eval (.Tuple es k pos) C.env) (.tup ds) B' := fun A β s hA I E =>
 Tuple_ ((R.evs O A β s hA I).t3 fun vs s'1 β1 a'1 i'1 r'1 => (ZoZ i'1 r'1 hsz).to fun v s'2 ⟨_, _, x, r⟩ => (Zs.ofExt i'1 x r).from a'1)
noncomputable def Op1 (G : GC) (H : Nat) (B : List V) (op : Value -> Sem Value) (d₁ d : V) : Prop :=
 ∀ (C : Cx) σ A β s v, Zv G C -> AOk H A -> Inv G C β B σ s -> Rep G (avB C.av β) β s.heap v d₁ -> Ok G.prog G.w A (op v) s (Zs G C β σ s d B)
noncomputable def Op2 (G : GC) (H : Nat) (B : List V) (op : Value -> Value -> Sem Value) (d₁ d₂ d : V) : Prop :=
 ∀ (C : Cx) σ A β s v w, Zv G C -> AOk H A -> Inv G C β B σ s -> Rep G (avB C.av β) β s.heap v d₁ -> Rep G (avB C.av β) β s.heap w d₂ -> Ok G.prog G.w A (op v w) s (Zs G C β σ s d B)
theorem Zsk (O : Zv G C) {l r : Expr} {op : Operator} {pos : Pos} (h1 : Yn G H C σ B (eval l C.env) d₁ B₁) (h2 : Yn G H C σ B₁ (eval r C.env) d₂ B₂)
  (h : Op2 G H B₂ (binaryOp op) d₁ d₂ d) : Yn G H C σ B (eval (.BinOp l op r pos) C.env) d B₂ := fun A β s hA I E =>
 wpAny_BinOp ((h1 A β s hA I).t3 fun v s'1 β1 a'1 i'1 r'1 => (h2 A β1 s'1 hA i'1).t3 fun u s'2 β2 a'2 i'2 r'2 =>
  (h C σ A β2 s'2 v u O hA i'2 (a'2.e O r'1) r'2).to fun x s'3 p => (p.from a'2).from a'1)
theorem Zs0 (O : Zv G C) {x : Expr} {op : UnaryOp} {pos : Pos} (h1 : Yn G H C σ B (eval x C.env) d₁ B₁) (h : Op1 G H B₁ (unaryOp op) d₁ d) :
  Yn G H C σ B (eval (.UnaryOp op x pos) C.env) d B₁ := fun A β s hA I E =>
 wpAny_UnaryOp ((h1 A β s hA I).t3 fun v s'1 β1 a'1 i'1 r'1 => (h C σ A β1 s'1 v O hA i'1 r'1).to fun x s'3 p => p.from a'1)
theorem ZrK (O : Zv G C) {l r : Expr} {op : CmpOp} {pos : Pos} (h1 : Yn G H C σ B (eval l C.env) d₁ B₁) (h2 : Yn G H C σ B₁ (eval r C.env) d₂ B₂)
  (h : Op2 G H B₂ (compareOp op) d₁ d₂ d) (hm : behindInMarks op r = false) : Yn G H C σ B (eval (.Compare l [op] [r] pos) C.env) d B₂ := fun A β s hA I E =>
 wpAny_Compare1 ((h1 A β s hA I).t3 fun v s'1 β1 a'1 i'1 r'1 => (h2 A β1 s'1 hA i'1).t3 fun u s'2 β2 a'2 i'2 r'2 =>
  (h C σ A β2 s'2 v u O hA i'2 (a'2.e O r'1) r'2).to fun x s'3 p => (p.from a'2).from a'1) hm
theorem Zo {av : Addr -> Prop} {h : Heap} {v : Value} {i : Int} (r : Rep G av β h v (.int i)) : ∃ t, v = .int i t := r.sh
theorem Z7 {av : Addr -> Prop} {h : Heap} {v : Value} {x : Str} (r : Rep G av β h v (.str x)) : ∃ t, v = .str x t := r.sh
theorem ZcG {av : Addr -> Prop} {h : Heap} {v : Value} {b : Bool} (r : Rep G av β h v (.bool b)) : v = .bool b := r.sh
theorem Zrw {a b : Int} : Op2 G H B (binaryOp .Add) (.int a) (.int b) (.int (a + b)) := fun C σ A β s v w O hA I rv rw E => by
 obtain ⟨t, rfl⟩ := Zo rv; obtain ⟨u, rfl⟩ := Zo rw;exact add_int (Zs.ofExt I (Ext.toks s _) (.int _ _))
theorem ZrJ {a b : Int} : Op2 G H B (binaryOp .Sub) (.int a) (.int b) (.int (a - b)) := fun C σ A β s v w O hA I rv rw E => by
 obtain ⟨t, rfl⟩ := Zo rv; obtain ⟨u, rfl⟩ := Zo rw;exact sub_int (Zs.ofExt I (Ext.toks s _) (.int _ _))
theorem Zsn {a b : Int} (hm : IntMulOk a b) : Op2 G H B (binaryOp .Mult) (.int a) (.int b) (.int (a * b)) := fun C σ A β s v w O hA I rv rw E => by
 obtain ⟨t, rfl⟩ := Zo rv; obtain ⟨u, rfl⟩ := Zo rw;exact mul_int (Zs.ofExt I (Ext.toks s _) (.int _ _)) hm
theorem Zr0 {a b : Int} (hb : b ≠ 0) : Op2 G H B (binaryOp .Mod) (.int a) (.int b) (.int (Int.fmod a b)) := fun C σ A β s v w O hA I rv rw E => by
 obtain ⟨t, rfl⟩ := Zo rv; obtain ⟨u, rfl⟩ := Zo rw;exact mod_int' hb (Zs.ofExt I (Ext.toks s _) (.int _ _))
theorem Zr3 {a b : Int} (hb : b ≠ 0) (hp : Builtin.divisionGoesByPylong a b = false) : Op2 G H B (binaryOp .FloorDiv) (.int a) (.int b) (.int (Int.fdiv a b)) := fun C σ A β s v w O hA I rv rw E => by
 obtain ⟨t, rfl⟩ := Zo rv; obtain ⟨u, rfl⟩ := Zo rw;exact floordiv_int hb (Zs.ofExt I (Ext.toks s _) (.int _ _)) (.inl hp)
theorem Zq6 {a n : Int} (h0 : 0 <= n) (hs : ((Builtin.Int.intBits a : Nat) : Int) * n <= 2 ^ 27) : Op2 G H B (binaryOp .Pow) (.int a) (.int n) (.int (a ^ n.toNat)) := fun C σ A β s v w O hA I rv rw E => by
 obtain ⟨t, rfl⟩ := Zo rv; obtain ⟨u, rfl⟩ := Zo rw;exact pow_int h0 hs (Zs.ofExt I (Ext.toks s _) (.int _ _))
theorem Zq3 {a n : Int} (h0 : 0 <= n) (h1 : n <= 1000000) (h2 : a.natAbs < 2 ^ 64) : Op2 G H B (binaryOp .LShift) (.int a) (.int n) (.int (a * 2 ^ n.toNat)) := fun C σ A β s v w O hA I rv rw E => by
 obtain ⟨t, rfl⟩ := Zo rv; obtain ⟨u, rfl⟩ := Zo rw;exact lshift_int_small h0 h1 h2 (Zs.ofExt I (Ext.toks s _) (.int _ _))
theorem ZrC {a b : Int} : Op2 G H B (binaryOp .BitAnd) (.int a) (.int b) (.int (Builtin.bitAnd a b)) := fun C σ A β s v w O hA I rv rw E => by
 obtain ⟨t, rfl⟩ := Zo rv; obtain ⟨u, rfl⟩ := Zo rw;exact and_int (Zs.ofExt I (Ext.toks s _) (.int _ _))
theorem ZrZ {a : Int} : Op1 G H B (unaryOp .USub) (.int a) (.int (-a)) := fun C σ A β s v O hA I rv E => by
 obtain ⟨t, rfl⟩ := Zo rv;exact neg_int (Zs.ofExt I (Ext.toks s _) (.int _ _))
theorem ZsU {a b : Int} : Op2 G H B (compareOp .Lt) (.int a) (.int b) (.bool (decide (a < b))) := fun C σ A β s v w O hA I rv rw E => by
 obtain ⟨t, rfl⟩ := Zo rv; obtain ⟨u, rfl⟩ := Zo rw;exact lt_int (Zs.ofExt I (Ext.refl s) (.bool _))
theorem Ztk {a b : Int} : Op2 G H B (compareOp .Gt) (.int a) (.int b) (.bool (decide (b < a))) := fun C σ A β s v w O hA I rv rw E => by
 obtain ⟨t, rfl⟩ := Zo rv; obtain ⟨u, rfl⟩ := Zo rw;exact gt_int (Zs.ofExt I (Ext.refl s) (.bool _))
theorem Zs2 {a b : Int} : Op2 G H B (compareOp .GtE) (.int a) (.int b) (.bool (decide (b <= a))) := fun C σ A β s v w O hA I rv rw E => by
 obtain ⟨t, rfl⟩ := Zo rv; obtain ⟨u, rfl⟩ := Zo rw;exact ge_int (Zs.ofExt I (Ext.refl s) (.bool _))
theorem Zrp {x y : Str} (hsz : x.length + y.length <= sizeLine) : Op2 G H B (binaryOp .Add) (.str x) (.str y) (.str (x ++ y)) := fun C σ A β s v w O hA I rv rw E => by
 obtain ⟨t, rfl⟩ := Z7 rv; obtain ⟨u, rfl⟩ := Z7 rw;exact add_str (fun t' tk => Zs.ofExt I (Ext.toks s _) (.str _ _)) hsz
theorem ZkZ {x : Str} {n : Int} (hm : MulOk x n) : Op2 G H B (binaryOp .Mult) (.str x) (.int n) (.str (Txt.mul x n)) := fun C σ A β s v w O hA I rv rw E => by
 obtain ⟨t, rfl⟩ := Z7 rv; obtain ⟨u, rfl⟩ := Zo rw;exact SB.mul hm fun t' tk => Zs.ofExt I (Ext.toks s _) (.str _ _)
end
open PySem PySem.Calls PyProof.Rows PySem.SeqAt
section
variable {G : GC} {av : Addr -> Prop} {β : List Addr} {h : Heap}
theorem Zhr {vs us : Array Value} {n m : Nat} (e : Z9 vs n = Z9 us m) : vs = us /\ n = m := by
 unfold Z9 at e; injection e with _ _ e _; injection e with e1 e2; exact ⟨e1, e2⟩
theorem ZiF {vs us : Array Value} {n m : Nat} (e : YG vs n = YG us m) : vs = us /\ n = m := by
 unfold YG at e; injection e with _ _ e _; injection e with e1 e2; exact ⟨e1, e2⟩
theorem Zgc {β : List Addr} (hn : β.Nodup) {i j : Nat} (hi : i < β.length) (hj : j < β.length) (e : β[i] = β[j]) : i = j := by
 have hp := List.pairwise_iff_getElem.mp hn;rcases Nat.lt_trichotomy i j with h | h | h
 ·exact absurd e (hp i j hi hj h)
 ·exact h
 ·exact absurd e.symm (hp j i hj hi h)
noncomputable def eqs (f : V -> V -> Option Bool) : List V -> List V -> Option Bool
 | [], [] => some true
 | x :: xs, y :: ys => match f x y, eqs f xs ys with
  | some a, some b => some (a && b)
  | _, _ => none
 | _, _ => none
noncomputable def VI (n : Nat) (f : V -> V -> Option Bool) (d : V) (b : Bool) : V -> Prop
 | .bool y => ∃ x, d = .bool x /\ b = (x == y)
 | .int y => ∃ x, d = .int x /\ b = (x == y)
 | .str y => ∃ x, d = .str x /\ b = (x == y)
 | .list ys => ∃ m xs, n = m + 1 /\ d = .list xs /\ ((xs.length = ys.length /\ eqs f xs ys = some b) \/ (xs.length ≠ ys.length /\ some false = some b))
 | .tup ys => ∃ m xs, n = m + 1 /\ d = .tup xs /\ xs.length = ys.length /\ eqs f xs ys = some b
 | _ => False
noncomputable def ZdI (n : Nat) (f : V -> V -> Option Bool) (d d' : V) : Sb fun b => VI n f d b d' := match n, d, d' with
 | _, .bool a, .bool b => .ok (a == b) ⟨a, rfl, rfl⟩
 | _, .int a, .int b => .ok (a == b) ⟨a, rfl, rfl⟩
 | _, .str a, .str b => .ok (a == b) ⟨a, rfl, rfl⟩
 | n + 1, .list xs, .list ys => ⟨if xs.length = ys.length then eqs f xs ys else some false, fun r h => ⟨n, xs, rfl, rfl, Zah h⟩⟩
 | n + 1, .tup xs, .tup ys => ⟨if xs.length = ys.length then eqs f xs ys else none, fun r h => ⟨n, xs, rfl, rfl, Yp h⟩⟩
 | _, _, _ => .no
noncomputable def veq : Nat -> V -> V -> Option Bool
 | 0 => fun d d' => (ZdI 0 (fun _ _ => none) d d').1
 | n + 1 => fun d d' => (ZdI (n + 1) (veq n) d d').1
theorem Zbt {f : V -> V -> Option Bool} {x : V} {xs ys : List V} {b : Bool} (h : eqs f (x :: xs) ys = some b) : ∃ y ys' a c, ys = y :: ys' /\ f x y = some a /\ eqs f xs ys' = some c /\ b = (a && c) := by
 cases ys with
 | nil => first | exact nn h | cases h
 | cons y ys =>
  have h' : (match f x y, eqs f xs ys with | some a, some b => some (a && b) | _, _ => none) = some b := h
  cases h1 : f x y with
  | none => rw [h1] at h'; cases h'
  | some a => cases h2 : eqs f xs ys with
   | none => rw [h1, h2] at h'; cases h'
   | some c => rw [h1, h2] at h'; exact ⟨y, ys, a, c, rfl, h1, h2, (Option.some.inj h').symm⟩
theorem ZcJ {f : V -> V -> Option Bool} {ys : List V} {b : Bool} (h : eqs f [] ys = some b) : ys = [] /\ b = true := by
 cases ys with
 | nil => exact ⟨rfl, (Option.some.inj h).symm⟩
 | cons y ys => first | exact nn h | cases h
theorem Zqa {f : V -> V -> Option Bool} : ∀ (xs ys : List V) (b : Bool), eqs f xs ys = some b -> xs.length = ys.length := by
 intro xs
 induction xs with
 | nil => intro ys b h; rw [(ZcJ h).1]
 | cons x xs ih => intro ys b h; obtain ⟨y, ys', a, c, e, _, h2, _⟩ := Zbt h; rw [e, List.length_cons, List.length_cons, ih _ _ h2]
theorem ZdM {f : V -> V -> Option Bool} : ∀ {xs ys : List V} {b : Bool}, eqs f xs ys = some b -> ∃ e : Nat -> Bool, (∀ j x y, xs[j]? = some x -> ys[j]? = some y -> f x y = some (e j)) /\ b = (List.range xs.length).all e := by
 intro xs
 induction xs with
 | nil => intro ys b h; exact ⟨fun _ => true, fun j x y h1 => (nomatch h1), (ZcJ h).2⟩
 | cons x xs ih =>
  intro ys b h;refine Zcv (Zbt h) fun y ys' a c e0 h1 h2 hb => ?_;refine Zg (ih h2) fun e he hc => ?_;refine ⟨fun j => Nat.casesOn j a e, fun j x' y' g1 g2 => ?_, ?_⟩
  ·rw [e0] at g2
   cases j with
   | zero => rw [<- Option.some.inj g1, <- Option.some.inj g2]; exact h1
   | succ j => exact he j x' y' g1 g2
  ·rw [List.length_cons, List.range_succ_eq_map, List.all_cons, List.all_map, hb, hc]
   rfl
theorem ZjU {f : V -> V -> Option Bool} (hf : ∀ (v : Value) (d d' x : V) (b b' : Bool), Rep G av β h v d -> Rep G av β h v d' -> f d x = some b -> f d' x = some b' -> b = b') {vs : List Value} {ds : List V} (r : Zb G av β h vs ds) :
  ∀ (ds' xs : List V) (b b' : Bool), Zb G av β h vs ds' -> eqs f ds xs = some b -> eqs f ds' xs = some b' -> b = b' :=
 Zb.ind (P := fun vs ds => ∀ (ds' xs : List V) (b b' : Bool), Zb G av β h vs ds' -> eqs f ds xs = some b -> eqs f ds' xs = some b' -> b = b')
  (fun ds' xs b b' r' h1 h2 => by
   obtain ⟨e1, e2⟩ := ZcJ h1;have hl := Zqa _ _ _ h2;rw [List.eq_nil_of_length_eq_zero r'.length.symm] at h2;rw [e2, (ZcJ h2).2])
  (fun {v d vs ds} r rs ih ds' xs b b' r' h1 h2 => by
   refine Zcv (Zbt h1) fun x xs' a c e g1 g2 hb => ?_
   cases ds' with
   | nil => exact nomatch r'.length
   | cons d' ds' =>
    refine Zcv (Zbt h2) fun x2 xs2 a2 c2 e2 g3 g4 hb2 => ?_;rw [e] at e2;rw [<- (List.cons.inj e2).1] at g3;rw [<- (List.cons.inj e2).2] at g4;refine Zg (r'.get (i := 0) (d := d') rfl) fun w hw rw' => ?_;have hr : Zb G av β h vs ds' := Zb.drop 1 r';rw [hb, hb2, hf v d d' x a a2 r (Option.some.inj hw ▸ rw') g1 g3, ih ds' xs' c c2 hr g2 g4]) r
theorem Zg7 {f : V -> V -> Option Bool} (hf : ∀ (v : Value) (d d' : V) (b : Bool), Rep G av β h v d -> Rep G av β h v d' -> f d d' = some b -> b = true) {vs : List Value} {ds : List V} (r : Zb G av β h vs ds) :
  ∀ (ds' : List V) (b : Bool), Zb G av β h vs ds' -> eqs f ds ds' = some b -> b = true :=
 Zb.ind (P := fun vs ds => ∀ (ds' : List V) (b : Bool), Zb G av β h vs ds' -> eqs f ds ds' = some b -> b = true) (fun ds' b r' h1 => (ZcJ h1).2)
  (fun {v d vs ds} r rs ih ds' b r' h1 => by
   refine Zcv (Zbt h1) fun x xs' a c e g1 g2 hb => ?_;rw [e] at r';refine Zg (r'.get (i := 0) (d := x) rfl) fun w hw rw' => ?_;rw [hb, hf v d x a r (Option.some.inj hw ▸ rw') g1, ih xs' c (Zb.drop 1 r') g2]; rfl) r
theorem ZfV {v : Value} {d d' : V} (r : Rep G av β h v d) (r' : Rep G av β h v d') : (∀ x y, d = .bool x -> d' = .bool y -> x = y) /\ (∀ x y, d = .int x -> d' = .int y -> x = y) /\ (∀ x y, d = .str x -> d' = .str y -> x = y) /\
  (∀ xs ys, d = .list xs -> d' = .list ys -> ∃ vs, Zb G av β h vs xs /\ Zb G av β h vs ys) /\ ∀ xs ys, d = .tup xs -> d' = .tup ys -> ∃ vs, Zb G av β h vs xs /\ Zb G av β h vs ys := by
 refine ⟨fun x y e e' => ?_, fun x y e e' => ?_, fun x y e e' => ?_, fun x y e e' => ?_, fun x y e e' => ?_⟩ <;> rw [e] at r <;> rw [e'] at r' <;> have s := r.sh <;> have s' := r'.sh <;> clear r r' e e' d d'
 ·exact Value.bool.inj (Eq.trans (Eq.symm s) s')
 ·obtain ⟨_, s⟩ := s; obtain ⟨_, s'⟩ := s'; exact (Value.int.inj (s.symm.trans s')).1
 ·obtain ⟨_, s⟩ := s; obtain ⟨_, s'⟩ := s'; exact (Value.str.inj (s.symm.trans s')).1
 ·obtain ⟨a, vs, k, s, e, _, rr⟩ := s; obtain ⟨a', vs', k', s', e', _, rr'⟩ := s'
  rw [<- Value.ref.inj (s.symm.trans s'), e] at e';exact ⟨_, rr, (Zhr (Option.some.inj e')).1 ▸ rr'⟩
 ·obtain ⟨a, vs, k, s, e, _, rr⟩ := s; obtain ⟨a', vs', k', s', e', _, rr'⟩ := s'
  rw [<- Value.ref.inj (s.symm.trans s'), e] at e';exact ⟨_, rr, (ZiF (Option.some.inj e')).1 ▸ rr'⟩
theorem Zhy : ∀ (n : Nat) (v : Value) (d d' : V) (b : Bool), Rep G av β h v d -> Rep G av β h v d' -> veq n d d' = some b -> b = true := by
 have step : ∀ n f, (∀ m, n = m + 1 -> ∀ (v : Value) (d d' : V) (b : Bool), Rep G av β h v d -> Rep G av β h v d' -> f d d' = some b -> b = true) -> ∀ (v : Value) (d d' : V) (b : Bool), Rep G av β h v d -> Rep G av β h v d' -> (ZdI n f d d').1 = some b -> b = true := by
  intro n f ih v d d' b r r' h1;have T := ZfV r r';have h1 := (ZdI n f d d').2 b h1;clear r r'
  cases d' with
  | bool q => obtain ⟨p, e1, e3⟩ := h1; rw [e3, T.1 _ _ e1 rfl]; exact beq_self_eq_true q
  | int q => obtain ⟨p, e1, e3⟩ := h1; rw [e3, T.2.1 _ _ e1 rfl]; exact beq_self_eq_true q
  | str q => obtain ⟨p, e1, e3⟩ := h1; rw [e3, T.2.2.1 _ _ e1 rfl]; exact beq_self_eq_true q
  | list ys =>
   refine YH h1 fun m xs e0 e1 e3 => ?_;clear h1;refine Zg (T.2.2.2.1 _ _ e1 rfl) fun vs r1 r2 => ?_;exact e3.elim (fun e3 => Zg7 (ih m e0) r1 _ _ r2 e3.2) fun e3 => absurd (r1.length.symm.trans r2.length) e3.1
  | tup ys =>
   refine YH h1 fun m xs e0 e1 e3 => ?_;clear h1;refine Zg (T.2.2.2.2 _ _ e1 rfl) fun vs r1 r2 => ?_;exact Zg7 (ih m e0) r1 _ _ r2 e3.2
  | _ => exact h1.elim
 intro n
 induction n with
 | zero => exact step 0 _ fun m e => nomatch e
 | succ n ih => exact step (n + 1) (veq n) fun m e => Nat.succ.inj e ▸ ih
theorem Zo1 : ∀ (n : Nat) (v : Value) (d d' x : V) (b b' : Bool), Rep G av β h v d -> Rep G av β h v d' -> veq n d x = some b -> veq n d' x = some b' -> b = b' := by
 have step : ∀ n f, (∀ m, n = m + 1 -> ∀ (v : Value) (d d' x : V) (b b' : Bool), Rep G av β h v d -> Rep G av β h v d' -> f d x = some b -> f d' x = some b' -> b = b') ->
   ∀ (v : Value) (d d' x : V) (b b' : Bool), Rep G av β h v d -> Rep G av β h v d' -> (ZdI n f d x).1 = some b -> (ZdI n f d' x).1 = some b' -> b = b' := by
  intro n f ih v d d' x b b' r r' h1 h2;have T := ZfV r r';have h1 := (ZdI n f d x).2 b h1;have h2 := (ZdI n f d' x).2 b' h2;clear r r'
  cases x with
  | bool q => obtain ⟨p, e1, e3⟩ := h1; obtain ⟨p', g1, g3⟩ := h2; rw [e3, g3, T.1 _ _ e1 g1]
  | int q => obtain ⟨p, e1, e3⟩ := h1; obtain ⟨p', g1, g3⟩ := h2; rw [e3, g3, T.2.1 _ _ e1 g1]
  | str q => obtain ⟨p, e1, e3⟩ := h1; obtain ⟨p', g1, g3⟩ := h2; rw [e3, g3, T.2.2.1 _ _ e1 g1]
  | list ys =>
   refine YH h1 fun m xs e0 e1 e3 => ?_;clear h1;refine YH h2 fun m' xs' g0 g1 g3 => ?_;clear h2;refine Zg (T.2.2.2.1 _ _ e1 g1) fun vs r1 r2 => ?_;have hl := r1.length.symm.trans r2.length;exact e3.elim (fun e3 => g3.elim (fun g3 => ZjU (ih m e0) r1 _ _ _ _ r2 e3.2 g3.2) fun g3 => absurd (hl.symm.trans e3.1) g3.1) fun e3 => g3.elim (fun g3 => absurd (hl.trans g3.1) e3.1) fun g3 => Option.some.inj (e3.2.symm.trans g3.2)
  | tup ys =>
   refine YH h1 fun m xs e0 e1 e3 => ?_;clear h1;refine YH h2 fun m' xs' g0 g1 g3 => ?_;clear h2;refine Zg (T.2.2.2.2 _ _ e1 g1) fun vs r1 r2 => ?_;exact ZjU (ih m e0) r1 _ _ _ _ r2 e3.2 g3.2
  | _ => exact h1.elim
 intro n
 induction n with
 | zero => exact step 0 _ fun m e => nomatch e
 | succ n ih => exact step (n + 1) (veq n) fun m e => Nat.succ.inj e ▸ ih
theorem Rep.isList {a : Addr} {vs : Array Value} {n : Nat} (e : h.get? a = some (Z9 vs n)) : h.IsList a vs := ⟨_, e, rfl, n, rfl⟩
theorem Rep.isTuple {a : Addr} {vs : Array Value} {n : Nat} (e : h.get? a = some (YG vs n)) : h.IsTuple a vs := ⟨_, e, rfl, n, rfl⟩
theorem Zsv {s : Shared} : ∀ (n : Nat) (A : Around) (d d' : V) (v v' : Value) (b : Bool), Rep G av β s.heap v d -> Rep G av β s.heap v' d' -> veq n d d' = some b -> A.units + n < cLine -> EqAt A s v v' b := by
 have step : ∀ n f, (∀ v d d' b, Rep G av β s.heap v d -> Rep G av β s.heap v d' -> (ZdI n f d d').1 = some b -> b = true) -> (∀ m, n = m + 1 -> ∀ (A : Around) (d d' : V) (v v' : Value) (b : Bool), Rep G av β s.heap v d -> Rep G av β s.heap v' d' -> f d d' = some b -> A.units + m < cLine -> EqAt A s v v' b) ->
   ∀ (A : Around) (d d' : V) (v v' : Value) (b : Bool), Rep G av β s.heap v d -> Rep G av β s.heap v' d' -> (ZdI n f d d').1 = some b -> A.units + n < cLine -> EqAt A s v v' b := by
  intro n f hsame ih A d d' v v' b r r' h hu
  by_cases hv : v = v'
  ·rw [<- hv] at r' ⊢
   rw [hsame _ _ _ _ r r' h];exact EqAt.same _
  have key : ∀ (xs ys : List V) (a a' : Addr) (vs vs' : Array Value) m, n = m + 1 -> Zb G av β s.heap vs.toList xs -> Zb G av β s.heap vs'.toList ys -> v = .ref a -> v' = .ref a' -> vs.size = xs.length /\ vs'.size = ys.length /\ a ≠ a' /\ A.units < cLine /\
    ∀ g : Nat -> Bool, (∀ j x y, xs[j]? = some x -> ys[j]? = some y -> f x y = some (g j)) -> ∀ j (j1 : j < vs.size) (j2 : j < vs'.size), EqAt A.in1 s vs[j] vs'[j] (g j) := fun xs ys a a' vs vs' m e0 q1 q2 s1 s2 =>
   ⟨Array.length_toList.symm.trans q1.length, Array.length_toList.symm.trans q2.length, fun z => hv (by rw [s1, s2, z]), Nat.lt_of_le_of_lt (Nat.le_add_right _ _) hu, fun g hf j j1 j2 => by
    refine Zg (q1.getV (Array.getElem?_toList.trans (Array.getElem?_eq_getElem j1))) fun x hx rx => ?_;refine Zg (q2.getV (Array.getElem?_toList.trans (Array.getElem?_eq_getElem j2))) fun y hy ry => ?_;exact ih m e0 A.in1 x y _ _ _ rx ry (hf j x y hx hy) (by rw [e0, <- Nat.add_assoc, Nat.add_right_comm] at hu; exact hu)⟩
  have h := (ZdI n f d d').2 b h;have S' := r'.sh;clear r' ih hsame
  cases d' with
  | bool q => obtain ⟨p, e1, e3⟩ := h; rw [e1] at r; rw [r.sh, S', e3]; exact EqAt.bool_bool _ _
  | int q => obtain ⟨p, e1, e3⟩ := h; rw [e1] at r; obtain ⟨t, s1⟩ := r.sh; obtain ⟨t', s2⟩ := S'; rw [s1, s2, e3]; exact EqAt.int_int _ _ _ _
  | str q => obtain ⟨p, e1, e3⟩ := h; rw [e1] at r; obtain ⟨t, s1⟩ := r.sh; obtain ⟨t', s2⟩ := S'; rw [s1, s2, e3]; exact EqAt.str_str _ _ _ _
  | list ys =>
   refine YH h fun m xs e0 e1 e3 => ?_;clear h;rw [e1] at r;refine Xl r.sh fun a vs k s1 e _ q1 => ?_;refine Xl S' fun a' vs' k' s2 e' _ q2 => ?_;clear S';refine ZfN (key xs ys a a' vs vs' m e0 q1 q2 s1 s2) fun n1 n2 hne h0 hel => ?_;rw [s1, s2];rcases e3 with ⟨hl, e3⟩ | ⟨hl, e3⟩
   ·refine Zg (ZdM e3) fun g hf hb => ?_
    rw [hb, <- n1];exact EqAt.of_refs hne (RcAt.lists (Rep.isList e) (Rep.isList e') (n1.trans (hl.trans n2.symm)) h0 (hel g hf))
   ·rw [<- Option.some.inj e3]
    exact EqAt.of_refs hne (RcAt.lists_lengths (Rep.isList e) (Rep.isList e') (bne_iff_ne.mpr fun z => hl (n1.symm.trans (z.trans n2))) h0)
  | tup ys =>
   refine ZbZ h fun m xs e0 e1 hl e3 => ?_;clear h;rw [e1] at r;refine Xl r.sh fun a vs k s1 e _ q1 => ?_;refine Xl S' fun a' vs' k' s2 e' _ q2 => ?_;clear S';refine ZfN (key xs ys a a' vs vs' m e0 q1 q2 s1 s2) fun n1 n2 hne h0 hel => ?_;rw [s1, s2];refine Zg (ZdM e3) fun g hf hb => ?_;have hs : vs.size = vs'.size := n1.trans (hl.trans n2.symm);have := RcAt.tuples (A := A) (s := s) (e := g) (Rep.isTuple e) (Rep.isTuple e') h0 (hel g hf);rw [hs, Nat.min_self, beq_self_eq_true, Bool.and_true, n2, <- hl, <- hb] at this;exact EqAt.of_refs hne this
  | _ => exact h.elim
 intro n
 induction n with
 | zero => exact step 0 _ (Zhy 0) fun m e => nomatch e
 | succ n ih => exact step (n + 1) (veq n) (Zhy (n + 1)) fun m e => Nat.succ.inj e ▸ ih
end
open PySem PySem.Calls PyProof.Rows PySem.SeqAt
noncomputable def ZS (B : List V) : V -> Option (List V)
 | .list xs => some xs
 | .box n => match B[n]? with
  | some (.list xs) => some xs
  | _ => none
 | _ => none
noncomputable def JB (B : List V) : V -> Option (List Str × List V)
 | .dict ks vs => some (ks, vs)
 | .box n => match B[n]? with
  | some (.dict ks vs) => some (ks, vs)
  | _ => none
 | _ => none
section
variable {G : GC} {C : Cx} {β : List Addr} {B : List V} {σ : List (Option V)} {s : Shared} {H : Nat} {d d₁ d₂ : V} {v : Value}
theorem Ys (I : Inv G C β B σ s) (r : Rep G (avB C.av β) β s.heap v d) {ds : List V} (h : ZS B d = some ds) :
  ∃ a vs n, v = .ref a /\ s.heap.get? a = some (Z9 vs n) /\ Zb G (avB C.av β) β s.heap vs.toList ds := by
 have S := r.sh
 cases d with
 | list xs => obtain ⟨a, vs, n, e, e1, _, q⟩ := S; exact ⟨a, vs, n, e, e1, Option.some.inj h ▸ q⟩
 | box n =>
  refine Zg S fun a e e1 => ?_;clear S;unfold ZS at h
  cases hb : B[n]? with
  | none => simp only [hb] at h; cases h
  | some d =>
   have X := (I.boxes.at' _ _ _ e1 hb).sh;simp only [hb] at h
   cases d with
   | list xs => obtain ⟨vs, k, g1, g2⟩ := X; exact ⟨a, vs, k, e, g1, Option.some.inj h ▸ g2⟩
   | _ => exact nn h
 | _ => exact nn h
theorem ZbP (I : Inv G C β B σ s) (r : Rep G (avB C.av β) β s.heap v d) {ks : List Str} {ds : List V} (h : JB B d = some (ks, ds)) :
  ∃ a kvs, v = .ref a /\ s.heap.DictOf (PySem.strKind G.prog G.w) a kvs /\ (a == sysModules) = false /\ kvs.map (·.1) = ks /\ Zb G (avB C.av β) β s.heap (kvs.map (·.2)) ds := by
 have S := r.sh
 cases d with
 | dict ks' vs' =>
  refine Zak S fun a kvs e x hs _ hk q => ?_;clear S;obtain ⟨h1, h2⟩ := Prod.mk.inj (Option.some.inj h);exact ⟨a, kvs, e, x, hs, hk.trans h1, h2 ▸ q⟩
 | box n =>
  refine Zg S fun a e e1 => ?_;clear S;unfold JB at h
  cases hb : B[n]? with
  | none => simp only [hb] at h; cases h
  | some d =>
   have X := (I.boxes.at' _ _ _ e1 hb).sh;simp only [hb] at h
   cases d with
   | dict ks' vs' =>
    refine Zbf X fun kvs x hs hk q => ?_;clear X;obtain ⟨h1, h2⟩ := Prod.mk.inj (Option.some.inj h);exact ⟨a, kvs, e, x, hs, hk.trans h1, h2 ▸ q⟩
   | _ => exact nn h
 | _ => exact nn h
theorem XV {av : Addr -> Prop} {h : Heap} {ds : List V} (r : Rep G av β h v (.tup ds)) : ∃ a vs n, v = .ref a /\ h.get? a = some (YG vs n) /\ Zb G av β h vs.toList ds :=
 let ⟨a, vs, n, e, e1, _, q⟩ := r.sh; ⟨a, vs, n, e, e1, q⟩
theorem Zkm (I : Inv G C β B σ s) {n : Nat} {A : Around} {v v' : Value} {d d' : V} {b : Bool} (r : Rep G (avB C.av β) β s.heap v d) (r' : Rep G (avB C.av β) β s.heap v' d') (h : veq n d d' = some b)
  (hu : A.units + n < cLine) : EqAt A s v v' b := Zsv n A d d' v v' b r r' h hu
noncomputable def Y1 (B : List V) (d d' : V) : Option Bool := match ZS B d, ZS B d' with
 | some xs, some ys => veq 12 (.list xs) (.list ys)
 | none, none => veq 12 d d'
 | _, _ => none
theorem ZnZ {B : List V} {d d' : V} {b : Bool} (h : Y1 B d d' = some b) : (∃ xs ys, ZS B d = some xs /\ ZS B d' = some ys /\ veq 12 (.list xs) (.list ys) = some b) \/ (ZS B d = none /\ veq 12 d d' = some b) := by
 revert h
 unfold Y1;generalize ZS B d = x;generalize ZS B d' = y;intro h
 cases x with
 | none => cases y with
  | none => exact .inr ⟨rfl, h⟩
  | some y => exact nn h
 | some x => cases y with
  | none => exact nn h
  | some y => exact .inl ⟨x, y, rfl, rfl, h⟩
theorem Znu {xs ys : List V} {n : Nat} {b : Bool} (h : veq (n + 1) (.list xs) (.list ys) = some b) :
  (xs.length = ys.length /\ ∃ e : Nat -> Bool, (∀ j x y, xs[j]? = some x -> ys[j]? = some y -> veq n x y = some (e j)) /\ b = (List.range xs.length).all e) \/ (xs.length ≠ ys.length /\ b = false) := by
 exact (Zah h).elim (fun h => .inl ⟨h.1, ZdM h.2⟩) fun h => .inr ⟨h.1, (Option.some.inj h.2).symm⟩
set_option tactic.hygienic true in
theorem ZqS {b : Bool} (h : Y1 B d₁ d₂ = some b) : Op2 G H B (compareOp .Eq) d₁ d₂ (.bool b) /\ Op2 G H B (compareOp .NotEq) d₁ d₂ (.bool (!b)) := by
 have key : ∀ (C : Cx) σ A β s v w, Zv G C -> AOk H A -> Inv G C β B σ s -> Rep G (avB C.av β) β s.heap v d₁ -> Rep G (avB C.av β) β s.heap w d₂ ->
   (∀ (Q : Value -> Shared -> Prop) E, Q (.bool b) s -> wpAny (model G.prog G.w) A (compareOp .Eq v w) Q E s) /\ (∀ (Q : Value -> Shared -> Prop) E, Q (.bool (!b)) s -> wpAny (model G.prog G.w) A (compareOp .NotEq v w) Q E s) := by
  intro C σ A β s v w O hA I r'1 r'2;have hroom := hA.room3;have h0 : A.units < cLine := by omega
  have h11 : A.in1.units + 11 < cLine := by show A.units + 1 + 11 < cLine; omega
  have key : ∀ (xs ys : List V) (vs vs' : Array Value), Zb G (avB C.av β) β s.heap vs.toList xs -> Zb G (avB C.av β) β s.heap vs'.toList ys -> vs.size = xs.length /\ vs'.size = ys.length /\
    ∀ f : Nat -> Bool, (∀ j x y, xs[j]? = some x -> ys[j]? = some y -> veq 11 x y = some (f j)) -> ∀ j (j1 : j < vs.size) (j2 : j < vs'.size), EqAt A.in1 s vs[j] vs'[j] (f j) := fun xs ys vs vs' q1 q2 =>
   ⟨Array.length_toList.symm.trans q1.length, Array.length_toList.symm.trans q2.length, fun f hf j j1 j2 => by
    refine Zg (q1.getV (Array.getElem?_toList.trans (Array.getElem?_eq_getElem j1))) fun x hx rx => ?_;refine Zg (q2.getV (Array.getElem?_toList.trans (Array.getElem?_eq_getElem j2))) fun y hy ry => ?_;exact Zkm I rx ry (hf j x y hx hy) h11⟩
  clear hA O hroom;refine (ZnZ h).elim (fun h => YH h fun xs ys h1 h2 h => ?_) fun h => ZaN h fun h1 h => ?_
  ·refine YD (Ys I r'1 h1) fun a vs n s1 e1 q1 => ?_
   refine YD (Ys I r'2 h2) fun a' vs' n' s2 e2 q2 => ?_;refine Xx (key xs ys vs vs' q1 q2) fun n1 n2 hel => ?_;clear r'1 r'2 key I h11;rw [s1, s2];rcases Znu h with ⟨hl, e, he, hb⟩ | ⟨hl, hb⟩
   ·rw [hb, <- n1]
    exact ⟨fun Q E hq => RcAt.lists (Rep.isList e1) (Rep.isList e2) (n1.trans (hl.trans n2.symm)) h0 (hel e he) _ _ _ _ hq, fun Q E hq => RcNeAt.lists (Rep.isList e1) (Rep.isList e2) (n1.trans (hl.trans n2.symm)) h0 (hel e he) _ _ _ _ hq⟩
   ·have hs : (vs.size != vs'.size) = true := bne_iff_ne.mpr fun z => hl (n1.symm.trans (z.trans n2))
    rw [hb];exact ⟨fun Q E hq => RcAt.lists_lengths (Rep.isList e1) (Rep.isList e2) hs h0 _ _ _ _ hq, fun Q E hq => RcNeAt.lists_lengths (Rep.isList e1) (Rep.isList e2) hs h0 _ _ _ _ hq⟩
  ·have h := (ZdI 12 (veq 11) d₁ d₂).2 b h
   have S2 := r'2.sh;clear r'2
   cases d₂ with
   | bool q => obtain ⟨p, e1, e3⟩ := h; rw [e1] at r'1; rw [r'1.sh, S2, e3]; exact ⟨fun Q E hq => eq_bool hq, fun Q E hq => ne_bool hq⟩
   | int q => obtain ⟨p, e1, e3⟩ := h; rw [e1] at r'1; obtain ⟨t, s1⟩ := r'1.sh; obtain ⟨t', s2⟩ := S2; rw [s1, s2, e3]; exact ⟨fun Q E hq => eq_int hq, fun Q E hq => ne_int hq⟩
   | str q => obtain ⟨p, e1, e3⟩ := h; rw [e1] at r'1; obtain ⟨t, s1⟩ := r'1.sh; obtain ⟨t', s2⟩ := S2; rw [s1, s2, e3]; exact ⟨fun Q E hq => eq_str hq, fun Q E hq => ne_str hq⟩
   | list ys => obtain ⟨m, xs, e0, e1, _⟩ := h; rw [e1] at h1; exact nn h1.symm
   | tup ys =>
    refine ZbZ h fun m xs e0 e1 hl e3 => ?_;clear h;rw [e1] at r'1;refine Xl r'1.sh fun a vs k s1 g1 _ q1 => ?_;refine Xl S2 fun a' vs' k' s2 g2 _ q2 => ?_;clear S2;refine Xx (key xs ys vs vs' q1 q2) fun n1 n2 hel => ?_;refine Zg (ZdM e3) fun e he hb => ?_;have hs : vs.size = vs'.size := n1.trans (hl.trans n2.symm);have hm : ((List.range (min vs.size vs'.size)).all e && vs.size == vs'.size) = b := by rw [hb, hs, Nat.min_self, beq_self_eq_true, Bool.and_true, n2, hl]
    rw [s1, s2];exact ⟨fun Q E hq => RcAt.tuples (Rep.isTuple g1) (Rep.isTuple g2) h0 (hel e he) _ _ _ _ (hm ▸ hq), fun Q E hq => RcNeAt.tuples (Rep.isTuple g1) (Rep.isTuple g2) h0 (hel e he) _ _ _ _ (hm ▸ hq)⟩
   | _ => exact h.elim
 exact ⟨fun C σ A β s v w O hA I r'1 r'2 E => (key C σ A β s v w O hA I r'1 r'2).1 _ _ (Zs.ofExt I (Ext.refl s) (.bool _)),
  fun C σ A β s v w O hA I r'1 r'2 E => (key C σ A β s v w O hA I r'1 r'2).2 _ _ (Zs.ofExt I (Ext.refl s) (.bool _))⟩
noncomputable def ZhY (x : V) : List V -> Option Bool
 | [] => some false
 | y :: ys => match veq 11 y x, ZhY x ys with
  | some a, some b => some (a || b)
  | _, _ => none
set_option tactic.hygienic true in
theorem ZgX {x : V} : ∀ {ys : List V} {b : Bool}, ZhY x ys = some b -> ∀ y ∈ ys, ∃ c, veq 11 y x = some c
 | y :: ys, b, h, z, hz => by
  unfold ZhY at h
  split at h
  ·rename_i a c e1 e2
   rcases List.mem_cons.mp hz with rfl | hz
   ·exact ⟨_, e1⟩
   ·exact ZgX e2 z hz
  ·exact nn h
set_option tactic.hygienic true in
theorem ZhR {x : V} {P : Value -> V -> Prop} {e : Value -> Bool} (he : ∀ v y b, P v y -> veq 11 y x = some b -> e v = b) : ∀ {vs : List Value} {ys : List V} {b : Bool}, ZhY x ys = some b ->
  vs.length = ys.length -> (∀ (i : Nat) (v : Value) (y : V), vs[i]? = some v -> ys[i]? = some y -> P v y) -> vs.any e = b
 | [], [], b, h, _, _ => by cases h; rfl
 | v :: vs, y :: ys, b, h, hl, hp => by
  unfold ZhY at h
  split at h
  ·rename_i a c e1 e2
   cases h
   rw [List.any_cons, he v y a (hp 0 v y rfl rfl) e1, ZhR he e2 (by simpa using hl) fun i v y h1 h2 => hp (i + 1) v y (by simpa using h1) (by simpa using h2)]
  ·exact nn h
open Classical in
theorem Zhd (I : Inv G C β B σ s) {vs : Array Value} {ys : List V} {x : Value} {dx : V} {b : Bool} {A : Around} (q : Zb G (avB C.av β) β s.heap vs.toList ys) (rx : Rep G (avB C.av β) β s.heap x dx)
  (h : ZhY dx ys = some b) (hu : A.units + 12 < cLine) : ∃ e : Value -> Bool, (∀ y, y ∈ vs -> EqAt A.in1 s y x (e y)) /\ vs.any e = b := by
 let e : Value -> Bool := fun y => if hy : ∃ d b, Rep G (avB C.av β) β s.heap y d /\ veq 11 d dx = some b then hy.choose_spec.choose else false
 have he : ∀ v y b, Rep G (avB C.av β) β s.heap v y -> veq 11 y dx = some b -> e v = b := by
  intro v y b r hb;have hy : ∃ d b, Rep G (avB C.av β) β s.heap v d /\ veq 11 d dx = some b := ⟨y, b, r, hb⟩;show (if hy : ∃ d b, Rep G (avB C.av β) β s.heap v d /\ veq 11 d dx = some b then hy.choose_spec.choose else false) = b;rw [dif_pos hy];obtain ⟨r', h'⟩ := hy.choose_spec.choose_spec;exact Zo1 _ _ _ _ _ _ _ r' r h' hb
 refine ⟨e, fun y hy => ?_, ?_⟩
 ·obtain ⟨i, hi, rfl⟩ := Array.mem_iff_getElem.mp hy
  have g1 : vs.toList[i]? = some vs[i] := by simp [hi]
  refine Zg (q.getV g1) fun d hd rd => ?_;obtain ⟨c, hc⟩ := ZgX h d (List.mem_of_getElem? hd);rw [he _ _ _ rd hc];exact Zkm I rd rx hc (by show A.units + 1 + 11 < cLine; omega)
 ·rw [<- Array.any_toList]
  exact ZhR (P := fun v y => Rep G (avB C.av β) β s.heap v y) he h q.length fun i v y h1 h2 => by
   refine Zg (q.getV h1) fun d hd rd => ?_;rw [h2] at hd; cases hd; exact rd
noncomputable def ZkR (B : List V) (x c : V) : Option Bool := match ZS B c with
 | some xs => ZhY x xs
 | none => match c with
  | .tup xs => ZhY x xs
  | _ => none
set_option tactic.hygienic true in
theorem ZsF {b : Bool} (h : ZkR B d₁ d₂ = some b) : Op2 G H B (compareOp .In) d₁ d₂ (.bool b) /\ Op2 G H B (compareOp .NotIn) d₁ d₂ (.bool (!b)) := by
 unfold ZkR at h
 split at h
 ·rename_i xs hl
  refine ⟨fun C σ A β s v w O hA I r'1 r'2 E => ?_, fun C σ A β s v w O hA I r'1 r'2 E => ?_⟩ <;>
   obtain ⟨a, vs, n, rfl, e1, q1⟩ := Ys I r'2 hl <;>
   obtain ⟨e, he, hb⟩ := Zhd I q1 r'1 h (A := A) (by have := hA.room3; omega)
  ·exact in_listAt e (Rep.isList e1) he (by rw [hb]; exact Zs.ofExt I (Ext.refl s) (.bool _))
  ·exact notIn_listAt e (Rep.isList e1) he (by rw [hb]; exact Zs.ofExt I (Ext.refl s) (.bool _))
 ·split at h
  ·rename_i xs
   refine ⟨fun C σ A β s v w O hA I r'1 r'2 E => ?_, fun C σ A β s v w O hA I r'1 r'2 E => ?_⟩ <;>
    obtain ⟨a, vs, n, rfl, e1, q1⟩ := XV r'2 <;>
    obtain ⟨e, he, hb⟩ := Zhd I q1 r'1 h (A := A) (by have := hA.room3; omega)
   ·exact in_tupleAt e (Rep.isTuple e1) he (by rw [hb]; exact Zs.ofExt I (Ext.refl s) (.bool _))
   ·exact notIn_tupleAt e (Rep.isTuple e1) he (by rw [hb]; exact Zs.ofExt I (Ext.refl s) (.bool _))
  ·exact nn h
noncomputable def ZaW (x y : Str) : Bool := !(Builtin.Str.occurrences y x 0 y.length 1).isEmpty
theorem ZlT {x y : Str} : Op2 G H B (compareOp .In) (.str x) (.str y) (.bool (ZaW x y)) /\ Op2 G H B (compareOp .NotIn) (.str x) (.str y) (.bool (!ZaW x y)) :=
 ⟨fun C σ A β s v w O hA I rv rw E => by
  obtain ⟨t, rfl⟩ := Z7 rv; obtain ⟨u, rfl⟩ := Z7 rw;exact in_str (Zs.ofExt I (Ext.refl s) (.bool _)),
 fun C σ A β s v w O hA I rv rw E => by
  obtain ⟨t, rfl⟩ := Z7 rv; obtain ⟨u, rfl⟩ := Z7 rw;exact notIn_str (Zs.ofExt I (Ext.refl s) (.bool _))⟩
theorem ZbH {kvs : List (Str × Value)} {k : Str} : (valueAt kvs k).isSome = (kvs.map (·.1)).contains k := by
 unfold valueAt;rw [Option.isSome_map, Bool.eq_iff_iff, List.find?_isSome];simp only [decide_eq_true_eq, List.contains_iff_mem, List.mem_map]
theorem Zjt {x : Str} {ks : List Str} {ds : List V} (h : JB B d₂ = some (ks, ds)) :
  Op2 G H B (compareOp .In) (.str x) d₂ (.bool (ks.contains x)) /\ Op2 G H B (compareOp .NotIn) (.str x) d₂ (.bool (!ks.contains x)) := by
 refine ⟨fun C σ A β s v w O hA I rv rw E => ?_, fun C σ A β s v w O hA I rv rw E => ?_⟩ <;>
  obtain ⟨t, rfl⟩ := Z7 rv <;> obtain ⟨a, kvs, rfl, hd, hs, hk, q⟩ := ZbP I rw h
 ·exact wpAny_in_of (strKind_is G.prog G.w x t) hs hd.mapOf (by rw [ZbH, hk]; exact Zs.ofExt I (Ext.toks s _) (.bool _))
 ·exact wpAny_notIn_of (strKind_is G.prog G.w x t) hs hd.mapOf (by rw [ZbH, hk]; exact Zs.ofExt I (Ext.toks s _) (.bool _))
end
noncomputable def Zu (n : Nat) : Bool := decide (n <= 16777216)
theorem Yy {n : Nat} (h : Zu n = true) : n <= sizeLine := by
 have := of_decide_eq_true h;show n <= 2 ^ 24;omega
theorem JC {n : Nat} (h : Zu n = true) : (n : Int) < 2 ^ 63 := by
 have := of_decide_eq_true h;omega
noncomputable def Ju (B : List V) (d : V) : Option Bool := match d with
 | .bool b => some b
 | .int i => some (i != 0)
 | .str x => if Zu x.length then some (x.length != 0) else none
 | d => match ZS B d with
  | some xs => if Zu xs.length then some (!xs.isEmpty) else none
  | none => none
section
variable {G : GC} {C : Cx} {β β' : List Addr} {B B' B₁ B₂ : List V} {σ : List (Option V)} {s s' s'' : Shared} {H : Nat} {d d₁ d₂ : V} {v : Value} {b : Bool}
set_option tactic.hygienic true in
theorem Ze3 (I : Inv G C β B σ s) {A : Around} (r : Rep G (avB C.av β) β s.heap v d) (h : Ju B d = some b) : Ok G.prog G.w A (truthy v) s fun b' s' => b' = b /\ Ext s s' := by
 intro E
 have hl : ∀ {d}, Rep G (avB C.av β) β s.heap v d -> (match ZS B d with | some xs => if Zu xs.length then some (!xs.isEmpty) else none | none => none) = some b ->
   wpAny (model G.prog G.w) A (truthy v) (fun b' s' => b' = b /\ Ext s s') E s := by
  intro d r h
  split at h
  ·rename_i xs hx
   refine YD (Ys I r hx) fun a vs n z_3 e q => ?_;subst z_3
   split at h
   ·rename_i hs
    cases h
    have n1 : vs.size = xs.length := by rw [<- q.length]; simp
    refine wpAny_truthy_list (Rep.isList e) (by rw [n1]; exact JC hs) ⟨?_, Ext.toks s _⟩
    cases xs <;> simp [Array.isEmpty, n1]
   ·exact nn h
  ·exact nn h
 have S := r.sh
 cases d with
 | bool c => rw [show v = .bool c from S, <- Option.some.inj h]; exact wpAny_truthy_bool ⟨rfl, Ext.refl s⟩
 | int i => obtain ⟨t, e⟩ := S; rw [e, <- Option.some.inj h]; exact truthy_int ⟨by simp, Ext.refl s⟩
 | str x =>
  obtain ⟨t, e⟩ := S;have h : (if Zu x.length then some (x.length != 0) else none) = some b := h
  split at h
  ·rename_i hs
   rw [e, <- Option.some.inj h];refine SBL.truthy (JC hs) ⟨?_, Ext.toks s _⟩
   cases hz : x.length <;> simp
   omega
  ·exact nn h
 | list xs => exact hl r h
 | box n => exact hl r h
 | _ => exact nn h
noncomputable def Zdm (e : Expr) : Bool := !(Nat.beq e.ctorIdx 0 || (Nat.beq e.ctorIdx 3 || (Nat.beq e.ctorIdx 5 || Nat.beq e.ctorIdx 15)))
theorem Zkb.from (x : Adv G C.mu β s β' s') (y : Zkb G C β' σ s' b B' b' s'') : Zkb G C β σ s b B' b' s'' :=
 let ⟨β'', a, i, r⟩ := y; ⟨β'', x.trans a, i, r⟩
theorem ZdH {e : Expr} {env : Env} {t : Sem Value} (h : Zdm e = true) : PySem.isTrue e env t = (do let v <- t; standAt e.pos; holding [v] (truthy v)) := by
 cases e with
 | UnaryOp _ _ _ => cases h
 | BoolOp _ _ _ => cases h
 | IfExp _ _ _ _ => cases h
 | Compare _ _ _ _ => cases h
 | _ => rfl
theorem Zo7 (O : Zv G C) {e : Expr} (hp : Zdm e = true) (h : Yn G H C σ B (eval e C.env) d B₁) (ht : Ju B₁ d = some b) :
  EvB G H C σ B (PySem.isTrue e C.env (eval e C.env)) b B₁ := fun A β s hA I E =>
 wpAny_isTrue_value ((h A β s hA I).t3 fun v s'1 β1 a'1 i'1 r'1 => (Ze3 i'1 r'1 ht).to fun c s'2 ⟨e, x⟩ => ⟨β1, a'1.trans (.ofExt x), i'1.ext x, e⟩) (ZdH hp)
theorem Zs8 {x : Expr} {pos : Pos} (h : EvB G H C σ B (PySem.isTrue x C.env (eval x C.env)) b B₁) :
  EvB G H C σ B (PySem.isTrue (.UnaryOp .Not x pos) C.env (eval (.UnaryOp .Not x pos) C.env)) (!b) B₁ := fun A β s hA I E =>
 wpAny_isTrue_Not ((h A β s hA I).t3 fun c s'1 β1 a'1 i'1 e => ⟨β1, a'1, i'1, by rw [e]⟩)
theorem ZsY (O : Zv G C) {l r : Expr} {op : CmpOp} {pos : Pos} (h1 : Yn G H C σ B (eval l C.env) d₁ B₁) (h2 : Yn G H C σ B₁ (eval r C.env) d₂ B₂)
  (h : Op2 G H B₂ (compareOp op) d₁ d₂ (.bool b)) (hm : behindInMarks op r = false) : EvB G H C σ B (PySem.isTrue (.Compare l [op] [r] pos) C.env (eval (.Compare l [op] [r] pos) C.env)) b B₂ := fun A β s hA I E =>
 wpAny_isTrue_Compare1 ((h1 A β s hA I).t3 fun v s'1 β1 a'1 i'1 r'1 => (h2 A β1 s'1 hA i'1).t3 fun u s'2 β2 a'2 i'2 r'2 =>
  (h C σ A β2 s'2 v u O hA i'2 (a'2.e O r'1) r'2).t3 fun x s'3 β3 a'3 i3 r'3 => by
   rw [ZcG r'3];exact wpAny_truthy_bool ⟨β3, (a'1.trans a'2).trans a'3, i3, rfl⟩) hm
inductive Zdq (G : GC) (H : Nat) (C : Cx) (σ : List (Option V)) (op : BoolOp) : List V -> List Expr -> Bool -> List V -> Prop
 | nil (B : List V) : Zdq G H C σ op B [] (op == .And) B
 | stop (B B₁ : List V) (e : Expr) (es : List Expr) : EvB G H C σ B (PySem.isTrue e C.env (eval e C.env)) (op == .Or) B₁ -> Zdq G H C σ op B (e :: es) (op == .Or) B₁
 | go (B B₁ B₂ : List V) (e : Expr) (es : List Expr) (b : Bool) : EvB G H C σ B (PySem.isTrue e C.env (eval e C.env)) (op == .And) B₁ -> Zdq G H C σ op B₁ es b B₂ -> Zdq G H C σ op B (e :: es) b B₂
theorem Zdq.ok {op : BoolOp} {es : List Expr} (T : Zdq G H C σ op B es b B') : EvB G H C σ B (allTrue op es C.env) b B' := by
 induction T with
 | nil B => intro A β s hA I E; cases op <;> first | exact wpAny_allTrue_And_nil ⟨β, .refl, I, rfl⟩ | exact wpAny_allTrue_Or_nil ⟨β, .refl, I, rfl⟩
 | stop B B₁ e es h =>
  intro A β s hA I E
  cases op
  ·refine wpAny_allTrue_And_cons ((h A β s hA I).t3 fun c s'1 β1 a'1 i'1 e => ?_)
   subst e; rw [if_neg (by decide)]; exact ⟨β1, a'1, i'1, rfl⟩
  ·refine wpAny_allTrue_Or_cons ((h A β s hA I).t3 fun c s'1 β1 a'1 i'1 e => ?_)
   subst e; rw [if_pos (by decide)]; exact ⟨β1, a'1, i'1, rfl⟩
 | go B B₁ B₂ e es b h _ ih =>
  intro A β s hA I E
  cases op
  ·refine wpAny_allTrue_And_cons ((h A β s hA I).t3 fun c s'1 β1 a'1 i'1 e => ?_)
   subst e; rw [if_pos (by decide)]; exact (ih A β1 s'1 hA i'1).to fun _ _ p => p.from a'1
  ·refine wpAny_allTrue_Or_cons ((h A β s hA I).t3 fun c s'1 β1 a'1 i'1 e => ?_)
   subst e; rw [if_neg (by decide)]; exact (ih A β1 s'1 hA i'1).to fun _ _ p => p.from a'1
theorem ZrQ {op : BoolOp} {es : List Expr} {pos : Pos} {whole : Sem Value} (T : Zdq G H C σ op B es b B') : EvB G H C σ B (PySem.isTrue (.BoolOp op es pos) C.env whole) b B' := fun A β s hA I E =>
 wpAny_isTrue_BoolOp (T.ok A β s hA I E)
inductive Zh7 (G : GC) (H : Nat) (C : Cx) (σ : List (Option V)) (op : BoolOp) : List V -> List Expr -> V -> List V -> Prop
 | one (B B₁ : List V) (e : Expr) (d : V) : Yn G H C σ B (eval e C.env) d B₁ -> Zh7 G H C σ op B [e] d B₁
 | stop (B B₁ : List V) (e e' : Expr) (es : List Expr) (d : V) : Yn G H C σ B (eval e C.env) d B₁ -> Ju B₁ d = some (op == .Or) -> Zh7 G H C σ op B (e :: e' :: es) d B₁
 | go (B B₁ B₂ : List V) (e e' : Expr) (es : List Expr) (d d' : V) : Yn G H C σ B (eval e C.env) d B₁ -> Ju B₁ d = some (op == .And) -> Zh7 G H C σ op B₁ (e' :: es) d' B₂ -> Zh7 G H C σ op B (e :: e' :: es) d' B₂
theorem Zh7.ok {op : BoolOp} {pos : Pos} {es : List Expr} (T : Zh7 G H C σ op B es d B') : Yn G H C σ B (boolOp pos op (evalEach es C.env)) d B' := by
 induction T with
 | one B B₁ e d h => exact h
 | stop B B₁ e e' es d h ht =>
  intro A β s hA I E;refine wpAny_bind ((h A β s hA I).t3 fun v s'1 β1 a'1 i'1 r'1 => wpAny_bind (wpAny_standAt (wpAny_bind (wpAny_holding ((Ze3 i'1 r'1 ht).to fun c s'2 ⟨e, x⟩ => ?_)))));subst e
  cases op <;> exact wpAny_pure ((Zs.ofExt i'1 x (x.rep r'1)).from a'1)
 | go B B₁ B₂ e e' es d d' h ht _ ih =>
  intro A β s hA I E;refine wpAny_bind ((h A β s hA I).t3 fun v s'1 β1 a'1 i'1 r'1 => wpAny_bind (wpAny_standAt (wpAny_bind (wpAny_holding ((Ze3 i'1 r'1 ht).to fun c s'2 ⟨e, x⟩ => ?_)))));subst e
  cases op <;> exact (ih A β1 s'2 hA (i'1.ext x)).to fun _ _ p => (p.from (Adv.ofExt x)).from a'1
theorem Zle {op : BoolOp} {es : List Expr} {pos : Pos} (T : Zh7 G H C σ op B es d B') : Yn G H C σ B (eval (.BoolOp op es pos) C.env) d B' := T.ok
theorem Zn4 {t x y : Expr} {pos : Pos} {c : Bool} (ht : EvB G H C σ B (PySem.isTrue t C.env (eval t C.env)) c B₁)
  (hx : c = true -> Yn G H C σ B₁ (eval x C.env) d B₂) (hy : c = false -> Yn G H C σ B₁ (eval y C.env) d B₂) : Yn G H C σ B (eval (.IfExp t x y pos) C.env) d B₂ := fun A β s hA I E =>
 wpAny_IfExp ((ht A β s hA I).t3 fun c' s'1 β1 a'1 i'1 e => by
  subst e
  cases c' with
  | true => rw [if_pos rfl]; exact (hx rfl A β1 s'1 hA i'1).to fun _ _ p => p.from a'1
  | false => rw [if_neg (by simp)]; exact (hy rfl A β1 s'1 hA i'1).to fun _ _ p => p.from a'1)
end
noncomputable def Zd1 (e : Expr) : Bool := !(Nat.beq e.ctorIdx 26)
theorem Zeu {e : Expr} {o i : Value} (h : Zd1 e = true) : subscripted e false o i = operate [o, i] (getItem o i) := by
 cases e <;> first | rfl | cases h
noncomputable def ZaX (k : Int) : Bool := decide (-(2 ^ 63) <= k) && decide (k < 2 ^ 63)
noncomputable def Zb3 (xs : List V) (k : Int) : Option V := if ZaX k then (seqIndex? k xs.length).bind (xs[·]?) else none
noncomputable def Zas (ks : List Str) (vs : List V) (x : Str) : Option V := if ks.contains x then vs[ks.idxOf x]? else none
noncomputable def Zks (x : Str) (k : Int) : Option V := if ZaX k then ((seqIndex? k x.length).bind (x.cps[·]?)).map fun c => V.str ⟨#[c]⟩ else none
section
variable {G : GC} {C : Cx} {β β' : List Addr} {B B' B₁ B₂ B3 : List V} {σ : List (Option V)} {s s' : Shared} {H : Nat} {d d₁ d₂ : V} {v : Value}
theorem ZgP {a : Addr} {vs : Array Value} {n : Nat} {k : Int} {t : Tok} {j : Nat} {x : Value} {A : Around} {E : Value -> Shared -> Prop} {Q : Value -> Shared -> Prop} (e : s.heap.get? a = some (Z9 vs n))
  (hw : ZaX k = true) (hj : seqIndex? k vs.size = some j) (hx : vs[j]? = some x) (h : Q x s) : wpAny (model G.prog G.w) A (getItem (.ref a) (.int k t)) Q E s := by
 obtain ⟨h1, h2⟩ := Bool.and_eq_true_iff.mp hw;have h1 := of_decide_eq_true h1;have h2 := of_decide_eq_true h2;obtain ⟨hb, e1⟩ := Yp hj;rw [<- Option.some.inj e1] at hx;have hb := of_decide_eq_true (Bool.and_eq_true_iff.mp hb).1;clear e1 hj hw
 by_cases hk : k < 0
 ·rw [if_pos hk] at hb hx
  exact wpAny_getItem_list_neg (Rep.isList e) hk (by omega) h1 hx h
 ·rw [if_neg hk] at hb hx
  exact wpAny_getItem_list (Rep.isList e) hb h2 hx h
theorem Ze4 : ∀ {kvs : List (Str × Value)} {x : Str}, (kvs.map (·.1)).contains x = true -> valueAt kvs x = (kvs.map (·.2))[(kvs.map (·.1)).idxOf x]?
 | (k, v) :: r, x, h => by
  by_cases hk : k = x
  ·subst hk; simp [valueAt]
  ·have hb : (k == x) = false := by simpa using hk
   have hm : (r.map (·.1)).contains x = true := by
    simp only [List.map_cons, List.contains_cons, Bool.or_eq_true] at h;rcases h with h | h
    ·exact absurd (beq_iff_eq.mp h).symm hk
    ·exact h
   have := Ze4 hm;simp only [valueAt] at this ⊢;rw [List.find?_cons];simp only [hk, decide_false, List.map_cons, List.idxOf_cons, hb, cond_false, List.getElem?_cons_succ];exact this
noncomputable def ZhN (B : List V) (d₁ d₂ d : V) : Prop := ∀ (G : GC) (H : Nat), Op2 G H B getItem d₁ d₂ d /\ ∀ (C : Cx) σ β s v w, Inv G C β B σ s -> Rep G (avB C.av β) β s.heap v d₁ -> Rep G (avB C.av β) β s.heap w d₂ ->
  ∃ T id, s.TypeIs v T /\ typeLookup (.type T) "__getitem__" = pure (some (.builtin id))
theorem Zm1 {xs : List V} {k : Int} (hl : ZS B d₁ = some xs) (h : Zb3 xs k = some d) : ZhN B d₁ (.int k) d := fun G H => by
 obtain ⟨hw, h⟩ := Yp h;refine ⟨fun C σ A β s v w O hA I r'1 r'2 E => ?_, fun C σ β s v w I r'1 r'2 => YD (Ys I r'1 hl) fun a vs n e0 e q => e0 ▸ ⟨_, _, (Rep.isList e).typeIs, slot_list_getitem.lookup⟩⟩;refine YD (Ys I r'1 hl) fun a vs n e0 e q => ?_;obtain ⟨t, e1⟩ := Zo r'2;refine Z6 h fun j hj hx => ?_;have n1 : vs.size = xs.length := Array.length_toList.symm.trans q.length;refine Zg (q.get hx) fun x hx' rx => ?_;rw [e0, e1];exact ZgP e hw (n1 ▸ hj) (Array.getElem?_toList.symm.trans hx') (Zs.ofExt I (Ext.refl s) rx)
theorem Zp9 {xs : List V} {k : Int} (h : Zb3 xs k = some d) : ZhN B (.tup xs) (.int k) d := fun G H => by
 obtain ⟨hw, h⟩ := Yp h;refine ⟨fun C σ A β s v w O hA I r'1 r'2 E => ?_, fun C σ β s v w I r'1 r'2 => YD (XV r'1) fun a vs n e0 e q => e0 ▸ ⟨_, _, ⟨_, e, rfl⟩, slot_tuple_getitem.lookup⟩⟩;refine YD (XV r'1) fun a vs n e0 e q => ?_;obtain ⟨t, e1⟩ := Zo r'2;refine Z6 h fun j hj hx => ?_;have n1 : vs.size = xs.length := Array.length_toList.symm.trans q.length;refine Zg (q.get hx) fun x hx' rx => ?_;have hb := Bool.and_eq_true_iff.mp hw;rw [e0, e1];exact getItem_tuple (Rep.isTuple e) (of_decide_eq_true hb.1) (of_decide_eq_true hb.2) (n1 ▸ hj) (Array.getElem?_toList.symm.trans hx') (Zs.ofExt I (Ext.refl s) rx)
theorem Zo3 {x : Str} {k : Int} (h : Zks x k = some d) : ZhN B (.str x) (.int k) d := fun G H => by
 obtain ⟨hw, h⟩ := Yp h;refine ⟨fun C σ A β s v w O hA I r'1 r'2 E => ?_, fun C σ β s v w I r'1 r'2 => Zb1 (Z7 r'1) fun u e => e ▸ ⟨_, _, typeIs_str s x u, PySem.F.slot_str_getitem.lookup⟩⟩;obtain ⟨u, e0⟩ := Z7 r'1;obtain ⟨t, e1⟩ := Zo r'2;have hb := Bool.and_eq_true_iff.mp hw;refine Zp h fun c hc e2 => ?_;have h1 := of_decide_eq_true hb.1;have h2 := of_decide_eq_true hb.2;rw [e0, e1, <- e2];exact PyProof.Rows.getItem_str (by simp; omega) hc (Zs.ofExt I (Ext.toks s _) (.str _ _))
theorem Znn {p : List Str × List V} {x : Str} (hd : JB B d₁ = some p) (h : Zas p.1 p.2 x = some d) : ZhN B d₁ (.str x) d := fun G H => by
 obtain ⟨hc, h⟩ := Yp h;refine ⟨fun C σ A β s v w O hA I r'1 r'2 E => ?_, fun C σ β s v w I r'1 r'2 => ZeG (ZbP I r'1 hd) fun a kvs e0 hm hs hk q => e0 ▸ ⟨_, _, hm.typeIs, slot_dict_getitem.lookup⟩⟩;refine ZeG (ZbP I r'1 hd) fun a kvs e0 hm hs hk q => ?_;obtain ⟨t, e1⟩ := Z7 r'2;refine Zg (q.get h) fun y hy ry => ?_;rw [e0, e1];refine wpAny_getItem_of (strKind_is G.prog G.w x t) hm.mapOf (v := y) ?_ (Zs.ofExt I (Ext.toks s _) ry);rw [Ze4 (hk ▸ hc), hk]; exact hy
noncomputable def Zq0 (B : List V) (o i : V) : Sb fun (d : V) => ZhN B o i d := match i with
 | .int k => match o with
  | .tup xs => ⟨Zb3 xs k, fun _ h => Zp9 h⟩
  | .str x => ⟨Zks x k, fun _ h => Zo3 h⟩
  | o => .bind (ZS B o) fun xs hl => ⟨Zb3 xs k, fun _ h => Zm1 hl h⟩
 | .str x => .bind (JB B o) fun p hd => ⟨Zas p.1 p.2 x, fun _ h => Znn hd h⟩
 | _ => .no
noncomputable def Zf (B : List V) (o i : V) : Option V := (Zq0 B o i).1
theorem Zda {n : Nat} {xs : List V} {k : Int} (h : B[n]? = some (.list xs)) : Zf B (.box n) (.int k) = Zb3 xs k := congrArg Subtype.val (Sb.bind_eq (show ZS B (.box n) = some xs by show (match B[n]? with | some (.list xs) => some xs | _ => none) = some xs; rw [h]))
theorem Ziy {xs : List V} {k : Int} : Zf B (.list xs) (.int k) = Zb3 xs k := rfl
theorem ZlF {x : Str} {k : Int} : Zf B (.str x) (.int k) = Zks x k := rfl
theorem Zb5 {o : V} {p : List Str × List V} {x : Str} (h : JB B o = some p) : Zf B o (.str x) = Zas p.1 p.2 x := congrArg Subtype.val (Sb.bind_eq h)
set_option tactic.hygienic true in
theorem ZiW (h : Zf B d₁ d₂ = some d) : Op2 G H B getItem d₁ d₂ d /\ ∀ (C : Cx) σ β s v w, Inv G C β B σ s -> Rep G (avB C.av β) β s.heap v d₁ -> Rep G (avB C.av β) β s.heap w d₂ ->
  ∃ T id, s.TypeIs v T /\ typeLookup (.type T) "__getitem__" = pure (some (.builtin id)) := (Zq0 B d₁ d₂).2 d h G H
theorem Zse (O : Zv G C) {o i : Expr} {pos : Pos} (hn : Zd1 i = true) (h1 : Yn G H C σ B (eval o C.env) d₁ B₁) (h2 : Yn G H C σ B₁ (eval i C.env) d₂ B₂) (h : Zf B₂ d₁ d₂ = some d) :
  Yn G H C σ B (eval (.Subscript o i pos) C.env) d B₂ := fun A β s hA I E =>
 Subscript_ ((h1 A β s hA I).t3 fun v s'1 β1 a'1 i'1 r'1 => (h2 A β1 s'1 hA i'1).t3 fun u s'2 β2 a'2 i'2 r'2 => by
  have r1' := a'2.e O r'1;refine YA ((ZiW (G := G) (H := H) h).2 C σ β2 s'2 v u i'2 r1' r'2) fun T id hT hl => ?_;exact tail_any hT hl (((ZiW (G := G) (H := H) h).1 C σ A β2 s'2 v u O hA i'2 r1' r'2).to fun x s'3 p => (p.from a'2).from a'1) (Zeu hn))
inductive EvP (G : GC) (H : Nat) (C : Cx) (σ : List (Option V)) : List V -> Option Expr -> Option Int -> List V -> Prop
 | none (B : List V) : EvP G H C σ B none none B
 | some (B B' : List V) (e : Expr) (k : Int) : Yn G H C σ B (eval e C.env) (.int k) B' -> EvP G H C σ B (some e) (some k) B'
theorem EvP.ok {e : Option Expr} {k : Option Int} (P : EvP G H C σ B e k B') {A : Around} (hA : AOk H A) (I : Inv G C β B σ s) :
  Ok G.prog G.w A (evalPart e C.env) s fun v s' => ∃ β', Adv G C.mu β s β' s' /\ Inv G C β' B' σ s' /\ IsPart v k := by
 intro E
 cases P with
 | none => rw [evalPart_none]; exact wpAny_pure ⟨β, .refl, I, .none⟩
 | some _ e k h =>
  rw [evalPart_some];exact (h A β s hA I).t3 fun v s'1 β1 a'1 i'1 r'1 => by obtain ⟨t, rfl⟩ := Zo r'1; exact ⟨β1, a'1, i'1, .int _ _⟩
noncomputable def ZeP {α : Type} (xs : List α) (lo hi : Option Int) : List α :=
 (sliceRange (sliceBounds lo hi none xs.length).1 (sliceBounds lo hi none xs.length).2.1 (sliceBounds lo hi none xs.length).2.2).filterMap (xs[·]?)
theorem Zgq (vs : Array Value) (lo hi : Option Int) : (slicePick vs lo hi none).toList = ZeP vs.toList lo hi := by
 unfold slicePick ZeP;simp
theorem Zdx {av : Addr -> Prop} {h : Heap} {vs : List Value} {ds : List V} (r : Zb G av β h vs ds) : ∀ l : List Nat, Zb G av β h (l.filterMap (vs[·]?)) (l.filterMap (ds[·]?))
 | [] => .nil
 | i :: l => by
  have ih := Zdx r l
  cases hd : ds[i]? with
  | none =>
   have : vs[i]? = none := by
    rw [List.getElem?_eq_none_iff] at hd ⊢; rw [r.length]; exact hd
   simp only [List.filterMap_cons, hd, this]; exact ih
  | some d =>
   refine Zg (r.get hd) fun v hv rv => ?_;simp only [List.filterMap_cons, hd, hv]; exact .cons rv ih
noncomputable def ZiI (e : Expr) : Bool := Nat.beq e.ctorIdx 23
theorem ZiD {e : Expr} (h : ZiI e = true) (o r : Value) : letTemporaryGo e o r = pure () := by
 cases e <;> first | rfl | cases h
theorem Zop (O : Zv G C) {o : Expr} {lo hi : Option Expr} {l u : Option Int} {p pos : Pos} {xs : List V} (hn : ZiI o = true) (h1 : Yn G H C σ B (eval o C.env) d₁ B₁)
  (hl : EvP G H C σ B₁ lo l B₂) (hu : EvP G H C σ B₂ hi u B3) (hx : ZS B3 d₁ = some xs) (hs : Zu xs.length = true) :
  Yn G H C σ B (eval (.Subscript o (.Slice lo hi none p) pos) C.env) (.list (ZeP xs l u)) B3 := fun A β s hA I E =>
 wpAny_Subscript_list_slice ((h1 A β s hA I).t3 fun v s'1 β1 a'1 i'1 r'1 => (hl.ok hA i'1).t3 fun vl s'2 β2 a'2 i'2 p'2 => (hu.ok hA i'2).t3 fun vu s'3 β3 a'3 i3 p'3 => by
  refine YD (Ys i3 (a'3.e O (a'2.e O r'1)) hx) fun a vs n z_3 e q => ?_;subst z_3;have n1 : vs.size = xs.length := by rw [<- q.length]; simp
  refine ⟨a, vs, _, _, rfl, Rep.isList e, by rw [n1]; exact Yy hs, p'2, p'3, ?_⟩;have x1 := Ext.push s'3 { cls := .type "slice", data := .fields #[vl, vu, .none] };have x2 := Ext.push ({ s'3 with heap := s'3.heap.push { cls := .type "slice", data := .fields #[vl, vu, .none] } } : Shared) (Z9 (slicePick vs l u none) 0);refine ((Zs.ofExt i3 (x1.trans x2) ?_).from (a'2.trans a'3)).from a'1;have i4 := i3.ext x1;refine .list (vs := slicePick vs l u none) (n := 0) ?_ (i4.fresh (by show _ <= s'3.heap.objs.size + 1; rw [Heap.size_push]; exact Nat.le_refl _)) ?_
  ·have := Heap.get?_push_size (s'3.heap.push { cls := .type "slice", data := .fields #[vl, vu, .none] }) (o := Z9 (slicePick vs l u none) 0) rfl
   rw [Heap.size_push] at this;exact this
  ·rw [Zgq]
   refine Ext.repAll (x1.trans x2) ?_;unfold ZeP;rw [show vs.toList.length = xs.length from q.length];exact Zdx q _) (ZiD hn)
end
structure Kp (s s' : Shared) : Prop where
 keep : ∀ b o, s.heap.get? b = some o -> s'.heap.get? b = some o
 gens : s'.gens = s.gens
 os : s'.os = s.os
theorem Ok.ext {prog : Program} {w : World} {α : Type} {A : Around} {s : Shared} {m : Sem α} {P : α -> Shared -> Prop} (h : Ok prog w A m s fun a s' => Kp s s' /\ P a s') : Ok prog w A m s fun a s' => Ext s s' /\ P a s' :=
 h.size.mono fun a s' ⟨z, k, p⟩ => ⟨⟨k.keep, z, k.gens, k.os⟩, p⟩
noncomputable def OpN (G : GC) (H : Nat) (B B' : List V) (op : List Value -> Sem Value) (ds : List V) (d : V) : Prop :=
 ∀ (C : Cx) σ A β s vs, Zv G C -> AOk H A -> Inv G C β B σ s -> Zb G (avB C.av β) β s.heap vs ds -> Ok G.prog G.w A (op vs) s (Zs G C β σ s d B')
section
variable {G : GC} {C : Cx} {β : List Addr} {B B₁ B₂ : List V} {σ : List (Option V)} {s s' : Shared} {H : Nat} {d d₁ : V} {v : Value} {b : Bool} {ds : List V}
theorem Wd.g (gok : GOk G) (W : Wd G s) : s.heap.Ns mainGlobals G.mg := gok.g.at fun o e => W.keep _ o e gok.gT
theorem Wd.bi (gok : GOk G) (W : Wd G s) : s.heap.Ns builtinsNs G.mb := gok.b.at fun o e => W.keep _ o e gok.bT
theorem Wd.nolimit (gok : GOk G) (W : Wd G s) : s.heap.NoLimit := let ⟨mc, h, e⟩ := gok.nolimit; ⟨mc, h.at fun o e => W.keep _ o e gok.sT, e⟩
noncomputable def Yz (G : GC) (x : Str) (f : Value) : Prop := G.mg x = some f \/ (G.mg x = none /\ G.mb x = some f)
theorem X9 (O : Zv G C) (I : Inv G C β B σ s) {x : Str} {f : Value} {p : Pos} {A : Around} {E : Value -> Shared -> Prop} {Q : Value -> Shared -> Prop} (hk : C.env.kindOf x = some .globalImplicit) (hf : Yz G x f)
  (hd : (x == ("__debug__" : Str)) = false) (h : Q f s) : wpAny (model G.prog G.w) A (eval (.Name x p) C.env) Q E s := by
 refine Name_function_global O.kind hk ?_ hd;rcases hf with hf | ⟨h1, h2⟩
 ·exact loadGlobal_global (by rw [O.globals]; exact I.wd.g O.gok) hf h
 ·exact loadGlobal_builtin (by rw [O.globals]; exact I.wd.g O.gok) h1 (by rw [O.builtins]; exact I.wd.bi O.gok) h2 h
noncomputable def ZjT : Value -> Bool
 | .builtin _ | .type _ => true
 | _ => false
theorem Zok (O : Zv G C) {x : Str} {f : Value} {p pos : Pos} {es : List Expr} (hk : C.env.kindOf x = some .globalImplicit) (hf : Yz G x f) (hp : ZjT f = true) (hd : (x == ("__debug__" : Str)) = false)
  (R : Row G H C σ B es ds B₁) (hne : es ≠ []) (h : OpN G H B₁ B₂ (fun vs => call f vs) ds d) : Yn G H C σ B (eval (.Call (.Name x p) es [] pos) C.env) d B₂ := fun A β s hA I E => by
 refine wpAny_Call_NameR (X9 O I hk hf hd ?_)
 have key : wpAny (model G.prog G.w) A (evalArgs f true (backTo pos (starEach es C.env)) []) (fun a s'1 => wpAny (model G.prog G.w) A (call f ([] ++ a.pos) a.kw) (Zs G C β σ s d B₂) E s'1) E s := by
  cases R with
  | nil => exact absurd rfl hne
  | cons _ B1 _ e es' d' ds' hn h1 hr =>
   rw [ZA hn, ZW];refine evalArgs_plain ?_;have := (Row.cons B B1 B₁ e es' d' ds' hn h1 hr).evs O (pos := pos) A β s hA I;rw [ZA hn, ZW] at this;exact this.t3 fun vs s'1 β1 a'1 i'1 r'1 => (h C σ A β1 s'1 vs O hA i'1 r'1).to fun v s'2 q => q.from a'1
 cases f with
 | builtin id => exact Calls.callWith_builtin R.plain key
 | type T => exact PySem.callWith_type R.plain key
 | _ => cases hp
theorem Znr (O : Zv G C) {x : Str} {f : Addr} {o : Obj} {fd : FuncData} {p pos : Pos} {es : List Expr} (hk : C.env.kindOf x = some .globalImplicit) (hf : Yz G x (.ref f)) (hd : (x == ("__debug__" : Str)) = false)
  (ho : G.H0.get? f = some o) (hT : ¬ G.Tb f) (hdat : o.data = .func fd)
  (R : Row G H C σ B es ds B₁) (hne : es ≠ []) (h : OpN G H B₁ B₂ (fun vs => call (.ref f) vs) ds d) : Yn G H C σ B (eval (.Call (.Name x p) es [] pos) C.env) d B₂ := fun A β s hA I E => by
 refine wpAny_Call_NameR (X9 O I hk hf hd ?_);refine Calls.callWith_function (o := o) (fd := fd) ?_
 cases R with
 | nil => exact absurd rfl hne
 | cons _ B1 _ e es' d' ds' hn h1 hr =>
  rw [ZA hn, ZW];refine evalArgs_plain ?_;have := (Row.cons B B1 B₁ e es' d' ds' hn h1 hr).evs O (pos := pos) A β s hA I;rw [ZA hn, ZW] at this;exact this.t3 fun vs s'1 β1 a'1 i'1 r'1 => ⟨⟨i'1.wd.keep _ _ ho hT, hdat⟩, (h C σ A β1 s'1 vs O hA i'1 r'1).to fun v s'2 q => q.from a'1⟩
theorem Jl {av : Addr -> Prop} {h : Heap} {vs : List Value} (r : Zb G av β h vs [d]) : ∃ v, vs = [v] /\ Rep G av β h v d :=
 let ⟨v, _, e, r1, rs⟩ := r.sh.2 _ _ rfl; ⟨v, e.trans (congrArg (v :: ·) (rs.sh.1 rfl)), r1⟩
theorem YE {av : Addr -> Prop} {h : Heap} {vs : List Value} (r : Zb G av β h vs [d, d₁]) : ∃ v w, vs = [v, w] /\ Rep G av β h v d /\ Rep G av β h w d₁ :=
 let ⟨v, _, e, r1, rs⟩ := r.sh.2 _ _ rfl; let ⟨w, e2, r2⟩ := Jl rs; ⟨v, w, e.trans (congrArg (v :: ·) e2), r1, r2⟩
noncomputable def Zk0 (B : List V) (d : V) : Option Int := match ZS B d with
 | some xs => if Zu xs.length then some xs.length else none
 | none => match d with
  | .str x => if Zu x.length then some x.length else none
  | .tup xs => if Zu xs.length then some xs.length else none
  | _ => none
set_option tactic.hygienic true in
theorem Zrl {n : Int} (h : Zk0 B d = some n) : OpN G H B B (fun vs => call (.builtin "len") vs) [d] (.int n) := fun C σ A β s vs O hA I rr E => by
 refine Zg (Jl rr) fun v z_1 r => ?_;subst z_1;unfold Zk0 at h
 split at h
 ·rename_i xs hx
  refine YD (Ys I r hx) fun a vs n z_3 e q => ?_;subst z_3
  split at h
  ·rename_i hs
   cases h
   have n1 : vs.size = xs.length := by rw [<- q.length]; simp
   exact call_len_list (Rep.isList e) (by rw [n1]; exact JC hs) (by rw [n1]; exact Zs.ofExt I (Ext.toks s _) (.int _ _))
  ·exact nn h
 ·split at h
  ·split at h
   ·rename_i hs
    cases h
    obtain ⟨t, rfl⟩ := Z7 r;exact PyProof.Rows.len_str (by have := JC hs; omega) (Zs.ofExt I (Ext.toks s _) (.int _ _))
   ·exact nn h
  ·rename_i xs _
   split at h
   ·rename_i hs
    cases h
    refine YD (XV r) fun a vs n z_3 e q => ?_;subst z_3;have n1 : vs.size = xs.length := by rw [<- Array.length_toList]; exact q.length
    exact len_tuple (Rep.isTuple e) (by rw [n1]; exact JC hs) (by rw [n1]; exact Zs.ofExt I (Ext.toks s _) (.int _ _))
   ·exact nn h
  ·exact nn h
noncomputable def YR : List V -> Option (List Int)
 | [] => some []
 | .int i :: r => (YR r).map (i :: ·)
 | _ => none
theorem Xh : ∀ {xs : List V} {ns : List Int}, YR xs = some ns -> xs = ns.map V.int
 | [], _, h => by cases h; rfl
 | .int i :: r, ns, h => by
  simp only [YR] at h;refine Zp h fun m hm z_2 => ?_;subst z_2;rw [Xh hm]; rfl
theorem Zby {av : Addr -> Prop} {h : Heap} : ∀ {vs : List Value} {ns : List Int}, Zb G av β h vs (ns.map V.int) -> ∃ ps : List (Int × Tok), vs = ps.map (fun p => .int p.1 p.2) /\ ps.map (·.1) = ns := by
 intro vs ns
 induction ns generalizing vs with
 | nil => intro r; exact ⟨[], r.sh.1 rfl, rfl⟩
 | cons n ns ih =>
  intro r;refine YH (r.sh.2 _ _ rfl) fun v vs' e r1 rs => ?_;obtain ⟨t, e1⟩ := Zo r1;refine Zg (ih rs) fun ps e2 e3 => ⟨(n, t) :: ps, ?_, congrArg (n :: ·) e3⟩;rw [e, e1, e2]; rfl
theorem Zry {xs : List V} {ns : List Int} (h : ZS B d = some xs) (hn : YR xs = some ns) : OpN G H B B (fun vs => call (.builtin "sum") vs) [d] (.int ns.sum) := fun C σ A β s vs O hA I rr E => by
 refine Zg (Jl rr) fun v z_1 r => ?_;subst z_1;refine YD (Ys I r h) fun a vs n z_3 e q => ?_;subst z_3;rw [Xh hn] at q;refine Zg (Zby q) fun ps hps hns => ?_
 have hvs : vs = intItems ps.toArray := by
  apply Array.ext';rw [hps]; simp [intItems]
 subst hvs
 have hs : preSum (numAt ps.toArray) ps.toArray.size = ns.sum := by
  rw [preSum_eq, List.take_of_length_le (by simp)];simp [hns]
 refine (Ok.ext (P := fun v s' => ∃ t, v = .int ns.sum t) fun E => sum_intListG hA.handled (Rep.isList e) fun h' tk t' hk => ⟨⟨hk, rfl, rfl⟩, t', by rw [hs]⟩).to fun v s' hz => ?_;refine ZaN hz fun x hz => ?_;refine Zb1 hz fun t hv => ?_;subst hv;exact Zs.ofExt I x (.int _ _)
theorem Zsa {a b : Int} : OpN G H B B (fun vs => call (.builtin "min") vs) [.int a, .int b] (.int (if b < a then b else a)) := fun C σ A β s vs O hA I rr E => by
 refine YH (YE rr) fun v w z_2 r1 r2 => ?_;subst z_2;obtain ⟨t, rfl⟩ := Zo r1;obtain ⟨u, rfl⟩ := Zo r2;refine (Ok.ext (P := fun v s' => ∃ t, v = .int (if b < a then b else a) t) fun E => min_two_ints hA.handled fun h' tk hk => ⟨⟨hk, rfl, rfl⟩, if b < a then u else t, by split <;> rfl⟩).to fun v s' hz => ?_;refine ZaN hz fun x hz => ?_;refine Zb1 hz fun t hv => ?_;subst hv;exact Zs.ofExt I x (.int _ _)
theorem ZkI {n : Int} : OpN G H B B (fun vs => call (.type "range") vs) [.int n] (.range 0 n) := fun C σ A β s vs O hA I rr E => by
 refine Zg (Jl rr) fun v z_1 r => ?_;subst z_1;obtain ⟨t, rfl⟩ := Zo r;refine call_range_1 ?_;have x : Ext s { s with heap := s.heap.push { cls := .type "range", data := .fields #[.int 0 s.toks, .int n t, .int 1 (s.toks + 1)] }, toks := s.toks + 1 + 1 } := (Ext.push s _).trans (Ext.toks _ _);exact Zs.ofExt I x (.range (IsRange.new ..) (I.fresh (Nat.le_refl _)))
theorem Zld {a b : Int} : OpN G H B B (fun vs => call (.type "range") vs) [.int a, .int b] (.range a b) := fun C σ A β s vs O hA I rr E => by
 refine YH (YE rr) fun v w z_2 r1 r2 => ?_;subst z_2;obtain ⟨t, rfl⟩ := Zo r1;obtain ⟨u, rfl⟩ := Zo r2;refine call_range_2 ?_;have x : Ext s { s with heap := s.heap.push { cls := .type "range", data := .fields #[.int a t, .int b u, .int 1 s.toks] }, toks := s.toks + 1 } := (Ext.push s _).trans (Ext.toks _ _);exact Zs.ofExt I x (.range (IsRange.new ..) (I.fresh (Nat.le_refl _)))
theorem Zr7 {i : Int} (h : Zu (baseText "0x" 16 i).length = true) : OpN G H B B (fun vs => call (.builtin "hex") vs) [.int i] (.str (baseText "0x" 16 i)) := fun C σ A β s vs O hA I rr E => by
 refine Zg (Jl rr) fun v z_1 r => ?_;subst z_1;obtain ⟨t, rfl⟩ := Zo r;exact P.hex_of_int (Zs.ofExt I (Ext.toks s _) (.str _ _)) (Yy h)
theorem Zrz {c : Bool} : OpN G H B B (fun vs => call (.type "int") vs) [.bool c] (.int (if c then 1 else 0)) := fun C σ A β s vs O hA I rr E => by
 refine Zg (Jl rr) fun v z_1 r => ?_;subst z_1;rw [ZcG r];exact call_int_bool (Zs.ofExt I (Ext.toks s _) (.int _ _))
end
set_option genInjectivity true in
inductive Src where
 | seq (xs : List V)
 | box (n i : Nat)
noncomputable def Src.at (B : List V) : Src -> Option (Option V)
 | .seq xs => some xs.head?
 | .box n i => match B[n]? with
  | some (.list ys) => some ys[i]?
  | _ => none
noncomputable def Src.adv : Src -> Src
 | .seq xs => .seq xs.tail
 | .box n i => .box n (i + 1)
noncomputable def Cx.more (C : Cx) (own : Addr -> Prop) : Cx := { C with av := fun a => C.av a \/ own a }
structure Xp (G : GC) (C : Cx) (own : Addr -> Prop) : Prop where
 sub : ∀ a, own a -> C.av a
 nomu : ∀ a, own a -> ¬ C.mu a
 high : ∀ a, own a -> G.H0.objs.size <= a
 nocell : ∀ x c, C.env.cells.lookup x = some c -> ¬ own c
section
variable {G : GC} {C : Cx} {β : List Addr} {B : List V} {σ : List (Option V)} {s s' : Shared} {d : V} {v : Value} {b : Bool} {ds : List V} {ow : Addr -> Prop}
theorem Zv.more (O : Zv G C) (own : Addr -> Prop) : Zv G (C.more own) :=
 ⟨O.gok, O.kind, O.globals, O.builtins, fun a h => .inl (O.muav a h), fun a h => .inl (O.tbav a h), O.muL, O.mu0, O.cellmu, fun x c h => .inl (O.cellav x c h), O.inj, O.has, O.cell0, O.known, O.dbg, O.code⟩
theorem Inv.more (I : Inv G C β B σ s) (x : Ext s s') (h : ∀ a, ow a -> s.heap.objs.size <= a /\ a < s'.heap.objs.size) : Inv G (C.more ow) β B σ s' := by
 have hk : ∀ b o, s.heap.get? b = some o -> ¬ avB C.av β b -> s'.heap.get? b = some o /\ ¬ avB (C.more ow).av β b := fun b o e n =>
  ⟨x.keep b o e, by
   rintro ((z | z) | z)
   ·exact n (.inl z)
   ·exact absurd (Heap.lt_size e) (Nat.not_lt.mpr (h b z).1)
   ·exact n (.inr z)⟩
 have I' := I.ext x;refine ⟨I'.wd, ?_, I'.ns, I'.cells, fun y d e k => ?_, I'.slots, I'.boxes.len, I'.boxes.nodup, ?_, I'.boxes.high, fun n a d e1 e2 => ?_⟩
 ·rintro a (z | z)
  ·exact I'.low a z
  ·exact (h a z).2
 ·refine Zg (I.vars y d e k) fun v b r => ?_
  exact ⟨v, b.keeps x.keep, Rep.mono hk (fun _ _ z => z) r⟩
 ·rintro a ha (z | z)
  ·exact I'.boxes.apart a ha z
  ·exact I.fresh (h a z).1 (.inr ha)
 ·exact (I.boxes.at' n a d e1 e2).mono hk (fun _ _ z => z) fun o z => x.keep a o z
theorem Zgv {av av' : Addr -> Prop} {h : Heap} (hs : ∀ a, av a -> av' a) {v : Value} {d : V} (r : Rep G av' β h v d) : Rep G av β h v d := Rep.mono (fun b o e n => ⟨e, fun z => n (hs b z)⟩) (fun _ _ z => z) r
theorem Zcg {av av' : Addr -> Prop} {h : Heap} (hs : ∀ a, av a -> av' a) {vs : List Value} {ds : List V} (r : Zb G av' β h vs ds) : Zb G av β h vs ds := Zb.mono (fun b o e n => ⟨e, fun z => n (hs b z)⟩) (fun _ _ z => z) r
theorem Zdg (ow : Addr -> Prop) : ∀ a, avB C.av β a -> avB (C.more ow).av β a := fun a h => h.imp .inl id
theorem Inv.less (I : Inv G (C.more ow) β B σ s) : Inv G C β B σ s := by
 refine ⟨I.wd, fun a h => I.low a (.inl h), I.ns, I.cells, fun y d e k => ?_, I.slots, I.boxes.len, I.boxes.nodup, fun a ha z => I.boxes.apart a ha (.inl z), I.boxes.high, fun n a d e1 e2 => ?_⟩
 ·refine Zg (I.vars y d e k) fun v b r => ?_
  exact ⟨v, b, Zgv (Zdg ow) r⟩
 ·exact (I.boxes.at' n a d e1 e2).mono (fun b o e n => ⟨e, fun z => n (Zdg ow b z)⟩) (fun _ _ z => z) fun o z => z
theorem Inv.own (O : Zv G C) (W : Xp G C ow) (I : Inv G C β B σ s) (k : ∀ b o, ¬ ow b -> s.heap.get? b = some o -> s'.heap.get? b = some o) (hz : s.heap.objs.size <= s'.heap.objs.size)
  (hg : s'.gens = s.gens) (ho : s'.os = s.os) : Inv G C β B σ s' := by
 have hk : ∀ b o, s.heap.get? b = some o -> ¬ avB C.av β b -> s'.heap.get? b = some o /\ ¬ avB C.av β b := fun b o e n => ⟨k b o (fun z => n (.inl (W.sub b z))) e, n⟩;have h0 : ∀ {b}, b < G.H0.objs.size -> ¬ ow b := fun h z => absurd h (Nat.not_lt.mpr (W.high _ z));have hβ : ∀ a ∈ β, ¬ ow a := fun a ha z => I.boxes.apart a ha (W.sub a z);have hmu : ∀ a, C.mu a -> ¬ ow a := fun a h z => W.nomu a z h
 have hcell : ∀ {x c v}, C.env.cells.lookup x = some c -> s.heap.IsCell c v -> s'.heap.IsCell c v := fun hc hv =>
  let ⟨o, e1, e2⟩ := hv; ⟨o, k _ o (W.nocell _ _ hc) e1, e2⟩
 refine ⟨⟨fun b o e n => k b o (h0 (Heap.lt_size e)) (I.wd.keep b o e n), fun c P m => ?_, hg ▸ I.wd.gens, ho.trans I.wd.os⟩, fun a h => Nat.lt_of_lt_of_le (I.low a h) hz,
  let ⟨m, hn⟩ := I.ns; ⟨m, hn.at fun o e => k _ o (hmu _ O.muL) e⟩, fun x xa hx => let ⟨c, v, h1, h2⟩ := I.cells x xa hx; ⟨c, v, h1, hcell h1 h2⟩, fun y d e ky => ?_, I.slots,
  I.boxes.len, I.boxes.nodup, I.boxes.apart, I.boxes.high, fun n a d e1 e2 => (I.boxes.at' n a d e1 e2).mono hk (fun _ _ z => z) fun o z => k a o (hβ a (List.mem_of_getElem? e1)) z⟩
 ·refine Zg (I.wd.tab c P m) fun ps h1 h2 => ?_
  refine Xx (O.gok.tabs c P m) fun hc hP _ => ?_;obtain ⟨o, vs, file, tf, flags, tg, inF, text, tt, op, q1, q2, q3, q4, q5, q6, q7, q8, q9⟩ := h1;obtain ⟨⟨o2, vs2, p1, p2⟩, p3⟩ := h2;exact ⟨ps, ⟨o, vs, file, tf, flags, tg, inF, text, tt, op, k _ _ (h0 hc) q1, q2, q3, q4, q5, q6, q7, k _ _ (h0 hP) q8, q9⟩, ⟨⟨o2, vs2, k _ _ (h0 hc) p1, p2⟩, k _ _ (h0 hP) p3⟩⟩
 ·refine Zg (I.vars y d e ky) fun v b r => ?_
  refine ⟨v, ?_, Rep.mono hk (fun _ _ z => z) r⟩;rcases b with ⟨k1, m, hn, hm⟩ | ⟨k1, c, hc, hv⟩
  ·exact .inl ⟨k1, m, hn.at fun o e => k _ o (hmu _ O.muL) e, hm⟩
  ·refine .inr ⟨k1, c, hc, ?_⟩
   refine Zg hv fun o e1 e2 => ?_;clear hv;exact ⟨o, k c o (W.nocell y c hc) e1, e2⟩
end
noncomputable abbrev Yi (I : Addr) (a : Addr) : Prop := a = I
noncomputable abbrev Zrj (z TI TO i1 i2 : Addr) (a : Addr) : Prop := a = z \/ a = TI \/ a = TO \/ a = i1 \/ a = i2
inductive Y9 (G : GC) (C : Cx) (β : List Addr) (s : Shared) : (Addr -> Prop) -> Bool -> Value -> Src -> Prop
 | list {I a : Addr} {vs : Array Value} {n i : Nat} {ds : List V} : s.heap.IsListIter I a i -> s.heap.get? a = some (Z9 vs n) -> ¬ avB C.av β a -> Zb G (avB C.av β) β s.heap vs.toList ds ->
   Y9 G C β s (Yi I) false (.ref I) (.seq (ds.drop i))
 | tup {I a : Addr} {vs : Array Value} {n i : Nat} {ds : List V} : s.heap.IsTupleIter I a i -> s.heap.get? a = some (YG vs n) -> ¬ avB C.av β a -> Zb G (avB C.av β) β s.heap vs.toList ds ->
   Y9 G C β s (Yi I) false (.ref I) (.seq (ds.drop i))
 | range {I : Addr} {x left : Int} : IsRangeIter s.heap I x left 1 -> 0 <= left -> Y9 G C β s (Yi I) false (.ref I) (.seq ((List.range left.toNat).map fun (k : Nat) => .int (x + (k : Int))))
 | keys {I a : Addr} {kvs : List (Str × Value)} {ep i : Nat} : s.heap.IsKeyIter I a i kvs.length ep -> s.heap.DictAt (PySem.strKind G.prog G.w) a kvs ep -> ¬ avB C.av β a ->
   Y9 G C β s (Yi I) false (.ref I) (.seq (((kvs.map (·.1)).drop i).map .str))
 | vals {I a : Addr} {kvs : List (Str × Value)} {ep i : Nat} {ds : List V} : s.heap.IsValIter I a i kvs.length ep -> s.heap.DictAt (PySem.strKind G.prog G.w) a kvs ep -> ¬ avB C.av β a ->
   Zb G (avB C.av β) β s.heap (kvs.map (·.2)) ds -> Y9 G C β s (Yi I) false (.ref I) (.seq (ds.drop i))
 | items {I a : Addr} {kvs : List (Str × Value)} {ep i : Nat} {ok ov : Value} {ds : List V} : IsItemIter s.heap I a i kvs.length ep ok ov -> s.heap.DictAt (PySem.strKind G.prog G.w) a kvs ep -> ¬ avB C.av β a ->
   Zb G (avB C.av β) β s.heap (kvs.map (·.2)) ds -> Y9 G C β s (Yi I) true (.ref I) (.seq ((((kvs.map (·.1)).zip ds).drop i).map fun p => .tup [.str p.1, p.2]))
 | str {I : Addr} {x : Str} {t : Tok} {i : Nat} : s.heap.IsStrIter I "str_ascii_iterator" x t i -> Y9 G C β s (Yi I) false (.ref I) (.seq ((x.cps.toList.drop i).map fun c => .str ⟨#[c]⟩))
 | zip {z TI TO i1 i2 l1 l2 : Addr} {k n1 n2 : Nat} {xs ys : Array Value} {a b : Value} {ds es : List V} : ZipApart z TI TO i1 i2 l1 l2 -> IsZip s.heap z TI TO .none -> IsPair s.heap TI (.ref i1) (.ref i2) -> IsPair s.heap TO a b ->
   s.heap.IsListIter i1 l1 k -> s.heap.IsListIter i2 l2 k -> s.heap.get? l1 = some (Z9 xs n1) -> s.heap.get? l2 = some (Z9 ys n2) -> ¬ avB C.av β l1 -> ¬ avB C.av β l2 ->
   Zb G (avB C.av β) β s.heap xs.toList ds -> Zb G (avB C.av β) β s.heap ys.toList es ->
   Y9 G C β s (Zrj z TI TO i1 i2) true (.ref z) (.seq (((ds.zip es).drop k).map fun p => .tup [p.1, p.2]))
 | box {I a : Addr} {n i : Nat} : s.heap.IsListIter I a i -> β[n]? = some a -> Y9 G C β s (Yi I) false (.ref I) (.box n i)
structure YC (ow : Addr -> Prop) (s s' : Shared) : Prop where
 keep : ∀ b o, ¬ ow b -> s.heap.get? b = some o -> s'.heap.get? b = some o
 size : s.heap.objs.size <= s'.heap.objs.size
 gens : s'.gens = s.gens
 os : s'.os = s.os
structure KpO (ow : Addr -> Prop) (s s' : Shared) : Prop where
 keep : ∀ b o, ¬ ow b -> s.heap.get? b = some o -> s'.heap.get? b = some o
 gens : s'.gens = s.gens
 os : s'.os = s.os
section
variable {G : GC} {C : Cx} {β β' : List Addr} {B : List V} {σ : List (Option V)} {s s' : Shared} {H : Nat} {d : V} {v : Value} {b : Bool} {ds : List V} {ow : Addr -> Prop} {tp : Bool} {it : Value} {src : Src}
theorem YT {h h' : Heap} {a : Addr} {kvs : List (Str × Value)} {ep : Nat} (x : h.DictAt (PySem.strKind G.prog G.w) a kvs ep) (e : ∀ o, h.get? a = some o -> h'.get? a = some o) : h'.DictAt (PySem.strKind G.prog G.w) a kvs ep :=
 let ⟨o, es, ho, r⟩ := x; ⟨o, es, e o ho, r⟩
theorem Za7 {h : Heap} {a : Addr} {kvs : List (Str × Value)} {ep : Nat} (x : h.DictAt (PySem.strKind G.prog G.w) a kvs ep) : ∃ o, h.get? a = some o :=
 let ⟨o, es, ho, r⟩ := x; ⟨o, ho⟩
theorem Y9.move {C' : Cx} (T : Y9 G C β s ow tp it src) (hk : ∀ b o, s.heap.get? b = some o -> ¬ avB C.av β b -> s'.heap.get? b = some o /\ ¬ avB C'.av β' b) (hβ : ∀ (n : Nat) (a : Addr), β[n]? = some a -> β'[n]? = some a)
  (ho : ∀ b o, ow b -> s.heap.get? b = some o -> s'.heap.get? b = some o) : Y9 G C' β' s' ow tp it src := by
 induction T with
 | list h1 h2 h3 h4 => exact .list (h1.at fun o e => ho _ o rfl e) (hk _ _ h2 h3).1 (hk _ _ h2 h3).2 (Zb.mono hk hβ h4)
 | tup h1 h2 h3 h4 => exact .tup (let ⟨o, e, r⟩ := h1; ⟨o, ho _ o rfl e, r⟩) (hk _ _ h2 h3).1 (hk _ _ h2 h3).2 (Zb.mono hk hβ h4)
 | range h1 h2 => exact .range (ho _ _ rfl h1) h2
 | keys h1 h2 h3 =>
  obtain ⟨o, e⟩ := Za7 h2;exact .keys (let ⟨o, e, r⟩ := h1; ⟨o, ho _ o rfl e, r⟩) (YT h2 fun o e => (hk _ o e h3).1) (hk _ _ e h3).2
 | vals h1 h2 h3 h4 =>
  obtain ⟨o, e⟩ := Za7 h2;exact .vals (let ⟨o, e, r⟩ := h1; ⟨o, ho _ o rfl e, r⟩) (YT h2 fun o e => (hk _ o e h3).1) (hk _ _ e h3).2 (Zb.mono hk hβ h4)
 | items h1 h2 h3 h4 =>
  obtain ⟨o, e⟩ := Za7 h2;exact .items (ho _ _ rfl h1) (YT h2 fun o e => (hk _ o e h3).1) (hk _ _ e h3).2 (Zb.mono hk hβ h4)
 | str h1 => exact .str (let ⟨o, e, r⟩ := h1; ⟨o, ho _ o rfl e, r⟩)
 | zip D h1 h2 h3 h4 h5 h6 h7 h8 h9 h10 h11 =>
  exact .zip D (ho _ _ (.inl rfl) h1) (ho _ _ (.inr (.inl rfl)) h2) (ho _ _ (.inr (.inr (.inl rfl))) h3) (h4.at fun o e => ho _ o (.inr (.inr (.inr (.inl rfl)))) e) (h5.at fun o e => ho _ o (.inr (.inr (.inr (.inr rfl)))) e)
   (hk _ _ h6 h8).1 (hk _ _ h7 h9).1 (hk _ _ h6 h8).2 (hk _ _ h7 h9).2 (Zb.mono hk hβ h10) (Zb.mono hk hβ h11)
 | box h1 h2 => exact .box (h1.at fun o e => ho _ o rfl e) (hβ _ _ h2)
theorem Y9.adv (O : Zv G C) (W : Xp G C ow) (I : Inv G C β B σ s) (T : Y9 G C β s ow tp it src) (a : Adv G C.mu β s β' s') : Y9 G C β' s' ow tp it src :=
 T.move (a.repKeep O O.muav) a.pre' fun b o h e => a.grow.keep b o e (by
  rintro (z | z)
  ·exact W.nomu b h z
  ·exact I.boxes.apart b z (W.sub b h)) fun ⟨c, z⟩ => by
   have h1 := (O.gok.tabs c b z).2.1;have h2 := W.high b h;exact absurd h1 (Nat.not_lt.mpr h2)
noncomputable def ZdZ (tp : Bool) (e : Expr) : Bool := Nat.beq e.ctorIdx 25 || (Nat.beq e.ctorIdx 23 && !tp)
theorem Zdd {tp : Bool} {tgt : Expr} {P : Expr -> Prop} (h : ZdZ tp tgt = true) (h1 : tp = false -> ∀ n p, P (.Name n p)) (h2 : ∀ e k p, P (.Tuple e k p)) : P tgt := by
 cases tgt with
 | Name _ _ => exact h1 (by cases tp with | true => cases h | false => rfl) _ _
 | Tuple _ _ _ => exact h2 _ _ _
 | _ => first | exact nn h | cases h
theorem Zm0 {tgt : Expr} {I : Addr} {o : Obj} {n : String} {A : Around} {E : Value -> Shared -> Prop} {Q : Unit -> Shared -> Prop} (ht : ZdZ false tgt = true) (ho : s.heap.get? I = some o) (hc : o.cls = .type n)
  (hn : ["enumerate", "zip", "dict_itemiterator", "dict_reverseitemiterator", "odict_iterator", "itertools.zip_longest", "itertools.pairwise"].contains n = false) (h : Q () s) :
  wpAny (model G.prog G.w) A (letOwnedTupleGo tgt (.ref I) v) Q E s := by
 refine Zdd (P := fun tgt => wpAny (model G.prog G.w) A (letOwnedTupleGo tgt (.ref I) v) Q E s) ht (fun _ _ _ => wpAny_pure h) fun elts k pos => ?_
 ·clear ht
  unfold letOwnedTupleGo
  cases v with
  | ref a =>
   refine wpAny_bind (wpAny_load ho ?_);obtain ⟨c, dd, dt, sl⟩ := o;simp only at hc;subst hc
   cases dt with
   | fields vs =>
    show wpAny _ _ (if (["enumerate", "zip", "dict_itemiterator", "dict_reverseitemiterator", "odict_iterator", "itertools.zip_longest", "itertools.pairwise"].contains n && vs[0]? == some (rawInt a)) = true then _ else _) _ _ _;rw [hn, Bool.false_and, if_neg (by simp)];exact wpAny_pure h
   | _ => exact wpAny_pure h
  | _ => exact wpAny_pure h
noncomputable def ZeO (G : GC) (C : Cx) (β : List Addr) (A : Around) (s : Shared) (ow : Addr -> Prop) (tp : Bool) (it : Value) (src : Src) (r : Option V) (q : Option Value) (s'1 : Shared) : Prop :=
 match q, r with
 | none, none => YC ow s s'1
 | some v, some x => ∀ tgt, ZdZ tp tgt = true -> Ok G.prog G.w A (letOwnedTupleGo tgt it v) s'1 fun _ s'2 => YC ow s s'2 /\ Rep G (avB C.av β) β s'2.heap v x /\ Y9 G C β s'2 ow tp it src.adv
 | _, _ => False
theorem ZoO {A : Around} {t : Sem (Option Value)} {P : Option Value -> Shared -> Prop} (h : Ok G.prog G.w A t s fun q s'1 => KpO ow s s'1 /\ P q s'1) : Ok G.prog G.w A t s fun q s'1 => YC ow s s'1 /\ P q s'1 :=
 h.size.mono fun q s'1 ⟨z, k, p⟩ => ⟨⟨k.keep, z, k.gens, k.os⟩, p⟩
theorem Jw {α : Type} {l : List α} {i : Nat} {x : α} (h : l[i]? = some x) : l.drop i = x :: l.drop (i + 1) := by
 obtain ⟨h1, h2⟩ := List.getElem?_eq_some_iff.mp h;rw [List.drop_eq_getElem_cons h1, h2]
theorem drop_nil {α : Type} {l : List α} {i : Nat} (h : l[i]? = none) : l.drop i = [] := List.drop_eq_nil_of_le (List.getElem?_eq_none_iff.mp h)
theorem Zcy {a : Addr} {h h' : Heap} (x : Heap.SameBut a h h') : h.objs.size <= h'.objs.size := by rw [x.1]; exact Nat.le_refl _
theorem ZaU {A : Around} (h : ∀ E, wpAny (model G.prog G.w) A (pyNext it) (fun q s'1 => KpO ow s s'1 /\ q = none) E s) : Ok G.prog G.w A (pyNext it) s (ZeO G C β A s ow tp it src none) :=
 (ZoO (P := fun q s'1 => q = none) h).mono fun q s'1 ⟨S, e⟩ => by rw [e]; exact S
theorem Zco {A : Around} {J : Addr} {s'1 : Shared} {n : String} {o : Obj} {x : V} (S : YC (Yi J) s s'1) (ho : s'1.heap.get? J = some o) (hc : o.cls = .type n)
  (hn : ["enumerate", "zip", "dict_itemiterator", "dict_reverseitemiterator", "odict_iterator", "itertools.zip_longest", "itertools.pairwise"].contains n = false) (r : Rep G (avB C.av β) β s'1.heap v x) (T : Y9 G C β s'1 (Yi J) false (.ref J) src.adv) :
  ZeO G C β A s (Yi J) false (.ref J) src (some x) (some v) s'1 := fun tgt ht E => Zm0 ht ho hc hn ⟨S, r, T⟩
theorem Zd0 {k : Str} {key : Value} (h : Value.isStrOf k key = true) : ∃ t, key = .str k t := by
 unfold Value.isStrOf at h
 split at h
 ·exact ⟨_, congrArg (Value.str · _) (eq_of_beq h)⟩
 ·first | exact nn h | cases h
theorem Zbq {α β : Type} {vs : Array α} {ds : List β} {i : Nat} (hl : vs.toList.length = ds.length) (hd : ds[i]? = none) : vs[i]? = none :=
 Array.getElem?_eq_none_iff.mpr (by rw [<- Array.length_toList, hl]; exact List.getElem?_eq_none_iff.mp hd)
theorem ZbO (O : Zv G C) {A : Around} (hA : AOk H A) (I : Inv G C β B σ s) (W : Xp G C ow) (T : Y9 G C β s ow tp it src) {r : Option V} (hr : src.at B = some r) :
  Ok G.prog G.w A (pyNext it) s (ZeO G C β A s ow tp it src r) := by
 have one : ∀ {J : Addr} {h' : Heap} {tk : Nat}, Heap.SameBut J s.heap h' -> YC (Yi J) s { s with heap := h', toks := tk } := fun hs => ⟨fun b o n e => (hs.2 b n).trans e, Zcy hs, rfl, rfl⟩;have kp : ∀ {J : Addr} {h' : Heap}, (∀ b o, b ≠ J -> s.heap.get? b = some o -> h'.get? b = some o) -> KpO (Yi J) s { s with heap := h' } := fun he => ⟨fun b o n e => he b o n e, rfl, rfl⟩;have rk : ∀ {s'1 : Shared}, YC ow s s'1 -> ∀ b o, s.heap.get? b = some o -> ¬ avB C.av β b -> s'1.heap.get? b = some o /\ ¬ avB C.av β b := fun S b o e n => ⟨S.keep b o (fun z => n (.inl (W.sub b z))) e, n⟩;have idβ : ∀ (n : Nat) (a : Addr), β[n]? = some a -> β[n]? = some a := fun _ _ z => z;have hh := hA.handled;have fr := I.fresh (Nat.le_refl _);have bx := I.boxes;clear hA O I
 induction T with
 | @list J a vs n i ds h1 h2 h3 h4 =>
  rw [<- Option.some.inj hr]
  cases hd : ds[i]? with
  | none =>
   rw [drop_nil hd];exact ZaU fun E => wpAny_pyNext_list_end hh h1 (Rep.isList h2) (Zbq h4.length hd) fun h' he => ⟨kp he, rfl⟩
  | some x =>
   rw [Jw hd];refine Zg (h4.get hd) fun y hy ry => ?_;intro E;refine wpAny_pyNext_list_item h1 (Rep.isList h2) (x := y) (Array.getElem?_toList.symm.trans hy) fun h' hi' hs => ?_;have S := one (tk := s.toks) hs;refine XS (id hi') fun o ho hc _ => ?_;exact Zco S ho hc (by decide) (Rep.mono (rk S) idβ ry) (.list hi' (rk S _ _ h2 h3).1 h3 (Zb.mono (rk S) idβ h4))
 | @tup J a vs n i ds h1 h2 h3 h4 =>
  rw [<- Option.some.inj hr]
  cases hd : ds[i]? with
  | none =>
   rw [drop_nil hd];exact ZaU fun E => wpAny_pyNext_tuple_end hh h1 (Rep.isTuple h2) (Zbq h4.length hd) fun h' he => ⟨kp he, rfl⟩
  | some x =>
   rw [Jw hd];refine Zg (h4.get hd) fun y hy ry => ?_;intro E;refine wpAny_pyNext_tuple_item h1 (Rep.isTuple h2) (x := y) (Array.getElem?_toList.symm.trans hy) fun h' hi' hs => ?_;have S := one (tk := s.toks) hs;refine XS (id hi') fun o ho hc _ => ?_;exact Zco S ho hc (by decide) (Rep.mono (rk S) idβ ry) (.tup hi' (rk S _ _ h2 h3).1 h3 (Zb.mono (rk S) idβ h4))
 | @range J x left h1 h2 =>
  rw [<- Option.some.inj hr]
  by_cases hl : 0 < left
  ·obtain ⟨m, hm⟩ : ∃ m : Nat, left = m + 1 := ⟨(left - 1).toNat, by omega⟩
   have e2 : ((List.range left.toNat).map fun (k : Nat) => V.int (x + (k : Int))) = .int x :: (List.range (left - 1).toNat).map fun (k : Nat) => V.int (x + 1 + (k : Int)) := by
    rw [hm, Int.add_sub_cancel, Int.toNat_natCast];show (List.range (m + 1)).map _ = _;rw [List.range_succ_eq_map, List.map_cons, List.map_map];refine congr (congrArg _ (congrArg V.int (Int.add_zero x))) (List.map_congr_left fun k _ => congrArg V.int ?_);rw [Int.add_assoc, Int.add_comm 1]; rfl
   rw [e2];intro E;refine wpAny_pyNext_range_item h1 hl fun h' hi' hs => ?_;have S := one (tk := s.toks + 1) hs;exact Zco S hi' rfl (by decide) (.int _ _) (.range hi' (Int.le_sub_one_of_lt hl))
  ·have h0 : left = 0 := Int.le_antisymm (Int.not_lt.mp hl) h2
   rw [h0] at h1 ⊢;exact ZaU fun E => wpAny_pyNext_range_end hh h1 (Int.le_refl _) fun h' he => ⟨kp he, rfl⟩
 | @keys J a kvs ep i h1 h2 h3 =>
  rw [<- Option.some.inj hr]
  cases hd : kvs[i]? with
  | none =>
   rw [drop_nil (show (kvs.map (·.1))[i]? = none by rw [List.getElem?_map, hd]; rfl)];exact ZaU fun E => wpAny_pyNext_dict_end hh h1 h2 hd fun h' he => ⟨kp he, rfl⟩
  | some p =>
   obtain ⟨k, y⟩ := p;rw [Jw (show (kvs.map (·.1))[i]? = some k by rw [List.getElem?_map, hd]; rfl)];intro E;refine wpAny_pyNext_dict_item h1 h2 hd fun key h' hk hi' hs => ?_;have S := one (tk := s.toks) hs;refine XS (id hi') fun o ho hc _ => ?_;obtain ⟨t, hkey⟩ := Zd0 hk;rw [hkey];exact Zco S ho hc (by decide) (.str _ _) (.keys hi' (YT h2 fun o e => (rk S _ _ e h3).1) h3)
 | @vals J a kvs ep i ds h1 h2 h3 h4 =>
  rw [<- Option.some.inj hr];rcases h4.both i with ⟨g1, g2⟩ | ⟨y, x, g1, g2, rx⟩
  ·rw [drop_nil g2]
   rw [List.getElem?_map] at g1;exact ZaU fun E => wpAny_pyNext_values_end hh h1 h2 (Option.map_eq_none_iff.mp g1) fun h' he => ⟨kp he, rfl⟩
  ·rw [Jw g2]
   rw [List.getElem?_map] at g1;obtain ⟨⟨k, y'⟩, hd, hy⟩ := Option.map_eq_some_iff.mp g1;intro E;refine wpAny_pyNext_values_item h1 h2 hd fun h' hi' hs => ?_;have S := one (tk := s.toks) hs;refine XS (id hi') fun o ho hc _ => ?_;rw [<- hy] at rx;exact Zco S ho hc (by decide) (Rep.mono (rk S) idβ rx) (.vals hi' (YT h2 fun o e => (rk S _ _ e h3).1) h3 (Zb.mono (rk S) idβ h4))
 | @items J a kvs ep i ok ov ds h1 h2 h3 h4 =>
  rw [<- Option.some.inj hr];rcases h4.both i with ⟨g1, g2⟩ | ⟨y, x, g1, g2, rx⟩ <;> rw [List.getElem?_map] at g1
  ·rw [drop_nil (show ((kvs.map (·.1)).zip ds)[i]? = none from List.getElem?_eq_none_iff.mpr (by rw [List.length_zip]; exact Nat.le_trans (Nat.min_le_right _ _) (List.getElem?_eq_none_iff.mp g2)))]
   exact ZaU fun E => wpAny_pyNext_items_end hh h1 h2 (Option.map_eq_none_iff.mp g1) fun h' he => ⟨kp he, rfl⟩
  ·obtain ⟨⟨k, y'⟩, hd, hy⟩ := Option.map_eq_some_iff.mp g1
   rw [Jw (show ((kvs.map (·.1)).zip ds)[i]? = some (k, x) from List.getElem?_zip_eq_some.mpr ⟨by rw [List.getElem?_map, hd]; rfl, g2⟩)];rw [<- hy] at rx;intro E;refine wpAny_pyNext_items_item h1 h2 hd fun key h' hk hi' ht' hz hs => ?_;intro tgt ht E;obtain ⟨t, hkey⟩ := Zd0 hk;rw [hkey] at ht' hi';refine Zdd (P := fun tgt => wpAny (model G.prog G.w) A (letOwnedTupleGo tgt _ _) _ E _) ht (fun z => nomatch z) fun elts kk pos => wpAny_letOwnedTupleGo_items hi' fun h'' hi'' hs'' => ?_;have hJ : J ≠ s.heap.objs.size := Nat.ne_of_lt (Heap.lt_size h1);have S : YC (Yi J) s { s with heap := h'' } := ⟨fun b o n e => (hs''.2 b n).trans (hs b o n e), by show s.heap.objs.size <= h''.objs.size; rw [hs''.1, hz]; exact Nat.le_succ _, rfl, rfl⟩;exact ⟨S, .tup ((hs''.2 _ (Ne.symm hJ)).trans ht') fr (.cons (.str _ _) (.cons (Rep.mono (rk S) idβ rx) .nil)), .items hi'' (YT h2 fun o e => (rk S _ _ e h3).1) h3 (Zb.mono (rk S) idβ h4)⟩
 | @str J x t i h1 =>
  rw [<- Option.some.inj hr]
  cases hd : x.cps[i]? with
  | none =>
   rw [drop_nil (Array.getElem?_toList.trans hd)];exact ZaU fun E => wpAny_pyNext_ascii_end hh h1 hd fun h' he => ⟨kp he, rfl⟩
  | some c =>
   rw [Jw (Array.getElem?_toList.trans hd)];intro E;refine wpAny_pyNext_ascii_item h1 hd fun h' hi' hs => ?_;have S := one (tk := s.toks + 1) hs;refine XS (id hi') fun o ho hc _ => ?_;exact Zco S ho hc (by decide) (.str _ _) (.str hi')
 | @zip z TI TO i1 i2 l1 l2 k n1 n2 xs ys a b ds es D h1 h2 h3 h4 h5 h6 h7 h8 h9 h10 h11 =>
  rw [<- Option.some.inj hr]
  cases hd : (ds.zip es)[k]? with
  | none =>
   rw [drop_nil hd]
   have hn : xs[k]? = none \/ ys[k]? = none := by
    rw [List.getElem?_eq_none_iff, List.length_zip] at hd;exact (Nat.le_total ds.length es.length).imp (fun h => Zbq h10.length (List.getElem?_eq_none_iff.mpr (by rw [Nat.min_eq_left h] at hd; exact hd))) fun h => Zbq h11.length (List.getElem?_eq_none_iff.mpr (by rw [Nat.min_eq_right h] at hd; exact hd))
   exact ZaU fun E => wpAny_pyNext_zip_end hh D h1 h2 h3 h4 h5 (Rep.isList h6) (Rep.isList h7) hn fun h' he =>
    ⟨⟨fun b o (n : ¬ Zrj z TI TO i1 i2 b) e => he b o (fun w => n (Or.inl w)) (fun w => n (Or.inr (Or.inr (Or.inl w)))) (fun w => n (Or.inr (Or.inr (Or.inr (Or.inl w))))) (fun w => n (Or.inr (Or.inr (Or.inr (Or.inr w))))) e, rfl, rfl⟩, rfl⟩
  | some p =>
   obtain ⟨x, y⟩ := p;rw [Jw hd];obtain ⟨hx, hy⟩ := List.getElem?_zip_eq_some.mp hd;refine Zg (h10.get hx) fun vx hvx rx => ?_;refine Zg (h11.get hy) fun vy hvy ry => ?_;intro E;refine wpAny_pyNext_zip_item D h1 h2 h3 h4 h5 (Rep.isList h6) (Rep.isList h7) (x := vx) (y := vy) (Array.getElem?_toList.symm.trans hvx) (Array.getElem?_toList.symm.trans hvy) fun h' z1 z2 z3 z4 z5 z6 z7 => ?_;intro tgt ht E;refine Zdd (P := fun tgt => wpAny (model G.prog G.w) A (letOwnedTupleGo tgt _ _) _ E _) ht (fun z => nomatch z) fun elts kk pos => wpAny_letOwnedTupleGo_zip z1 fun h'' hi'' hs'' => ?_;have hz : s.heap.objs.size ≠ z := fun w => Nat.lt_irrefl _ (w ▸ Heap.lt_size h1)
   have S : YC (Zrj z TI TO i1 i2) s { s with heap := h'' } :=
    ⟨fun b o n e => (hs''.2 b (fun w => n (.inl w))).trans (z7 b o (fun w => n (.inl w)) (fun w => n (.inr (.inr (.inl w)))) (fun w => n (.inr (.inr (.inr (.inl w))))) (fun w => n (.inr (.inr (.inr (.inr w))))) e),
     by show s.heap.objs.size <= h''.objs.size; rw [hs''.1, z6]; exact Nat.le_succ _, rfl, rfl⟩
   have hTI : IsPair h'' TI (.ref i1) (.ref i2) := (hs''.2 _ D.TIz).trans (z7 _ _ D.TIz D.TITO D.TIi1 D.TIi2 h2)
   exact ⟨S, .tup ((hs''.2 _ hz).trans z5) fr (.cons (Rep.mono (rk S) idβ rx) (.cons (Rep.mono (rk S) idβ ry) .nil)),
    .zip D hi'' hTI ((hs''.2 _ D.TOz).trans z2) (z3.extBut hs''.extBut D.i1z) (z4.extBut hs''.extBut D.i2z) (rk S _ _ h6 h8).1 (rk S _ _ h7 h9).1 h8 h9 (Zb.mono (rk S) idβ h10) (Zb.mono (rk S) idβ h11)⟩
 | @box J a n i h1 h2 =>
  unfold Src.at at hr
  cases hc : B[n]? with
  | none => simp only [hc] at hr; cases hr
  | some d =>
   have X := (bx.at' _ _ _ h2 hc).sh;simp only [hc] at hr
   cases d with
   | list ys =>
    refine YA X fun vs m e4 h4 => ?_;clear X;have hr : ys[i]? = r := Option.some.inj hr
    cases r with
    | none => exact ZaU fun E => wpAny_pyNext_list_end hh h1 (Rep.isList e4) (Zbq h4.length hr) fun h' he => ⟨kp he, rfl⟩
    | some x =>
     refine Zg (h4.get hr) fun y hy ry => ?_;intro E;refine wpAny_pyNext_list_item h1 (Rep.isList e4) (x := y) (Array.getElem?_toList.symm.trans hy) fun h' hi' hs => ?_;have S := one (tk := s.toks) hs;refine XS (id hi') fun o ho hc _ => ?_;exact Zco S ho hc (by decide) (Rep.mono (rk S) idβ ry) (.box hi' h2)
   | _ => first | exact nn hr | cases hr
end
noncomputable def Xo (e : Expr) : Bool := !(Nat.beq e.ctorIdx 16)
theorem ZgF {o : Expr} {nm : Str} {env : Env} {t : Sem Value} (h : Xo o = true) : attributeBase o nm env t = t := by
 cases o <;> first | rfl | cases h
section
variable {G : GC} {C : Cx} {β β' : List Addr} {B B' B₁ B₂ B3 : List V} {σ : List (Option V)} {s s' s'' : Shared} {H : Nat} {d d₁ : V} {v : Value} {b : Bool} {ds : List V} {ow : Addr -> Prop} {tp : Bool} {it : Value} {src : Src}
noncomputable def Zh9 (s : Shared) (v : Value) (T : String) : Prop := s.TypeIs v T /\ ∀ a, v = .ref a -> ∃ ob, s.heap.get? a = some ob /\ ob.dict = none
theorem ZbN (O : Zv G C) {o : Expr} {nm : Str} {apos pos : Pos} {es : List Expr} {T id : String} {A : Around} {E : Value -> Shared -> Prop} {Q : Value -> Shared -> Prop}
  (hA : AOk H A) (I : Inv G C β B σ s) (hb : Xo o = true) (hl : (apos.endLine == pos.line) = true)
  (hP : PlainAttrs T) (hS : PySem.Slot T nm id) (hT : typeOf (.builtin id) = pure (.type "method_descriptor")) (h1 : Yn G H C σ B (eval o C.env) d₁ B₁)
  (hty : ∀ β s v, Inv G C β B₁ σ s -> Rep G (avB C.av β) β s.heap v d₁ -> Zh9 s v T) (R : Row G H C σ B₁ es ds B₂) (hn : es.length < 29)
  (k : ∀ β' s' v vs, Adv G C.mu β s β' s' -> Inv G C β' B₂ σ s' -> Rep G (avB C.av β') β' s'.heap v d₁ -> Zb G (avB C.av β') β' s'.heap vs ds -> wpAny (model G.prog G.w) A (call (.builtin id) (v :: vs)) Q E s') :
  wpAny (model G.prog G.w) A (eval (.Call (.Attribute o nm apos) es [] pos) C.env) Q E s := by
 refine wpAny_Call_method (T := T) (id := id) (ZgF hb) ?_ hl hP hS hT ?_
 ·rw [R.all]
  show (true && true && decide (es.length + 0 + 0 < 30)) = true
  simpa using (by omega : es.length < 30)
 ·refine (h1 A β s hA I).t3 fun v s'1 β1 a'1 i'1 r'1 => ?_
  obtain ⟨t1, t2⟩ := hty β1 s'1 v i'1 r'1;refine ⟨t1, t2, Calls.callWith_builtin R.plain ?_⟩
  cases R with
  | nil => exact PyProof.Rows.evalArgs_none (k β1 s'1 v [] a'1 i'1 r'1 .nil)
  | cons _ B1 _ e es' d' ds' hn' h1' hr =>
   have := (Row.cons B₁ B1 B₂ e es' d' ds' hn' h1' hr).evs O (pos := pos) A β1 s'1 hA i'1;rw [ZA hn', ZW] at this ⊢;exact evalArgs_plain (this.t3 fun vs s'2 β2 a'2 i'2 r'2 => k β2 s'2 v vs (a'1.trans a'2) i'2 (a'2.e O r'1) r'2)
theorem Zqo (O : Zv G C) {o : Expr} {nm : Str} {apos pos : Pos} {es : List Expr} {T id : String} (hb : Xo o = true) (hl : (apos.endLine == pos.line) = true)
  (hP : PlainAttrs T) (hS : PySem.Slot T nm id) (hT : typeOf (.builtin id) = pure (.type "method_descriptor")) (h1 : Yn G H C σ B (eval o C.env) d₁ B₁)
  (hty : ∀ β s v, Inv G C β B₁ σ s -> Rep G (avB C.av β) β s.heap v d₁ -> Zh9 s v T) (R : Row G H C σ B₁ es ds B₂) (hn : es.length < 29)
  (h : OpN G H B₂ B3 (fun vs => call (.builtin id) vs) (d₁ :: ds) d) : Yn G H C σ B (eval (.Call (.Attribute o nm apos) es [] pos) C.env) d B3 := fun A β s hA I E =>
 ZbN O hA I hb hl hP hS hT h1 hty R hn fun β' s' v vs a i r rs => (h C σ A β' s' (v :: vs) O hA i (.cons r rs)).to fun x s'2 q => q.from a
theorem Zqg {xs : List V} (h : ZS B d = some xs) : ∀ β s v, Inv G C β B σ s -> Rep G (avB C.av β) β s.heap v d -> Zh9 s v "list" := fun β s v I r => by
 refine YD (Ys I r h) fun a vs n z_3 e q => ?_;subst z_3;exact ⟨(Rep.isList e).typeIs, fun a' e' => by cases e'; exact ⟨_, e, rfl⟩⟩
theorem ZdO {ks : List Str} (h : JB B d = some (ks, ds)) : ∀ β s v, Inv G C β B σ s -> Rep G (avB C.av β) β s.heap v d -> Zh9 s v "dict" := fun β s v I r => by
 refine ZeG (ZbP I r h) fun a kvs z_2 e hs hk q => ?_;subst z_2;exact ⟨e.typeIs, e.mapOf.noDict⟩
theorem Znv {x : Str} : ∀ β s v, Inv G C β B σ s -> Rep G (avB C.av β) β s.heap v (.str x) -> Zh9 s v "str" := fun β s v I r => by
 obtain ⟨t, rfl⟩ := Z7 r;exact ⟨typeIs_str s x t, fun a e => by cases e⟩
noncomputable def ZcZ (G : GC) (C : Cx) (β : List Addr) (σ : List (Option V)) (s : Shared) (src : Src) (tp : Bool) (B' : List V) (it : Value) (s' : Shared) : Prop :=
 ∃ β' ow, Adv G C.mu β s β' s' /\ (∀ a, ow a -> s.heap.objs.size <= a) /\ Inv G (C.more ow) β' B' σ s' /\ Xp G (C.more ow) ow /\ Y9 G (C.more ow) β' s' ow tp it src
noncomputable def Zjj (G : GC) (H : Nat) (C : Cx) (σ : List (Option V)) (B : List V) (t : Sem Value) (src : Src) (tp : Bool) (B' : List V) : Prop :=
 ∀ A β s, AOk H A -> Inv G C β B σ s -> Ok G.prog G.w A t s fun x s'1 => Ok G.prog G.w A (pyIter x) s'1 (ZcZ G C β σ s src tp B')
theorem ZcZ.from (x : Adv G C.mu β s β' s') (y : ZcZ G C β' σ s' src tp B' it s'') : ZcZ G C β σ s src tp B' it s'' :=
 let ⟨β'', ow, a, h, r⟩ := y; ⟨β'', ow, x.trans a, fun q z => Nat.le_trans x.grow.size (h q z), r⟩
theorem Inv.H0 (O : Zv G C) (I : Inv G C β B σ s) : G.H0.objs.size <= s.heap.objs.size := by
 obtain ⟨m, hm⟩ := I.ns;exact Nat.le_of_lt (Nat.lt_of_le_of_lt (O.mu0 _ O.muL) hm.lt)
theorem Zgh (O : Zv G C) (I : Inv G C β B σ s) (h : ∀ a, ow a -> s.heap.objs.size <= a) : Xp G (C.more ow) ow :=
 ⟨fun a z => .inr z, fun a z m => absurd (I.low a (O.muav a m)) (Nat.not_lt.mpr (h a z)), fun a z => Nat.le_trans (I.H0 O) (h a z),
  fun x c hc z => absurd (I.low c (O.cellav x c hc)) (Nat.not_lt.mpr (h c z))⟩
theorem Zbl (O : Zv G C) (I : Inv G C β B σ s) {o : Obj} {tk : Nat} (T : Y9 G (C.more (Yi s.heap.objs.size)) β { s with heap := s.heap.push o, toks := tk } (Yi s.heap.objs.size) tp it src) :
  ZcZ G C β σ s src tp B it { s with heap := s.heap.push o, toks := tk } := by
 have x : Ext s { s with heap := s.heap.push o, toks := tk } := (Ext.push s o).trans (Ext.toks _ _);have h : ∀ a, Yi s.heap.objs.size a -> s.heap.objs.size <= a := fun a z => Nat.le_of_eq z.symm;exact ⟨β, Yi s.heap.objs.size, .ofExt x, h, I.more x fun a z => ⟨h a z, by show a < (s.heap.push o).objs.size; rw [Heap.size_push]; exact z ▸ Nat.lt_succ_self _⟩, Zgh O I h, T⟩
theorem Xe (I : Inv G C β B σ s) (o : Obj) : ∀ q o', s.heap.get? q = some o' -> ¬ avB C.av β q -> (s.heap.push o).get? q = some o' /\ ¬ avB (C.more (Yi s.heap.objs.size)).av β q := fun q o' e n =>
 ⟨Heap.get?_push_of_some _ e, by
  rintro ((z | z) | z)
  ·exact n (.inl z)
  ·exact Nat.lt_irrefl _ (z ▸ Heap.lt_size e)
  ·exact n (.inr z)⟩
noncomputable def Za0 (a b : Int) : Bool := decide (-1000000000 <= a) && decide (a <= 1000000000) && decide (-1000000000 <= b) && decide (b <= 1000000000)
theorem ZgW {a b : Int} (h : Za0 a b = true) : Builtin.Range.small a b 1 = true /\ Builtin.Range.rangeSize a b 1 = if a < b then b - a else 0 := by
 simp only [Za0, Bool.and_eq_true, decide_eq_true_eq] at h
 have hs : Builtin.Range.rangeSize a b 1 = if a < b then b - a else 0 := by
  unfold Builtin.Range.rangeSize;rw [if_pos (by decide)]
  split
  ·rw [Int.ediv_one]; omega
  ·rfl
 refine ⟨?_, hs⟩;unfold Builtin.Range.small;rw [hs];unfold Builtin.Range.rangeFitsLong
 split <;> simp <;> omega
noncomputable def Zaa (B : List V) : V -> Option Src
 | .list xs => some (.seq xs)
 | .box n => match B[n]? with
  | some (.list _) => some (.box n 0)
  | _ => none
 | .tup xs => some (.seq xs)
 | .range a b => if Za0 a b then some (.seq ((List.range (b - a).toNat).map fun (k : Nat) => .int (a + (k : Int)))) else none
 | .dict ks _ => some (.seq (ks.map .str))
 | .str x => if x.cps.all (· < 128) then some (.seq (x.cps.toList.map fun c => .str ⟨#[c]⟩)) else none
 | _ => none
theorem ZdD (n l1 l2 : Nat) (h1 : l1 < n) (h2 : l2 < n) : ZipApart (n + 4) (n + 2) (n + 3) n (n + 1) l1 l2 := by
 constructor <;> (intro h; simp only [Addr] at h; omega)
set_option tactic.hygienic true in
theorem Zkr (O : Zv G C) {A : Around} (I : Inv G C β B σ s) (r : Rep G (avB C.av β) β s.heap v d) (h : Zaa B d = some src) : Ok G.prog G.w A (pyIter v) s (ZcZ G C β σ s src false B) := by
 intro E;have S := r.sh;have B0 := I.boxes;clear r
 cases d with
 | list xs =>
  refine Xl S fun a vs m ev e n r => ?_;rw [ev, <- Option.some.inj h];refine wpAny_pyIter_list (Rep.isList e) (Zbl (tk := s.toks) O I ?_);exact Y9.list (i := 0) ⟨_, Heap.get?_push_size _ rfl, rfl, rfl⟩ (Xe I _ _ _ e n).1 (Xe I { cls := .none } _ _ e n).2 (Zb.mono (Xe I _) (fun _ _ z => z) r)
 | tup xs =>
  refine Xl S fun a vs m ev e n r => ?_;rw [ev, <- Option.some.inj h];refine wpAny_pyIter_tuple (Rep.isTuple e) (Zbl (tk := s.toks) O I ?_);exact Y9.tup (i := 0) ⟨_, Heap.get?_push_size _ rfl, rfl, rfl⟩ (Xe I _ _ _ e n).1 (Xe I { cls := .none } _ _ e n).2 (Zb.mono (Xe I _) (fun _ _ z => z) r)
 | range lo hi =>
  refine ZfQ S fun a t u w ev x n => ?_;rw [ev];unfold Zaa at h;dsimp only at h
  split at h
  ·rename_i hs
   rw [<- Option.some.inj h];have hsm := ZgW hs;refine wpAny_pyIter_range x hsm.1 (Zbl (tk := s.toks) O I ?_);have hz : (if lo < hi then hi - lo else 0) = (((hi - lo).toNat : Nat) : Int) := by split <;> omega
   rw [hsm.2, hz]
   have := Y9.range (G := G) (C := C.more (Yi s.heap.objs.size)) (β := β) (s := { s with heap := s.heap.push { cls := .type "range_iterator", data := .fields #[rawInt lo, rawInt (((hi - lo).toNat : Nat) : Int), rawInt 1] } })
    (I := s.heap.objs.size) (x := lo) (left := (((hi - lo).toNat : Nat) : Int)) (Heap.get?_push_size _ rfl) (Int.natCast_nonneg _)
   rw [Int.toNat_natCast] at this;exact this
  ·exact nn h
 | dict ks ds =>
  refine Zak S fun a kvs ev x hs n e r => ?_;rw [ev, <- Option.some.inj h];obtain ⟨ep, hd⟩ := x.dictAt;obtain ⟨o, ho⟩ := Xc x;refine wpAny_pyIter_dict hs hd (Zbl (tk := s.toks) O I ?_);rw [<- e];exact Y9.keys (i := 0) ⟨_, Heap.get?_push_size _ rfl, rfl, rfl⟩ (YT hd fun o e => Heap.get?_push_of_some _ e) (Xe I { cls := .none } _ _ ho n).2
 | str x =>
  obtain ⟨t, ev⟩ := S;rw [ev];unfold Zaa at h;dsimp only at h
  split at h
  ·rename_i hs
   rw [<- Option.some.inj h];refine wpAny_pyIter_ascii hs (Zbl (tk := s.toks) O I ?_);exact Y9.str (i := 0) ⟨_, Heap.get?_push_size _ rfl, rfl, rfl⟩
  ·exact nn h
 | box n =>
  obtain ⟨a, ev, e⟩ := S;rw [ev];unfold Zaa at h;dsimp only at h
  split at h
  ·rename_i ys hB
   rw [<- Option.some.inj h];obtain ⟨vs, m, e4, h4⟩ := (B0.at' _ _ _ e hB).sh;exact wpAny_pyIter_list (Rep.isList e4) (Zbl (tk := s.toks) O I (Y9.box ⟨_, Heap.get?_push_size _ rfl, rfl, rfl⟩ e))
  ·exact nn h
 | _ => exact nn h
theorem ZrL (O : Zv G C) {t : Sem Value} (h : Yn G H C σ B t d B₁) (hs : Zaa B₁ d = some src) : Zjj G H C σ B t src false B₁ := fun A β s hA I =>
 (h A β s hA I).mono fun v s'1 ⟨β1, a'1, i'1, r'1⟩ => (Zkr O i'1 r'1 hs).mono fun it s'2 p => p.from a'1
theorem ZoC (O : Zv G C) {o : Expr} {apos pos : Pos} {ks : List Str} (hb : Xo o = true) (hl : (apos.endLine == pos.line) = true) (h : Yn G H C σ B (eval o C.env) (.dict ks ds) B₁) :
  Zjj G H C σ B (eval (.Call (.Attribute o "items" apos) [] [] pos) C.env) (.seq ((ks.zip ds).map fun p => .tup [.str p.1, p.2])) true B₁ := fun A β s hA I E =>
 ZbN O hA I hb hl PySem.F.plainAttrs_dict PySem.F.slot_dict_items PySem.F.type_dict_items h (ZdO (by rfl)) (.nil B₁) (by decide) fun β1 s'1 v vs a'1 i'1 r'1 rs => by
  rw [rs.sh.1 rfl];refine Zak r'1.sh fun a kvs ev x hs n e r => ?_;rw [ev];clear r'1 rs;subst e;obtain ⟨o', ho'⟩ := Xc x;refine call_meetsIn PySem.F.slot_dict_items x.typeIs PySem.F.entry_dict_items (PySem.F.args_dict_items_1 _) (meets_dict_items (PySem.strKind G.prog G.w) a hs) ⟨⟨kvs, x⟩, fun E' => ?_⟩;have x1 := Ext.push s'1 { cls := .type "dict_items", data := .fields #[.ref a] };have i2 := i'1.ext x1;obtain ⟨ep, hd⟩ := (x.push { cls := .type "dict_items", data := .fields #[.ref a] }).dictAt;refine wpAny_pyIter_items (knd := PySem.strKind G.prog G.w) (d := a) (kvs := kvs) (ep := ep) ⟨_, Heap.get?_push_size _ rfl, rfl, rfl⟩ hd ?_;refine ((Zbl (tk := s'1.toks) O i2 ?_).from (Adv.ofExt x1)).from a'1;exact Y9.items (i := 0) (Heap.get?_push_size _ rfl) (YT hd fun o e => Heap.get?_push_of_some _ e) (Xe i2 { cls := .none } _ _ (x1.keep _ _ ho') n).2 (Zb.mono (Xe i2 _) (fun _ _ z => z) (x1.repAll r))
theorem Zk8 (O : Zv G C) {o : Expr} {apos pos : Pos} {ks : List Str} (hb : Xo o = true) (hl : (apos.endLine == pos.line) = true) (h : Yn G H C σ B (eval o C.env) (.dict ks ds) B₁) :
  Zjj G H C σ B (eval (.Call (.Attribute o "values" apos) [] [] pos) C.env) (.seq ds) false B₁ := fun A β s hA I E =>
 ZbN O hA I hb hl PySem.F.plainAttrs_dict PySem.F.slot_dict_values PySem.F.type_dict_values h (ZdO (by rfl)) (.nil B₁) (by decide) fun β1 s'1 v vs a'1 i'1 r'1 rs => by
  rw [rs.sh.1 rfl];refine Zak r'1.sh fun a kvs ev x hs n e r => ?_;rw [ev];clear r'1 rs;subst e;obtain ⟨o', ho'⟩ := Xc x;refine call_meetsIn PySem.F.slot_dict_values x.typeIs PySem.F.entry_dict_values (PySem.F.args_dict_values_1 _) (meets_dict_values (PySem.strKind G.prog G.w) a hs) ⟨⟨kvs, x⟩, fun E' => ?_⟩;have x1 := Ext.push s'1 { cls := .type "dict_values", data := .fields #[.ref a] };have i2 := i'1.ext x1;obtain ⟨ep, hd⟩ := (x.push { cls := .type "dict_values", data := .fields #[.ref a] }).dictAt;refine wpAny_pyIter_values (knd := PySem.strKind G.prog G.w) (d := a) (kvs := kvs) (ep := ep) ⟨_, Heap.get?_push_size _ rfl, rfl, rfl⟩ hd ?_;refine ((Zbl (tk := s'1.toks) O i2 ?_).from (Adv.ofExt x1)).from a'1;exact Y9.vals (i := 0) ⟨_, Heap.get?_push_size _ rfl, rfl, rfl⟩ (YT hd fun o e => Heap.get?_push_of_some _ e) (Xe i2 { cls := .none } _ _ (x1.keep _ _ ho') n).2 (Zb.mono (Xe i2 _) (fun _ _ z => z) (x1.repAll r))
end
set_option genInjectivity true in
inductive Fl where
 | next
 | cont
 | brk
 | ret (d : V)
noncomputable def Zkn (G : GC) (av : Addr -> Prop) (β : List Addr) (h : Heap) : Flow -> Fl -> Prop
 | .next, .next => True
 | .cont, .cont => True
 | .brk, .brk => True
 | .ret v, .ret d => Rep G av β h v d
 | _, _ => False
noncomputable abbrev St := List (Option V)
noncomputable abbrev Bx := List V
noncomputable abbrev Out := Fl × St × Bx
noncomputable def Zkc (G : GC) (C : Cx) (β : List Addr) (s : Shared) (r : Out) (f : Flow) (s' : Shared) : Prop :=
 ∃ β', Adv G C.mu β s β' s' /\ Inv G C β' r.2.2 r.2.1 s' /\ Zkn G (avB C.av β') β' s'.heap f r.1
noncomputable def Zaf (G : GC) (H : Nat) (C : Cx) (σ : St) (B : Bx) (t : Sem Flow) (r : Out) : Prop :=
 ∀ A β s, AOk H A -> Inv G C β B σ s -> Ok G.prog G.w A t s (Zkc G C β s r)
noncomputable def Zg8 (G : GC) (C : Cx) (β : List Addr) (s : Shared) (σ' : St) (B' : Bx) (_ : Unit) (s' : Shared) : Prop :=
 ∃ β', Adv G C.mu β s β' s' /\ Inv G C β' B' σ' s'
noncomputable def Zim (G : GC) (H : Nat) (C : Cx) (σ : St) (B : Bx) (t : Value -> Sem Unit) (d : V) (σ' : St) (B' : Bx) : Prop :=
 ∀ A β s v, AOk H A -> Inv G C β B σ s -> Rep G (avB C.av β) β s.heap v d -> Ok G.prog G.w A (t v) s (Zg8 G C β s σ' B')
section
variable {G : GC} {C : Cx} {β β' β'' : List Addr} {B B' B₁ B3 : Bx} {σ σ' : St} {s s' s'' : Shared} {H : Nat} {d : V} {v : Value} {b : Bool} {ow : Addr -> Prop} {tp : Bool} {it : Value} {src : Src} {r r' : Out}
theorem Zkc.from (x : Adv G C.mu β s β' s') (y : Zkc G C β' s' r f s'') : Zkc G C β s r f s'' :=
 let ⟨β'', a, i, q⟩ := y; ⟨β'', x.trans a, i, q⟩
theorem Zg8.from (x : Adv G C.mu β s β' s') (y : Zg8 G C β' s' σ' B' u s'') : Zg8 G C β s σ' B' u s'' :=
 let ⟨β'', a, i⟩ := y; ⟨β'', x.trans a, i⟩
theorem Zoe : Zaf G H C σ B (execs [] C.env) (.next, σ, B) := fun A β s hA I E => wpAny_pure ⟨β, .refl, I, trivial⟩
theorem ZgN {st : Stmt} {rest : List Stmt} (h : Zaf G H C σ B (exec st C.env) r)
  (hr : ∀ σ' B', r = (.next, σ', B') -> Zaf G H C σ' B' (execs rest C.env) r') (hs : (∀ σ' B', r ≠ (.next, σ', B')) -> r' = r) : Zaf G H C σ B (execs (st :: rest) C.env) r' := fun A β s hA I E => by
 rw [execs_cons];refine wpAny_bind ((h A β s hA I).t3 fun f s'1 β1 a'1 i'1 q'1 => ?_);obtain ⟨fl, σ₁, B₁⟩ := r
 cases f with
 | next =>
  cases fl with
  | next => exact (hr σ₁ B₁ rfl A β1 s'1 hA i'1).to fun f' s'2 p => p.from a'1
  | _ => exact q'1.elim
 | brk =>
  cases fl with
  | brk => rw [hs (fun _ _ e => by cases e)]; exact wpAny_pure ⟨β1, a'1, i'1, q'1⟩
  | _ => exact q'1.elim
 | cont =>
  cases fl with
  | cont => rw [hs (fun _ _ e => by cases e)]; exact wpAny_pure ⟨β1, a'1, i'1, q'1⟩
  | _ => exact q'1.elim
 | ret v =>
  cases fl with
  | ret d => rw [hs (fun _ _ e => by cases e)]; exact wpAny_pure ⟨β1, a'1, i'1, q'1⟩
  | _ => exact q'1.elim
theorem Zqx {t : Expr} {x y : List Stmt} {pos : Pos} {c : Bool} (ht : EvB G H C σ B (PySem.isTrue t C.env (eval t C.env)) c B₁)
  (hx : c = true -> Zaf G H C σ B₁ (execs x C.env) r) (hy : c = false -> Zaf G H C σ B₁ (execs y C.env) r) : Zaf G H C σ B (exec (.If t x y pos) C.env) r := fun A β s hA I E =>
 wpAny_If ((ht A β s hA I).t3 fun c' s'1 β1 a'1 i'1 e => by
  subst e
  cases c' with
  | true => exact (hx rfl A β1 s'1 hA i'1).to fun _ _ p => p.from a'1
  | false => exact (hy rfl A β1 s'1 hA i'1).to fun _ _ p => p.from a'1)
theorem Zsp {e : Expr} {pos : Pos} (h : Yn G H C σ B (eval e C.env) d B₁) : Zaf G H C σ B (exec (.Return (some e) pos) C.env) (.ret d, σ, B₁) := fun A β s hA I E =>
 by rw [exec_Return_some]; exact wpAny_bind (wpAny_standAt (wpAny_bind ((h A β s hA I).t3 fun v s'1 β1 a'1 i'1 q => wpAny_pure ⟨β1, a'1, i'1, q⟩)))
theorem ZsC {pos : Pos} : Zaf G H C σ B (exec (.Break pos) C.env) (.brk, σ, B) := fun A β s hA I E => wpAny_Break ⟨β, .refl, I, trivial⟩
theorem Zl2 {t : Expr} {pos : Pos} (ht : EvB G H C σ B (PySem.isTrue t C.env (eval t C.env)) true B₁) : Zaf G H C σ B (exec (.Assert t none pos) C.env) (.next, σ, B₁) := fun A β s hA I E =>
 wpAny_Assert_holds ((ht A β s hA I).t3 fun c s'1 β1 a'1 i'1 e => ⟨e, β1, a'1, i'1, trivial⟩)
theorem Zpp (O : Zv G C) {e : Expr} {pos : Pos} (h : Yn G H C σ B (eval e C.env) d B₁) (hs : swapsWith e none pos.line C.env = pure false) :
  Zaf G H C σ B (exec (.Expr e pos) C.env) (.next, σ, B₁) := fun A β s hA I E =>
 wpAny_Expr_any ((h A β s hA I).t3 fun v s'1 β1 a'1 i'1 q => ⟨β1, a'1, i'1, trivial⟩) (by unfold interactive; rw [O.kind]; rfl) hs
noncomputable def Src.fuel (B : Bx) : Src -> Nat
 | .seq xs => xs.length + 1
 | .box n _ => match B[n]? with
  | some (.list ys) => ys.length + 1
  | _ => 0
noncomputable def Y4 (step : V -> St -> Bx -> Option Out) (els : St -> Bx -> Option Out) : Nat -> Src -> St -> Bx -> Option Out
 | 0, _, _, _ => none
 | n + 1, src, σ, B => match src.at B with
  | none => none
  | some none => els σ B
  | some (some x) => match step x σ B with
   | some (.next, σ', B') => Y4 step els n src.adv σ' B'
   | some (.cont, σ', B') => Y4 step els n src.adv σ' B'
   | some (.brk, σ', B') => some (.next, σ', B')
   | some (.ret d, σ', B') => some (.ret d, σ', B')
   | none => none
theorem YC.adv (O : Zv G C) {s₀ : Shared} {β₀ : List Addr} (a : Adv G C.mu β₀ s₀ β s) (x : YC ow s s') (h : ∀ q, ow q -> s₀.heap.objs.size <= q) : Adv G C.mu β₀ s₀ β s' :=
 ⟨a.pre, fun b o e n t => x.keep b o (fun z => absurd (Heap.lt_size e) (Nat.not_lt.mpr (h b z))) (a.grow.keep b o e n t), Nat.le_trans a.grow.size x.size⟩
theorem YC.inv (O : Zv G C) (W : Xp G C ow) (I : Inv G C β B σ s) (x : YC ow s s') : Inv G C β B σ s' := I.own O W x.keep x.size x.gens x.os
theorem Zkn.less {f : Flow} {fl : Fl} {h : Heap} (q : Zkn G (avB (C.more ow).av β) β h f fl) : Zkn G (avB C.av β) β h f fl := by
 cases f <;> cases fl <;> first | exact q | exact Zgv (Zdg ow) q
noncomputable def Ztm (step : V -> St -> Bx -> Option Out) (els : St -> Bx -> Option Out) (m : Nat) (src : Src) (r : Out) (σ' : St) (B' : Bx) : Fl -> Prop
 | .brk => r = (.next, σ', B')
 | .ret d => r = (.ret d, σ', B')
 | _ => Y4 step els m src σ' B' = some r
theorem Zli {step : V -> St -> Bx -> Option Out} {els : St -> Bx -> Option Out} {n : Nat} (h : Y4 step els n src σ B = some r) :
  ∃ m, n = m + 1 /\ ((src.at B = some none /\ els σ B = some r) \/ ∃ x fl σ' B', src.at B = some (some x) /\ step x σ B = some (fl, σ', B') /\ Ztm step els m src.adv r σ' B' fl) := by
 cases n with
 | zero => exact nn h
 | succ n =>
  unfold Y4 at h
  split at h
  ·exact nn h
  ·exact ⟨n, rfl, .inl ⟨‹_›, h⟩⟩
  ·split at h
   ·exact ⟨n, rfl, .inr ⟨_, .next, _, _, ‹_›, ‹_›, h⟩⟩
   ·exact ⟨n, rfl, .inr ⟨_, .cont, _, _, ‹_›, ‹_›, h⟩⟩
   ·exact ⟨n, rfl, .inr ⟨_, .brk, _, _, ‹_›, ‹_›, (Option.some.inj h).symm⟩⟩
   ·exact ⟨n, rfl, .inr ⟨_, .ret _, _, _, ‹_›, ‹_›, (Option.some.inj h).symm⟩⟩
   ·exact nn h
noncomputable def Ztx (G : GC) (C : Cx) (β : List Addr) (s : Shared) (ow : Addr -> Prop) (tp : Bool) (it : Value) (step : V -> St -> Bx -> Option Out) (els : St -> Bx -> Option Out) (r : Out) (n : Nat) (s' : Shared) : Prop :=
 ∃ β' σ' B' src', Adv G C.mu β s β' s' /\ Inv G (C.more ow) β' B' σ' s' /\ Y9 G (C.more ow) β' s' ow tp it src' /\ Y4 step els n src' σ' B' = some r
theorem Zsr (O : Zv G C) {tgt iter : Expr} {body orelse : List Stmt} {pos : Pos} {step : V -> St -> Bx -> Option Out} {els : St -> Bx -> Option Out}
  (hs : ∀ x, foldedSetIterable iter C.env x = pure x) (hi : Zjj G H C σ B (eval iter C.env) src tp B₁) (ht : ZdZ tp tgt = true)
  (hstep : ∀ ow x σ B r, Zv G (C.more ow) -> step x σ B = some r -> ∃ σ₁ B₁, Zim G H (C.more ow) σ B (assign tgt C.env) x σ₁ B₁ /\ Zaf G H (C.more ow) σ₁ B₁ (execs body C.env) r)
  (hels : ∀ ow σ B r, Zv G (C.more ow) -> els σ B = some r -> Zaf G H (C.more ow) σ B (execs orelse C.env) r)
  (h : Y4 step els (src.fuel B₁) src σ B₁ = some r) : Zaf G H C σ B (exec (.For tgt iter body orelse pos) C.env) r := fun A β s hA I E => by
 refine wpAny_For ?_ hs;refine (hi A β s hA I).to fun x s'1 hx => hx.to fun it s'2 hz => ?_;refine ZeG hz fun β2 ow a'2 how i'2 W T => ?_;have O' := O.more ow;refine codeAny_forLoop_any (Ztx G C β s ow tp it step els r) ?_ _ ⟨β2, σ, B₁, src, a'2, i'2, T, h⟩;clear i'2 T a'2 h
 rintro n s'3 ⟨β3, σ3, B3, src3, a'3, i3, T3, h'3⟩
 refine Zg (Zli h'3) fun n' hn h'3 => ?_;rcases h'3 with ⟨hat, h'3⟩ | ⟨x, fl, σ', B', hat, hst, h'3⟩
 ·rw [hn]
  refine (ZbO O' hA i3 W T3 hat).to fun q s'4 hq => ?_
  cases q with
  | some v => exact hq.elim
  | none =>
   exact (hels ow σ3 B3 r O' h'3 A β3 s'4 hA (YC.inv O' W i3 hq)).t3 fun f s'5 β5 a'5 i5 q'5 => ⟨β5, (YC.adv O a'3 hq how).trans a'5, i5.less, q'5.less⟩
 ·rw [hn]
  refine (ZbO O' hA i3 W T3 hat).to fun q s'4 hq => ?_
  cases q with
  | none => exact hq.elim
  | some v =>
   refine (hq tgt ht).to fun _ s'5 hx => ?_;have a'5 := YC.adv O a'3 hx.1 how;have i5 := YC.inv O' W i3 hx.1;refine YA (hstep ow x σ3 B3 _ O' hst) fun σ₁ B₁ h1 h2 => ?_;refine (h1 A β3 s'5 v hA i5 hx.2.1).t2 fun _ s6 β6 a'6 i6 => ?_;refine (h2 A β6 s6 hA i6).t3 fun f s7 β7 a7 i7 q'7 => ?_;have a8 := (a'5.trans a'6).trans a7;have T8 := hx.2.2.adv O' W i5 (a'6.trans a7);clear h1 h2 hx i6 i5 a'5 a'6 a7 hat hst i3 a'3 T3 hstep hels
   cases fl with
   | next =>
    cases f with
    | next => exact ⟨n', Nat.lt_succ_self n', β7, σ', B', _, a8, i7, T8, h'3⟩
    | _ => exact q'7.elim
   | cont =>
    cases f with
    | cont => exact ⟨n', Nat.lt_succ_self n', β7, σ', B', _, a8, i7, T8, h'3⟩
    | _ => exact q'7.elim
   | brk =>
    cases f with
    | brk => rw [show r = _ from h'3]; exact ⟨β7, a8, i7.less, trivial⟩
    | _ => exact q'7.elim
   | ret d =>
    cases f with
    | ret v => rw [show r = _ from h'3]; exact ⟨β7, a8, i7.less, q'7.less⟩
    | _ => exact q'7.elim
end
noncomputable def Xr (G : GC) (C : Cx) (β : List Addr) (σ : St) (s : Shared) (d : V) (B' : Bx) (v : Value) (s' : Shared) : Prop :=
 ∃ β' a, v = .ref a /\ s.heap.objs.size <= a /\ ¬ C.av a /\ Adv G C.mu β s β' s' /\ Inv G (C.more (Yi a)) β' B' σ s' /\ Yf G (avB (C.more (Yi a)).av β') β' s'.heap a d
noncomputable def Zhf (G : GC) (H : Nat) (C : Cx) (σ : St) (B : Bx) (t : Sem Value) (d : V) (B' : Bx) : Prop :=
 ∀ A β s, AOk H A -> Inv G C β B σ s -> Ok G.prog G.w A t s (Xr G C β σ s d B')
noncomputable def ZsW : V -> Bool
 | .list _ | .dict _ _ => true
 | _ => false
section
variable {G : GC} {C : Cx} {β β' β'' : List Addr} {B B' : Bx} {σ σ' : St} {s s' s'' : Shared} {H : Nat} {d : V} {v : Value} {b : Bool} {ds : List V} {ow : Addr -> Prop} {it : Value} {r r' : Out}
theorem Xr.from (x : Adv G C.mu β s β' s') (y : Xr G C β' σ s' d B' v s'') : Xr G C β σ s d B' v s'' :=
 let ⟨β'', a, e, h, h2, q⟩ := y; ⟨β'', a, e, Nat.le_trans x.grow.size h, h2, x.trans q.1, q.2⟩
theorem ZnM {a : Addr} : ∀ q, avB (C.more (Yi a)).av β q ↔ avB C.av (β ++ [a]) q := fun q => by
 unfold avB Cx.more Yi;simp only [List.mem_append, List.mem_singleton]
 constructor
 ·rintro ((z | z) | z)
  ·exact .inl z
  ·exact .inr (.inr z)
  ·exact .inr (.inl z)
 ·rintro (z | z | z)
  ·exact .inl (.inl z)
  ·exact .inr z
  ·exact .inl (.inr z)
theorem Xr.tree (y : Xr G C β σ s d B' v s') : Zs G C β σ s d B' v s' := by
 refine Zak y fun β' a z_2 h n1 x i q => ?_;clear y;subst z_2;refine ⟨β', x, i.less, ?_⟩;have n2 : a ∉ β' := fun z => i.boxes.apart a z (.inr rfl);have n : ¬ avB C.av β' a := fun z => z.elim n1 n2;have hm := Zdg (C := C) (β := β') (Yi a)
 cases q with
 | list e r => exact .list e n (Zcg hm r)
 | dict e hs he r => exact .dict e hs n he (Zcg hm r)
theorem Xr.box (h0 : G.H0.objs.size <= s.heap.objs.size) (y : Xr G C β σ s d B' v s') : Zs G C β σ s (.box B'.length) (B' ++ [d]) v s' := by
 refine Zak y fun β' a z_2 h n1 x i q => ?_;clear y;subst z_2;have n2 : a ∉ β' := fun z => i.boxes.apart a z (.inr rfl)
 have hβ : ∀ (n : Nat) (q : Addr), β'[n]? = some q -> (β' ++ [a])[n]? = some q := fun n q e => by
  rw [List.getElem?_append_left (List.getElem?_eq_some_iff.mp e).1]; exact e
 have hk : ∀ b o, s'.heap.get? b = some o -> ¬ avB (C.more (Yi a)).av β' b -> s'.heap.get? b = some o /\ ¬ avB C.av (β' ++ [a]) b := fun b o e n => ⟨e, fun z => n ((ZnM b).mpr z)⟩;have hlen := i.boxes.len;refine ⟨β' ++ [a], ⟨?_, x.grow⟩, ⟨i.wd, fun q z => i.low q (.inl z), i.ns, i.cells, fun y d e k => ?_, i.slots, by simp [hlen], ?_, ?_, ?_, ?_⟩, .box (by rw [List.getElem?_append_right (by omega), hlen]; simp)⟩
 ·refine Zg x.pre fun βn z_1 h1 => ?_
  subst z_1;refine ⟨βn ++ [a], by simp, fun q hq => ?_⟩;rcases List.mem_append.mp hq with z | z
  ·exact h1 q z
  ·rw [List.mem_singleton.mp z]; exact h
 ·refine Zg (i.vars y d e k) fun w b r => ?_
  exact ⟨w, b, Rep.mono hk hβ r⟩
 ·refine List.nodup_append.mpr ⟨i.boxes.nodup, by simp, fun p hp q hq => ?_⟩
  rw [List.mem_singleton.mp hq]
  rintro rfl
  exact n2 hp
 ·intro q hq
  rcases List.mem_append.mp hq with z | z
  ·exact fun z' => i.boxes.apart q z (.inl z')
  ·rw [List.mem_singleton.mp z]; exact n1
 ·intro q hq
  rcases List.mem_append.mp hq with z | z
  ·exact i.boxes.high q z
  ·rw [List.mem_singleton.mp z]; exact Nat.le_trans h0 h
 ·intro n q e h1 h2
  by_cases hn : n < β'.length
  ·rw [List.getElem?_append_left hn] at h1
   rw [List.getElem?_append_left (by omega)] at h2;exact (i.boxes.at' n q e h1 h2).mono hk hβ fun o z => z
  ·rw [List.getElem?_append_right (by omega)] at h1
   rw [List.getElem?_append_right (by omega)] at h2
   have : n - β'.length = 0 := by
    rcases Nat.eq_zero_or_pos (n - β'.length) with z | z
    ·exact z
    ·rw [List.getElem?_eq_none (by simp; omega)] at h1; cases h1
   rw [this] at h1;rw [show n - B'.length = 0 by omega] at h2
   cases h1
   cases h2
   exact q.mono hk hβ fun o z => z
 where
 dummy : True := trivial
theorem Zhf.tree (O : Zv G C) {t : Sem Value} (h : Zhf G H C σ B t d B') : Yn G H C σ B t d B' := fun A β s hA I => (h A β s hA I).mono fun v s' y => y.tree
theorem Zhf.box (O : Zv G C) {t : Sem Value} (h : Zhf G H C σ B t d B') : Yn G H C σ B t (.box B'.length) (B' ++ [d]) := fun A β s hA I => (h A β s hA I).mono fun v s' y => y.box (I.H0 O)
theorem Zqy (O : Zv G C) (I : Inv G C β B σ s) {o : Obj} {tk : Nat} (h : Yf G (avB (C.more (Yi s.heap.objs.size)).av β) β (s.heap.push o) s.heap.objs.size d) :
  Xr G C β σ s d B (.ref s.heap.objs.size) { s with heap := s.heap.push o, toks := tk } := by
 have x : Ext s { s with heap := s.heap.push o, toks := tk } := (Ext.push s o).trans (Ext.toks _ _);have how : ∀ a, Yi s.heap.objs.size a -> s.heap.objs.size <= a := fun a z => Nat.le_of_eq z.symm;exact ⟨β, s.heap.objs.size, rfl, Nat.le_refl _, fun z => Nat.lt_irrefl _ (I.low _ z), .ofExt x, I.more x fun a z => ⟨how a z, by show a < (s.heap.push o).objs.size; rw [Heap.size_push]; exact z ▸ Nat.lt_succ_self _⟩, h⟩
theorem X6 (O : Zv G C) (I : Inv G C β B σ s) {vs : Array Value} {n tk : Nat} (r : Zb G (avB C.av β) β s.heap vs.toList ds) :
  Xr G C β σ s (.list ds) B (.ref s.heap.objs.size) { s with heap := s.heap.push (Z9 vs n), toks := tk } :=
 Zqy O I (.list (Heap.get?_push_size _ rfl) (Zb.mono (Xe I _) (fun _ _ z => z) r))
theorem Zqj (O : Zv G C) {es : List Expr} {pos : Pos} (R : Row G H C σ B es ds B') (hsz : ds.length <= sizeLine) :
  Zhf G H C σ B (eval (.List es pos) C.env) (.list ds) B' := fun A β s hA I E =>
 List_ ((R.evs O A β s hA I).t3 fun vs s'1 β1 a'1 i'1 r'1 => (wpAny_newObj_type (Xr.from a'1 (X6 (vs := vs.toArray) (n := 0) (tk := s'1.toks) O i'1 r'1)) (by show vs.toArray.size <= sizeLine; rw [List.size_toArray, r'1.length]; exact hsz)))
theorem ZiB (O : Zv G C) (I : Inv G C β B σ s) {a : Addr} (h : s.heap.objs.size <= a) : (a == sysModules) = false := by
 have h0 := I.H0 O;refine Zg O.gok.nolimit fun mc hn _ => ?_;have h1 : cStatics < G.H0.objs.size := hn.lt;have h2 : (2 : Nat) < G.H0.objs.size := h1
 have h3 : (1 : Nat) ≠ a := by
  intro e;have : G.H0.objs.size <= (1 : Nat) := Nat.le_trans h0 (e ▸ h);omega
 have h4 : ¬ (a = sysModules) := fun e => h3 (e.symm)
 simpa using h4
theorem Zn0 (O : Zv G C) {pos : Pos} : Zhf G H C σ B (eval (.Dict [] [] pos) C.env) (.dict [] []) B := fun A β s hA I E =>
 wpAny_Dict_empty (Zqy (tk := s.toks) O I (.dict (kvs := []) (Heap.DictOf.new _) (ZiB O I (Nat.le_refl _)) rfl .nil))
theorem Inv.upd (O : Zv G C) (I : Inv G C β B σ s) {n : Nat} {a : Addr} {h' : Heap} {tk : Nat} (hn : β[n]? = some a) (hs : Heap.SameBut a s.heap h') (q : Yf G (avB C.av β) β h' a d) :
  Inv G C β (B.set n d) σ { s with heap := h', toks := tk } /\ Adv G C.mu β s β { s with heap := h', toks := tk } := by
 have ha : a ∈ β := List.mem_of_getElem? hn;have hne : ∀ b o, s.heap.get? b = some o -> b ≠ a -> h'.get? b = some o := fun b o e n => (hs.2 b n).trans e;have hk : ∀ b o, s.heap.get? b = some o -> ¬ avB C.av β b -> h'.get? b = some o /\ ¬ avB C.av β b := fun b o e n => ⟨hne b o e fun z => n (.inr (z ▸ ha)), n⟩;have hav : ∀ c, C.av c -> c ≠ a := fun c h e => I.boxes.apart a ha (e ▸ h);have ha0 := I.boxes.high a ha;have hlt : ∀ {b}, b < G.H0.objs.size -> b ≠ a := fun e z => absurd e (Nat.not_lt.mpr (z ▸ ha0))
 refine ⟨⟨⟨fun b o e n => hne b o (I.wd.keep b o e n) (hlt (Heap.lt_size e)), fun c P m => ?_, I.wd.gens, I.wd.os⟩, fun b hb' => by show b < h'.objs.size; rw [hs.1]; exact I.low b hb',
  let ⟨m, hm⟩ := I.ns; ⟨m, hm.sameBut hs (hav _ (O.muav _ O.muL))⟩, fun y ya hy => let ⟨c, v, h1, h2⟩ := I.cells y ya hy; ⟨c, v, h1, h2.sameBut hs (hav _ (O.cellav _ _ h1))⟩, fun y e hy ky => ?_, I.slots,
  by rw [List.length_set]; exact I.boxes.len, I.boxes.nodup, I.boxes.apart, I.boxes.high, fun m b e e1 e2 => ?_⟩,
  ⟨⟨[], by simp, fun _ h => by simp at h⟩, fun b o e n t => hne b o e fun z => n (.inr (z ▸ ha)), by show s.heap.objs.size <= h'.objs.size; rw [hs.1]; exact Nat.le_refl _⟩⟩
 ·refine Zg (I.wd.tab c P m) fun ps h1 h2 => ?_
  refine Xx (O.gok.tabs c P m) fun hc hP _ => ?_;exact ⟨ps, h1.extBut hs.extBut (hlt hc) (hlt hP), h2.extBut hs.extBut (hlt hc) (hlt hP)⟩
 ·refine Zg (I.vars y e hy ky) fun v' b' r' => ?_
  refine ⟨v', ?_, Rep.mono hk (fun _ _ e => e) r'⟩;rcases b' with ⟨k, m2, hn2, hm2⟩ | ⟨k, c, hc, hv⟩
  ·exact .inl ⟨k, m2, hn2.sameBut hs (hav _ (O.muav _ O.muL)), hm2⟩
  ·exact .inr ⟨k, c, hc, hv.sameBut hs (hav _ (O.cellav _ _ hc))⟩
 ·by_cases hmn : m = n
  ·subst hmn
   rw [hn] at e1
   cases e1
   have hlen : m < B.length := by rw [<- I.boxes.len]; exact (List.getElem?_eq_some_iff.mp hn).1
   rw [List.getElem?_set_self hlen] at e2
   cases e2
   exact q
  ·rw [List.getElem?_set_ne (Ne.symm hmn)] at e2
   have hba : b ≠ a := by
    rintro rfl
    apply hmn;have h1 := (List.getElem?_eq_some_iff.mp e1);have h2 := (List.getElem?_eq_some_iff.mp hn);exact Zgc I.boxes.nodup h1.1 h2.1 (h1.2.trans h2.2.symm)
   exact (I.boxes.at' m b e e1 e2).mono hk (fun _ _ z => z) fun o z => hne b o z hba
theorem ZcV (I : Inv G C β B σ s) {n : Nat} (r : Rep G (avB C.av β) β s.heap v (.box n)) (hB : B[n]? = some d) : ∃ a, v = .ref a /\ β[n]? = some a /\ Yf G (avB C.av β) β s.heap a d :=
 Zg r.sh fun a e1 e => ⟨a, e1, e, I.boxes.at' _ _ _ e hB⟩
theorem ZpP {av : Addr -> Prop} {h : Heap} {a : Addr} (x : Yf G av β h a (.list ds)) : ∃ vs n, h.get? a = some (Z9 vs n) /\ Zb G av β h vs.toList ds := x.sh
theorem Zth {av : Addr -> Prop} {h : Heap} {a : Addr} {ks : List Str} (x : Yf G av β h a (.dict ks ds)) :
  ∃ kvs, h.DictOf (PySem.strKind G.prog G.w) a kvs /\ (a == sysModules) = false /\ kvs.map (·.1) = ks /\ Zb G av β h (kvs.map (·.2)) ds := x.sh
theorem Inv.keepBox (I : Inv G C β B σ s) {n : Nat} {a : Addr} {h' : Heap} (hn : β[n]? = some a) (hs : Heap.SameBut a s.heap h') :
  ∀ b o, s.heap.get? b = some o -> ¬ avB C.av β b -> h'.get? b = some o /\ ¬ avB C.av β b := fun b o e n => ⟨(hs.2 b fun z => n (.inr (z ▸ List.mem_of_getElem? hn))).trans e, n⟩
noncomputable def Jr (ks : List Str) (vs : List V) (k : Str) (d : V) : List Str × List V := if ks.contains k then (ks, vs.set (ks.idxOf k) d) else (ks ++ [k], vs ++ [d])
noncomputable def Zck (B : Bx) (n : Nat) (i d : V) : Option Bx := match B[n]? with
 | some (.list xs) => match i with
  | .int k => if 0 <= k /\ k < xs.length /\ Zu xs.length = true then some (B.set n (.list (xs.set k.toNat d))) else none
  | _ => none
 | some (.dict ks vs) => match i with
  | .str k => if Zu ks.length then some (B.set n (.dict (Jr ks vs k d).1 (Jr ks vs k d).2)) else none
  | _ => none
 | _ => none
theorem ZdA {kvs : List (Str × Value)} {k : Str} {v : Value} : (stored kvs k v).map (·.1) = if (kvs.map (·.1)).contains k then kvs.map (·.1) else kvs.map (·.1) ++ [k] := by
 have hc : (kvs.any fun kv => kv.1 = k) = (kvs.map (·.1)).contains k := by
  rw [Bool.eq_iff_iff]; simp
 unfold stored;rw [hc]
 split
 ·rw [List.map_map]
  apply List.map_congr_left;intro x _;simp only [Function.comp]
  split <;> rfl
 ·simp
theorem Zia : ∀ {kvs : List (Str × Value)} {k : Str} {v : Value} {vs : List V} {d : V} {av : Addr -> Prop} {h : Heap}, (kvs.map (·.1)).Nodup -> Zb G av β h (kvs.map (·.2)) vs -> Rep G av β h v d ->
  (kvs.map (·.1)).contains k = true -> Zb G av β h ((kvs.map fun kv => if kv.1 = k then (kv.1, v) else kv).map (·.2)) (vs.set ((kvs.map (·.1)).idxOf k) d) := by
 intro xs_
 induction xs_ with
 | nil =>
  intro k v vs d av h _ _ _ hc;simp at hc
 | cons p_ r ih_ =>
  intro k v vs d av h hn hr hv hc;obtain ⟨k', v'⟩ := p_
  cases hr with
  | @cons _ x _ xs rx rxs =>
   simp only [List.map_cons] at hn hc ⊢
   by_cases hk : k' = k
   ·subst hk
    simp only [if_true, List.idxOf_cons, beq_self_eq_true, cond_true, List.set_cons_zero]
    have : (r.map fun kv => if kv.1 = k' then (kv.1, v) else kv) = r := by
     have e : (r.map fun kv => if kv.1 = k' then (kv.1, v) else kv) = r.map id := List.map_congr_left fun y hy => by
      have : y.1 ≠ k' := fun e => (List.nodup_cons.mp hn).1 (e ▸ List.mem_map_of_mem hy);simp [this]
     rw [e, List.map_id]
    rw [this];exact .cons hv rxs
   ·have hb : (k' == k) = false := by simpa using hk
    rw [if_neg hk];simp only [List.idxOf_cons, hb, cond_false, List.set_cons_succ];refine .cons rx (ih_ (List.nodup_cons.mp hn).2 rxs hv ?_);simp only [List.contains_cons, Bool.or_eq_true] at hc;rcases hc with hc | hc
    ·exact absurd (beq_iff_eq.mp hc).symm hk
    ·exact hc
theorem Zca {kvs : List (Str × Value)} {k : Str} {v : Value} {vs : List V} {d : V} {av : Addr -> Prop} {h : Heap} (hn : (kvs.map (·.1)).Nodup) (hr : Zb G av β h (kvs.map (·.2)) vs) (hv : Rep G av β h v d) :
  (stored kvs k v).map (·.1) = (Jr (kvs.map (·.1)) vs k d).1 /\ Zb G av β h ((stored kvs k v).map (·.2)) (Jr (kvs.map (·.1)) vs k d).2 := by
 refine ⟨?_, ?_⟩
 ·rw [ZdA]; unfold Jr; split <;> rfl
 ·have hc : (kvs.any fun kv => kv.1 = k) = (kvs.map (·.1)).contains k := by
   rw [Bool.eq_iff_iff]; simp
  unfold stored Jr;rw [hc]
  by_cases h : (kvs.map (·.1)).contains k = true
  ·rw [if_pos h, if_pos h]; exact Zia hn hr hv h
  ·rw [if_neg h, if_neg h]; simpa using hr.append (.cons hv .nil)
set_option tactic.hygienic true in
theorem ZoN (O : Zv G C) (I : Inv G C β B σ s) {A : Around} {n : Nat} {ov iv : Value} {di : V} (ro : Rep G (avB C.av β) β s.heap ov (.box n)) (ri : Rep G (avB C.av β) β s.heap iv di) (rv : Rep G (avB C.av β) β s.heap v d)
  (h : Zck B n di d = some B') : Ok G.prog G.w A (setItem ov iv v) s fun _ s' => Inv G C β B' σ s' /\ Adv G C.mu β s β s' := by
 intro E;unfold Zck at h
 split at h
 ·rename_i xs hB
  refine XS (ZcV I ro hB) fun a z_1 hn hb => ?_;subst z_1;refine YA (ZpP hb) fun vs m e r => ?_
  split at h
  ·rename_i k
   obtain ⟨t, rfl⟩ := Zo ri
   split at h
   ·rename_i hk
    cases h
    have n1 : vs.size = xs.length := by rw [<- r.length]; simp
    have hz := JC hk.2.2;refine PySem.W.ki_setAt (n := m) e hk.1 (by omega) (by omega) ?_;have hs : Heap.SameBut a s.heap (s.heap.update a (Obj.mapSeq (·.setIfInBounds k.toNat v))) := Heap.SameBut.update ..;refine I.upd (tk := s.toks) O hn hs ?_;refine .list (IsL.update (n := m) e (·.setIfInBounds k.toNat v)) ?_;refine Zb.mono (I.keepBox hn hs) (fun _ _ z => z) ?_;rw [Array.toList_setIfInBounds];exact r.set _ rv
   ·exact nn h
  ·exact nn h
 ·rename_i ks vs hB
  refine XS (ZcV I ro hB) fun a z_1 hn hb => ?_;subst z_1;refine Zbf (Zth hb) fun kvs e hs he r => ?_
  split at h
  ·rename_i k
   obtain ⟨t, rfl⟩ := Z7 ri
   split at h
   ·rename_i hz
    cases h
    have hlen : kvs.length = ks.length := by rw [<- he]; simp
    refine wpAny_setItem_pairs (strKind_is G.prog G.w k t) e (fun h' hd' hs' => ?_) (by rw [hlen]; exact Yy hz);have hnd : (kvs.map (·.1)).Nodup := by obtain ⟨_, _, _, _, _, _, _, _, z⟩ := e; exact z
    obtain ⟨q1, q2⟩ := Zca (k := k) (v := v) (d := d) hnd r rv;rw [he] at q1 q2;exact I.upd (tk := s.toks + 1) O hn hs' (.dict hd' hs q1 (Zb.mono (I.keepBox hn hs') (fun _ _ z => z) q2))
   ·exact nn h
  ·exact nn h
 ·exact nn h
theorem Zgg (O : Zv G C) {x : Str} {pos : Pos} (hxa : x ∈ C.asg) (k : C.env.kindOf x = some .local \/ C.env.kindOf x = some .cell) : Zim G H C σ B (assign (.Name x pos) C.env) d (σ.set (C.names.idxOf x) (some d)) B :=
 fun A β s v hA I r E => (Zfn O I hxa k r).to fun _ s' ⟨i, a⟩ => ⟨β, a, i⟩
theorem Zqc (O : Zv G C) {x : Str} (hxa : x ∈ C.asg) (k : C.env.kindOf x = some .local \/ C.env.kindOf x = some .cell) : Zim G H C σ B (bindName C.env x) d (σ.set (C.names.idxOf x) (some d)) B :=
 fun A β s v hA I r E => (ZjR O I hxa k r).to fun _ s' ⟨i, a⟩ => ⟨β, a, i⟩
inductive ZcA (G : GC) (H : Nat) (C : Cx) (B : Bx) : St -> List (Value -> Sem Unit) -> List V -> St -> Prop
 | nil (σ : St) : ZcA G H C B σ [] [] σ
 | cons (σ σ₁ σ2 : St) (t : Value -> Sem Unit) (ts : List (Value -> Sem Unit)) (d : V) (ds : List V) : Zim G H C σ B t d σ₁ B -> ZcA G H C B σ₁ ts ds σ2 -> ZcA G H C B σ (t :: ts) (d :: ds) σ2
theorem ZcA.ok (O : Zv G C) {ts : List (Value -> Sem Unit)} {ds : List V} (T : ZcA G H C B σ ts ds σ') : ∀ {A : Around} {β : List Addr} {s : Shared} {vs : List Value}, AOk H A -> Inv G C β B σ s -> Zb G (avB C.av β) β s.heap vs ds ->
  Ok G.prog G.w A (assignInOrder ts vs) s (Zg8 G C β s σ' B) := by
 induction T with
 | nil σ => intro A β s vs hA I r E; cases r; exact wpAny_pure ⟨β, .refl, I⟩
 | cons σ σ₁ σ2 t ts d ds h _ ih =>
  intro A β s vs hA I r E
  cases r with
  | cons r rs =>
   exact wpAny_bind (wpAny_holding ((h A β s _ hA I r).t2 fun _ s'1 β1 a'1 i'1 => (ih hA i'1 (a'1.eAll O rs)).to fun _ s'2 p => p.from a'1))
theorem Ok.pure_inv {prog : Program} {w : World} {α : Type} {A : Around} {a : α} {Q : α -> Shared -> Prop} {Γ : Ctx} (p : Pos) (hΓ : Γ.In A) (h : Ok prog w A (Pure.pure a) s Q) : Q a s := h (fun _ _ => False) Γ p hΓ
theorem Zj8 (O : Zv G C) {A : Around} (hA : AOk H A) (W : Xp G C ow) : ∀ (ds : List V) {s : Shared}, Inv G C β B σ s -> Y9 G C β s ow false it (.seq ds) -> ∀ n, n = ds.length ->
  Ok G.prog G.w A (draw it n) s fun vs s' => YC ow s s' /\ Inv G C β B σ s' /\ Zb G (avB C.av β) β s'.heap vs ds /\ Y9 G C β s' ow false it (.seq [])
 | [], s, I, T, n, hn => fun E => by subst hn; exact wpAny_pure ⟨⟨fun _ _ _ e => e, Nat.le_refl _, rfl, rfl⟩, I, .nil, T⟩
 | d :: ds, s, I, T, n, hn => fun E Γ p hΓ => by
  subst hn
  revert p
  intro p0;refine (?_ : wpAny (model G.prog G.w) A (pyNext it >>= _) _ E s) Γ p0 hΓ;refine wpAny_bind ((ZbO O hA I W T (r := some d) rfl).to fun q s'1 hq => ?_)
  cases q with
  | none => exact hq.elim
  | some v =>
   have := hq (.Name "" ⟨0, 0, 0, 0⟩) rfl
   have this : YC ow s s'1 /\ Rep G (avB C.av β) β s'1.heap v d /\ Y9 G C β s'1 ow false it (.seq ds) := by
    have e : letOwnedTupleGo (.Name "" ⟨0, 0, 0, 0⟩) it v = pure () := rfl;rw [e] at this;exact Ok.pure_inv p0 hΓ this
   refine Xx this fun x'1 r'1 T'1 => ?_;have i'1 := YC.inv O W I x'1;refine wpAny_bind (wpAny_holding ((Zj8 O hA W ds i'1 T'1 _ rfl).to fun vs s'2 ⟨x'2, i'2, r'2, T2⟩ => wpAny_pure ⟨⟨fun b o n e => x'2.keep b o n (x'1.keep b o n e), Nat.le_trans x'1.size x'2.size, x'2.gens.trans x'1.gens, x'2.os.trans x'1.os⟩, i'2, .cons ?_ r'2, T2⟩));exact Rep.mono (fun b o e n => ⟨x'2.keep b o (fun z => n (.inl (W.sub b z))) e, n⟩) (fun _ _ z => z) r'1
end
section
variable {G : GC} {C : Cx} {β : List Addr} {B B' B₁ B₂ B3 B4 : Bx} {σ σ' : St} {s s' : Shared} {H : Nat} {d d₁ d₂ d'3 d'4 : V} {v : Value} {b : Bool} {ds : List V} {ow : Addr -> Prop} {it : Value} {r : Out}
noncomputable def Zar : V -> Option (List V)
 | .tup xs => some xs
 | .list xs => some xs
 | _ => none
theorem Zjw {A : Around} (I : Inv G C β B σ s) (r : Rep G (avB C.av β) β s.heap v d) (h : Zar d = some ds) : Ok G.prog G.w A (notIterableAtAll v) s fun b s' => b = false /\ s' = s := by
 intro E;unfold notIterableAtAll;have S := r.sh
 cases d with
 | tup xs => refine Xl S fun a vs m ev e _ _ => ?_; rw [ev]; exact wpAny_bind (wpAny_specialOf (Rep.isTuple e).typeIs slot_tuple_iter.lookup (wpAny_pure ⟨rfl, rfl⟩))
 | list xs => refine Xl S fun a vs m ev e _ _ => ?_; rw [ev]; exact wpAny_bind (wpAny_specialOf (Rep.isList e).typeIs slot_list_iter.lookup (wpAny_pure ⟨rfl, rfl⟩))
 | _ => exact nn h
theorem Zbv (O : Zv G C) {A : Around} (hA : AOk H A) (I : Inv G C β B σ s) (r : Rep G (avB C.av β) β s.heap v d) (h : Zar d = some ds) {n : Nat} (hn : n = ds.length) :
  Ok G.prog G.w A (unpackItems v n none) s fun vs s' => Adv G C.mu β s β s' /\ Inv G C β B σ s' /\ Zb G (avB C.av β) β s'.heap vs ds := by
 intro E;unfold unpackItems;refine wpAny_bind ((Zjw I r h).to fun b s'1 hz => ?_);refine ZaN hz fun e1 e2 => ?_;subst e1 e2;rw [if_neg (by simp)];have hsrc : Zaa B d = some (.seq ds) := by cases d <;> simp [Zar] at h <;> subst h <;> rfl
 refine wpAny_bind (wpAny_holding ((Zkr O I r hsrc).to fun it s'2 hz => ?_));refine ZeG hz fun β2 ow a'2 how i'2 W T => ?_;have O' := O.more ow;refine wpAny_bind (wpAny_holding ((Zj8 O' hA W ds i'2 T n hn).to fun vs s'3 hz => ?_));refine ZcR hz fun x3 i3 r'3 T3 => ?_;rw [if_neg (by rw [r'3.length, hn]; omega)];refine wpAny_bind (wpAny_holding ((ZbO O' hA i3 W T3 (r := none) rfl).to fun q s'4 hq => ?_))
 cases q with
 | some v => exact hq.elim
 | none =>
  have hq : YC ow s'3 s'4 := hq;rw [if_neg (by simp)];have a'4 := YC.adv O (YC.adv O a'2 x3 how) hq how;have i'4 := YC.inv O' W i3 hq
  have hb : β2 = β := by
   have e1 := i'4.boxes.len;have e2 := I.boxes.len;refine Zg a'2.pre fun βn z_1 _ => ?_;subst z_1
   have : βn = [] := by
    apply List.length_eq_zero_iff.mp;rw [List.length_append] at e1; omega
   simp [this]
  subst hb;refine wpAny_pure ⟨a'4, i'4.less, ?_⟩;refine Zcg (Zdg (C := C) ow) (Zb.mono (fun b o e n => ⟨hq.keep b o (fun z => n (.inl (.inr z))) e, n⟩) (fun _ _ z => z) r'3)
theorem Zoa (O : Zv G C) {es : List Expr} {k : Nat} {pos : Pos} (h : Zar d = some ds) (hl : es.length = ds.length) (hst : (assignEach es C.env).findIdx? (·.1) = none)
  (hlen : (assignEach es C.env).length = es.length) (T : ZcA G H C B σ ((assignEach es C.env).map (·.2)) ds σ') : Zim G H C σ B (assign (.Tuple es k pos) C.env) d σ' B := fun A β s v hA I r E => by
 rw [assign_Tuple];refine wpAny_bind (wpAny_standAt ?_);unfold unpack;rw [hst];refine wpAny_bind (wpAny_holding ((Zbv O hA I r h (by rw [hlen, hl])).to fun vs s'1 hz => ?_));refine Xx hz fun a'1 i'1 r'1 => ?_;exact (T.ok O hA i'1 r'1).to fun _ s'2 p => p.from a'1
theorem ZfI (O : Zv G C) {t value : Expr} {pos : Pos} (h : Yn G H C σ B (eval value C.env) d B₁) (ht : Zim G H C σ B₁ (assign t C.env) d σ' B₂)
  (hs : swapsWith value (some t) pos.line C.env = pure false) (hw : swappedStores [t] value C.env = pure none) (he : (assignEach [t] C.env).map (·.2) = [assign t C.env]) :
  Zaf G H C σ B (exec (.Assign [t] value pos) C.env) (.next, σ', B₂) := fun A β s hA I E => by
 refine wpAny_Assign_stores ((h A β s hA I).t3 fun v s'1 β1 a'1 i'1 r'1 => ?_) hs hw;rw [he];exact (ht A β1 s'1 v hA i'1 r'1).t2 fun _ s'2 β2 a'2 i'2 => ⟨β2, a'1.trans a'2, i'2, trivial⟩
theorem Zis (O : Zv G C) {es : List Expr} {k : Nat} {tpos pos : Pos} {value : Expr} {names : List Str} (h : Yn G H C σ B (eval value C.env) d B₁) (hp : Zar d = some ds) (hl : names.length = ds.length)
  (T : ZcA G H C B₁ σ (names.reverse.map fun n => bindName C.env n) ds.reverse σ')
  (hs : swapsWith value (some (.Tuple es k tpos)) pos.line C.env = pure false) (hw : swappedStores [.Tuple es k tpos] value C.env = pure (some names)) :
  Zaf G H C σ B (exec (.Assign [.Tuple es k tpos] value pos) C.env) (.next, σ', B₁) := fun A β s hA I E => by
 refine Assign_Tuple_swapped (names := names) ((h A β s hA I).t3 fun v s'1 β1 a'1 i'1 r'1 => (Zbv O hA i'1 r'1 hp hl).to fun vs s'2 hz => ?_) hs hw;refine Xx hz fun a'2 i'2 r'2 => ?_
 have hrev : ∀ {vs : List Value} {ds : List V}, Zb G (avB C.av β1) β1 s'2.heap vs ds -> Zb G (avB C.av β1) β1 s'2.heap vs.reverse ds.reverse := by
  intro vs
  induction vs with
  | nil => intro ds r; cases r; exact .nil
  | cons v vs ih =>
   intro ds r
   cases r with
   | cons r rs => rw [List.reverse_cons, List.reverse_cons]; exact (ih rs).append (.cons r .nil)
 exact (T.ok O hA i'2 (hrev r'2)).t2 fun _ s'3 β3 a'3 i3 => ⟨β3, (a'1.trans a'2).trans a'3, i3, trivial⟩
theorem ZrR (O : Zv G C) {o i value : Expr} {p pos : Pos} {n : Nat} (h : Yn G H C σ B (eval value C.env) d B₁) (ho : Yn G H C σ B₁ (eval o C.env) (.box n) B₂) (hi : Yn G H C σ B₂ (eval i C.env) d₂ B3)
  (hp : Zck B3 n d₂ d = some B4) (hs : swapsWith value (some (.Subscript o i p)) pos.line C.env = pure false) : Zaf G H C σ B (exec (.Assign [.Subscript o i p] value pos) C.env) (.next, σ, B4) := fun A β s hA I E =>
 wpAny_Assign_Subscript ((h A β s hA I).t3 fun v s'1 β1 a'1 i'1 r'1 => (ho A β1 s'1 hA i'1).t3 fun ov s'2 β2 a'2 i'2 r'2 => (hi A β2 s'2 hA i'2).t3 fun iv s'3 β3 a'3 i3 r'3 =>
  (ZoN O i3 (a'3.e O r'2) r'3 ((a'2.trans a'3).e O r'1) hp).to fun _ s'4 ⟨i'4, a'4⟩ => ⟨β3, ((a'1.trans a'2).trans a'3).trans a'4, i'4, trivial⟩) hs
theorem ZrV (O : Zv G C) {x : Str} {value : Expr} {op : Operator} {p pos : Pos} (hxa : x ∈ C.asg) (k : C.env.kindOf x = some .local \/ C.env.kindOf x = some .cell) (hc : (x == ("__classdict__" : Str)) = false) (hd : C.look σ x = some d₁)
  (h : Yn G H C σ B (eval value C.env) d₂ B₁) (hop : Op2 G H B₁ (inplaceOp op) d₁ d₂ d) : Zaf G H C σ B (exec (.AugAssign (.Name x p) op value pos) C.env) (.next, σ.set (C.names.idxOf x) (some d), B₁) := fun A β s hA I E =>
 wpAny_AugAssign_Name ((Zpw (H := H) (B := B) O (k.imp id .inl) hd hc A β s hA I).t3 fun ov s'1 β1 a'1 i'1 r'1 => (h A β1 s'1 hA i'1).t3 fun v s'2 β2 a'2 i'2 r'2 =>
  (hop C σ A β2 s'2 ov v O hA i'2 (a'2.e O r'1) r'2).t3 fun nv s'3 β3 a'3 i3 r'3 => (ZhL O i3 hxa k r'3).to fun _ s'4 ⟨i'4, a'4⟩ => ⟨β3, ((a'1.trans a'2).trans a'3).trans a'4, i'4, trivial⟩)
theorem Zlp (O : Zv G C) {o i value : Expr} {op : Operator} {p pos : Pos} {n : Nat} (ho : Yn G H C σ B (eval o C.env) (.box n) B₁) (hi : Yn G H C σ B₁ (eval i C.env) d₁ B₂) (hg : Zf B₂ (.box n) d₁ = some d₂)
  (h : Yn G H C σ B₂ (eval value C.env) d'3 B3) (hop : Op2 G H B3 (inplaceOp op) d₂ d'3 d'4) (hp : Zck B3 n d₁ d'4 = some B4)
  (ha : ∀ ov iv new, augStore i ov iv new = (do holding [new, ov, iv] (setItem ov iv new); release [new, ov, iv] []; pure .next)) :
  Zaf G H C σ B (exec (.AugAssign (.Subscript o i p) op value pos) C.env) (.next, σ, B4) := fun A β s hA I E =>
 wpAny_AugAssign_Subscript_any ((ho A β s hA I).t3 fun ov s'1 β1 a'1 i'1 r'1 => (hi A β1 s'1 hA i'1).t3 fun iv s'2 β2 a'2 i'2 r'2 =>
  ((ZiW (G := G) (H := H) hg).1 C σ A β2 s'2 ov iv O hA i'2 (a'2.e O r'1) r'2).t3 fun old s'3 β3 a'3 i3 r'3 => (h A β3 s'3 hA i3).t3 fun v s'4 β4 a'4 i'4 r'4 =>
   (hop C σ A β4 s'4 old v O hA i'4 (a'4.e O r'3) r'4).t3 fun nv s'5 β5 a'5 i5 r5 =>
    (ZoN O i5 ((((a'2.trans a'3).trans a'4).trans a'5).e O r'1) (((a'3.trans a'4).trans a'5).e O r'2) r5 hp).to fun _ s6 ⟨i6, a'6⟩ => ⟨β5, ((((a'1.trans a'2).trans a'3).trans a'4).trans a'5).trans a'6, i6, trivial⟩) ha
noncomputable def Zho (B : Bx) (n : Nat) (d : V) : Option Bx := match B[n]? with
 | some (.list xs) => if Zu xs.length then some (B.set n (.list (xs ++ [d]))) else none
 | _ => none
noncomputable def Zgr (B : Bx) (n : Nat) (d : V) : Option Bx := match B[n]?, d with
 | some (.list xs), .int k => if Zu xs.length && ZaX k then (seqIndex? k xs.length).map fun j => B.set n (.list (xs.eraseIdx j)) else none
 | _, _ => none
set_option tactic.hygienic true in
theorem Zla {n : Nat} (h : Zho B n d = some B') : OpN G H B B' (fun vs => call (.builtin "list.append") vs) [.box n, d] .none := fun C σ A β s vs O hA I rr E => by
 refine YH (YE rr) fun ov v z_2 ro rv => ?_;subst z_2;unfold Zho at h
 split at h
 ·rename_i xs hB
  refine XS (ZcV I ro hB) fun a z_1 hn hb => ?_;subst z_1;refine YA (ZpP hb) fun vs m e r => ?_
  split at h
  ·rename_i hz
   cases h
   have n1 : vs.size = xs.length := by rw [<- r.length]; simp
   refine wpAny_list_append_plain ⟨m, e⟩ (fun h' ⟨m', e'⟩ hs => ?_) (by rw [n1]; exact Yy hz);obtain ⟨i, a⟩ := I.upd (tk := s.toks) (d := .list (xs ++ [d])) O hn hs (.list e' (by rw [Array.toList_push]; exact (Zb.mono (I.keepBox hn hs) (fun _ _ z => z) r).append (.cons (Rep.mono (I.keepBox hn hs) (fun _ _ z => z) rv) .nil)));exact ⟨β, a, i, .none⟩
  ·exact nn h
 ·exact nn h
set_option tactic.hygienic true in
theorem ZrI (O : Zv G C) {A : Around} (I : Inv G C β B σ s) {n : Nat} {ov iv : Value} (ro : Rep G (avB C.av β) β s.heap ov (.box n)) (ri : Rep G (avB C.av β) β s.heap iv d) (h : Zgr B n d = some B') :
  Ok G.prog G.w A (delItem ov iv) s fun _ s' => Inv G C β B' σ s' /\ Adv G C.mu β s β s' := by
 intro E;unfold Zgr at h
 split at h
 ·rename_i xs k hB
  refine XS (ZcV I ro hB) fun a z_1 hn hb => ?_;subst z_1;refine YA (ZpP hb) fun vs m e r => ?_;obtain ⟨t, rfl⟩ := Zo ri
  split at h
  ·rename_i hz
   obtain ⟨hz, hw⟩ := Bool.and_eq_true_iff.mp hz;refine Zp h fun j hj z_2 => ?_;subst z_2;have n1 : vs.size = xs.length := by rw [<- r.length]; simp
   have hf : Builtin.List.listFitsIndex k = true := by
    unfold ZaX at hw;obtain ⟨h1, h2⟩ := Bool.and_eq_true_iff.mp hw;have h1 := of_decide_eq_true h1;have h2 := of_decide_eq_true h2;unfold Builtin.List.listFitsIndex;simp;omega
   refine wpAny_delItem_plain (k := j) ⟨m, e⟩ hf (by rw [n1]; exact hj) (fun h' ⟨m', e'⟩ hs => ?_) (by rw [n1]; exact Yy hz);refine I.upd (tk := s.toks) O hn hs (.list e' ?_);rw [Array.eraseIdxIfInBounds]
   split
   ·rw [Array.toList_eraseIdx]; exact Zb.mono (I.keepBox hn hs) (fun _ _ z => z) (r.eraseIdx j)
   ·rename_i hlt
    have : xs.eraseIdx j = xs := List.eraseIdx_of_length_le (by omega);rw [this];exact Zb.mono (I.keepBox hn hs) (fun _ _ z => z) r
  ·exact nn h
 ·exact nn h
theorem Zrb (O : Zv G C) {o i : Expr} {p pos : Pos} {n : Nat} (ho : Yn G H C σ B (eval o C.env) (.box n) B₁) (hi : Yn G H C σ B₁ (eval i C.env) d₁ B₂) (h : Zgr B₂ n d₁ = some B3) :
  Zaf G H C σ B (exec (.Delete [.Subscript o i p] pos) C.env) (.next, σ, B3) := fun A β s hA I E =>
 wpAny_Delete (wpAny_deleteEach_cons (wpAny_delete_Subscript ((ho A β s hA I).t3 fun ov s'1 β1 a'1 i'1 r'1 => (hi A β1 s'1 hA i'1).t3 fun iv s'2 β2 a'2 i'2 r'2 =>
  (ZrI O i'2 (a'2.e O r'1) r'2 h).to fun _ s'3 ⟨i3, a'3⟩ => wpAny_deleteEach_nil ⟨β2, (a'1.trans a'2).trans a'3, i3, trivial⟩)))
end
structure K where
 sc : List (Str × NameKind)
 names : List Str
 asg : List Str
 gen : Bool := false
noncomputable def K.kind (k : K) (x : Str) : Option NameKind := k.sc.lookup x
structure Xi (k : K) (C : Cx) : Prop where
 sc : C.env.scope.names = k.sc
 names : C.names = k.names
 asg : C.asg = k.asg
 gen : C.gen = k.gen
theorem Xi.kind {k : K} {C : Cx} (F : Xi k C) (x : Str) : C.env.kindOf x = k.kind x := by
 unfold Env.kindOf K.kind; rw [F.sc]
theorem Xi.more {k : K} {C : Cx} (F : Xi k C) (ow : Addr -> Prop) : Xi k (C.more ow) := ⟨F.sc, F.names, F.asg, F.gen⟩
noncomputable def Yl (names : List (Str × NameKind)) : List Str := (names.filter fun x => x.2 == .local || x.2 == .cell).map (·.1)
noncomputable def K.rel (k : K) (n : Str) (kd : NameKind) : NameKind := if kd == .free && k.kind n == some .cell then .cell else kd
noncomputable def K.child (k : K) (scope : Scope) : K := { sc := scope.names.map fun x => (x.1, k.rel x.1 x.2), names := Yl scope.names ++ k.names, asg := Yl scope.names, gen := k.gen }
noncomputable def ZaL (k : K) (scope : Scope) : Bool :=
 scope.kind == .function && decide (scope.names.map (·.1)).Nodup && (scope.names.lookup ("__debug__" : Str)).isNone &&
 scope.names.all fun x => x.2 != .free || ((k.kind x.1 == some .cell || k.kind x.1 == some .free) && !(Yl scope.names).contains x.1)
noncomputable def ZcC (env : Env) : List (Str × NameKind) -> List (Str × Addr) -> Option (List (Str × Addr))
 | [], cs => some cs
 | (n, kd) :: r, cs => if kd == .free then match env.cells.lookup n with | some c => ZcC env r ((n, c) :: cs) | none => none else ZcC env r cs
set_option tactic.hygienic true in
theorem Zit {env : Env} (f : Str × NameKind -> List (Str × Addr) -> Sem (ForInStep (List (Str × Addr)))) (hf : ∀ n k cs, f (n, k) cs = if k == .free then (do let a <- cellOf env n; pure (.yield ((n, a) :: cs))) else pure (.yield cs)) :
  ∀ (names : List (Str × NameKind)) (cs cl : List (Str × Addr)), ZcC env names cs = some cl -> forIn names cs f = pure cl := by
 intro xs_
 induction xs_ with
 | nil =>
  intro cs cl h
  cases h; rw [List.forIn_nil]
 | cons p_ r ih_ =>
  intro cs cl h;obtain ⟨n, kd⟩ := p_;rw [List.forIn_cons, hf];unfold ZcC at h
  split at h
  ·rename_i hk
   rw [if_pos hk]
   split at h
   ·rename_i c hc
    unfold cellOf;rw [hc];simp only [pure_bind];exact ih_ _ cl h
   ·exact nn h
  ·rename_i hk
   rw [if_neg hk];simp only [pure_bind];exact ih_ _ cl h
theorem ZdJ {env : Env} {scope : Scope} {cl : List (Str × Addr)} (h : ZcC env scope.names [] = some cl) : closureFor scope env = pure cl := by
 unfold closureFor;show (forIn scope.names [] _ >>= fun cs => pure cs) = _;rw [Zit _ (fun n k cs => by cases hk : k == NameKind.free <;> simp [hk]) _ _ _ h];simp
section
variable {G : GC} {C : Cx} {β : List Addr} {B : Bx} {σ : St} {s s' : Shared} {d : V} {v : Value} {b : Bool} {r : Out} {k : K}
theorem ZlW (hh : ∀ x, C.env.kindOf x = some .cell \/ C.env.kindOf x = some .free -> ∃ c, C.env.cells.lookup x = some c) : ∀ (names : List (Str × NameKind)) (cs : List (Str × Addr)),
  (∀ x ∈ names, x.2 = .free -> C.env.kindOf x.1 = some .cell \/ C.env.kindOf x.1 = some .free) -> ∃ cl, ZcC C.env names cs = some cl := by
 intro xs_
 induction xs_ with
 | nil =>
  intro cs _;exact ⟨cs, rfl⟩
 | cons p_ r ih_ =>
  intro cs h;obtain ⟨n, kd⟩ := p_;unfold ZcC
  split
  ·rename_i hk
   obtain ⟨c, hc⟩ := hh n (h (n, kd) (.head _) (beq_iff_eq.mp hk));rw [hc];exact ih_ _ fun x hx => h x (.tail _ hx)
  ·exact ih_ _ fun x hx => h x (.tail _ hx)
theorem ZhT {env : Env} : ∀ (names : List (Str × NameKind)) (cs cl : List (Str × Addr)), ZcC env names cs = some cl -> ∀ x c, cl.lookup x = some c -> cs.lookup x = some c \/ env.cells.lookup x = some c := by
 intro xs_
 induction xs_ with
 | nil =>
  intro cs cl h x c hc
  cases h; exact .inl hc
 | cons p_ r ih_ =>
  intro cs cl h x c hc;obtain ⟨n, kd⟩ := p_;unfold ZcC at h
  split at h
  ·split at h
   ·rename_i c' hc'
    rcases ih_ _ cl h x c hc with z | z
    ·rw [List.lookup_cons] at z
     cases hb : x == n with
     | true => rw [hb] at z; cases z; rw [beq_iff_eq.mp hb]; exact .inr hc'
     | false => rw [hb] at z; exact .inl z
    ·exact .inr z
   ·exact nn h
  ·exact ih_ _ cl h x c hc
theorem ZkM {env : Env} : ∀ (names : List (Str × NameKind)) (cs cl : List (Str × Addr)), ZcC env names cs = some cl -> ∀ x, (cs.lookup x).isSome = true -> (cl.lookup x).isSome = true := by
 intro xs_
 induction xs_ with
 | nil =>
  intro cs cl h x hx
  cases h; exact hx
 | cons p_ r ih_ =>
  intro cs cl h x hx;obtain ⟨n, kd⟩ := p_;unfold ZcC at h
  split at h
  ·split at h
   ·refine ih_ _ cl h x ?_
    rw [List.lookup_cons]
    cases hb : x == n <;> simp [hx]
   ·exact nn h
  ·exact ih_ _ cl h x hx
theorem Zie {env : Env} : ∀ (names : List (Str × NameKind)) (cs cl : List (Str × Addr)), ZcC env names cs = some cl -> ∀ x, (x, NameKind.free) ∈ names -> (cl.lookup x).isSome = true := by
 intro xs_
 induction xs_ with
 | nil =>
  intro cs cl h x hx
  cases hx
 | cons p_ r ih_ =>
  intro cs cl h x hx;obtain ⟨n, kd⟩ := p_;unfold ZcC at h
  split at h
  ·split at h
   ·rcases List.mem_cons.mp hx with e | hx
    ·cases e
     refine ZkM r _ cl h _ ?_;simp [List.lookup_cons]
    ·exact ih_ _ cl h x hx
   ·exact nn h
  ·rename_i hk
   rcases List.mem_cons.mp hx with e | hx
   ·cases e; exact absurd rfl hk
   ·exact ih_ _ cl h x hx
theorem Zfo : ∀ (names : List (Str × NameKind)) (n : Nat) (acc : List (Str × Addr)), (∀ x c, acc.lookup x = some c -> c < n) -> (∀ x y c, acc.lookup x = some c -> acc.lookup y = some c -> x = y) ->
  ∀ x y c, (cellsFrom n names acc).lookup x = some c -> (cellsFrom n names acc).lookup y = some c -> x = y := by
 intro xs_
 induction xs_ with
 | nil =>
  intro n acc h1 h2;exact h2
 | cons p_ r ih_ =>
  intro n acc h1 h2;obtain ⟨m, kd⟩ := p_;unfold cellsFrom
  split
  ·refine ih_ (n + 1) _ (fun x c hc => ?_) (fun x y c hx hy => ?_)
   ·rw [List.lookup_cons] at hc
    cases hb : x == m with
    | true => rw [hb] at hc; cases hc; exact Nat.lt_succ_self _
    | false => rw [hb] at hc; exact Nat.lt_succ_of_lt (h1 x c hc)
   ·rw [List.lookup_cons] at hx hy
    cases hb : x == m with
    | true =>
     rw [hb] at hx; cases hx
     cases hb' : y == m with
     | true => rw [beq_iff_eq.mp hb, beq_iff_eq.mp hb']
     | false => rw [hb'] at hy; exact absurd (h1 y _ hy) (Nat.lt_irrefl _)
    | false =>
     rw [hb] at hx
     cases hb' : y == m with
     | true => rw [hb'] at hy; cases hy; exact absurd (h1 x _ hx) (Nat.lt_irrefl _)
     | false => rw [hb'] at hy; exact h2 x y c hx hy
  ·exact ih_ n acc h1 h2
theorem Zfp : ∀ (names : List (Str × NameKind)) (n : Nat) (acc : List (Str × Addr)) (x : Str), (x, NameKind.cell) ∉ names -> (cellsFrom n names acc).lookup x = acc.lookup x := by
 intro xs_
 induction xs_ with
 | nil =>
  intro n acc x _;exact rfl
 | cons p_ r ih_ =>
  intro n acc x h;obtain ⟨m, kd⟩ := p_;unfold cellsFrom
  split
  ·rename_i hk
   rw [ih_ _ _ x fun z => h (.tail _ z), List.lookup_cons]
   cases hb : x == m with
   | true => rw [beq_iff_eq.mp hb] at h; rw [beq_iff_eq.mp hk] at h; exact absurd (.head _) h
   | false => rfl
  ·exact ih_ _ _ x fun z => h (.tail _ z)
theorem X3 {n₀ : Nat} : ∀ (names : List (Str × NameKind)) (n : Nat) (acc : List (Str × Addr)) (x : Str), ((x, NameKind.cell) ∈ names \/ ∃ c, acc.lookup x = some c /\ n₀ <= c) -> n₀ <= n -> ∃ c, (cellsFrom n names acc).lookup x = some c /\ n₀ <= c := by
 intro xs_
 induction xs_ with
 | nil =>
  intro n acc x h _;exact h.elim (fun z => nomatch z) id
 | cons p_ r ih_ =>
  intro n acc x h hn;obtain ⟨m, kd⟩ := p_;unfold cellsFrom
  split
  ·rename_i hk
   refine ih_ _ _ x ?_ (Nat.le_succ_of_le hn);rw [List.lookup_cons]
   cases hb : x == m with
   | true => exact .inr ⟨n, rfl, hn⟩
   | false =>
    rcases h with h | h
    ·rcases List.mem_cons.mp h with e | h
     ·cases e; simp at hb
     ·exact .inl h
    ·exact .inr h
  ·rename_i hk
   refine ih_ _ _ x ?_ hn;rcases h with h | h
   ·rcases List.mem_cons.mp h with e | h
    ·cases e; exact absurd rfl hk
    ·exact .inl h
   ·exact .inr h
theorem Zgz : ∀ (names : List (Str × NameKind)) (h : Heap) (acc : List (Str × Addr)) (lo : Nat), (∀ x c, acc.lookup x = some c -> lo <= c -> h.IsCell c none) ->
  ∀ x c, (cellsFrom h.objs.size names acc).lookup x = some c -> lo <= c -> (pushCells h names).IsCell c none := by
 intro xs_
 induction xs_ with
 | nil =>
  intro h acc lo ha;exact ha
 | cons p_ r ih_ =>
  intro h acc lo ha;obtain ⟨m, kd⟩ := p_;unfold cellsFrom pushCells
  split
  ·have := ih_ (h.push { cls := .type "cell", data := .cell none }) ((m, h.objs.size) :: acc) lo fun x c hc hl => by
    rw [List.lookup_cons] at hc
    cases hb : x == m with
    | true => rw [hb] at hc; cases hc; exact ⟨_, Heap.get?_push_size _ rfl, rfl⟩
    | false => rw [hb] at hc; exact (ha x c hc hl).keeps fun b o e => Heap.get?_push_of_some _ e
   rwa [Heap.size_push] at this
  ·exact ih_ h acc lo ha
theorem ZeN : ∀ (names : List (Str × NameKind)) (h : Heap), h.objs.size <= (pushCells h names).objs.size := by
 intro xs_
 induction xs_ with
 | nil =>
  intro h;exact Nat.le_refl _
 | cons p_ r ih_ =>
  intro h;obtain ⟨m, kd⟩ := p_;unfold pushCells
  split
  ·refine Nat.le_trans ?_ (ih_ _); rw [Heap.size_push]; exact Nat.le_succ _
  ·exact ih_ h
theorem Zk1 {scope : Scope} {globals : Addr} {cl : List (Str × Addr)} {qual : Str} {outer : Env} {A : Around} {E : Value -> Shared -> Prop} {Q : Env -> Shared -> Prop} {M : Model}
  (h : Q { scope, locals := s.heap.objs.size, globals, cells := cellsFrom (s.heap.objs.size + 1) scope.names cl, qual, func := none, code := outer.code, frame := outer.frame, builtins := outer.builtins }
   { s with heap := pushCells (s.heap.push { cls := .type "dict", data := .dict #[] }) scope.names }) : wpAny M A (newFunctionEnv scope globals cl [] qual none .none (some outer)) Q E s := by
 simp only [newFunctionEnv, Option.isSome_some, if_true];refine wpAny_bind (wpAny_alloc ?_);refine wpAny_bind (wpAny_layCells _ (fun name kind cells => by cases hkc : kind == NameKind.cell <;> simp) _ _ _ _ ?_);rw [show ({ s with heap := s.heap.push { cls := .type "dict", data := .dict #[] } } : Shared).heap.objs.size = s.heap.objs.size + 1 from Heap.size_push ..];rw [List.forIn_nil];exact wpAny_bind (wpAny_pure (wpAny_pure h))
theorem ZiH {f : Str -> NameKind -> NameKind} : ∀ {names : List (Str × NameKind)} {x : Str}, (names.map fun p => (p.1, f p.1 p.2)).lookup x = (names.lookup x).map (f x) := by
 intro xs_
 induction xs_ with
 | nil =>
  intro x;exact rfl
 | cons p_ r ih_ =>
  intro x;obtain ⟨n, kd⟩ := p_;simp only [List.map_cons, List.lookup_cons]
  cases hb : x == n with
  | true => rw [beq_iff_eq.mp hb]; rfl
  | false => exact ih_
theorem Z2 {names : List (Str × NameKind)} {x : Str} {kd : NameKind} (h : names.lookup x = some kd) : (x, kd) ∈ names := mem_of_lookup h
theorem YI : ∀ {names : List (Str × NameKind)} {x : Str} {kd : NameKind}, (names.map (·.1)).Nodup -> (x, kd) ∈ names -> names.lookup x = some kd
 | (n, k') :: r, x, kd, hn, h => by
  rw [List.lookup_cons];rcases List.mem_cons.mp h with e | h
  ·cases e; simp
  ·have hne : (x == n) = false := by
    have := (List.nodup_cons.mp hn).1
    cases hb : x == n with
    | false => rfl
    | true => rw [beq_iff_eq.mp hb] at h; exact absurd (List.mem_map_of_mem (f := (·.1)) h) this
   rw [hne]; exact YI (List.nodup_cons.mp hn).2 h
theorem Xz {names : List (Str × NameKind)} {x : Str} : x ∈ Yl names ↔ (x, NameKind.local) ∈ names \/ (x, NameKind.cell) ∈ names := by
 unfold Yl;rw [List.mem_map]
 constructor
 ·rintro ⟨⟨y, kd⟩, hy, rfl⟩
  obtain ⟨h1, h2⟩ := List.mem_filter.mp hy
  cases kd <;> simp at h2 <;> first | exact .inl h1 | exact .inr h1
 ·rintro (h | h)
  ·exact ⟨_, List.mem_filter.mpr ⟨h, rfl⟩, rfl⟩
  ·exact ⟨_, List.mem_filter.mpr ⟨h, rfl⟩, rfl⟩
noncomputable def Cx.sub (C : Cx) (env : Env) (scope : Scope) (n m : Nat) : Cx :=
 { env := env, names := Yl scope.names ++ C.names, av := fun a => C.av a \/ (n <= a /\ a < m), mu := fun a => n <= a /\ a < m, asg := Yl scope.names, gen := C.gen }
noncomputable def XL (C : Cx) (scope : Scope) (cl : List (Str × Addr)) (n : Nat) : Env :=
 { scope := relabel scope C.env, locals := n, globals := C.env.globals, cells := cellsFrom (n + 1) scope.names cl, qual := C.env.qual, func := none, code := C.env.code, frame := C.env.frame, builtins := C.env.builtins }
theorem Zhz (O : Zv G C) (F : Xi k C) {scope : Scope} {cl : List (Str × Addr)} {n : Nat} : (XL C scope cl n).scope.names = (k.child scope).sc := by
 show (relabel scope C.env).names = _;unfold relabel K.child;simp only;apply List.map_congr_left
 rintro ⟨x, kd⟩ _
 unfold K.rel;rw [O.kind, F.kind];simp only [beq_self_eq_true, Bool.and_true]
 split <;> rfl
theorem Zm8 (O : Zv G C) (F : Xi k C) {scope : Scope} {cl : List (Str × Addr)} {n m : Nat} : Xi (k.child scope) (C.sub (XL C scope cl n) scope n m) :=
 ⟨Zhz O F, by show Yl scope.names ++ C.names = _; rw [F.names]; rfl, rfl, F.gen⟩
theorem Zq1 (O : Zv G C) (F : Xi k C) (I : Inv G C β B σ s) {scope : Scope} (hc : ZaL k scope = true) {cl : List (Str × Addr)} (hcl : ZcC C.env scope.names [] = some cl) {s' : Shared}
  (hs' : s' = { s with heap := pushCells (s.heap.push { cls := .type "dict", data := .dict #[] }) scope.names }) :
  Zv G (C.sub (XL C scope cl s.heap.objs.size) scope s.heap.objs.size s'.heap.objs.size) /\
  Inv G (C.sub (XL C scope cl s.heap.objs.size) scope s.heap.objs.size s'.heap.objs.size) β B (List.replicate (Yl scope.names).length none ++ σ) s' /\ Ext s s' /\
  (∀ x c, (XL C scope cl s.heap.objs.size).cells.lookup x = some c -> C.env.cells.lookup x = some c \/ s.heap.objs.size <= c) /\ s.heap.objs.size < s'.heap.objs.size := by
 have hcc := hc;unfold ZaL at hcc;simp only [Bool.and_eq_true, beq_iff_eq, decide_eq_true_eq, List.all_eq_true, Option.isNone_iff_eq_none] at hcc;obtain ⟨⟨⟨hkind, hnd⟩, hdbg⟩, hall⟩ := hcc
 have hfree : ∀ x, (x, NameKind.free) ∈ scope.names -> (C.env.kindOf x = some .cell \/ C.env.kindOf x = some .free) /\ x ∉ Yl scope.names := fun x hx => by
  have := hall _ hx;rw [F.kind]
  simpa [List.contains_iff_mem] using this
 have hsz : s.heap.objs.size < s'.heap.objs.size := by
  subst hs';refine Nat.lt_of_lt_of_le ?_ (ZeN scope.names _);rw [Heap.size_push]; exact Nat.lt_succ_self _
 have x : Ext s s' := by
  subst hs';exact ⟨fun b o e => pushCells_keeps _ _ b o (Heap.get?_push_of_some _ e), Nat.le_of_lt hsz, rfl, rfl⟩
 have h0 := I.H0 O;have cl_par : ∀ x c, cl.lookup x = some c -> C.env.cells.lookup x = some c := fun x c h => (ZhT _ _ _ hcl x c h).elim (fun z => by simp at z) id;have cl_lt : ∀ x c, cl.lookup x = some c -> c < s.heap.objs.size + 1 := fun x c h => Nat.lt_succ_of_lt (I.low c (O.cellav x c (cl_par x c h)))
 have hcell : ∀ x c, (cellsFrom (s.heap.objs.size + 1) scope.names cl).lookup x = some c -> s.heap.objs.size + 1 <= c -> s'.heap.IsCell c none := by
  subst hs';have := Zgz scope.names (s.heap.push { cls := .type "dict", data := .dict #[] }) cl (s.heap.objs.size + 1) (fun x c h h' => absurd (cl_lt x c h) (Nat.not_lt.mpr h'));rw [Heap.size_push] at this;exact this
 have hnew : ∀ x, (x, NameKind.cell) ∈ scope.names -> ∃ c, (cellsFrom (s.heap.objs.size + 1) scope.names cl).lookup x = some c /\ s.heap.objs.size + 1 <= c := fun x hx => X3 (n₀ := s.heap.objs.size + 1) _ _ _ x (.inl hx) (Nat.le_refl _);have hold : ∀ x, (x, NameKind.cell) ∉ scope.names -> (cellsFrom (s.heap.objs.size + 1) scope.names cl).lookup x = cl.lookup x := fun x hx => Zfp _ _ _ x hx
 have hk' : ∀ x, (XL C scope cl s.heap.objs.size).kindOf x = (scope.names.lookup x).map (k.rel x) := fun x => by
  unfold Env.kindOf;rw [Zhz O F];exact ZiH
 have rel_local : ∀ x, k.rel x .local = .local := fun x => rfl
 have own_cell : ∀ x, x ∈ Yl scope.names -> (XL C scope cl s.heap.objs.size).kindOf x = some .cell -> (x, NameKind.cell) ∈ scope.names := fun x hx hkx => by
  rcases Xz.mp hx with h | h
  ·rw [hk', YI hnd h] at hkx
   cases hkx
  ·exact h
 have var_cases : ∀ x, Zbe ((XL C scope cl s.heap.objs.size).kindOf x) -> x ∈ Yl scope.names \/ (x, NameKind.free) ∈ scope.names := fun x hx => by
  rw [hk'] at hx
  cases hl : scope.names.lookup x with
  | none => rw [hl] at hx; rcases hx with h | h | h <;> cases h
  | some kd =>
   have hm := Z2 hl;rw [hl] at hx
   cases kd with
   | «local» => exact .inl (Xz.mpr (.inl hm))
   | cell => exact .inl (Xz.mpr (.inr hm))
   | free => exact .inr hm
   | _ => rcases hx with h | h | h <;> cases h
 have av_cell : ∀ x c, (cellsFrom (s.heap.objs.size + 1) scope.names cl).lookup x = some c -> (C.env.cells.lookup x = some c /\ cl.lookup x = some c) \/ (s.heap.objs.size <= c /\ c < s'.heap.objs.size) := fun x c h => by
  by_cases hx : (x, NameKind.cell) ∈ scope.names
  ·refine Zg (hnew x hx) fun c' h1 h2 => ?_
   rw [h] at h1; cases h1;exact .inr ⟨Nat.le_of_succ_le h2, (hcell x c h h2).lt⟩
  ·rw [hold x hx] at h
   exact .inl ⟨cl_par x c h, h⟩
 refine ⟨⟨O.gok, hkind, O.globals, O.builtins, fun a h => .inr h, fun a h => .inl (O.tbav a h), ⟨Nat.le_refl _, hsz⟩, fun a h => Nat.le_trans h0 h.1, fun x c hx hkx hl => ?_, fun x c hl => ?_, (Zfo scope.names (s.heap.objs.size + 1) cl cl_lt (fun x y c h h' => O.inj x y c (cl_par x c h) (cl_par y c h') : ∀ x y c, cl.lookup x = some c -> cl.lookup y = some c -> x = y)), fun x hx => ?_, fun x c hl => ?_, fun x hx => ?_, ?_, O.code⟩, ?_, x, fun y c h => (av_cell y c h).imp (·.1) (·.1), hsz⟩
 ·refine Zg (hnew x (own_cell x hx hkx)) fun c' h1 h2 => ?_
  have hl : (cellsFrom (s.heap.objs.size + 1) scope.names cl).lookup x = some c := hl;rw [h1] at hl; cases hl;exact ⟨Nat.le_of_succ_le h2, (hcell x _ h1 h2).lt⟩
 ·rcases av_cell x c hl with h | h
  ·exact .inl (O.cellav x c h.1)
  ·exact .inr h
 ·rcases var_cases x (.inr hx) with h | h
  ·have : (XL C scope cl s.heap.objs.size).kindOf x = some .cell := by
    rcases hx with hx | hx
    ·exact hx
    ·rcases Xz.mp h with h | h
     ·have hx : (XL C scope cl s.heap.objs.size).kindOf x = some .free := hx
      rw [hk', YI hnd h] at hx; cases hx
     ·have hx : (XL C scope cl s.heap.objs.size).kindOf x = some .free := hx
      rw [hk', YI hnd h] at hx; cases hx
   refine Zg (hnew x (own_cell x h this)) fun c h1 _ => ?_;exact ⟨c, h1⟩
  ·have hx : (x, NameKind.cell) ∉ scope.names := fun z => by
    have := (YI hnd z).symm.trans (YI hnd h); cases this
   obtain ⟨c, hc⟩ := Option.isSome_iff_exists.mp (Zie _ _ _ hcl x h);exact ⟨c, (hold x hx).trans hc⟩
 ·rcases av_cell x c hl with h | h
  ·exact O.cell0 x c h.1
  ·exact Nat.le_trans h0 h.1
 ·rcases var_cases x hx with h | h
  ·exact List.mem_append.mpr (.inl h)
  ·exact List.mem_append.mpr (.inr (O.known x ((hfree x h).1.elim (fun z => .inr (.inl z)) fun z => .inr (.inr z))))
 ·show (XL C scope cl s.heap.objs.size).kindOf "__debug__" = none
  rw [hk', hdbg]; rfl
 ·have Im : Inv G (C.more fun a => s.heap.objs.size <= a /\ a < s'.heap.objs.size) β B σ s' := I.more x fun a h => h
  refine ⟨Im.wd, Im.low, ?_, fun y ya hy => ?_, fun y d e ky => ?_, ?_, Im.boxes⟩
  ·subst hs'
   exact ⟨_, (Heap.Ns.new s.heap (.type "dict")).keeps (pushCells_keeps _ _)⟩
  ·refine Zg (hnew y (own_cell y ya hy)) fun c h1 h2 => ?_
   exact ⟨c, none, h1, hcell y c h1 h2⟩
  ·have e : ((List.replicate (Yl scope.names).length none ++ σ)[(Yl scope.names ++ C.names).idxOf y]?).join = some d := e
   by_cases hy : y ∈ Yl scope.names
   ·have hi : (Yl scope.names ++ C.names).idxOf y < (Yl scope.names).length := by
     rw [List.idxOf_append, if_pos hy]; exact List.idxOf_lt_length_of_mem hy
    rw [List.getElem?_append_left (by simpa using hi), List.getElem?_replicate] at e;simp [hi] at e
   ·rw [List.idxOf_append, if_neg hy, List.getElem?_append_right (by simp), List.length_replicate] at e
    have hf := (var_cases y ky).resolve_left hy;refine Zg (Im.vars y d (by unfold Cx.look; rw [<- e]; congr 2; omega : C.look σ y = some d) ((hfree y hf).1.elim (fun z => .inr (.inl z)) fun z => .inr (.inr z))) fun v hb hr => ?_;refine ⟨v, .inr ⟨?_, ?_⟩, hr⟩
    ·rcases ky with ky | ky
     ·have ky : (XL C scope cl s.heap.objs.size).kindOf y = some .local := ky
      rw [hk', YI hnd hf] at ky;simp [K.rel] at ky
      split at ky <;> cases ky
     ·exact ky
    ·rcases hb with ⟨kb, _⟩ | ⟨_, c, hc', hv⟩
     ·have kb : C.env.kindOf y = some .local := kb
      rcases (hfree y hf).1 with z | z <;> (rw [z] at kb; cases kb)
     ·refine ⟨c, ?_, hv⟩
      obtain ⟨c', hc2⟩ := Option.isSome_iff_exists.mp (Zie _ _ _ hcl y hf);have := cl_par y c' hc2;have hc' : C.env.cells.lookup y = some c := hc';rw [this] at hc'; cases hc';exact (hold y (fun z => hy (Xz.mpr (.inr z)) : (y, NameKind.cell) ∉ scope.names)).trans hc2
  ·show (List.replicate _ none ++ σ).length = (Yl scope.names ++ C.names).length
   rw [List.length_append, List.length_append, List.length_replicate, I.slots]
end
noncomputable def Zm2 (e : Expr) (depth : Nat) (acc : Value) (env : Env) (emitT : Sem Unit) (k : Sem PySem.Fin) : Option Comprehension -> Sem PySem.Fin
 | none => do emitT; k
 | some g' => do
  let x <- eval g'.iter env
  standAt g'.iter.pos
  let x <- foldedSetIterable g'.iter env x
  let _ <- runOwn (.compStart e (depth + 1) (<- holding [x] (pyIter x)) acc env) env
  k
noncomputable def ZeJ (ifs : List Expr) (env : Env) : Sem Bool := forIn ifs true fun c r => if r = true then do let ok <- PySem.isTrue c env (eval c env); pure (ForInStep.yield ok) else pure (ForInStep.yield r)
noncomputable def Zkt (e : Expr) (depth : Nat) (it acc : Value) (env : Env) (emitT : Sem Unit) (g : Comprehension) (g' : Option Comprehension) : Sem PySem.Fin := do
 standAt g.iter.pos
 match <- pyNext it with
 | none => pure (.done .next)
 | some v =>
  letOwnedTupleGo g.target it v
  assign g.target env v
  let ok <- ZeJ g.ifs env
  if ok = true then
   Zm2 e depth acc env emitT (again (.compLoop e depth it acc env)) g'
  else again (.compLoop e depth it acc env)
noncomputable def Zj9 (elt : Expr) (acc : Value) (env : Env) : Sem Unit := do let _ <- call (.builtin "list.append") [acc, <- eval elt env]
noncomputable def Zkg (k v : Expr) (d : Addr) (env : Env) : Sem Unit := do
    let kv <- eval k env
    let vv <- holding [kv] (eval v env)
    standAt { k.pos with endLine := v.pos.endLine, endCol := v.pos.endCol }
    holding [kv, vv] (dictSet d kv vv)
theorem Zrm {elt : Expr} {gens : List Comprehension} {scope : Scope} {pos : Pos} {depth : Nat} {it acc : Value} {env : Env} {g : Comprehension} {g' : Option Comprehension} (h : gens[depth]? = some g) (ha : g.is_async = 0)
  (h' : gens[depth + 1]? = g') (hb : ∀ x, g' = some x -> x.is_async = 0) :
  compTurn (.ListComp elt gens scope pos) depth it acc env = Zkt (.ListComp elt gens scope pos) depth it acc env (Zj9 elt acc env) g g' := by
 obtain ⟨t, i, fs, as⟩ := g;obtain rfl : as = 0 := ha;unfold compTurn;dsimp only;rw [h, h']
 cases g' with
 | none => rfl
 | some g' =>
  obtain ⟨t', i', fs', as'⟩ := g';obtain rfl : as' = 0 := hb _ rfl;rfl
theorem Zq9 {kx vx : Expr} {gens : List Comprehension} {scope : Scope} {pos : Pos} {depth : Nat} {it : Value} {D : Addr} {env : Env} {g : Comprehension} {g' : Option Comprehension} (h : gens[depth]? = some g) (ha : g.is_async = 0)
  (h' : gens[depth + 1]? = g') (hb : ∀ x, g' = some x -> x.is_async = 0) :
  compTurn (.DictComp kx vx gens scope pos) depth it (.ref D) env = Zkt (.DictComp kx vx gens scope pos) depth it (.ref D) env (Zkg kx vx D env) g g' := by
 obtain ⟨t, i, fs, as⟩ := g;obtain rfl : as = 0 := ha;unfold compTurn;dsimp only;rw [h, h']
 cases g' with
 | none => rfl
 | some g' =>
  obtain ⟨t', i', fs', as'⟩ := g';obtain rfl : as' = 0 := hb _ rfl;rfl
theorem ZlY {e : Expr} {gens : List Comprehension} {depth : Nat} {it acc : Value} {env : Env} {g : Comprehension} (hc : clausesOf e = gens) (h : gens[depth]? = some g) (ha : g.is_async = 0) :
  compStart e depth it acc env = (do
   if (<- ask).params.followText "comprehension-iter-twice" then return <- again (.compLoop e depth it acc env)
   rule "comprehension.iter-twice"
   standAt g.iter.pos
   again (.compLoop e depth (<- pyIter it) acc env)) := by
 unfold compStart;rw [hc, h];simp [ha]
structure Xu where
 it : St -> Bx -> Option (Src × Bx)
 tp : Bool
 tgt : V -> St -> Option St
 ifs : St -> Bx -> Option (Bool × Bx)
noncomputable abbrev gs1 (i : St -> Bx -> Option (Src × Bx)) (c : St -> Bx -> Option (Bool × Bx)) : Xu := { it := i, tp := false, tgt := fun d σ => some (σ.set 1 (some d)), ifs := c }
noncomputable abbrev Zgu := St -> Bx -> V -> Option (Bx × V)
noncomputable abbrev ZaA := St × Bx × V
noncomputable def cl (step : V -> St -> Bx -> V -> Option ZaA) : Nat -> Src -> St -> Bx -> V -> Option ZaA
 | 0, _, _, _, _ => none
 | n + 1, src, σ, B, acc => match src.at B with
  | none => none
  | some none => some (σ, B, acc)
  | some (some x) => match step x σ B acc with
   | some (σ', B', acc') => cl step n src.adv σ' B' acc'
   | none => none
noncomputable def JL (S : Xu) (inner : St -> Bx -> V -> Option ZaA) (x : V) (σ : St) (B : Bx) (acc : V) : Option ZaA := match S.tgt x σ with
 | none => none
 | some σ₁ => match S.ifs σ₁ B with
  | none => none
  | some (false, B₁) => some (σ₁, B₁, acc)
  | some (true, B₁) => inner σ₁ B₁ acc
noncomputable def cgo (emit : Zgu) : List Xu -> St -> Bx -> V -> Option ZaA
 | [], σ, B, acc => (emit σ B acc).map fun r => (σ, r)
 | S :: Ss, σ, B, acc => match S.it σ B with
  | none => none
  | some (src, B₁) => cl (JL S (cgo emit Ss)) (src.fuel B₁) src σ B₁ acc
noncomputable def XD (C : Cx) (D : Addr) (a : Addr) : Prop := C.mu a \/ a = D
structure Zdt (G : GC) (H : Nat) (k : K) (g : Comprehension) (S : Xu) : Prop where
 sync : g.is_async = 0
 ok : ZdZ S.tp g.target = true
 tgt : ∀ C, Zv G C -> Xi k C -> ∀ σ B x σ', S.tgt x σ = some σ' -> Zim G H C σ B (assign g.target C.env) x σ' B
 ifs : ∀ C, Zv G C -> Xi k C -> ∀ σ B b B', S.ifs σ B = some (b, B') -> EvB G H C σ B (ZeJ g.ifs C.env) b B'
structure ZqD (G : GC) (H : Nat) (k : K) (g : Comprehension) (S : Xu) : Prop where
 fold : ∀ env x, foldedSetIterable g.iter env x = pure x
 it : ∀ C, Zv G C -> Xi k C -> ∀ σ B src B', S.it σ B = some (src, B') -> Zjj G H C σ B (eval g.iter C.env) src S.tp B'
inductive Zb9 (G : GC) (H : Nat) (k : K) : List Comprehension -> List Xu -> Prop
 | nil : Zb9 G H k [] []
 | cons (g : Comprehension) (gs : List Comprehension) (S : Xu) (Ss : List Xu) : Zdt G H k g S -> ZqD G H k g S -> Zb9 G H k gs Ss -> Zb9 G H k (g :: gs) (S :: Ss)
noncomputable def Zdn (G : GC) (H : Nat) (k : K) (emitT : Addr -> Env -> Sem Unit) (emit : Zgu) : Prop :=
 ∀ C D, Zv G C -> Xi k C -> Xp G C (Yi D) -> ∀ A β s σ B acc B' acc', AOk H A -> Inv G C β B σ s -> Yf G (avB C.av β) β s.heap D acc -> emit σ B acc = some (B', acc') ->
  Ok G.prog G.w A (emitT D C.env) s fun _ s' => ∃ β', Adv G (XD C D) β s β' s' /\ Inv G C β' B' σ s' /\ Yf G (avB C.av β') β' s'.heap D acc'
structure ZdF (G : GC) (e : Expr) (gens : List Comprehension) (emitT : Addr -> Env -> Sem Unit) : Prop where
 turn : ∀ depth it D env g g', gens[depth]? = some g -> g.is_async = 0 -> gens[depth + 1]? = g' -> (∀ x, g' = some x -> x.is_async = 0) -> compTurn e depth it (.ref D) env = Zkt e depth it (.ref D) env (emitT D env) g g'
 clauses : clausesOf e = gens
 frL : ∀ d it acc env, (Code.compLoop e d it acc env).isFrame = false
 frS : ∀ d it acc env, (Code.compStart e d it acc env).isFrame = false
 undL : ∀ (A : Around) d it acc env, A.under (Code.compLoop e d it acc env) = A
section
variable {G : GC} {C : Cx} {β β' : List Addr} {B B' B₁ : Bx} {σ σ' : St} {s s' : Shared} {H : Nat} {acc acc' : V} {v : Value} {b : Bool} {ds : List V} {ow : Addr -> Prop} {tp : Bool} {it : Value} {src : Src} {r : Out} {k : K} {D : Addr} {X : Addr -> Prop}
theorem Y9.advX (O : Zv G C) (W : Xp G C ow) (I : Inv G C β B σ s) (T : Y9 G C β s ow tp it src) (a : Adv G X β s β' s') (hX : ∀ q, X q -> C.av q) (hn : ∀ q, ow q -> ¬ X q) : Y9 G C β' s' ow tp it src :=
 T.move (a.repKeep O hX) a.pre' fun b o h e => a.grow.keep b o e (by
  rintro (z | z)
  ·exact hn b h z
  ·exact I.boxes.apart b z (W.sub b h)) fun ⟨c, z⟩ => absurd (O.gok.tabs c b z).2.1 (Nat.not_lt.mpr (W.high b h))
theorem Yf.advX (O : Zv G C) (WD : Xp G C (Yi D)) (I : Inv G C β B σ s) (q : Yf G (avB C.av β) β s.heap D acc) (a : Adv G X β s β' s') (hX : ∀ q, X q -> C.av q) (hn : ¬ X D) : Yf G (avB C.av β') β' s'.heap D acc :=
 q.mono (a.repKeep O hX) a.pre' fun o e => a.grow.keep D o e (by
  rintro (z | z)
  ·exact hn z
  ·exact I.boxes.apart D z (WD.sub D rfl)) fun ⟨c, z⟩ => absurd (O.gok.tabs c D z).2.1 (Nat.not_lt.mpr (WD.high D rfl))
theorem Yf.stepO (W : Xp G C ow) (q : Yf G (avB C.av β) β s.heap D acc) (x : YC ow s s') (hn : ¬ ow D) : Yf G (avB C.av β) β s'.heap D acc :=
 q.mono (fun b o e n => ⟨x.keep b o (fun z => n (.inl (W.sub b z))) e, n⟩) (fun _ _ z => z) fun o e => x.keep D o hn e
theorem Xp.more (WD : Xp G C (Yi D)) (ow : Addr -> Prop) : Xp G (C.more ow) (Yi D) := ⟨fun a h => .inl (WD.sub a h), WD.nomu, WD.high, WD.nocell⟩
theorem Yf.less (q : Yf G (avB (C.more ow).av β) β s.heap D acc) : Yf G (avB C.av β) β s.heap D acc := q.mono (fun b o e n => ⟨e, fun z => n (Zdg ow b z)⟩) (fun _ _ z => z) fun o e => e
theorem Zd7 : entryFor table "dict_itemiterator.__iter__" = some Builtin.«dict_keyiterator.__iter__» :=
 entryFor_alias (id' := "dict_keyiterator.__iter__") (by kernel_rfl) rfl (by decide +kernel) (by kernel_rfl)
theorem ZfB {A : Around} (T : Y9 G C β s ow tp it src) {E : Value -> Shared -> Prop} {Q : Value -> Shared -> Prop} (h : Q it s) : wpAny (model G.prog G.w) A (pyIter it) Q E s := by
 induction T with
 | list h1 _ _ _ => exact wpAny_pyIter_listiter h1 h
 | tup h1 _ _ _ => exact wpAny_pyIter_tupleiter h1 h
 | range h1 _ => exact wpAny_pyIter_rangeiter h1 h
 | keys h1 _ _ => exact wpAny_pyIter_keyiter h1 h
 | vals h1 _ _ _ => exact wpAny_pyIter_valiter h1 h
 | @items I a kvs ep i ok ov ds h1 h2 h3 h4 =>
  have hT : s.TypeIs (.ref I) "dict_itemiterator" := ⟨_, h1, rfl⟩;refine wpAny_pyIter_slot hT PySem.F.slot_dict_itemiterator_iter (wpAny_call_entry PySem.F.slot_dict_itemiterator_iter hT Zd7 ?_ (PySem.F.args_dict_itemiterator_iter_1 _));show wpAny _ _ (ret (.ref I)) _ _ s;exact wpAny_pure ⟨_, rfl, "dict_itemiterator", _, hT, PySem.F.slot_dict_itemiterator_next.lookup, h⟩
 | zip _ h1 _ _ _ _ _ _ _ _ _ _ => exact wpAny_pyIter_zip h1 h
 | str h1 => exact wpAny_pyIter_striter_ascii h1 h
 | box h1 _ => exact wpAny_pyIter_listiter h1 h
theorem ZhF {e : Expr} {gens : List Comprehension} {emitT : Addr -> Env -> Sem Unit} (ce : ZdF G e gens emitT) {depth : Nat} {env : Env} {g : Comprehension} {R : Result -> Shared -> Prop} {A : Around} {accv : Value} (h : gens[depth]? = some g) (ha : g.is_async = 0)
  (h0 : codeAny (model G.prog G.w) A (.compLoop e depth it accv env) R s) (hs : ∀ (A : Around) (E : Value -> Shared -> Prop) (Q : Value -> Shared -> Prop), Q it s -> wpAny (model G.prog G.w) A (pyIter it) Q E s) :
  codeAny (model G.prog G.w) A (.compStart e depth it accv env) R s := by
 refine codeAny_of_tree ?_;show wpAny _ _ (if (Code.compStart e depth it accv env).isFrame then _ else (compStart e depth it accv env).onRaise (fun x => do noteFrame x env; standAt theWindowsPlace)) _ _ s;rw [ce.frS, if_neg (by simp)];refine wpAny_notedAt ?_;rw [ZlY ce.clauses h ha];refine wpAny_bind (wpAny_askSetting (wpAny_ite ?_))
 split
 ·exact wpAny_bind (wpAny_pure (wpAny_pure (And.intro rfl h0)))
 ·exact wpAny_bind (wpAny_rule (wpAny_bind (wpAny_standAt (wpAny_bind (hs _ _ _ (wpAny_pure (And.intro rfl h0)))))))
theorem Zqd {step : V -> St -> Bx -> V -> Option ZaA} {n : Nat} {r : ZaA} (h : cl step n src σ B acc = some r) : ∃ m, n = m + 1 /\ ((src.at B = some none /\ r = (σ, B, acc)) \/ ∃ x o, src.at B = some (some x) /\ step x σ B acc = some o /\ cl step m src.adv o.1 o.2.1 o.2.2 = some r) := by
 cases n with
 | zero => exact nn h
 | succ n =>
  unfold cl at h
  split at h
  ·exact nn h
  ·exact ⟨n, rfl, .inl ⟨‹_›, (Option.some.inj h).symm⟩⟩
  ·split at h
   ·exact ⟨n, rfl, .inr ⟨_, _, ‹_›, ‹_›, h⟩⟩
   ·exact nn h
theorem ZiP {S : Xu} {inner : St -> Bx -> V -> Option ZaA} {x : V} {o : ZaA} (h : JL S inner x σ B acc = some o) : ∃ σ₁ b B₁, S.tgt x σ = some σ₁ /\ S.ifs σ₁ B = some (b, B₁) /\ if b then inner σ₁ B₁ acc = some o else o = (σ₁, B₁, acc) := by
 unfold JL at h
 split at h
 ·exact nn h
 ·split at h
  ·exact nn h
  ·exact ⟨_, false, _, ‹_›, ‹_›, (Option.some.inj h).symm⟩
  ·exact ⟨_, true, _, ‹_›, ‹_›, h⟩
noncomputable def ZrU (G : GC) (H : Nat) (C : Cx) (D : Addr) (e : Expr) (depth : Nat) (emitT : Addr -> Env -> Sem Unit) (g' : Option Comprehension) (inner : St -> Bx -> V -> Option ZaA) : Prop :=
 ∀ A s β σ B acc o, AOk H A -> Inv G C β B σ s -> Yf G (avB C.av β) β s.heap D acc -> inner σ B acc = some o -> ∀ (kk : Sem PySem.Fin) (Q : PySem.Fin -> Shared -> Prop) (E : Value -> Shared -> Prop),
  (∀ β' s', Adv G (XD C D) β s β' s' -> Inv G C β' o.2.1 o.1 s' -> Yf G (avB C.av β') β' s'.heap D o.2.2 -> wpAny (model G.prog G.w) A kk Q E s') -> wpAny (model G.prog G.w) A (Zm2 e depth (.ref D) C.env (emitT D C.env) kk g') Q E s
noncomputable def Ztr (G : GC) (C : Cx) (X : Addr -> Prop) (β : List Addr) (s : Shared) (ow : Addr -> Prop) (tp : Bool) (it : Value) (D : Addr) (step : V -> St -> Bx -> V -> Option ZaA) (r : ZaA) (n : Nat) (s' : Shared) : Prop :=
 ∃ β' σ' B' acc' src', Adv G X β s β' s' /\ Inv G (C.more ow) β' B' σ' s' /\ Y9 G (C.more ow) β' s' ow tp it src' /\ Yf G (avB (C.more ow).av β') β' s'.heap D acc' /\ cl step n src' σ' B' acc' = some r
theorem ZfC {e : Expr} {gens : List Comprehension} {emitT : Addr -> Env -> Sem Unit} (ce : ZdF G e gens emitT) {g : Comprehension} {S : Xu} {depth : Nat} {g' : Option Comprehension} (hg : Zdt G H k g S) (h1 : gens[depth]? = some g) (h2 : gens[depth + 1]? = g')
  (hb : ∀ x, g' = some x -> x.is_async = 0) {inner : St -> Bx -> V -> Option ZaA} {A : Around} {s₀ : Shared} {β₀ : List Addr} {n : Nat} {r : ZaA} {R : Result -> Shared -> Prop} {X' : Addr -> Prop} (O : Zv G C) (F : Xi k C) (WD : Xp G C (Yi D)) (W : Xp G (C.more ow) ow)
  (hX' : ∀ a, XD C D a -> X' a) (how : ∀ a, ow a -> s₀.heap.objs.size <= a \/ X' a) (hD : ∀ a, ow a -> a ≠ D) (hA : AOk H A) (a'0 : Adv G X' β₀ s₀ β s) (I : Inv G (C.more ow) β B σ s) (T : Y9 G (C.more ow) β s ow S.tp it src) (q : Yf G (avB (C.more ow).av β) β s.heap D acc)
  (h : cl (JL S inner) n src σ B acc = some r) (hR : ∀ β' s', Adv G X' β₀ s₀ β' s' -> Inv G (C.more ow) β' r.2.1 r.1 s' -> Yf G (avB (C.more ow).av β') β' s'.heap D r.2.2 -> R (.ok .next) s') (hin : ZrU G H (C.more ow) D e depth emitT g' inner) :
  codeAny (model G.prog G.w) A (.compLoop e depth it (.ref D) C.env) R s := by
 have O' := O.more ow;have WD' := WD.more ow;have hXav : ∀ a, XD C D a -> (C.more ow).av a := fun a z => z.elim (fun z => .inl (O.muav a z)) fun z => .inl (WD.sub a z);have hXow : ∀ a, ow a -> ¬ XD C D a := fun a z z' => z'.elim (W.nomu a z) (hD a z);have hDow : ¬ ow D := fun z => hD D z rfl;have hmD := WD.nomu D rfl;have F' := F.more ow
 have adv : ∀ {β1 s'1 s'2}, Adv G X' β₀ s₀ β1 s'1 -> YC ow s'1 s'2 -> Adv G X' β₀ s₀ β1 s'2 := fun a'1 hp =>
  ⟨a'1.pre, fun b o e n t => hp.keep b o (fun z => (how b z).elim (fun z => absurd (Heap.lt_size e) (Nat.not_lt.mpr z)) fun z => n (.inl z)) (a'1.grow.keep b o e n t), Nat.le_trans a'1.grow.size hp.size⟩
 have hAu : AOk H (A.under (Code.compLoop e depth it (.ref D) C.env)) := by rw [ce.undL]; exact hA
 refine codeAny_loop rfl (Ztr G C X' β₀ s₀ ow S.tp it D (JL S inner) r) ?_ n
  ⟨β, σ, B, acc, src, a'0, I, T, q, h⟩
 clear O F WD how hD hA a'0 I T q h
 rintro n s'1 ⟨β1, σ₁, B₁, acc1, src1, a'1, i'1, T'1, q'1, h₁⟩
 show wpAny _ _ (if (Code.compLoop e depth it (.ref D) C.env).isFrame then _ else (compTurn e depth it (.ref D) C.env).onRaise (fun x => do noteFrame x C.env; theTreesLotGoes x)) _ _ s'1;rw [ce.frL, if_neg Bool.false_ne_true];refine wpAny_noted ?_;rw [ce.turn depth it D C.env g g' h1 hg.sync h2 hb];unfold Zkt;refine wpAny_bind (wpAny_standAt ?_);refine Zg (Zqd h₁) fun m hm h₁ => ?_;rcases h₁ with ⟨hat, hr⟩ | ⟨x, o, hat, hst, h₁⟩
 ·refine wpAny_bind ((ZbO O' hAu i'1 W T'1 hat).to fun p s'2 hp => ?_)
  cases p with
  | some v => exact hp.elim
  | none =>
   refine wpAny_pure (hR β1 s'2 (adv a'1 hp) ?_ ?_) <;> rw [hr]
   ·exact YC.inv O' W i'1 hp
   ·exact q'1.stepO W hp hDow
 ·refine wpAny_bind ((ZbO O' hAu i'1 W T'1 hat).to fun p s'2 hp => ?_)
  cases p with
  | none => exact hp.elim
  | some v =>
   refine wpAny_bind ((hp g.target hg.ok).to fun _ s'3 hz => ?_);refine Xx hz fun x3 r'3 T3 => ?_;have i3 := YC.inv O' W i'1 x3;have q'3 := q'1.stepO W x3 hDow;have a'3 := adv a'1 x3;clear hp i'1 q'1 a'1 T'1 hat x3 adv;refine YD (ZiP hst) fun σ2 b B5 htg hif hst => ?_;refine wpAny_bind ((hg.tgt _ O' F' σ₁ B₁ x σ2 htg _ β1 s'3 v hAu i3 r'3).t2 fun _ s'4 β4 a'4 i'4 => ?_);have a04 := a'3.trans (a'4.mono fun a z => hX' a (.inl z));have q'4 := q'3.advX O' WD' i3 a'4 O'.muav hmD;have T4 := T3.adv O' W i3 a'4;clear i3 r'3 T3 q'3 a'3 a'4 htg;refine wpAny_bind ((hg.ifs _ O' F' _ _ b _ hif _ β4 s'4 hAu i'4).t3 fun ok s'5 β5 a'5 i5 e'5 => ?_);have a05 := a04.trans (a'5.mono fun a z => hX' a (.inl z));have q'5 := q'4.advX O' WD' i'4 a'5 O'.muav hmD;have T5 := T4.adv O' W i'4 a'5;clear i'4 T4 q'4 a04 a'5 hif;rw [e'5]
   cases b with
   | false =>
    rw [if_neg Bool.false_ne_true];rw [show o = (σ2, B5, acc1) from hst] at h₁;exact wpAny_pure ⟨rfl, m, hm ▸ Nat.lt_succ_self m, β5, _, _, _, _, a05, i5, T5, q'5, h₁⟩
   | true =>
    rw [if_pos rfl];exact hin _ s'5 β5 σ2 B5 acc1 o hAu i5 q'5 hst _ _ _ fun β6 s6 a'6 i6 q'6 => wpAny_pure ⟨rfl, m, hm ▸ Nat.lt_succ_self m, β6, _, _, _, _, a05.trans (a'6.mono hX'), i6, T5.advX O' W i5 a'6 hXav hXow, q'6, h₁⟩
set_option tactic.hygienic true in
theorem Zls {e : Expr} {gens : List Comprehension} {emitT : Addr -> Env -> Sem Unit} {emit : Zgu} (ce : ZdF G e gens emitT) (hem : Zdn G H k emitT emit) {rest : List Comprehension} {Ss : List Xu} (hrest : Zb9 G H k rest Ss) :
  ∀ (pre : List Comprehension) (g : Comprehension) (S : Xu), Zdt G H k g S -> gens = pre ++ g :: rest -> ∀ {C : Cx} {D : Addr} {ow : Addr -> Prop} {A : Around} {s₀ s : Shared} {β₀ β : List Addr} {n : Nat} {src : Src} {σ : St} {B : Bx} {acc : V} {r : ZaA} {it : Value} {R : Result -> Shared -> Prop} {X' : Addr -> Prop},
   Zv G C -> Xi k C -> Xp G C (Yi D) -> Xp G (C.more ow) ow -> (∀ a, XD C D a -> X' a) -> (∀ a, ow a -> s₀.heap.objs.size <= a \/ X' a) -> (∀ a, ow a -> a ≠ D) -> AOk H A -> Adv G X' β₀ s₀ β s -> Inv G (C.more ow) β B σ s ->
   Y9 G (C.more ow) β s ow S.tp it src -> Yf G (avB (C.more ow).av β) β s.heap D acc -> cl (JL S (cgo emit Ss)) n src σ B acc = some r ->
   (∀ β' s', Adv G X' β₀ s₀ β' s' -> Inv G (C.more ow) β' r.2.1 r.1 s' -> Yf G (avB (C.more ow).av β') β' s'.heap D r.2.2 -> R (.ok .next) s') ->
   codeAny (model G.prog G.w) A (.compLoop e pre.length it (.ref D) C.env) R s := by
 induction hrest with
 | nil =>
  intro pre g S hg hgens C D ow A s₀ s β₀ β n src σ B acc r it R X' O F WD W hX' how hD hA a'0 I T q h hR;refine ZfC (g' := none) ce hg (by rw [hgens]; exact List.getElem?_concat_length) (by rw [hgens]; exact List.getElem?_eq_none_iff.mpr (by rw [List.length_append]; exact Nat.le_refl _)) (fun x z => nomatch z) O F WD W hX' how hD hA a'0 I T q h hR ?_;intro A s β σ B acc o hAu i5 q'5 hst kk Q E hk;refine Zp hst fun p hem' hout => ?_;rw [<- hout] at hk;exact wpAny_bind ((hem _ D (O.more ow) (F.more ow) (WD.more ow) _ β s _ _ _ _ _ hAu i5 q'5 hem').t3 fun _ s6 β6 a'6 i6 q'6 => hk β6 s6 a'6 i6 q'6)
 | cons g' gs' S' Ss' hg' hit' hrest' ih =>
  intro pre g S hg hgens C D ow A s₀ s β₀ β n src σ B acc r it R X' O F WD W hX' how hD hA a'0 I T q h hR;have hlen : (pre ++ [g]).length = pre.length + 1 := List.length_append;have hg2 : gens = (pre ++ [g]) ++ g' :: gs' := by rw [hgens, List.append_assoc]; rfl
  have hnx : gens[pre.length + 1]? = some g' := by rw [hg2, <- hlen, List.getElem?_append_right (Nat.le_refl _), Nat.sub_self]; rfl
  refine ZfC ce hg (by rw [hgens, List.getElem?_append_right (Nat.le_refl _), Nat.sub_self]; rfl) hnx (fun x z => Option.some.inj z ▸ hg'.sync) O F WD W hX' how hD hA a'0 I T q h hR ?_;have O' := O.more ow;have WD' := WD.more ow;have F' := F.more ow;have hmD := WD.nomu D rfl;have hDh := WD.high D rfl;clear W hX' how hD hA a'0 I T q h hR WD F;intro A s'5 β5 σ2 B5 acc1 o hAu i5 q'5 hst kk Q E hk;unfold cgo at hst
  split at hst
  ·exact nn hst
  ·rename_i src6 B6 hsrc
   unfold Zm2;refine wpAny_bind ((hit'.it _ O' F' σ2 B5 src6 B6 hsrc _ β5 s'5 hAu i5).to fun y s6 hy => ?_);refine wpAny_bind (wpAny_standAt (wpAny_bind (wpAny_of_eq (hit'.fold _ _) ?_)));refine wpAny_bind (wpAny_holding (hy.to fun it' s7 hz => ?_));refine ZeG hz fun β7 ow' a7 how' i7 W' T7 => ?_
   have q7' : Yf G (avB ((C.more ow).more ow').av β7) β7 s7.heap D acc1 := by
    refine q'5.mono (fun b o e n => ?_) a7.pre' fun o e => a7.grow.keep D o e (fun z => z.elim hmD fun z => i5.boxes.apart D z (WD'.sub D rfl)) fun ⟨c, z⟩ => absurd (O.gok.tabs c D z).2.1 (Nat.not_lt.mpr hDh);obtain ⟨e1, e2⟩ := a7.repKeep O' O'.muav b o e n;exact ⟨e1, fun z => z.elim (fun z => z.elim (fun z => e2 (.inl z)) fun z => absurd (Heap.lt_size e) (Nat.not_lt.mpr (how' b z))) fun z => e2 (.inr z)⟩
   refine wpAny_bind (wpAny_runOwn ?_);refine ZhF ce (g := g') hnx hg'.sync ?_ fun A E Q hq => ZfB T7 hq;rw [<- hlen]
   exact ih (pre ++ [g]) g' S' hg' hg2 (C := C.more ow) (s₀ := s'5) (β₀ := β5) O' F' WD' W' (X' := XD C D) (fun a z => z) (fun a z => .inl (how' a z)) (fun a z e => absurd (let ⟨o, e⟩ := Zdy q'5; Heap.lt_size e : D < s'5.heap.objs.size) (Nat.not_lt.mpr (e ▸ how' a z)) : ∀ a, ow' a -> a ≠ D) hAu (a7.mono fun a z => .inl z) i7 T7 q7' hst fun β8 s8 a8 i8 q'8 =>
    hk β8 s8 a8 i8.less q'8.less
end
section
variable {G : GC} {C : Cx} {β β' β'' : List Addr} {B B' B₁ : Bx} {σ : St} {s s' s'' : Shared} {H : Nat} {d acc acc0 : V} {v : Value} {b : Bool} {ow : Addr -> Prop} {tp : Bool} {it : Value} {src : Src} {r : Out} {k : K} {D : Addr} {X : Addr -> Prop}
noncomputable def Cx.withAv (C : Cx) (p : Addr -> Prop) : Cx := { C with av := p }
theorem Inv.weak {p : Addr -> Prop} (I : Inv G (C.withAv p) β B σ s) {q : Addr -> Prop} (h : ∀ a, q a -> p a) : Inv G (C.withAv q) β B σ s := by
 have hm : ∀ a, avB q β a -> avB p β a := fun a z => z.imp (h a) id;refine ⟨I.wd, fun a z => I.low a (h a z), I.ns, I.cells, fun y d e k => ?_, I.slots, I.boxes.len, I.boxes.nodup, fun a ha z => I.boxes.apart a ha (h a z), I.boxes.high, fun n a d e1 e2 => ?_⟩
 ·refine Zg (I.vars y d e k) fun v b r => ?_
  exact ⟨v, b, Zgv hm r⟩
 ·exact (I.boxes.at' n a d e1 e2).mono (fun b o e n => ⟨e, fun z => n (hm b z)⟩) (fun _ _ z => z) fun o z => z
theorem Inv.back (O : Zv G C) (I : Inv G C β B σ s) (a : Adv G X β s β' s') (hX : ∀ q, X q -> C.av q) (hL : ¬ X C.env.locals) (hc : ∀ x c, C.env.cells.lookup x = some c -> ¬ X c)
  (W : Wd G s') (Bx' : ZbY G C.av β' B' s'.heap) : Inv G C β' B' σ s' := by
 have h0 : ∀ {q}, G.H0.objs.size <= q -> ¬ G.Tb q := fun h ⟨c, z⟩ => absurd (O.gok.tabs c _ z).2.1 (Nat.not_lt.mpr h);have hβ : ∀ q, C.av q -> q ∉ β := fun q h z => I.boxes.apart q z h
 have hcell : ∀ {x c v}, C.env.cells.lookup x = some c -> s.heap.IsCell c v -> s'.heap.IsCell c v := fun hc' ⟨o, e1, e2⟩ =>
  ⟨o, a.grow.keep _ o e1 (fun z => z.elim (hc _ _ hc') (hβ _ (O.cellav _ _ hc'))) (h0 (O.cell0 _ _ hc')), e2⟩
 have hns : ∀ {m}, s.heap.Ns C.env.locals m -> s'.heap.Ns C.env.locals m := fun hn => hn.at fun o e => a.grow.keep _ o e (fun z => z.elim hL (hβ _ (O.muav _ O.muL))) (h0 (O.mu0 _ O.muL));refine ⟨W, fun q h => Nat.lt_of_lt_of_le (I.low q h) a.grow.size, let ⟨m, hn⟩ := I.ns; ⟨m, hns hn⟩, fun x xa hx => let ⟨c, v, h1, h2⟩ := I.cells x xa hx; ⟨c, v, h1, hcell h1 h2⟩, fun y d e ky => ?_, I.slots, Bx'⟩;refine Zg (I.vars y d e ky) fun v b r => ?_;refine ⟨v, ?_, Rep.mono (a.repKeep O hX) a.pre' r⟩;rcases b with ⟨k1, m, hn, hm⟩ | ⟨k1, c, hc', hv⟩
 ·exact .inl ⟨k1, m, hns hn, hm⟩
 ·exact .inr ⟨k1, c, hc', hcell hc' hv⟩
theorem ZbY.weak {p q : Addr -> Prop} {h : Heap} (x : ZbY G p β B h) (hq : ∀ a, q a -> p a) : ZbY G q β B h :=
 ⟨x.len, x.nodup, fun a ha z => x.apart a ha (hq a z), x.high, fun n a d e1 e2 => (x.at' n a d e1 e2).mono (fun b o e n => ⟨e, fun z => n (z.imp (hq b) id)⟩) (fun _ _ z => z) fun o z => z⟩
theorem Adv.transF {Y : Addr -> Prop} (x : Adv G X β s β' s') (y : Adv G Y β' s' β'' s'') (h : ∀ q, Y q -> X q \/ s.heap.objs.size <= q) : Adv G X β s β'' s'' := by
 refine Zg x.pre fun βn z_1 h1 => ?_;subst z_1;refine Zg y.pre fun βm z_1 h2 => ?_;subst z_1;refine ⟨⟨βn ++ βm, by simp, fun a ha => ?_⟩, x.grow.trans y.grow fun q hq hy => ?_⟩
 ·rcases List.mem_append.mp ha with h | h
  ·exact h1 a h
  ·exact Nat.le_trans x.grow.size (h2 a h)
 ·rcases hy with hy | hy
  ·rcases h q hy with z | z
   ·exact .inl z
   ·exact absurd hq (Nat.not_lt.mpr z)
  ·rcases List.mem_append.mp hy with h | h
   ·exact .inr h
   ·exact absurd hq (Nat.not_lt.mpr (h1 q h))
noncomputable def Zp8 (G : GC) (C : Cx) (β : List Addr) (σ : St) (s : Shared) (acc : V) (B' : Bx) (D n : Addr) (s' : Shared) : Prop :=
 ∃ p, (∀ a, C.av a -> p a) /\ p n /\ s.heap.objs.size <= n /\ D ≠ n /\ (∃ m, s'.heap.Ns n m) /\ Zv G (C.withAv p) /\ Xr G (C.withAv p) β σ s acc B' (.ref D) s'
theorem ZhA {e : Expr} {g : Comprehension} {rest : List Comprehension} {emitT : Addr -> Env -> Sem Unit} {emit : Zgu} {S : Xu} {Ss : List Xu} {scope : Scope} {pos : Pos} {newAcc : Sem Value} {o0 : Obj} {r : ZaA} {use : Option (Value -> Sem Unit)}
  (O : Zv G C) (F : Xi k C) (ce : ZdF G e (g :: rest) emitT) (hem : Zdn G H (k.child scope) emitT emit) (hg : Zdt G H (k.child scope) g S) (hrest : Zb9 G H (k.child scope) rest Ss) (hc : ZaL k scope = true)
  (hfold : ∀ x, foldedSetIterable g.iter C.env x = pure x) (hi : Zjj G H C σ B (eval g.iter C.env) src S.tp B₁)
  (hacc : ∀ (A : Around) (s : Shared) (Q : Value -> Shared -> Prop) (E : Value -> Shared -> Prop), Q (.ref s.heap.objs.size) { s with heap := s.heap.push o0 } -> wpAny (model G.prog G.w) A newAcc Q E s)
  (hbox : ∀ (av : Addr -> Prop) (β : List Addr) (h : Heap), (h.objs.size == sysModules) = false -> Yf G av β (h.push o0) h.objs.size acc0)
  (h : cl (JL S (cgo emit Ss)) (src.fuel B₁) src (List.replicate (Yl scope.names).length none ++ σ) B₁ acc0 = some r)
  {A : Around} {E : Value -> Shared -> Prop} {Q : Value -> Shared -> Prop} (hA : AOk H A) (I : Inv G C β B σ s)
  (hQ : ∀ D n s', Zp8 G C β σ s r.2.2 r.2.1 D n s' -> compPost (model G.prog G.w) A E use Q (.ref D) n (.ok .next) s') :
  wpAny (model G.prog G.w) A (comprehension e scope C.env pos newAcc false (eval g.iter C.env) use) Q E s := by
 have hcc := hc;unfold ZaL at hcc;simp only [Bool.and_eq_true, beq_iff_eq, decide_eq_true_eq, List.all_eq_true, Option.isNone_iff_eq_none] at hcc;obtain ⟨⟨⟨hkind, hnd⟩, hdbg⟩, hall⟩ := hcc
 obtain ⟨cl', hcl⟩ := ZlW (C := C) O.has scope.names [] fun x hx hf => by
  have := hall x hx;rw [hf] at this;rw [F.kind];simp only [bne_self_eq_false, Bool.false_or, Bool.and_eq_true, Bool.or_eq_true, beq_iff_eq] at this;exact this.1
 refine wpAny_comprehension_free ce.clauses hfold (ZdJ hcl) hkind (fun x hx hl => YI hnd (by rw [<- hl]; exact hx)) ?_;refine (hi A β s hA I).to fun x s'1 hx => hx.to fun it s'2 hz => ?_;refine ZeG hz fun β2 ow a'2 how i'2 W T => ?_;refine hacc A s'2 _ E ?_;have O2 := O.more ow;have x3 := Ext.push s'2 o0;have hD : ∀ a, Yi s'2.heap.objs.size a -> s'2.heap.objs.size <= a /\ a < ({ s'2 with heap := s'2.heap.push o0 } : Shared).heap.objs.size := fun a z => ⟨Nat.le_of_eq z.symm, by show a < (s'2.heap.push o0).objs.size; rw [Heap.size_push]; exact z ▸ Nat.lt_succ_self _⟩;have i3 := i'2.more x3 hD;have O3 := O2.more (Yi s'2.heap.objs.size);have WD3 : Xp G ((C.more ow).more (Yi s'2.heap.objs.size)) (Yi s'2.heap.objs.size) := Zgh O2 i'2 fun a z => Nat.le_of_eq z.symm;have q'3 : Yf G (avB ((C.more ow).more (Yi s'2.heap.objs.size)).av β2) β2 (s'2.heap.push o0) s'2.heap.objs.size acc0 := hbox _ _ _ (ZiB O2 i'2 (Nat.le_refl _));generalize hs3 : ({ s'2 with heap := s'2.heap.push o0 } : Shared) = s'3 at i3 x3 hD ⊢;have q'3 : Yf G (avB ((C.more ow).more (Yi s'2.heap.objs.size)).av β2) β2 s'3.heap s'2.heap.objs.size acc0 := by rw [<- hs3]; exact q'3
 have hDlt : s'2.heap.objs.size < s'3.heap.objs.size := (hD _ rfl).2;have hsD : s.heap.objs.size <= s'2.heap.objs.size := a'2.grow.size;have lt2 : ∀ b o, s'2.heap.get? b = some o -> b < s'2.heap.objs.size := fun b o e => Heap.lt_size e;have low2 : ∀ a, (C.more ow).av a -> a < s'2.heap.objs.size := i'2.low;refine Zk1 ?_;generalize hs4 : ({ s'3 with heap := pushCells (s'3.heap.push { cls := .type "dict", data := .dict #[] }) scope.names } : Shared) = s'4;refine ZfN (Zq1 (s' := s'4) O3 ((F.more ow).more (Yi s'2.heap.objs.size)) i3 hc (cl := cl') hcl hs4.symm) fun O'4 i'4 x4 hcells hlt => ?_;clear hs3 hs4 hD;generalize s'2.heap.objs.size = D at *;generalize hn : s'3.heap.objs.size = n at *;generalize hm : s'4.heap.objs.size = m at *;generalize hC4 : ((C.more ow).more (Yi D)).sub (XL ((C.more ow).more (Yi D)) scope cl' n) scope n m = C4 at O'4 i'4;have env4 : C4.env = XL ((C.more ow).more (Yi D)) scope cl' n := by rw [<- hC4]; rfl
 have av4 : C4.av = fun a => ((C.av a \/ ow a) \/ a = D) \/ (n <= a /\ a < m) := by rw [<- hC4]; rfl
 have mu4 : C4.mu = fun a => n <= a /\ a < m := by rw [<- hC4]; rfl
 show codeAny (model G.prog G.w) A (.compStart e 0 it (.ref D) (XL ((C.more ow).more (Yi D)) scope cl' n)) (compPost (model G.prog G.w) A E use Q (.ref D) n) s'4;rw [<- env4];have how4 : ∀ a, ow a -> a < D := fun a z => low2 a (.inr z)
 have T4 : Y9 G (C4.more ow) β2 s'4 ow S.tp it src := by
  refine T.move (fun b o e nav => ⟨x4.keep b o (x3.keep b o e), ?_⟩) (fun _ _ z => z) fun b o _ e => x4.keep b o (x3.keep b o e);have hb := lt2 b o e
  rintro (z | z)
  ·have z : C4.av b \/ ow b := z
   rw [av4] at z;rcases z with (((z | z) | z) | z) | z
   ·exact nav (.inl (.inl z))
   ·exact nav (.inl (.inr z))
   ·rw [z] at hb; exact Nat.lt_irrefl _ hb
   ·exact absurd (Nat.lt_trans hb hDlt) (Nat.not_lt.mpr z.1)
   ·exact nav (.inl (.inr z))
  ·exact nav (.inr z)
 have q'4 : Yf G (avB (C4.more ow).av β2) β2 s'4.heap D acc0 := by
  refine q'3.mono (fun b o e nav => ⟨x4.keep b o e, ?_⟩) (fun _ _ z => z) fun o e => x4.keep D o e
  rintro (z | z)
  ·have z : C4.av b \/ ow b := z
   rw [av4] at z;rcases z with (z | z) | z
   ·exact nav (.inl z)
   ·exact absurd (hn ▸ Heap.lt_size e : b < n) (Nat.not_lt.mpr z.1)
   ·exact nav (.inl (.inl (.inr z)))
  ·exact nav (.inr z)
 refine ZhF ce (g := g) rfl hg.sync ?_ fun A E Q hq => ZfB T4 hq
 refine Zls ce hem hrest [] g S hg rfl (s₀ := s'4) (β₀ := β2) (X' := fun a => XD C4 D a \/ ow a) O'4 (by rw [<- hC4]; exact Zm8 O3 ((F.more ow).more (Yi D)) : Xi (k.child scope) C4) (by
   refine ⟨fun a z => ?_, fun a z => ?_, WD3.high, fun x c hc' z => ?_⟩
   ·rw [av4]; exact .inl (.inr z)
   ·rw [mu4]; rintro ⟨z1, _⟩; rw [show a = D from z] at z1; exact absurd hDlt (Nat.not_lt.mpr z1)
   ·rw [env4] at hc'
    rcases hcells x c hc' with z1 | z1
    ·exact WD3.nocell x c z1 z
    ·rw [show c = D from z] at z1; exact absurd hDlt (Nat.not_lt.mpr z1)
  : Xp G C4 (Yi D)) (by
    refine ⟨fun a z => .inr z, fun a z => ?_, W.high, fun x c hc' z => ?_⟩
    ·show ¬ C4.mu a
     rw [mu4]; rintro ⟨z1, _⟩;exact absurd (Nat.lt_trans (how4 a z) hDlt) (Nat.not_lt.mpr z1)
    ·have hc' : C4.env.cells.lookup x = some c := hc'
     rw [env4] at hc';rcases hcells x c hc' with z1 | z1
     ·exact W.nocell x c z1 z
     ·exact absurd (Nat.lt_trans (how4 c z) hDlt) (Nat.not_lt.mpr z1)
   : Xp G (C4.more ow) ow) (fun a z => .inl z) (fun a z => .inr (.inr z)) (fun a z e => Nat.lt_irrefl _ (e ▸ how4 a z)) hA .refl (by
     refine Inv.weak (C := C4) (p := C4.av) i'4 (q := fun a => C4.av a \/ ow a) fun a z => ?_;rcases z with z | z
     ·exact z
     ·rw [av4]; exact .inl (.inl (.inr z))
    : Inv G (C4.more ow) β2 B₁ (List.replicate (Yl scope.names).length none ++ σ) s'4) T4 q'4 h fun β' s' a' i' q' => ?_
 have h0 : ∀ a, C.av a -> a < s.heap.objs.size := I.low
 have hX : ∀ q, (XD C4 D q \/ ow q) -> s.heap.objs.size <= q := by
  rintro q ((z | z) | z)
  ·rw [mu4] at z; exact Nat.le_trans (Nat.le_trans hsD (Nat.le_of_lt hDlt)) z.1
  ·rw [show q = D from z]; exact hsD
  ·exact how q z
 refine hQ D n s' ⟨fun a => C.av a \/ (ow a \/ (n <= a /\ a < m)), fun a z => .inl z, .inr (.inr ⟨Nat.le_refl _, hlt⟩), Nat.le_trans hsD (Nat.le_of_lt hDlt), Nat.ne_of_lt hDlt, ?_, O.more _, β', D, rfl, hsD, ?_, ?_, ?_, ?_⟩
 ·obtain ⟨m', hm'⟩ := i'.ns
  have hm' : s'.heap.Ns C4.env.locals m' := hm';rw [env4] at hm';exact ⟨m', hm'⟩
 ·rintro (z | z | z)
  ·exact absurd (h0 D z) (Nat.not_lt.mpr hsD)
  ·exact Nat.lt_irrefl _ (how4 D z)
  ·exact absurd hDlt (Nat.not_lt.mpr z.1)
 ·exact ((a'2.trans (.ofExt x3)).trans (.ofExt x4)).transF a' fun q z => .inr (hX q z)
 ·have iP : Inv G ((C.withAv fun a => C.av a \/ (ow a \/ (n <= a /\ a < m))).more (Yi D)) β2 B₁ σ s'4 := by
   refine Inv.weak (C := C) (p := fun a => ((C.av a \/ ow a) \/ a = D) \/ (n <= a /\ a < m)) (i3.more x4 fun a z => ⟨hn ▸ z.1, hm ▸ z.2⟩ : Inv G (((C.more ow).more (Yi D)).more fun a => n <= a /\ a < m) β2 B₁ σ s'4) (q := fun a => (C.av a \/ (ow a \/ (n <= a /\ a < m))) \/ a = D) fun a z => ?_;rcases z with (z | z | z) | z
   ·exact .inl (.inl (.inl z))
   ·exact .inl (.inl (.inr z))
   ·exact .inr z
   ·exact .inl (.inr z)
  refine iP.back ((O.more _).more _) a' ?_ ?_ ?_ i'.wd (i'.boxes.weak ?_)
  ·rintro q ((z | z) | z)
   ·rw [mu4] at z; exact .inl (.inr (.inr z))
   ·exact .inr z
   ·exact .inl (.inr (.inl z))
  ·intro z
   exact absurd (h0 _ (O.muav _ O.muL)) (Nat.not_lt.mpr (hX _ z))
  ·intro x c hc' z
   exact absurd (h0 _ (O.cellav x c hc')) (Nat.not_lt.mpr (hX _ z))
  ·intro q z
   show C4.av q \/ ow q;rw [av4];rcases z with (z | z | z) | z
   ·exact .inl (.inl (.inl (.inl z)))
   ·exact .inr z
   ·exact .inl (.inr z)
   ·exact .inl (.inl (.inr z))
 ·refine q'.mono (fun b o e nav => ⟨e, fun z => nav ?_⟩) (fun _ _ z => z) fun o e => e
  refine z.imp (fun z => ?_) id;show C4.av b \/ ow b;rw [av4];rcases z with (z | z | z) | z
  ·exact .inl (.inl (.inl (.inl z)))
  ·exact .inr z
  ·exact .inl (.inr z)
  ·exact .inl (.inl (.inr z))
theorem Xr.letGo {p : Addr -> Prop} {D n : Addr} {h' : Heap} (O : Zv G C) (I : Inv G C β B σ s) (hp : ∀ a, C.av a -> p a) (pn : p n) (hn : s.heap.objs.size <= n) (hD : D ≠ n) (Op : Zv G (C.withAv p))
  (y : Xr G (C.withAv p) β σ s acc B' (.ref D) s') (hs : Heap.SameBut n s'.heap h') : Xr G C β σ s acc B' (.ref D) { s' with heap := h' } := by
 refine Zak y fun β' a e h1 h2 x i q => ?_;clear y
 cases e
 have W : Xp G ((C.withAv p).more (Yi D)) (Yi n) := ⟨fun q z => .inl (by rw [show q = n from z]; exact pn), fun q z m => (fun q z e => absurd (I.low q (O.muav q z)) (Nat.not_lt.mpr (e ▸ hn)) : ∀ q, C.mu q -> q ≠ n) q m z, fun q z => by rw [show q = n from z]; exact Nat.le_trans (I.H0 O) hn,
  fun y c hc z => absurd (I.low c (O.cellav y c hc)) (Nat.not_lt.mpr (by rw [show c = n from z]; exact hn))⟩
 have st : YC (Yi n) s' { s' with heap := h' } := ⟨fun b o nb e => (hs.2 b nb).trans e, by show _ <= h'.objs.size; rw [hs.1]; exact Nat.le_refl _, rfl, rfl⟩
 refine ⟨β', D, rfl, h1, fun z => h2 (hp D z), ⟨x.pre, fun b o e nb t => st.keep b o (fun z => absurd (Heap.lt_size e) (Nat.not_lt.mpr (by rw [show b = n from z]; exact hn))) (x.grow.keep b o e nb t), Nat.le_trans x.grow.size st.size⟩,
  Inv.weak (C := C) (p := fun a => p a \/ a = D) (YC.inv (Op.more _) W i st) (q := fun a => C.av a \/ a = D) (fun a z => z.imp (hp a) id), (q.stepO (ow := Yi n) W st (fun z => hD z)).mono (fun b o e nav => ⟨e, fun z => nav (z.imp (fun z => z.imp (hp b) id) id)⟩) (fun _ _ z => z) fun o e => e⟩
end
theorem mE {γ : Type} {P : Prop} {o : Option (V × Bx)} {K : V -> Bx -> Option γ} {r : γ} (h : (match o with | none => none | some (a, b) => K a b) = some r) (k : ∀ a b, o = some (a, b) -> K a b = some r -> P) : P := by
 cases o with
 | none => exact nn h
 | some p => exact k p.1 p.2 rfl h
theorem mR {γ : Type} {P : Prop} {o : Option (List V × Bx)} {K : List V -> Bx -> Option γ} {r : γ} (h : (match o with | none => none | some (a, b) => K a b) = some r) (k : ∀ a b, o = some (a, b) -> K a b = some r -> P) : P := by
 cases o with
 | none => exact nn h
 | some p => exact k p.1 p.2 rfl h
theorem mS {γ : Type} {P : Prop} {o : Option (Src × Bx)} {K : Src -> Bx -> Option γ} {r : γ} (h : (match o with | none => none | some (a, b) => K a b) = some r) (k : ∀ a b, o = some (a, b) -> K a b = some r -> P) : P := by
 cases o with
 | none => exact nn h
 | some p => exact k p.1 p.2 rfl h
theorem mV {γ : Type} {P : Prop} {o : Option V} {K : V -> Option γ} {r : γ} (h : (match o with | none => none | some a => K a) = some r) (k : ∀ a, o = some a -> K a = some r -> P) : P := by
 cases o with
 | none => exact nn h
 | some p => exact k p rfl h
theorem mX {γ : Type} {P : Prop} {o : Option Bx} {K : Bx -> Option γ} {r : γ} (h : (match o with | none => none | some a => K a) = some r) (k : ∀ a, o = some a -> K a = some r -> P) : P := by
 cases o with
 | none => exact nn h
 | some p => exact k p rfl h
theorem mT {γ : Type} {P : Prop} {o : Option St} {K : St -> Option γ} {r : γ} (h : (match o with | none => none | some a => K a) = some r) (k : ∀ a, o = some a -> K a = some r -> P) : P := by
 cases o with
 | none => exact nn h
 | some p => exact k p rfl h
theorem mB {γ : Type} {P : Prop} {o : Option (Bool × Bx)} {K : Bool -> Bx -> Option γ} {r : γ} (h : (match o with | none => none | some (a, b) => K a b) = some r) (k : ∀ a b, o = some (a, b) -> K a b = some r -> P) : P := by
 cases o with
 | none => exact nn h
 | some p => exact k p.1 p.2 rfl h
theorem mQ {γ : Type} {P : Prop} {o : Option Bool} {K : Bool -> Option γ} {r : γ} (h : (match o with | none => none | some a => K a) = some r) (k : ∀ a, o = some a -> K a = some r -> P) : P := by
 cases o with
 | none => exact nn h
 | some p => exact k p rfl h
theorem mO {γ : Type} {P : Prop} {o : Option (Option Int × Bx)} {K : Option Int -> Bx -> Option γ} {r : γ} (h : (match o with | none => none | some (a, b) => K a b) = some r) (k : ∀ a b, o = some (a, b) -> K a b = some r -> P) : P := by
 cases o with
 | none => exact nn h
 | some p => exact k p.1 p.2 rfl h
theorem mP {γ : Type} {P : Prop} {o : Option (List (Str × V) × Bx)} {K : List (Str × V) -> Bx -> Option γ} {r : γ} (h : (match o with | none => none | some (a, b) => K a b) = some r) (k : ∀ a b, o = some (a, b) -> K a b = some r -> P) : P := by
 cases o with
 | none => exact nn h
 | some p => exact k p.1 p.2 rfl h
noncomputable abbrev DE := St -> Bx -> Option (V × Bx)
noncomputable abbrev DT := St -> Bx -> Option (Bool × Bx)
noncomputable abbrev DI := St -> Bx -> Option (Src × Bx)
noncomputable abbrev DS := St -> Bx -> Option Out
structure Den (G : GC) (H : Nat) (k : K) (e : Expr) (f : DE) : Prop where
 ok : ∀ C, Zv G C -> Xi k C -> ∀ σ B d B', f σ B = some (d, B') -> Yn G H C σ B (eval e C.env) d B'
structure Yu (G : GC) (H : Nat) (k : K) (e : Expr) (f : DE) : Prop where
 ok : ∀ C, Zv G C -> Xi k C -> ∀ σ B d B', f σ B = some (d, B') -> Zhf G H C σ B (eval e C.env) d B'
structure ZgK (G : GC) (H : Nat) (k : K) (e : Expr) (f : DT) : Prop where
 ok : ∀ C, Zv G C -> Xi k C -> ∀ σ B b B', f σ B = some (b, B') -> EvB G H C σ B (PySem.isTrue e C.env (eval e C.env)) b B'
structure Zjk (G : GC) (H : Nat) (k : K) (e : Expr) (tp : Bool) (f : DI) : Prop where
 ok : ∀ C, Zv G C -> Xi k C -> ∀ σ B src B', f σ B = some (src, B') -> Zjj G H C σ B (eval e C.env) src tp B'
structure ZpT (G : GC) (H : Nat) (k : K) (t : Expr) (f : V -> St -> Option St) : Prop where
 ok : ∀ C, Zv G C -> Xi k C -> ∀ σ B x σ', f x σ = some σ' -> Zim G H C σ B (assign t C.env) x σ' B
noncomputable def Zsx (G : GC) (H : Nat) (k : K) (ifs : List Expr) (f : DT) : Prop :=
 ∀ C, Zv G C -> Xi k C -> ∀ σ B b B', f σ B = some (b, B') -> EvB G H C σ B (ZeJ ifs C.env) b B'
structure ZaQ (G : GC) (H : Nat) (k : K) (st : Stmt) (f : DS) : Prop where
 ok : ∀ C, Zv G C -> Xi k C -> ∀ σ B r, f σ B = some r -> Zaf G H C σ B (exec st C.env) r
structure Xa (G : GC) (H : Nat) (k : K) (sts : List Stmt) (f : DS) : Prop where
 ok : ∀ C, Zv G C -> Xi k C -> ∀ σ B r, f σ B = some r -> Zaf G H C σ B (execs sts C.env) r
noncomputable def emL (f : DE) : Zgu := fun σ B acc => (f σ B).bind fun p => (ZqR acc).1.bind fun xs => if Zu xs.length then some (p.2, .list (xs ++ [p.1])) else none
noncomputable def emD (f g : DE) : Zgu := fun σ B acc => (f σ B).bind fun p => (ZsZ p.1).1.bind fun x => (g σ p.2).bind fun q => (ZqP acc).1.bind fun r => if Zu r.1.length then some (q.2, .dict (Jr r.1 r.2 x q.1).1 (Jr r.1 r.2 x q.1).2) else none
section
variable {G : GC} {C : Cx} {β β' β'' : List Addr} {B B' B₁ B₂ : Bx} {σ : St} {s s' s'' : Shared} {H : Nat} {d d₂ acc acc' acc0 : V} {v : Value} {b : Bool} {tp : Bool} {it : Value} {src : Src} {r r' : Out} {k : K} {D : Addr}
theorem Ze2 (O : Zv G C) (WD : Xp G C (Yi D)) (I : Inv G C β B σ s) {h' : Heap} {tk : Nat} (hs : Heap.SameBut D s.heap h') :
  YC (Yi D) s { s with heap := h', toks := tk } /\ Inv G C β B σ { s with heap := h', toks := tk } /\ Adv G (XD C D) β s β { s with heap := h', toks := tk } /\
  ∀ b o, s.heap.get? b = some o -> ¬ avB C.av β b -> h'.get? b = some o /\ ¬ avB C.av β b := by
 have st : YC (Yi D) s { s with heap := h', toks := tk } := ⟨fun b o nb e => (hs.2 b nb).trans e, Zcy hs, rfl, rfl⟩;exact ⟨st, YC.inv O WD I st, ⟨⟨[], by simp, fun _ h => by simp at h⟩, fun b o e n t => st.keep b o (fun z => n (.inl (.inr z))) e, st.size⟩, fun b o e n => ⟨st.keep b o (fun z => n (.inl (WD.sub b z))) e, n⟩⟩
set_option tactic.hygienic true in
theorem ZhQ {elt : Expr} {f : DE} (hf : Den G H k elt f) : Zdn G H k (fun D env => Zj9 elt (.ref D) env) (emL f) := by
 intro C D O F WD A β s σ B acc B' acc' hA I q h E;refine ZfE h fun p hd h => ZfE h fun xs hx h => ?_;obtain ⟨hz, h⟩ := Yp h;obtain ⟨e1, e2⟩ := Prod.mk.inj (Option.some.inj h);rw [(ZqR acc).2 _ hx] at q;rw [<- e1, <- e2];unfold Zj9;refine wpAny_bind ((hf.ok C O F σ B _ _ hd A β s hA I).t3 fun v s'1 β1 a'1 i'1 r'1 => ?_);have q'1 := q.advX O WD I a'1 O.muav (WD.nomu D rfl);refine YA (ZpP q'1) fun vs m e rr => ?_;have n1 : vs.size = xs.length := by rw [<- rr.length]; simp
 refine wpAny_bind (wpAny_list_append_plain ⟨m, e⟩ (fun h' ⟨m', e'⟩ hs => ?_) (by rw [n1]; exact Yy hz));refine ZcR (Ze2 (tk := s'1.toks) O WD i'1 hs) fun _ i'2 a'2 hk => ?_;exact wpAny_pure ⟨β1, (a'1.mono fun a z => .inl z).trans a'2, i'2, .list e' (by rw [Array.toList_push]; exact (Zb.mono hk (fun _ _ z => z) rr).append (.cons (Rep.mono hk (fun _ _ z => z) r'1) .nil))⟩
set_option tactic.hygienic true in
theorem ZnC {kx vx : Expr} {f g : DE} (hf : Den G H k kx f) (hg : Den G H k vx g) : Zdn G H k (fun D env => Zkg kx vx D env) (emD f g) := by
 intro C D O F WD A β s σ B acc B' acc' hA I q h E;refine ZfE h fun p hp h => ZfE h fun x hx h => ZfE h fun y hq h => ZfE h fun r hr h => ?_;obtain ⟨hz, h⟩ := Yp h;obtain ⟨e1, e2⟩ := Prod.mk.inj (Option.some.inj h);rw [(ZqP acc).2 _ hr] at q;rw [<- e1, <- e2];unfold Zkg;refine wpAny_bind ((hf.ok C O F σ B _ _ hp A β s hA I).t3 fun kv s'1 β1 a'1 i'1 r'1 => ?_);rw [(ZsZ p.1).2 _ hx] at r'1;obtain ⟨t, e'1⟩ := Z7 r'1;rw [e'1];refine wpAny_bind (wpAny_holding ((hg.ok C O F σ _ _ _ hq A β1 s'1 hA i'1).t3 fun vv s'2 β2 a'2 i'2 r'2 => ?_));have a12 := a'1.trans a'2;have q'2 := q.advX O WD I a12 O.muav (WD.nomu D rfl);refine Zbf (Zth q'2) fun kvs e hs he rr => ?_;have hlen : kvs.length = r.1.length := by rw [<- he]; simp
 refine wpAny_bind (wpAny_standAt (wpAny_holding ?_));refine wpAny_dictSet_pairs (strKind_is G.prog G.w x t) e (fun h' hd' hs' => ?_) (by rw [hlen]; exact Yy hz);refine ZcR (Ze2 (tk := s'2.toks + 1) O WD i'2 hs') fun _ i3 a'3 hk => ?_;have hnd : (kvs.map (·.1)).Nodup := by obtain ⟨_, _, _, _, _, _, _, _, z⟩ := e; exact z
 obtain ⟨q1, q2⟩ := Zca (k := x) (v := vv) (d := y.1) hnd rr r'2;rw [he] at q1 q2;exact ⟨β2, (a12.mono fun a z => .inl z).trans a'3, i3, .dict hd' hs q1 (Zb.mono hk (fun _ _ z => z) q2)⟩
theorem Zkf {elt : Expr} {gens : List Comprehension} {scope : Scope} {pos : Pos} : ZdF G (.ListComp elt gens scope pos) gens fun D env => Zj9 elt (.ref D) env :=
 ⟨fun depth it D env g g' h ha h' hb => Zrm h ha h' hb, rfl, fun _ _ _ _ => rfl, fun _ _ _ _ => rfl, fun _ _ _ _ _ => Around.under_of_weight rfl⟩
theorem Zqr {kx vx : Expr} {gens : List Comprehension} {scope : Scope} {pos : Pos} : ZdF G (.DictComp kx vx gens scope pos) gens fun D env => Zkg kx vx D env :=
 ⟨fun depth it D env g g' h ha h' hb => Zq9 h ha h' hb, rfl, fun _ _ _ _ => rfl, fun _ _ _ _ => rfl, fun _ _ _ _ _ => Around.under_of_weight rfl⟩
noncomputable def Zy (own : Nat) (emit : Zgu) (S : Xu) (Ss : List Xu) (acc0 : V) : DE := fun σ B => match S.it σ B with
 | none => none
 | some (src, B₁) => (cl (JL S (cgo emit Ss)) (src.fuel B₁) src (List.replicate own none ++ σ) B₁ acc0).map fun r => (r.2.2, r.2.1)
theorem ZsO (A : Around) (s : Shared) (Q : Value -> Shared -> Prop) (E : Value -> Shared -> Prop) (h : Q (.ref s.heap.objs.size) { s with heap := s.heap.push (Z9 #[] 0) }) : wpAny (model G.prog G.w) A (newList []) Q E s :=
 wpAny_newObj_type h (by show (0 : Nat) <= sizeLine; exact Nat.zero_le _)
theorem Zts (A : Around) (s : Shared) (Q : Value -> Shared -> Prop) (E : Value -> Shared -> Prop) (h : Q (.ref s.heap.objs.size) { s with heap := s.heap.push { cls := .type "dict", data := .dict #[] } }) : wpAny (model G.prog G.w) A newDict Q E s :=
 wpAny_bind (wpAny_alloc (wpAny_pure h))
theorem ZjW (av : Addr -> Prop) (β : List Addr) (h : Heap) (_ : (h.objs.size == sysModules) = false) : Yf G av β (h.push (Z9 #[] 0)) h.objs.size (.list []) :=
 .list (Heap.get?_push_size _ rfl) .nil
theorem Zp5 (av : Addr -> Prop) (β : List Addr) (h : Heap) (hs : (h.objs.size == sysModules) = false) : Yf G av β (h.push { cls := .type "dict", data := .dict #[] }) h.objs.size (.dict [] []) :=
 .dict (kvs := []) (Heap.DictOf.new _) hs rfl .nil
structure Zlc (G : GC) (H : Nat) (k : K) (scope : Scope) (g : Comprehension) (rest : List Comprehension) (S : Xu) (Ss : List Xu) : Prop where
 fits : ZaL k scope = true
 fold : ∀ env x, foldedSetIterable g.iter env x = pure x
 it : Zjk G H k g.iter S.tp S.it
 g : Zdt G H (k.child scope) g S
 rest : Zb9 G H (k.child scope) rest Ss
theorem gens {scope : Scope} {g : Comprehension} {rest : List Comprehension} {S : Xu} {Ss : List Xu} (it : Zjk G H k g.iter S.tp S.it) (hg : Zdt G H (k.child scope) g S) (hr : Zb9 G H (k.child scope) rest Ss) (fits : ZaL k scope = true := by kernel_rfl)
  (fold : ∀ env x, foldedSetIterable g.iter env x = pure x := by exact fun _ _ => rfl) : Zlc G H k scope g rest S Ss := ⟨fits, fold, it, hg, hr⟩
set_option tactic.hygienic true in
theorem ZjF {e : Expr} {g : Comprehension} {rest : List Comprehension} {emitT : Addr -> Env -> Sem Unit} {emit : Zgu} {S : Xu} {Ss : List Xu} {scope : Scope} {pos : Pos} {newAcc : Sem Value} {o0 : Obj}
  (ce : ZdF G e (g :: rest) emitT) (hem : Zdn G H (k.child scope) emitT emit) (hG : Zlc G H k scope g rest S Ss)
  (hacc : ∀ (A : Around) (s : Shared) (Q : Value -> Shared -> Prop) (E : Value -> Shared -> Prop), Q (.ref s.heap.objs.size) { s with heap := s.heap.push o0 } -> wpAny (model G.prog G.w) A newAcc Q E s)
  (hbox : ∀ (av : Addr -> Prop) (β : List Addr) (h : Heap), (h.objs.size == sysModules) = false -> Yf G av β (h.push o0) h.objs.size acc0)
  (O : Zv G C) (F : Xi k C) (h : Zy (Yl scope.names).length emit S Ss acc0 σ B = some (d, B')) :
  Zhf G H C σ B (comprehension e scope C.env pos newAcc false (eval g.iter C.env)) d B' := by
 intro A β s hA I E;refine mS h fun src B₁ hsrc h => ?_;refine Zp h fun r hr e => ?_
 cases e
 refine ZhA O F ce hem hG.g hG.rest hG.fits (hG.fold _) (hG.it.ok C O F σ B src B₁ hsrc) hacc hbox hr hA I fun D n s' ce => ?_;refine ZqJ ce fun p hp pn hn hD hns Op y => ?_;clear ce;obtain ⟨m, hm⟩ := hns;exact ⟨m, hm, fun h' hs => Xr.letGo O I hp pn hn hD Op y hs⟩
theorem Z0 {elt : Expr} {g : Comprehension} {rest : List Comprehension} {f : DE} {S : Xu} {Ss : List Xu} {scope : Scope} {pos : Pos} (hG : Zlc G H k scope g rest S Ss) (hf : Den G H (k.child scope) elt f) :
  Yu G H k (.ListComp elt (g :: rest) scope pos) (Zy (Yl scope.names).length (emL f) S Ss (.list [])) := .mk fun C O F σ B d B' h => by
 rw [eval_ListComp];have hs := hG.g.sync;obtain ⟨t, i, fs, a⟩ := g;simp only at hs;subst hs;exact ZjF Zkf (ZhQ hf) hG ZsO ZjW O F h
theorem Zex (kx vx gens scope pos env) : eval (.DictComp kx vx gens scope pos) env =
  comprehension (.DictComp kx vx gens scope pos) scope env (firstIterPos gens pos) newDict (firstAsync gens) (firstIter gens env) := rfl
theorem XG {kx vx : Expr} {g : Comprehension} {rest : List Comprehension} {f f' : DE} {S : Xu} {Ss : List Xu} {scope : Scope} {pos : Pos} (hG : Zlc G H k scope g rest S Ss) (hf : Den G H (k.child scope) kx f) (hf' : Den G H (k.child scope) vx f') :
  Yu G H k (.DictComp kx vx (g :: rest) scope pos) (Zy (Yl scope.names).length (emD f f') S Ss (.dict [] [])) := .mk fun C O F σ B d B' h => by
 rw [Zex];have hs := hG.g.sync;obtain ⟨t, i, fs, a⟩ := g;simp only at hs;subst hs;exact ZjF Zqr (ZnC hf hf') hG Zts Zp5 O F h
noncomputable def Zbx (f : DE) : DE := fun σ B => (f σ B).map fun r => (.box r.2.length, r.2 ++ [r.1])
theorem Yu.tree {e : Expr} {f : DE} (h : Yu G H k e f) : Den G H k e f := .mk fun C O F σ B d B' hd => (h.ok C O F σ B d B' hd).tree O
theorem Yu.box {e : Expr} {f : DE} (h : Yu G H k e f) : Den G H k e (Zbx f) := .mk fun C O F σ B d B' hd => by
 refine Zp hd fun r hr e => ?_
 cases e
 exact (h.ok C O F σ B r.1 r.2 hr).box O
set_option tactic.hygienic true in
theorem Zpz {e : Expr} {g : Comprehension} {rest : List Comprehension} {emitT : Addr -> Env -> Sem Unit} {emit : Zgu} {S : Xu} {Ss : List Xu} {scope : Scope} {pos px spos : Pos} {x : Str} {newAcc : Sem Value} {o0 : Obj}
  (ce : ZdF G e (g :: rest) emitT) (hem : Zdn G H (k.child scope) emitT emit) (hG : Zlc G H k scope g rest S Ss)
  (hacc : ∀ (A : Around) (s : Shared) (Q : Value -> Shared -> Prop) (E : Value -> Shared -> Prop), Q (.ref s.heap.objs.size) { s with heap := s.heap.push o0 } -> wpAny (model G.prog G.w) A newAcc Q E s)
  (hbox : ∀ (av : Addr -> Prop) (β : List Addr) (h : Heap), (h.objs.size == sysModules) = false -> Yf G av β (h.push o0) h.objs.size acc0)
  (O : Zv G C) (F : Xi k C) (h : Zy (Yl scope.names).length emit S Ss acc0 σ B = some (d, B')) (hxa : x ∈ C.asg) (hk : C.env.kindOf x = some .local \/ C.env.kindOf x = some .cell)
  (hsw : swapsWith e (some (.Name x px)) spos.line C.env = pure true)
  (hev : ∀ use, evalThenUse e C.env use = do let _ <- comprehension e scope C.env pos newAcc false (eval g.iter C.env) (some use))
  (hconv : ∀ (C : Cx) (β : List Addr) (σ : St) (s : Shared) (v : Value) (s' : Shared), Xr G C β σ s d B' v s' -> G.H0.objs.size <= s.heap.objs.size -> Zs G C β σ s d₂ B₂ v s') :
  Zaf G H C σ B (exec (.Assign [.Name x px] e spos) C.env) (.next, σ.set (C.names.idxOf x) (some d₂), B₂) := by
 intro A β s hA I E;refine mS h fun src B₁ hsrc h => ?_;refine Zp h fun r hr e' => ?_
 cases e'
 rw [exec_Assign_Name_used _ _ _ _ hsw, hev];refine wpAny_bind (wpAny_standAt (wpAny_bind (wpAny_bind ?_)));refine ZhA (use := some (assign (.Name x px) C.env)) O F ce hem hG.g hG.rest hG.fits (hG.fold _) (hG.it.ok C O F σ B src B₁ hsrc) hacc hbox hr hA I fun D n s' ce => ?_;refine ZqJ ce fun p hp pn hn hD hns Op y => ?_;clear ce;obtain ⟨m, hm⟩ := hns;refine XS (hconv _ _ _ _ _ _ y (I.H0 O)) fun β' a' i' r' => ?_;show wpAny _ A (assign (.Name x px) C.env (.ref D)) _ E s';refine (Zgg (H := H) (C := C.withAv p) (B := B₂) (σ := σ) (d := d₂) Op (x := x) (pos := px) hxa hk A β' s' (.ref D) hA i' r').t2 fun _ s'' β'' a'' i'' => ?_;have hmu : ∀ q, C.mu q -> q ≠ n := fun q z e => absurd (I.low q (O.muav q z)) (Nat.not_lt.mpr (e ▸ hn));have hn0 : G.H0.objs.size <= n := Nat.le_trans (I.H0 O) hn;refine ⟨m, hm.at fun o e => a''.grow.keep n o e (fun z => z.elim (fun z => hmu n z rfl) fun z => i'.boxes.apart n z pn) (fun ⟨c, z⟩ => absurd (O.gok.tabs c n z).2.1 (Nat.not_lt.mpr hn0)), fun h' hs => ?_⟩
 have W : Xp G (C.withAv p) (Yi n) := ⟨fun q z => by rw [show q = n from z]; exact pn, fun q z m => hmu q m z, fun q z => by rw [show q = n from z]; exact hn0,
  fun y c hc z => absurd (I.low c (O.cellav y c hc)) (Nat.not_lt.mpr (by rw [show c = n from z]; exact hn))⟩
 have st : YC (Yi n) s'' { s'' with heap := h' } := ⟨fun b o nb e => (hs.2 b nb).trans e, by show _ <= h'.objs.size; rw [hs.1]; exact Nat.le_refl _, rfl, rfl⟩;have i3 := YC.inv Op W i'' st;have a'3 : Adv G C.mu β s β'' s'' := a'.trans a'';refine wpAny_pure (wpAny_pure ⟨β'', ⟨a'3.pre, fun b o e nb t => st.keep b o (fun z => absurd (Heap.lt_size e) (Nat.not_lt.mpr (by rw [show b = n from z]; exact hn))) (a'3.grow.keep b o e nb t), Nat.le_trans a'3.grow.size st.size⟩, ?_, trivial⟩);exact Inv.weak (C := C) (p := p) i3 (q := C.av) hp
end
namespace D
noncomputable def v (i : Nat) : DE := fun σ B => match σ[i]? with
 | some (some d) => some (d, B)
 | _ => none
noncomputable def k (d : V) : DE := fun _ B => some (d, B)
noncomputable def b (op : Bx -> V -> V -> Option V) (f g : DE) : DE := fun σ B => match f σ B with
 | none => none
 | some (a, B₁) => match g σ B₁ with
  | none => none
  | some (b, B₂) => (op B₂ a b).map (·, B₂)
noncomputable def un (op : Bx -> V -> Option V) (f : DE) : DE := fun σ B => match f σ B with
 | none => none
 | some (a, B₁) => (op B₁ a).map (·, B₁)
noncomputable def row : List DE -> St -> Bx -> Option (List V × Bx)
 | [], _, B => some ([], B)
 | f :: fs, σ, B => match f σ B with
  | none => none
  | some (a, B₁) => match row fs σ B₁ with
   | none => none
   | some (as, B₂) => some (a :: as, B₂)
noncomputable def t (fs : List DE) : DE := fun σ B => match row fs σ B with
 | none => none
 | some (as, B₁) => some (.tup as, B₁)
noncomputable def list (fs : List DE) : DE := fun σ B => match row fs σ B with
 | none => none
 | some (as, B₁) => some (.list as, B₁)
noncomputable def ite (t : DT) (f g : DE) : DE := fun σ B => match t σ B with
 | none => none
 | some (true, B₁) => f σ B₁
 | some (false, B₁) => g σ B₁
noncomputable def boolop (isAnd : Bool) : List DE -> DE
 | [], _, _ => none
 | [f], σ, B => f σ B
 | f :: fs, σ, B => match f σ B with
  | none => none
  | some (a, B₁) => match Ju B₁ a with
   | none => none
   | some c => if c = isAnd then boolop isAnd fs σ B₁ else some (a, B₁)
noncomputable def c (op : Bx -> List V -> Option (V × Bx)) (fs : List DE) : DE := fun σ B => match row fs σ B with
 | none => none
 | some (as, B₁) => op B₁ as
noncomputable def slice (pick : Bx -> V -> Option Int -> Option Int -> Option V) (f : DE) (lo hi : Option DE) : DE := fun σ B => match f σ B with
 | none => none
 | some (a, B₁) => match (match lo with | none => some (none, B₁) | some l => match l σ B₁ with | some (.int i, B₂) => some (some i, B₂) | _ => none) with
  | none => none
  | some (l, B₂) => match (match hi with | none => some (none, B₂) | some h => match h σ B₂ with | some (.int i, B3) => some (some i, B3) | _ => none) with
   | none => none
   | some (h, B3) => (pick B3 a l h).map (·, B3)
end D
namespace T
noncomputable def of (f : DE) : DT := fun σ B => match f σ B with
 | none => none
 | some (a, B₁) => (Ju B₁ a).map (·, B₁)
noncomputable def not (t : DT) : DT := fun σ B => match t σ B with
 | none => none
 | some (b, B₁) => some (!b, B₁)
noncomputable def cmp (op : Bx -> V -> V -> Option Bool) (f g : DE) : DT := fun σ B => match f σ B with
 | none => none
 | some (a, B₁) => match g σ B₁ with
  | none => none
  | some (b, B₂) => (op B₂ a b).map (·, B₂)
noncomputable def ite (t x y : DT) : DT := fun σ B => match t σ B with
 | none => none
 | some (true, B₁) => x σ B₁
 | some (false, B₁) => y σ B₁
noncomputable def bool (isAnd : Bool) : List DT -> DT
 | [], _, B => some (isAnd, B)
 | t :: ts, σ, B => match t σ B with
  | none => none
  | some (b, B₁) => if b = isAnd then bool isAnd ts σ B₁ else some (!isAnd, B₁)
noncomputable def all : List DT -> DT
 | [], _, B => some (true, B)
 | t :: ts, σ, B => match t σ B with
  | none => none
  | some (true, B₁) => all ts σ B₁
  | some (false, B₁) => some (false, B₁)
end T
namespace S
noncomputable def k : DS := fun σ B => some (.next, σ, B)
noncomputable def q (a b : DS) : DS := fun σ B => match a σ B with
 | none => none
 | some (.next, σ₁, B₁) => b σ₁ B₁
 | some r => some r
noncomputable def a (i : Nat) (f : DE) : DS := fun σ B => match f σ B with
 | none => none
 | some (d, B₁) => some (.next, σ.set i (some d), B₁)
noncomputable def sets : List Nat -> List V -> St -> Option St
 | [], [], σ => some σ
 | i :: is, d :: ds, σ => sets is ds (σ.set i (some d))
 | _, _, _ => none
noncomputable def parts (is : List Nat) (d : V) (σ : St) : Option St := match Zar d with
 | none => none
 | some ds => sets is ds σ
noncomputable def assigns (is : List Nat) (f : DE) : DS := fun σ B => match f σ B with
 | none => none
 | some (d, B₁) => match parts is d σ with
  | none => none
  | some σ₁ => some (.next, σ₁, B₁)
noncomputable def swapped (is : List Nat) (f : DE) : DS := fun σ B => match f σ B with
 | none => none
 | some (d, B₁) => match Zar d with
  | none => none
  | some ds => if ds.length = is.length then match sets is.reverse ds.reverse σ with
   | none => none
   | some σ₁ => some (.next, σ₁, B₁) else none
noncomputable def put (f o i : DE) : DS := fun σ B => match f σ B with
 | none => none
 | some (d, B₁) => match o σ B₁ with
  | some (.box n, B₂) => match i σ B₂ with
   | none => none
   | some (j, B3) => match Zck B3 n j d with
    | none => none
    | some B4 => some (.next, σ, B4)
  | _ => none
noncomputable def aug (op : Bx -> V -> V -> Option V) (i : Nat) (f : DE) : DS := fun σ B => match σ[i]? with
 | some (some d₁) => match f σ B with
  | none => none
  | some (d₂, B₁) => match op B₁ d₁ d₂ with
   | none => none
   | some d => some (.next, σ.set i (some d), B₁)
 | _ => none
noncomputable def augput (op : Bx -> V -> V -> Option V) (o i f : DE) : DS := fun σ B => match o σ B with
 | some (.box n, B₁) => match i σ B₁ with
  | none => none
  | some (j, B₂) => match Zf B₂ (.box n) j with
   | none => none
   | some d₂ => match f σ B₂ with
    | none => none
    | some (d'3, B3) => match op B3 d₂ d'3 with
     | none => none
     | some d'4 => match Zck B3 n j d'4 with
      | none => none
      | some B4 => some (.next, σ, B4)
 | _ => none
noncomputable def del (o i : DE) : DS := fun σ B => match o σ B with
 | some (.box n, B₁) => match i σ B₁ with
  | none => none
  | some (j, B₂) => match Zgr B₂ n j with
   | none => none
   | some B3 => some (.next, σ, B3)
 | _ => none
noncomputable def expr (f : DE) : DS := fun σ B => match f σ B with
 | none => none
 | some (_, B₁) => some (.next, σ, B₁)
noncomputable def r (f : DE) : DS := fun σ B => match f σ B with
 | none => none
 | some (d, B₁) => some (.ret d, σ, B₁)
noncomputable def brk : DS := fun σ B => some (.brk, σ, B)
noncomputable def assert (t : DT) : DS := fun σ B => match t σ B with
 | some (true, B₁) => some (.next, σ, B₁)
 | _ => none
noncomputable def ite (t : DT) (x y : DS) : DS := fun σ B => match t σ B with
 | none => none
 | some (true, B₁) => x σ B₁
 | some (false, B₁) => y σ B₁
noncomputable def l (it : DI) (tgt : V -> St -> Option St) (body els : DS) : DS := fun σ B => match it σ B with
 | none => none
 | some (src, B₁) => Y4 (fun x σ B => match tgt x σ with | none => none | some σ₁ => body σ₁ B) els (src.fuel B₁) src σ B₁
end S
namespace I
noncomputable def val (f : DE) : DI := fun σ B => match f σ B with
 | none => none
 | some (d, B₁) => (Zaa B₁ d).map (·, B₁)
noncomputable def items (f : DE) : DI := fun σ B => match f σ B with
 | some (.dict ks ds, B₁) => some (.seq ((ks.zip ds).map fun p => .tup [.str p.1, p.2]), B₁)
 | _ => none
noncomputable def values (f : DE) : DI := fun σ B => match f σ B with
 | some (.dict ks ds, B₁) => some (.seq ds, B₁)
 | _ => none
noncomputable def zip (f g : DE) : DI := fun σ B => match f σ B with
 | some (.list xs, B₁) => match g σ B₁ with
  | some (.list ys, B₂) => some (.seq ((xs.zip ys).map fun p => .tup [p.1, p.2]), B₂)
  | _ => none
 | _ => none
end I
section
variable {G : GC} {C : Cx} {β : List Addr} {B B' B₁ B₂ B3 B4 : Bx} {σ σ' : St} {s : Shared} {H : Nat} {d d₁ d₂ d'3 d'4 : V} {b : Bool} {ds : List V} {ow : Addr -> Prop} {tp : Bool} {src : Src} {r r' : Out} {k : K}
noncomputable def Zi4 (x : Option NameKind) : Bool := x == some .local || x == some .cell || x == some .free
theorem ZkY {x : Option NameKind} (h : Zi4 x = true) : Zbe x := by
 unfold Zi4 at h;simp only [Bool.or_eq_true, beq_iff_eq] at h;rcases h with (h | h) | h
 ·exact .inl h
 ·exact .inr (.inl h)
 ·exact .inr (.inr h)
noncomputable def Zen (x : Option NameKind) : Bool := x == some .local || x == some .cell
theorem Jq {x : Option NameKind} (h : Zen x = true) : x = some .local \/ x = some .cell := by
 unfold Zen at h
 simpa using h
noncomputable def ZrW (k : K) (x : Str) (i : Nat) : Bool := Zi4 (k.kind x) && (Nat.beq (k.names.idxOf x) i && !(x == ("__classdict__" : Str)))
theorem Zqh {x : Str} {i : Nat} (h : ZrW k x i = true) : Zbe (k.kind x) /\ k.names.idxOf x = i /\ (x == ("__classdict__" : Str)) = false := by
 unfold ZrW at h;rw [Bool.and_eq_true, Bool.and_eq_true, Bool.not_eq_true'] at h;exact ⟨ZkY h.1, Nat.eq_of_beq_eq_true h.2.1, h.2.2⟩
noncomputable def Zfs (k : K) (x : Str) (i : Nat) : Bool := Zen (k.kind x) && (k.asg.contains x && Nat.beq (k.names.idxOf x) i)
theorem Zcs {x : Str} {i : Nat} (h : Zfs k x i = true) : x ∈ k.asg /\ Zen (k.kind x) = true /\ k.names.idxOf x = i := by
 unfold Zfs at h;rw [Bool.and_eq_true, Bool.and_eq_true, List.contains_iff_mem] at h;exact ⟨h.2.1, h.1, Nat.eq_of_beq_eq_true h.2.2⟩
noncomputable def ZjD (k : K) (x : Str) : Bool := k.kind x == some .globalImplicit && !(x == ("__debug__" : Str))
theorem Zcu {x : Str} (h : ZjD k x = true) : k.kind x = some .globalImplicit /\ (x == ("__debug__" : Str)) = false := by
 unfold ZjD at h;rw [Bool.and_eq_true, beq_iff_eq, Bool.not_eq_true'] at h;exact h
set_option tactic.hygienic true in
theorem Za {x : Str} {pos : Pos} {i : Nat} (hk : ZrW k x i = true := by kernel_rfl) : Den G H k (.Name x pos) (D.v i) := .mk fun C O F σ B d B' h => by
 refine Xx (Zqh hk) fun hk hi hx => ?_;unfold D.v at h
 split at h
 ·rename_i e hd
  cases h
  refine ZrD O (by rw [F.kind]; exact hk) ?_ hx;unfold Cx.look;rw [F.names, hi, hd]; rfl
 ·exact nn h
theorem Zc {i : Int} {n : Nat} {pos : Pos} : Den G H k (.Constant (.int i) n pos) (D.k (.int i)) := .mk fun C O F σ B d B' h => by cases h; exact ZrT O
theorem JW {x : Str} {n : Nat} {pos : Pos} : Den G H k (.Constant (.str x) n pos) (D.k (.str x)) := .mk fun C O F σ B d B' h => by cases h; exact Zri O
theorem YK {b : Bool} {n : Nat} {pos : Pos} : Den G H k (.Constant (.bool b) n pos) (D.k (.bool b)) := .mk fun C O F σ B d B' h => by cases h; exact Zo2 O
theorem Zjb {x : Str} {y : Str} {t : Tok} {pos : Pos} (hk : k.kind x = some .globalImplicit) (hf : Yz G x (.str y t)) (hd : (x == ("__debug__" : Str)) = false) : Den G H k (.Name x pos) (D.k (.str y)) := .mk fun C O F σ B d B' h => by
 cases h
 exact fun A β s hA I E => X9 O I (by rw [F.kind]; exact hk) hf hd (Zs.ofExt I (Ext.refl s) (.str _ _))
set_option tactic.hygienic true in
theorem Zm {l r : Expr} {op : Operator} {pos : Pos} {vop : Bx -> V -> V -> Option V} {f g : DE} (hop : ∀ B d₁ d₂ d, vop B d₁ d₂ = some d -> Op2 G H B (binaryOp op) d₁ d₂ d) (hf : Den G H k l f) (hg : Den G H k r g) :
  Den G H k (.BinOp l op r pos) (D.b vop f g) := .mk fun C O F σ B d B' h => by
 refine mE h fun a B₁ h1 h => ?_;refine mE h fun b B₂ h2 h => ?_;refine Zp h fun e he hh => ?_
 cases hh
 exact Zsk O (hf.ok C O F _ _ _ _ h1) (hg.ok C O F _ _ _ _ h2) (hop _ _ _ _ he)
set_option tactic.hygienic true in
theorem ZbB {x : Expr} {op : UnaryOp} {pos : Pos} {vop : Bx -> V -> Option V} {f : DE} (hop : ∀ B d₁ d, vop B d₁ = some d -> Op1 G H B (unaryOp op) d₁ d) (hf : Den G H k x f) : Den G H k (.UnaryOp op x pos) (D.un vop f) := .mk fun C O F σ B d B' h => by
 refine mE h fun a B₁ h1 h => ?_;refine Zp h fun e he hh => ?_
 cases hh
 exact Zs0 O (hf.ok C O F _ _ _ _ h1) (hop _ _ _ he)
noncomputable def bv (op : Bx -> V -> V -> Option Bool) : Bx -> V -> V -> Option V := fun B a b => (op B a b).map .bool
set_option tactic.hygienic true in
theorem X4 {l r : Expr} {op : CmpOp} {pos : Pos} {vop : Bx -> V -> V -> Option Bool} {f g : DE} (hop : ∀ B d₁ d₂ b, vop B d₁ d₂ = some b -> Op2 G H B (compareOp op) d₁ d₂ (.bool b)) (hf : Den G H k l f) (hg : Den G H k r g)
  (hm : behindInMarks op r = false) : Den G H k (.Compare l [op] [r] pos) (D.b (bv vop) f g) := .mk fun C O F σ B d B' h => by
 refine mE h fun a B₁ h1 h => ?_;refine mE h fun b B₂ h2 h => ?_;refine Zp h fun e he hh => ?_;refine Zp he fun c hc z_2 => ?_;subst z_2
 cases hh
 exact ZrK O (hf.ok C O F _ _ _ _ h1) (hg.ok C O F _ _ _ _ h2) (hop _ _ _ _ hc) hm
set_option tactic.hygienic true in
theorem ZK {l r : Expr} {op : CmpOp} {pos : Pos} {vop : Bx -> V -> V -> Option Bool} {f g : DE} (hop : ∀ B d₁ d₂ b, vop B d₁ d₂ = some b -> Op2 G H B (compareOp op) d₁ d₂ (.bool b)) (hf : Den G H k l f) (hg : Den G H k r g)
  (hm : behindInMarks op r = false) : ZgK G H k (.Compare l [op] [r] pos) (T.cmp vop f g) := .mk fun C O F σ B d B' h => by
 refine mE h fun a B₁ h1 h => ?_;refine mE h fun b B₂ h2 h => ?_;refine Zp h fun e he hh => ?_
 cases hh
 exact ZsY O (hf.ok C O F _ _ _ _ h1) (hg.ok C O F _ _ _ _ h2) (hop _ _ _ _ he) hm
set_option tactic.hygienic true in
theorem JG {e : Expr} {f : DE} (hp : Zdm e = true) (hf : Den G H k e f) : ZgK G H k e (T.of f) := .mk fun C O F σ B b B' h => by
 refine mE h fun a B₁ h1 h => ?_;refine Zp h fun e he hh => ?_
 cases hh
 exact Zo7 O hp (hf.ok C O F _ _ _ _ h1) he
set_option tactic.hygienic true in
theorem Zip {x : Expr} {pos : Pos} {t : DT} (ht : ZgK G H k x t) : ZgK G H k (.UnaryOp .Not x pos) (T.not t) := .mk fun C O F σ B b B' h => by
 refine mB h fun c B₁ h1 h => ?_
 cases h
 exact Zs8 (ht.ok C O F _ _ _ _ h1)
set_option tactic.hygienic true in
theorem ZdS {t x y : Expr} {pos : Pos} {ft : DT} {fx fy : DE} (ht : ZgK G H k t ft) (hx : Den G H k x fx) (hy : Den G H k y fy) : Den G H k (.IfExp t x y pos) (D.ite ft fx fy) := .mk fun C O F σ B d B' h => by
 unfold D.ite at h
 split at h
 ·exact nn h
 ·rename_i B₁ h1
  exact Zn4 (ht.ok C O F _ _ _ _ h1) (fun _ => hx.ok C O F _ _ _ _ h) (fun e => by cases e)
 ·rename_i B₁ h1
  exact Zn4 (ht.ok C O F _ _ _ _ h1) (fun e => by cases e) (fun _ => hy.ok C O F _ _ _ _ h)
inductive ZeA (G : GC) (H : Nat) (k : K) : List Expr -> List DT -> Prop
 | nil : ZeA G H k [] []
 | cons {e : Expr} {es : List Expr} {t : DT} {ts : List DT} : ZgK G H k e t -> ZeA G H k es ts -> ZeA G H k (e :: es) (t :: ts)
theorem ZeA.tests {op : BoolOp} {es : List Expr} {ts : List DT} (h : ZeA G H k es ts) (O : Zv G C) (F : Xi k C) : ∀ {B : Bx} {b : Bool} {B' : Bx}, T.bool (op == .And) ts σ B = some (b, B') -> Zdq G H C σ op B es b B' := by
 induction h with
 | nil => intro B b B' hb; cases hb; exact .nil B
 | cons h1 _ ih =>
  intro B b B' hb;simp only [T.bool] at hb;refine mB hb fun c B₁ hc hb => ?_
  split at hb
  ·rename_i hcc
   exact .go _ B₁ _ _ _ _ (by rw [<- hcc]; exact h1.ok C O F _ _ _ _ hc) (ih hb)
  ·rename_i hcc
   cases hb
   have e1 : c = (op == .Or) := by cases op <;> cases c <;> simp_all
   have e2 : (!(op == BoolOp.And)) = (op == .Or) := by cases op <;> rfl
   rw [e2];exact .stop _ _ _ _ (by rw [<- e1]; exact h1.ok C O F _ _ _ _ hc)
theorem J7 {op : BoolOp} {es : List Expr} {pos : Pos} {ts : List DT} (h : ZeA G H k es ts) : ZgK G H k (.BoolOp op es pos) (T.bool (op == .And) ts) := .mk fun C O F σ B b B' hb => ZrQ (h.tests O F hb)
inductive JT (G : GC) (H : Nat) (k : K) : List Expr -> List DE -> Prop
 | nil : JT G H k [] []
 | cons {e : Expr} {es : List Expr} {f : DE} {fs : List DE} : XE e = true -> Den G H k e f -> JT G H k es fs -> JT G H k (e :: es) (f :: fs)
set_option tactic.hygienic true in
theorem JT.row {es : List Expr} {fs : List DE} (h : JT G H k es fs) (O : Zv G C) (F : Xi k C) : ∀ {B : Bx} {ds : List V} {B' : Bx}, D.row fs σ B = some (ds, B') -> Row G H C σ B es ds B' := by
 induction h with
 | nil => intro B ds B' h; cases h; exact .nil B
 | cons hn h1 _ ih =>
  intro B ds B' h;simp only [D.row] at h;refine mE h fun a B₁ ha h => ?_;refine mR h fun as B₂ has h => ?_
  cases h
  exact .cons _ _ _ _ _ _ _ hn (h1.ok C O F _ _ _ _ ha) (ih has)
set_option tactic.hygienic true in
theorem JT.vals {op : BoolOp} {es : List Expr} {fs : List DE} (h : JT G H k es fs) (O : Zv G C) (F : Xi k C) : ∀ {B : Bx} {d : V} {B' : Bx}, D.boolop (op == .And) fs σ B = some (d, B') -> Zh7 G H C σ op B es d B' := by
 induction h with
 | nil => intro B d B' h; cases h
 | @cons e es f fs hn h1 h2 ih =>
  intro B d B' h
  cases h2 with
  | nil => exact .one _ _ _ _ (h1.ok C O F _ _ _ _ h)
  | cons hn' h1' h2' =>
   simp only [D.boolop] at h;refine mE h fun a B₁ ha h => ?_;refine mQ h fun c hc h => ?_
   split at h
   ·rename_i hcc
    exact .go _ B₁ _ _ _ _ _ _ (h1.ok C O F _ _ _ _ ha) (by rw [hc, hcc]) (ih h)
   ·rename_i hcc
    cases h
    have e1 : c = (op == .Or) := by cases op <;> cases c <;> simp_all
    exact .stop _ _ _ _ _ _ (h1.ok C O F _ _ _ _ ha) (by rw [hc, e1])
theorem Zeq {op : BoolOp} {es : List Expr} {pos : Pos} {fs : List DE} (h : JT G H k es fs) : Den G H k (.BoolOp op es pos) (D.boolop (op == .And) fs) := .mk fun C O F σ B d B' hd => Zle (h.vals O F hd)
theorem ZfG {n : Nat} (h : n.ble 100 = true) : n <= sizeLine := by
 have := Nat.le_of_ble_eq_true h;show n <= 2 ^ 24;omega
set_option tactic.hygienic true in
theorem Zz {es : List Expr} {n : Nat} {pos : Pos} {fs : List DE} (h : JT G H k es fs) (hz : es.length.ble 100 = true) : Den G H k (.Tuple es n pos) (D.t fs) := .mk fun C O F σ B d B' hd => by
 refine mR hd fun as B₁ has hd => ?_
 cases hd
 have R := h.row O F has;exact ZnQ O R (by rw [<- R.len]; exact ZfG hz)
set_option tactic.hygienic true in
theorem Ym {es : List Expr} {pos : Pos} {fs : List DE} (h : JT G H k es fs) (hz : es.length.ble 100 = true) : Yu G H k (.List es pos) (D.list fs) := .mk fun C O F σ B d B' hd => by
 refine mR hd fun as B₁ has hd => ?_
 cases hd
 have R := h.row O F has;exact Zqj O R (by rw [<- R.len]; exact ZfG hz)
theorem Zja {pos : Pos} : Yu G H k (.Dict [] [] pos) (D.k (.dict [] [])) := .mk fun C O F σ B d B' hd => by cases hd; exact Zn0 O
set_option tactic.hygienic true in
theorem Zj {o i : Expr} {pos : Pos} {f g : DE} (hn : Zd1 i = true) (hf : Den G H k o f) (hg : Den G H k i g) : Den G H k (.Subscript o i pos) (D.b Zf f g) := .mk fun C O F σ B d B' h => by
 refine mE h fun a B₁ h1 h => ?_;refine mE h fun b B₂ h2 h => ?_;refine Zp h fun e he hh => ?_
 cases hh
 exact Zse O hn (hf.ok C O F _ _ _ _ h1) (hg.ok C O F _ _ _ _ h2) he
theorem ZF : Xa G H k [] S.k := .mk fun C O F σ B r h => by cases h; exact Zoe
set_option tactic.hygienic true in
theorem Zd {st : Stmt} {rest : List Stmt} {f g : DS} (hf : ZaQ G H k st f) (hg : Xa G H k rest g) : Xa G H k (st :: rest) (S.q f g) := .mk fun C O F σ B r h => by
 unfold S.q at h
 split at h
 ·exact nn h
 ·rename_i σ₁ B₁ h1
  exact ZgN (hf.ok C O F _ _ _ h1) (fun σ' B' e => by cases e; exact hg.ok C O F _ _ _ h) (fun hn => absurd rfl (hn _ _))
 ·rename_i r' hr' h1
  cases h
  exact ZgN (hf.ok C O F _ _ _ h1) (fun σ' B' e => absurd (e ▸ h1) (by intro h2; exact hr' _ _ e)) (fun _ => rfl)
theorem Zk {st : Stmt} {f : DS} (hf : ZaQ G H k st f) : Xa G H k [st] f := .mk fun C O F σ B r h =>
 ZgN (hf.ok C O F _ _ _ h) (fun σ' B' e => by subst e; exact Zoe) (fun _ => rfl)
set_option tactic.hygienic true in
theorem Yj {t : Expr} {x y : List Stmt} {pos : Pos} {ft : DT} {fx fy : DS} (ht : ZgK G H k t ft) (hx : Xa G H k x fx) (hy : Xa G H k y fy) : ZaQ G H k (.If t x y pos) (S.ite ft fx fy) := .mk fun C O F σ B r h => by
 unfold S.ite at h
 split at h
 ·exact nn h
 ·rename_i B₁ h1
  exact Zqx (ht.ok C O F _ _ _ _ h1) (fun _ => hx.ok C O F _ _ _ h) (fun e => by cases e)
 ·rename_i B₁ h1
  exact Zqx (ht.ok C O F _ _ _ _ h1) (fun e => by cases e) (fun _ => hy.ok C O F _ _ _ h)
set_option tactic.hygienic true in
theorem ZL {e : Expr} {pos : Pos} {f : DE} (hf : Den G H k e f) : ZaQ G H k (.Return (some e) pos) (S.r f) := .mk fun C O F σ B r h => by
 refine mE h fun d B₁ h1 h => ?_
 cases h
 exact Zsp (hf.ok C O F _ _ _ _ h1)
theorem Zid {pos : Pos} : ZaQ G H k (.Break pos) S.brk := .mk fun C O F σ B r h => by cases h; exact ZsC
set_option tactic.hygienic true in
theorem ZgZ {t : Expr} {pos : Pos} {ft : DT} (ht : ZgK G H k t ft) : ZaQ G H k (.Assert t none pos) (S.assert ft) := .mk fun C O F σ B r h => by
 unfold S.assert at h
 split at h
 ·rename_i B₁ h1
  cases h
  exact Zl2 (ht.ok C O F _ _ _ _ h1)
 ·exact nn h
noncomputable def Zgm (e : Expr) : Bool := !(Nat.beq e.ctorIdx 8 || (Nat.beq e.ctorIdx 9 || Nat.beq e.ctorIdx 10))
theorem Zbb {e : Expr} (h : Zgm e = true) (t : Option Expr) (n : Nat) (env : Env) : swapsWith e t n env = pure false := by
 cases e <;> first | rfl | cases h
set_option tactic.hygienic true in
theorem Zdk {e : Expr} {pos : Pos} {f : DE} (hn : Zgm e = true) (hf : Den G H k e f) : ZaQ G H k (.Expr e pos) (S.expr f) := .mk fun C O F σ B r h => by
 refine mE h fun d B₁ h1 h => ?_
 cases h
 exact Zpp O (hf.ok C O F _ _ _ _ h1) (Zbb hn _ _ _)
theorem Yc {x : Str} {pos : Pos} {i : Nat} (hx : Zfs k x i = true := by kernel_rfl) : ZpT G H k (.Name x pos) fun d σ => some (σ.set i (some d)) := .mk fun C O F σ B d σ' h => by
 refine Xx (Zcs hx) fun hxa hk hi => ?_;rw [<- Option.some.inj h];have := Zgg (H := H) (B := B) (σ := σ) (d := d) (pos := pos) O (by rw [F.asg]; exact hxa) (by rw [F.kind]; exact Jq hk);rw [F.names, hi] at this;exact this
inductive Zfq (k : K) : List Expr -> List Nat -> Prop
 | nil : Zfq k [] []
 | cons {x : Str} {pos : Pos} {es : List Expr} {i : Nat} {is : List Nat} (h : Zfq k es is) (hx : Zfs k x i = true := by kernel_rfl) : Zfq k (.Name x pos :: es) (i :: is)
theorem Zfq.each {es : List Expr} {is : List Nat} (h : Zfq k es is) (O : Zv G C) (F : Xi k C) : ∀ {ds : List V} {σ σ' : St}, S.sets is ds σ = some σ' ->
  ZcA G H C B σ ((assignEach es C.env).map (·.2)) ds σ' /\ es.length = ds.length /\ (assignEach es C.env).findIdx? (·.1) = none /\ (assignEach es C.env).length = es.length := by
 induction h with
 | nil => intro ds σ σ' h; cases ds with
  | nil => cases h; exact ⟨.nil _, rfl, rfl, rfl⟩
  | cons => exact nn h
 | @cons x pos es i is _ hx ih =>
  intro ds σ σ' h
  cases ds with
  | nil => exact nn h
  | cons d ds =>
   refine Xx (Zcs hx) fun hxa hk hi => ?_;simp only [S.sets] at h;refine ZcR (ih h) fun h1 h2 h3 h4 => ?_;have e : assignEach (.Name x pos :: es) C.env = (false, assign (.Name x pos) C.env) :: assignEach es C.env := rfl;rw [e];refine ⟨?_, by simp [h2], by simp [List.findIdx?_cons, h3], by simp [h4]⟩;have := Zgg (H := H) (B := B) (σ := σ) (d := d) (pos := pos) O (by rw [F.asg]; exact hxa) (by rw [F.kind]; exact Jq hk);rw [F.names, hi] at this;exact .cons _ _ _ _ _ _ _ this h1
set_option tactic.hygienic true in
theorem Zal {es : List Expr} {n : Nat} {pos : Pos} {is : List Nat} (h : Zfq k es is) : ZpT G H k (.Tuple es n pos) (S.parts is) := .mk fun C O F σ B d σ' hd => by
 refine mX hd fun ds hds hd => ?_;obtain ⟨h1, h2, h3, h4⟩ := h.each (B := B) O F hd;exact Zoa O hds h2 h3 h4 h1
set_option tactic.hygienic true in
theorem ZeC {x : Str} {e : Expr} {px pos : Pos} {f : DE} {i : Nat} (hf : Den G H k e f) (hs : ∀ env : Env, env.scope.kind = .function -> env.scope.names = k.sc -> swapsWith e (some (.Name x px)) pos.line env = pure false)
  (hx : Zfs k x i = true) : ZaQ G H k (.Assign [.Name x px] e pos) (S.a i f) := .mk fun C O F σ B r h => by
 refine mE h fun d B₁ h1 h => ?_;rw [<- Option.some.inj h];exact ZfI O (hf.ok C O F _ _ _ _ h1) ((Yc hx).ok C O F σ B₁ d _ rfl) (hs _ O.kind F.sc) rfl rfl
set_option tactic.hygienic true in
theorem Zt {x : Str} {e : Expr} {px pos : Pos} {f : DE} {i : Nat} (hf : Den G H k e f) (hn : Zgm e = true := by rfl) (hx : Zfs k x i = true := by kernel_rfl) : ZaQ G H k (.Assign [.Name x px] e pos) (S.a i f) :=
 ZeC hf (fun _ _ _ => Zbb hn _ _ _) hx
set_option tactic.hygienic true in
theorem ZeB {o i e : Expr} {p pos : Pos} {f fo fi : DE} (hf : Den G H k e f) (ho : Den G H k o fo) (hi : Den G H k i fi) (hn : Zgm e = true) : ZaQ G H k (.Assign [.Subscript o i p] e pos) (S.put f fo fi) := .mk fun C O F σ B r h => by
 refine mE h fun d B₁ h1 h => ?_
 split at h
 ·rename_i n B₂ h2
  refine mE h fun j B3 h3 h => ?_;refine mX h fun B4 h4 h => ?_
  cases h
  exact ZrR O (hf.ok C O F _ _ _ _ h1) (ho.ok C O F _ _ _ _ h2) (hi.ok C O F _ _ _ _ h3) h4 (Zbb hn _ _ _)
 ·exact nn h
set_option tactic.hygienic true in
theorem ZcP {x : Str} {e : Expr} {op : Operator} {p pos : Pos} {f : DE} {i : Nat} {vop : Bx -> V -> V -> Option V} (hop : ∀ B d₁ d₂ d, vop B d₁ d₂ = some d -> Op2 G H B (inplaceOp op) d₁ d₂ d) (hf : Den G H k e f)
  (hx : Zfs k x i = true := by kernel_rfl) (hc : (x == ("__classdict__" : Str)) = false := by kernel_rfl) : ZaQ G H k (.AugAssign (.Name x p) op e pos) (S.aug vop i f) := .mk fun C O F σ B r h => by
 refine Xx (Zcs hx) fun hxa hk hi => ?_;unfold S.aug at h
 split at h
 ·rename_i d₁ hd
  refine mE h fun d₂ B₁ h1 h => ?_;refine mV h fun d h2 h => ?_
  cases h
  have := ZrV (H := H) (σ := σ) (p := p) (pos := pos) (op := op) (d₁ := d₁) O (by rw [F.asg]; exact hxa) (by rw [F.kind]; exact Jq hk) hc (by unfold Cx.look; rw [F.names, hi, hd]; rfl) (hf.ok C O F _ _ _ _ h1) (hop _ _ _ _ h2);rw [F.names, hi] at this;exact this
 ·exact nn h
set_option tactic.hygienic true in
theorem Zbo {o i e : Expr} {op : Operator} {p pos : Pos} {f fo fi : DE} {vop : Bx -> V -> V -> Option V} (hop : ∀ B d₁ d₂ d, vop B d₁ d₂ = some d -> Op2 G H B (inplaceOp op) d₁ d₂ d) (ho : Den G H k o fo) (hi : Den G H k i fi) (hf : Den G H k e f)
  (ha : ∀ ov iv new, augStore i ov iv new = (do holding [new, ov, iv] (setItem ov iv new); release [new, ov, iv] []; pure .next)) : ZaQ G H k (.AugAssign (.Subscript o i p) op e pos) (S.augput vop fo fi f) := .mk fun C O F σ B r h => by
 unfold S.augput at h
 split at h
 ·rename_i n B₁ h1
  refine mE h fun j B₂ h2 h => ?_;refine mV h fun d₂ h3 h => ?_;refine mE h fun d'3 B3 h4 h => ?_;refine mV h fun d'4 h5 h => ?_;refine mX h fun B4 h6 h => ?_
  cases h
  exact Zlp O (ho.ok C O F _ _ _ _ h1) (hi.ok C O F _ _ _ _ h2) h3 (hf.ok C O F _ _ _ _ h4) (hop _ _ _ _ h5) h6 ha
 ·exact nn h
set_option tactic.hygienic true in
theorem Zhs {o i : Expr} {p pos : Pos} {fo fi : DE} (ho : Den G H k o fo) (hi : Den G H k i fi) : ZaQ G H k (.Delete [.Subscript o i p] pos) (S.del fo fi) := .mk fun C O F σ B r h => by
 unfold S.del at h
 split at h
 ·rename_i n B₁ h1
  refine mE h fun j B₂ h2 h => ?_;refine mX h fun B3 h3 h => ?_
  cases h
  exact Zrb O (ho.ok C O F _ _ _ _ h1) (hi.ok C O F _ _ _ _ h2) h3
 ·exact nn h
set_option tactic.hygienic true in
theorem Y6 {t e : Expr} {body orelse : List Stmt} {pos : Pos} {fi : DI} {g : V -> St -> Option St} {fb fe : DS} (hi : Zjk G H k e tp fi) (ht : ZdZ tp t = true) (hg : ZpT G H k t g) (hb : Xa G H k body fb) (he : Xa G H k orelse fe)
  (hs : ∀ env x, foldedSetIterable e env x = pure x) : ZaQ G H k (.For t e body orelse pos) (S.l fi g fb fe) := .mk fun C O F σ B r h => by
 refine mS h fun src B₁ h1 h => ?_;refine Zsr O (hs _) (hi.ok C O F _ _ _ _ h1) ht (fun ow x σ B r O' hr => ?_) (fun ow σ B r O' hr => he.ok _ O' (F.more ow) _ _ _ hr) h;refine mT hr fun σ₁ h2 hr => ?_;exact ⟨σ₁, B, hg.ok _ O' (F.more ow) _ _ _ _ h2, hb.ok _ O' (F.more ow) _ _ _ hr⟩
set_option tactic.hygienic true in
theorem Zx {e : Expr} {f : DE} (hf : Den G H k e f) : Zjk G H k e false (I.val f) := .mk fun C O F σ B src B' h => by
 refine mE h fun d B₁ h1 h => ?_;refine Zp h fun e he hh => ?_
 cases hh
 exact ZrL O (hf.ok C O F _ _ _ _ h1) he
set_option tactic.hygienic true in
theorem Zd2 {o : Expr} {apos pos : Pos} {f : DE} (hb : Xo o = true) (hl : (apos.endLine == pos.line) = true) (hf : Den G H k o f) : Zjk G H k (.Call (.Attribute o "items" apos) [] [] pos) true (I.items f) := .mk fun C O F σ B src B' h => by
 unfold I.items at h
 split at h
 ·rename_i ks ds B₁ h1
  cases h
  exact ZoC O hb hl (hf.ok C O F _ _ _ _ h1)
 ·exact nn h
set_option tactic.hygienic true in
theorem Zhh {o : Expr} {apos pos : Pos} {f : DE} (hb : Xo o = true) (hl : (apos.endLine == pos.line) = true) (hf : Den G H k o f) : Zjk G H k (.Call (.Attribute o "values" apos) [] [] pos) false (I.values f) := .mk fun C O F σ B src B' h => by
 unfold I.values at h
 split at h
 ·rename_i ks ds B₁ h1
  cases h
  exact Zk8 O hb hl (hf.ok C O F _ _ _ _ h1)
 ·exact nn h
end
noncomputable def small (a : Int) : Bool := decide (-(2 ^ 60) < a) && decide (a < 2 ^ 60)
noncomputable def Y8 (_ : Bx) : V -> V -> Option V
 | .int a, .int b => if b = 0 then none else some (.int (Int.fmod a b))
 | _, _ => none
noncomputable def Zg6 (_ : Bx) : V -> V -> Option V
 | .int a, .int b => if b = 0 || !small b then none else some (.int (Int.fdiv a b))
 | _, _ => none
noncomputable def ZgI (_ : Bx) : V -> V -> Option V
 | .int a, .int n => if decide (0 <= n) && decide (n <= 100) && small a then some (.int (a ^ n.toNat)) else none
 | _, _ => none
noncomputable def Zfj (_ : Bx) : V -> V -> Option V
 | .int a, .int n => if decide (0 <= n) && decide (n <= 1000000) && small a then some (.int (a * 2 ^ n.toNat)) else none
 | _, _ => none
noncomputable def Zi9 (_ : Bx) : V -> V -> Option V
 | .int a, .int b => some (.int (Builtin.bitAnd a b))
 | _, _ => none
noncomputable def Zl4 (_ : Bx) : V -> V -> Option V
 | .int a, .int b => some (.int (Builtin.bitXor a b))
 | _, _ => none
noncomputable def ZbS (_ : Bx) : V -> V -> Option V
 | .int a, .int b => some (.int (a + b))
 | _, _ => none
noncomputable def Zpf (_ : Bx) : V -> V -> Option V
 | .int a, .int b => some (.int (a - b))
 | _, _ => none
noncomputable def JI (_ : Bx) : V -> Option V
 | .int a => some (.int (-a))
 | _ => none
noncomputable def vlt (_ : Bx) : V -> V -> Option Bool
 | .int a, .int b => some (decide (a < b))
 | _, _ => none
noncomputable def vgt (_ : Bx) : V -> V -> Option Bool
 | .int a, .int b => some (decide (b < a))
 | _, _ => none
noncomputable def vge (_ : Bx) : V -> V -> Option Bool
 | .int a, .int b => some (decide (b <= a))
 | _, _ => none
noncomputable def vin (B : Bx) (a c : V) : Option Bool := match c with
 | .str y => match a with
  | .str x => some (ZaW x y)
  | _ => none
 | c => match JB B c with
  | some (ks, _) => match a with
   | .str x => some (ks.contains x)
   | _ => none
  | none => ZkR B a c
noncomputable def Za5 (B : Bx) (a c : V) : Option Bool := (vin B a c).map (!·)
noncomputable def Js (B : Bx) (a c : V) : Option Bool := (Y1 B a c).map (!·)
section
variable {G : GC} {C : Cx} {β : List Addr} {B B₁ B₂ : Bx} {σ : St} {s : Shared} {H : Nat} {d d₁ d₂ : V} {v : Value} {b : Bool} {r : Out} {k : K}
theorem Zb6 {a : Int} (h : small a = true) : Builtin.Int.intBits a <= 64 := by
 unfold small at h;simp only [Bool.and_eq_true, decide_eq_true_eq] at h;exact intBits_le_64 (by omega) (by omega)
theorem ZpY {xs ys : List V} (h1 : ZS B d₁ = some xs) (h2 : ZS B d₂ = some ys) (hz : Zu (xs.length + ys.length) = true) : Op2 G H B (binaryOp .Add) d₁ d₂ (.list (xs ++ ys)) := fun C σ A β s v w O hA I rv rw E => by
 refine YD (Ys I rv h1) fun a vs n z_3 e q => ?_;subst z_3;refine YD (Ys I rw h2) fun a2 ws n2 z_3 e2 q2 => ?_;subst z_3;have n1 : vs.size = xs.length := by rw [<- q.length]; simp
 have n2' : ws.size = ys.length := by rw [<- q2.length]; simp
 refine concat_meets ⟨_, e, rfl⟩ ⟨_, e2, rfl⟩ noFill_list_add seq_list_add PySem.F.slot_list_add PySem.F.entry_list_add (PySem.F.args_list_add_2 _ _) (AutoSeq1.list___add___list_list_0 a vs n a2 ws n2 (by rw [n1, n2']; exact Yy hz)) ⟨e, e2, ?_⟩;exact (X6 (vs := vs ++ ws) (n := 0) (tk := s.toks) O I (by rw [Array.toList_append]; exact q.append q2)).tree
theorem ZpL {xs ys : List V} (hz : Zu (xs.length + ys.length) = true) : Op2 G H B (binaryOp .Add) (.tup xs) (.tup ys) (.tup (xs ++ ys)) := fun C σ A β s v w O hA I rv rw E => by
 refine YD (XV rv) fun a vs n z_3 e q => ?_;subst z_3;refine YD (XV rw) fun a2 ws n2 z_3 e2 q2 => ?_;subst z_3;have n1 : vs.size = xs.length := by rw [<- Array.length_toList]; exact q.length
 have n2' : ws.size = ys.length := by rw [<- Array.length_toList]; exact q2.length
 have hT : ∀ {a vs n}, s.heap.get? a = some (YG vs n) -> s.TypeIs (.ref a) "tuple" := fun e => ⟨_, e, rfl⟩
 by_cases hv : vs.isEmpty = true
 ·refine concat_meets (hT e) (hT e2) noFill_tuple_add seq_tuple_add PySem.F.slot_tuple_add PySem.F.entry_tuple_add (PySem.F.args_tuple_add_2 _ _) (tuple_addW0 a a2 vs ws n n2 none none #[] #[] hv) ⟨e, e2, ?_⟩
  have hx : xs = [] := by
   have : vs.size = 0 := by simpa [Array.isEmpty] using hv
   rw [n1] at this; exact List.length_eq_zero_iff.mp this
  subst hx;exact Zs.ofExt I (Ext.refl s) rw
 ·by_cases hw : ws.isEmpty = true
  ·refine concat_meets (hT e) (hT e2) noFill_tuple_add seq_tuple_add PySem.F.slot_tuple_add PySem.F.entry_tuple_add (PySem.F.args_tuple_add_2 _ _) (tuple_addW1 a a2 vs ws n n2 none none #[] #[] hv hw) ⟨e, e2, ?_⟩
   have hy : ys = [] := by
    have : ws.size = 0 := by simpa [Array.isEmpty] using hw
    rw [n2'] at this; exact List.length_eq_zero_iff.mp this
   subst hy;rw [List.append_nil];exact Zs.ofExt I (Ext.refl s) rv
  ·refine concat_meets (hT e) (hT e2) noFill_tuple_add seq_tuple_add PySem.F.slot_tuple_add PySem.F.entry_tuple_add (PySem.F.args_tuple_add_2 _ _) (tuple_addW2 a a2 vs ws n n2 none none #[] #[] hv hw (by rw [n1, n2']; exact Yy hz)) ⟨e, e2, ?_⟩
   have x := Ext.push s (YG (vs ++ ws) 0);exact Zs.ofExt I (x.trans (Ext.toks _ _)) (.tup (vs := vs ++ ws) (n := 0) (Heap.get?_push_size _ rfl) (I.fresh (Nat.le_refl _)) (x.repAll (by rw [Array.toList_append]; exact q.append q2)))
noncomputable def Zqt (B : Bx) (a b : V) : Sb fun r => ∀ (G : GC) (H : Nat), Op2 G H B (binaryOp .Add) a b r := match a, b with
 | .int a, .int b => .ok (.int (a + b)) fun _ _ => Zrw
 | .str x, .str y => .ite (c := Zu (x.length + y.length) = true) (.str (x ++ y)) fun hz _ _ => Zrp (Yy hz)
 | .tup xs, .tup ys => .ite (c := Zu (xs.length + ys.length) = true) (.tup (xs ++ ys)) fun hz _ _ => ZpL hz
 | a, b => .bind (ZS B a) fun xs h1 => .bind (ZS B b) fun ys h2 => .ite (c := Zu (xs.length + ys.length) = true) (.list (xs ++ ys)) fun hz _ _ => ZpY h1 h2 hz
noncomputable def YV (B : Bx) (a b : V) : Option V := (Zqt B a b).1
theorem ZdN {x y : Str} : YV B (.str x) (.str y) = if Zu (x.length + y.length) then some (.str (x ++ y)) else none := rfl
theorem Xb : ∀ B d₁ d₂ d, YV B d₁ d₂ = some d -> Op2 G H B (binaryOp .Add) d₁ d₂ d := fun B d₁ d₂ d h => (Zqt B d₁ d₂).2 d h G H
noncomputable def Zqs (B : Bx) (a b : V) : Sb fun r => ∀ (G : GC) (H : Nat), Op2 G H B (binaryOp .Sub) a b r := match a, b with
 | .int a, .int b => .ok (.int (a - b)) fun _ _ => ZrJ
 | .bool a, .bool b => .ok (.int ((if a then 1 else 0) - (if b then 1 else 0))) fun G _ C σ A β s v w O hA I rv rw E => by
  rw [ZcG rv, ZcG rw];exact PyProof.Rows.sub_bool (Zs.ofExt I (Ext.toks s _) (by cases a <;> cases b <;> exact .int _ _))
 | _, _ => .no
noncomputable def Ya (B : Bx) (a b : V) : Option V := (Zqs B a b).1
set_option tactic.hygienic true in
theorem Yk : ∀ B d₁ d₂ d, Ya B d₁ d₂ = some d -> Op2 G H B (binaryOp .Sub) d₁ d₂ d := fun B d₁ d₂ d h => (Zqs B d₁ d₂).2 d h G H
noncomputable def ZqT (B : Bx) (a b : V) : Sb fun r => ∀ (G : GC) (H : Nat), Op2 G H B (binaryOp .Mult) a b r := match a, b with
 | .int a, .int b => .ite (c := small a = true) (.int (a * b)) fun hs _ _ => Zsn (IntMulOk.of_left (Zb6 hs))
 | .str x, .int n => .ite (c := (decide (0 <= n) && decide (n <= 1000) && decide (x.length <= 1000)) = true) (.str (Txt.mul x n)) fun hs _ _ => by
  simp only [Bool.and_eq_true, decide_eq_true_eq] at hs;refine ZkZ ⟨?_, fun h1 _ => ?_, fun h1 _ => ?_⟩
  ·simp; omega
  ·have h2 : (9223372036854775807 : Int) / 1000 <= (2 ^ 63 - 1) / n := by
    show (9223372036854775807 : Int) / 1000 <= 9223372036854775807 / n;rw [Int.le_ediv_iff_mul_le (by omega)];have : (9223372036854775807 : Int) / 1000 = 9223372036854775 := by decide
    rw [this];omega
   have : (9223372036854775807 : Int) / 1000 = 9223372036854775 := by decide
   omega
  ·unfold Builtin.Str.tooLong
   rw [sizeLine_eq];have h2 : n.toNat <= 1000 := by omega
   have := Nat.mul_le_mul hs.2 h2;simp; omega
 | _, _ => .no
noncomputable def Y2 (B : Bx) (a b : V) : Option V := (ZqT B a b).1
theorem Zo9 {a b : Int} : Y2 B (.int a) (.int b) = if small a then some (.int (a * b)) else none := rfl
theorem Zp6 {x : Str} {n : Int} : Y2 B (.str x) (.int n) = if decide (0 <= n) && decide (n <= 1000) && decide (x.length <= 1000) then some (.str (Txt.mul x n)) else none := rfl
set_option tactic.hygienic true in
theorem Xn : ∀ B d₁ d₂ d, Y2 B d₁ d₂ = some d -> Op2 G H B (binaryOp .Mult) d₁ d₂ d := fun B d₁ d₂ d h => (ZqT B d₁ d₂).2 d h G H
theorem X5 : ∀ B d₁ d₂ d, Y8 B d₁ d₂ = some d -> Op2 G H B (binaryOp .Mod) d₁ d₂ d := by
 intro B d₁ d₂ d h;unfold Y8 at h
 split at h
 ·split at h
  ·exact nn h
  ·rename_i hb; cases h; exact Zr0 hb
 ·exact nn h
theorem Zgj {a b : Int} (h : small b = true) : Builtin.divisionGoesByPylong a b = false := by
 have hb := Zb6 h;unfold small at h;simp only [Bool.and_eq_true, decide_eq_true_eq] at h;unfold Builtin.divisionGoesByPylong
 have : (if (b == 0) = true then 0 else b.natAbs.log2 / 30 + 1) <= 300 := by
  split
  ·omega
  ·rename_i h0
   have h0 : b ≠ 0 := by simpa using h0
   have h1 : b.natAbs < 2 ^ 60 := by omega
   have h2 := (Nat.log2_lt (n := b.natAbs) (k := 60) (by omega)).mpr h1;omega
 simp only [Bool.and_eq_false_iff, decide_eq_false_iff_not];exact .inl (by omega)
theorem ZjS : ∀ B d₁ d₂ d, Zg6 B d₁ d₂ = some d -> Op2 G H B (binaryOp .FloorDiv) d₁ d₂ d := by
 intro B d₁ d₂ d h;unfold Zg6 at h
 split at h
 ·split at h
  ·exact nn h
  ·rename_i hb
   cases h
   simp only [Bool.or_eq_true, decide_eq_true_eq, Bool.not_eq_true', not_or, Bool.not_eq_false] at hb;exact Zr3 hb.1 (Zgj hb.2)
 ·exact nn h
set_option tactic.hygienic true in
theorem Zpx : ∀ B d₁ d₂ d, ZgI B d₁ d₂ = some d -> Op2 G H B (binaryOp .Pow) d₁ d₂ d := by
 intro B d₁ d₂ d h;unfold ZgI at h
 split at h
 ·split at h
  ·rename_i a n hs
   cases h
   simp only [Bool.and_eq_true, decide_eq_true_eq] at hs;have := Zb6 hs.2;refine Zq6 hs.1.1 ?_;have h1 : ((Builtin.Int.intBits a : Nat) : Int) <= 64 := by omega
   have := Int.mul_le_mul h1 hs.1.2 hs.1.1 (by omega);omega
  ·exact nn h
 ·exact nn h
set_option tactic.hygienic true in
theorem Zki : ∀ B d₁ d₂ d, Zfj B d₁ d₂ = some d -> Op2 G H B (binaryOp .LShift) d₁ d₂ d := by
 intro B d₁ d₂ d h;unfold Zfj at h
 split at h
 ·split at h
  ·rename_i a n hs
   cases h
   simp only [Bool.and_eq_true, decide_eq_true_eq, small] at hs;exact Zq3 hs.1.1 hs.1.2 (by omega)
  ·exact nn h
 ·exact nn h
theorem Zpg : ∀ B d₁ d₂ d, Zi9 B d₁ d₂ = some d -> Op2 G H B (binaryOp .BitAnd) d₁ d₂ d := by
 intro B d₁ d₂ d h;unfold Zi9 at h
 split at h
 ·cases h; exact ZrC
 ·exact nn h
theorem Zps : ∀ B d₁ d₂ d, Zl4 B d₁ d₂ = some d -> Op2 G H B (inplaceOp .BitXor) d₁ d₂ d := by
 intro B d₁ d₂ d h;unfold Zl4 at h
 split at h
 ·cases h
  exact fun C σ A β s v w O hA I rv rw E => by
   obtain ⟨t, rfl⟩ := Zo rv; obtain ⟨u, rfl⟩ := Zo rw;exact ixor_int (Zs.ofExt I (Ext.toks s _) (.int _ _))
 ·exact nn h
theorem Zcr : ∀ B d₁ d₂ d, ZbS B d₁ d₂ = some d -> Op2 G H B (inplaceOp .Add) d₁ d₂ d := by
 intro B d₁ d₂ d h;unfold ZbS at h
 split at h
 ·cases h
  exact fun C σ A β s v w O hA I rv rw E => by
   obtain ⟨t, rfl⟩ := Zo rv; obtain ⟨u, rfl⟩ := Zo rw;exact iadd_int (Zs.ofExt I (Ext.toks s _) (.int _ _))
 ·exact nn h
theorem Zp2 : ∀ B d₁ d₂ d, Zpf B d₁ d₂ = some d -> Op2 G H B (inplaceOp .Sub) d₁ d₂ d := by
 intro B d₁ d₂ d h;unfold Zpf at h
 split at h
 ·cases h
  exact fun C σ A β s v w O hA I rv rw E => by
   obtain ⟨t, rfl⟩ := Zo rv; obtain ⟨u, rfl⟩ := Zo rw;exact isub_int (Zs.ofExt I (Ext.toks s _) (.int _ _))
 ·exact nn h
theorem Zat : ∀ B d₁ d, JI B d₁ = some d -> Op1 G H B (unaryOp .USub) d₁ d := by
 intro B d₁ d h;unfold JI at h
 split at h
 ·cases h; exact ZrZ
 ·exact nn h
theorem Ze1 : ∀ B d₁ d₂ b, vlt B d₁ d₂ = some b -> Op2 G H B (compareOp .Lt) d₁ d₂ (.bool b) := by
 intro B d₁ d₂ d h;unfold vlt at h
 split at h
 ·cases h; exact ZsU
 ·exact nn h
theorem Zc3 : ∀ B d₁ d₂ b, vgt B d₁ d₂ = some b -> Op2 G H B (compareOp .Gt) d₁ d₂ (.bool b) := by
 intro B d₁ d₂ d h;unfold vgt at h
 split at h
 ·cases h; exact Ztk
 ·exact nn h
theorem Zq5 : ∀ B d₁ d₂ b, vge B d₁ d₂ = some b -> Op2 G H B (compareOp .GtE) d₁ d₂ (.bool b) := by
 intro B d₁ d₂ d h;unfold vge at h
 split at h
 ·cases h; exact Zs2
 ·exact nn h
theorem Jy : ∀ B d₁ d₂ b, Y1 B d₁ d₂ = some b -> Op2 G H B (compareOp .Eq) d₁ d₂ (.bool b) := fun B d₁ d₂ b h => (ZqS h).1
theorem Za6 : ∀ B d₁ d₂ b, Js B d₁ d₂ = some b -> Op2 G H B (compareOp .NotEq) d₁ d₂ (.bool b) := fun B d₁ d₂ b h => by
 refine Zp h fun c hc z_2 => ?_;subst z_2;exact (ZqS hc).2
theorem ZjJ {b : Bool} (h : vin B d₁ d₂ = some b) : Op2 G H B (compareOp .In) d₁ d₂ (.bool b) /\ Op2 G H B (compareOp .NotIn) d₁ d₂ (.bool (!b)) := by
 unfold vin at h
 split at h
 ·split at h
  ·cases h; exact ZlT
  ·exact nn h
 ·split at h
  ·rename_i hd
   split at h
   ·cases h; exact Zjt hd
   ·exact nn h
  ·exact ZsF h
theorem Zrq : ∀ B d₁ d₂ b, vin B d₁ d₂ = some b -> Op2 G H B (compareOp .In) d₁ d₂ (.bool b) := fun B d₁ d₂ b h => (ZjJ h).1
theorem Zc8 : ∀ B d₁ d₂ b, Za5 B d₁ d₂ = some b -> Op2 G H B (compareOp .NotIn) d₁ d₂ (.bool b) := fun B d₁ d₂ b h => by
 refine Zp h fun c hc z_2 => ?_;subst z_2;exact (ZjJ hc).2
noncomputable def D.rep (f g : DE) : DE := fun σ B => match f σ B with
 | some (.list xs, B₁) => match g σ B₁ with
  | some (.int n, B₂) => if decide (0 <= n) && decide (n <= 1000) && decide (xs.length <= 1000) then some (.list (List.replicate n.toNat xs).flatten, B₂) else none
  | _ => none
 | _ => none
end
theorem Zcp {prog : Program} {w : World} {A : Around} {E : Value -> Shared -> Prop} {s : Shared} {a b : Int} {t u : Tok} {Q : Value -> Shared -> Prop} (h : Q (.bool (decide (a < b))) s) : wpAny (model prog w) A (richCompare .Lt (.int a t) (.int b u)) Q E s :=
 (lt_int h : wpAny (model prog w) A (compareOp .Lt (.int a t) (.int b u)) Q E s)
set_option maxHeartbeats 2000000 in
theorem Zln (l b : Addr) (x y p q : Int) (t1 t2 t3 t4 : Tok) (n n2 : Nat) :
  Meets (Builtin.«tuple.__lt__» ⟨[.ref l, .ref b], []⟩)
   (fun A R s => s.heap.get? l = some { cls := .type "tuple", dict := none, data := .seq #[.int x t1, .int y t2] n, slots := #[] } /\ s.heap.get? b = some { cls := .type "tuple", dict := none, data := .seq #[.int p t3, .int q t4] n2, slots := #[] } /\
    R (.ok (.ret (.bool (if x = p then decide (y < q) else decide (x < p))))) s) :=
 .of_wp fun prog w A R s h => by
  obtain ⟨hp, g, d, tk, os⟩ := s; obtain ⟨hl, hb, h⟩ := h;have f2 := AutoSeq1.sub_tuple_tuple
  by_cases hx : x = p
  ·subst hx
   rw [if_pos rfl] at h
   by_cases hy : y = q
   ·subst hy
    have e : decide (y < y) = false := by simp
    rw [e] at h
    wp_walk using wpAny_loadPart' hl, wpAny_loadPart' hb, wpAny_eqBool_int, Zcp
    all_goals (try rw [beq_self_eq_true])
    wp_walk using wpAny_loadPart' hl, wpAny_loadPart' hb, wpAny_eqBool_int, Zcp
    exact ⟨_, rfl, h⟩
   ·have e : (y == q) = false := by simpa using hy
    wp_walk using wpAny_loadPart' hl, wpAny_loadPart' hb, wpAny_eqBool_int, Zcp
    all_goals (try rw [beq_self_eq_true])
    wp_walk using wpAny_loadPart' hl, wpAny_loadPart' hb, wpAny_eqBool_int, Zcp
    exact ⟨_, rfl, h⟩
  ·rw [if_neg hx] at h
   have e : (x == p) = false := by simpa using hx
   wp_walk using wpAny_loadPart' hl, wpAny_loadPart' hb, wpAny_eqBool_int, Zcp
   exact ⟨_, rfl, h⟩
theorem Zsw {G : GC} {H : Nat} {B : Bx} {x y p q : Int} : Op2 G H B (compareOp .Lt) (.tup [.int x, .int y]) (.tup [.int p, .int q]) (.bool (if x = p then decide (y < q) else decide (x < p))) := fun C σ A β s v w O hA I rv rw E => by
 obtain ⟨a, vs, n, rfl, e, q1⟩ := XV rv;obtain ⟨a2, ws, n2, rfl, e2, q2⟩ := XV rw;obtain ⟨v1, v2, h1, r1, r2⟩ := YE q1;obtain ⟨w1, w2, h2, r3, r4⟩ := YE q2;obtain ⟨t1, rfl⟩ := Zo r1;obtain ⟨t2, rfl⟩ := Zo r2;obtain ⟨t3, rfl⟩ := Zo r3;obtain ⟨t4, rfl⟩ := Zo r4;have e : s.heap.get? a = some (YG #[.int x t1, .int y t2] n) := by rw [e]; congr 2; apply Array.ext'; exact h1
 have e2 : s.heap.get? a2 = some (YG #[.int p t3, .int q t4] n2) := by rw [e2]; congr 2; apply Array.ext'; exact h2
 exact richCompare_meets_room (op := .Lt) ⟨_, e, rfl⟩ ⟨_, e2, rfl⟩ PySem.F.slot_tuple_lt PySem.F.entry_tuple_lt (PySem.F.args_tuple_lt_2 _ _) (Zln a a2 x y p q t1 t2 t3 t4 n n2) ⟨e, e2, by simp, Zs.ofExt I (Ext.refl s) (.bool _)⟩ (by have := hA.room3; omega)
noncomputable def two {α : Type} : List α -> Option (α × α)
 | [] => none
 | a :: l => match l with
  | [] => none
  | b :: l => match l with
   | [] => some (a, b)
   | _ :: _ => none
theorem Zhk {α : Type} {l : List α} {p : α × α} (h : two l = some p) : l = [p.1, p.2] := by
 cases l with
 | nil => exact nn h
 | cons a l =>
  cases l with
  | nil => exact nn h
  | cons b l =>
   cases l with
   | nil => rw [<- Option.some.inj h]
   | cons => exact nn h
noncomputable def asP (d : V) : Option (Int × Int) := (ZlA d).1.bind fun l => (YR l).bind two
theorem ZhB {d : V} {p : Int × Int} (h : asP d = some p) : d = .tup [.int p.1, .int p.2] :=
 Z6 h fun l e h => Z6 h fun ns e' h => ((ZlA d).2 l e).trans (congrArg V.tup ((Xh e').trans (congrArg (List.map V.int) (Zhk h))))
noncomputable def Zmu (lt : Int -> Int -> Bool) (d e : V) : Option Bool := (asP d).bind fun p => (asP e).map fun q => if p.1 = q.1 then lt p.2 q.2 else lt p.1 q.1
theorem Zfb {lt : Int -> Int -> Bool} {d e : V} {b : Bool} {P : V -> V -> Bool -> Prop} (h : Zmu lt d e = some b) (k : ∀ x y p q, P (.tup [.int x, .int y]) (.tup [.int p, .int q]) (if x = p then lt y q else lt x p)) : P d e b :=
 Z6 h fun a e h => Zp h fun c e' h => by
  rw [ZhB e, ZhB e', <- h];exact k _ _ _ _
noncomputable def Zh4 (_ : Bx) (d e : V) : Option Bool := Zmu (fun a b => decide (a < b)) d e
theorem ZjZ {G : GC} {H : Nat} (B d₁ d₂ b) (h : Zh4 B d₁ d₂ = some b) : Op2 G H B (compareOp .Lt) d₁ d₂ (.bool b) := Zfb (P := fun d e b => Op2 G H B (compareOp .Lt) d e (.bool b)) h fun _ _ _ _ => Zsw
noncomputable def XB (f : V -> Option V) : List V -> Option (List V)
 | [] => some []
 | x :: xs => match f x, XB f xs with
  | some y, some ys => some (y :: ys)
  | _, _ => none
noncomputable def frz (n : Nat) (B : Bx) : Nat -> V -> Option V
 | 0, _ => none
 | m + 1, d => match d with
  | .tup xs => (XB (frz n B m) xs).map .tup
  | .list xs => (XB (frz n B m) xs).map .list
  | .dict ks xs => (XB (frz n B m) xs).map (.dict ks)
  | .tc c => (frz n B m c).map .tc
  | .box i => if i < n then some (.box i) else match B[i]? with
   | some (.list xs) => (XB (frz n B m) xs).map .list
   | some (.dict ks xs) => (XB (frz n B m) xs).map (.dict ks)
   | _ => none
  | d => some d
section
variable {G : GC} {C : Cx} {β β' : List Addr} {B B' : Bx} {σ σ' : St} {s : Shared} {H : Nat} {d d₁ : V} {v : Value} {b : Bool} {ds : List V} {r : Out} {k : K} {X : Addr -> Prop} {av av' : Addr -> Prop} {h : Heap}
structure Cut (av av' : Addr -> Prop) (β β' : List Addr) (n : Nat) : Prop where
 get : ∀ {i : Nat} {a : Addr}, β'[i]? = some a -> i < n -> β[i]? = some a
 sub : ∀ a, avB av β a -> avB av' β' a
 apart : ∀ (i : Nat) (a : Addr), n <= i -> β'[i]? = some a -> ¬ avB av β a
theorem Rep.cut {av0 : Addr -> Prop} {h0 : Heap} {v0 : Value} (c : Cut av av' β β' β.length) (r0 : Rep G av0 β h0 v0 d) : ∀ v, Rep G (avB av' β') β' h v d -> Rep G (avB av β) β h v d :=
 Rep.rec (motive_1 := fun _ d _ => ∀ v, Rep G (avB av' β') β' h v d -> Rep G (avB av β) β h v d) (motive_2 := fun _ ds _ => ∀ vs, Zb G (avB av' β') β' h vs ds -> Zb G (avB av β) β h vs ds)
  (fun v r => by rw [r.sh]; exact .none) (fun _ v r => by rw [r.sh]; exact .bool _) (fun _ _ v r => by obtain ⟨t, e⟩ := r.sh; rw [e]; exact .int _ _) (fun _ _ v r => by obtain ⟨t, e⟩ := r.sh; rw [e]; exact .str _ _)
  (fun _ _ _ ih v r => by obtain ⟨a, vs, k, ev, e, na, q⟩ := r.sh; rw [ev]; exact .tup e (fun z => na (c.sub _ z)) (ih _ q))
  (fun _ _ _ ih v r => by obtain ⟨a, vs, k, ev, e, na, q⟩ := r.sh; rw [ev]; exact .list e (fun z => na (c.sub _ z)) (ih _ q))
  (fun _ _ _ _ _ ih v r => by obtain ⟨a, kvs, ev, e, hs, na, he, q⟩ := r.sh; rw [ev]; exact .dict e hs (fun z => na (c.sub _ z)) he (ih _ q))
  (fun e0 v r => by obtain ⟨a, ev, e⟩ := r.sh; rw [ev]; exact .box (c.get e (List.getElem?_eq_some_iff.mp e0).1))
  (fun _ _ v r => by obtain ⟨a, t, u, w, ev, e, na⟩ := r.sh; rw [ev]; exact .range e fun z => na (c.sub _ z))
  (fun _ _ _ _ _ _ ih v r => by obtain ⟨a, D, od, x, ev, e, na, nd, hn, hm, r⟩ := r.sh; rw [ev]; exact .tc e (fun z => na (c.sub _ z)) (fun z => nd (c.sub _ z)) hn hm (ih _ r))
  (fun vs r => by rw [r.sh.1 rfl]; exact .nil) (fun _ _ ih ihs vs r => by obtain ⟨v, vs', e, r1, r2⟩ := r.sh.2 _ _ rfl; rw [e]; exact .cons (ih _ r1) (ihs _ r2)) r0
theorem Zb.cut {av0 : Addr -> Prop} {h0 : Heap} {vs0 : List Value} {ds : List V} (c : Cut av av' β β' β.length) (r0 : Zb G av0 β h0 vs0 ds) : ∀ vs, Zb G (avB av' β') β' h vs ds -> Zb G (avB av β) β h vs ds :=
 Zb.ind (P := fun _ ds => ∀ vs, Zb G (avB av' β') β' h vs ds -> Zb G (avB av β) β h vs ds) (fun vs r => by rw [r.sh.1 rfl]; exact .nil)
  (fun r0 _ ih vs r => by obtain ⟨v, vs', e, r1, r2⟩ := r.sh.2 _ _ rfl; rw [e]; exact .cons (r0.cut c _ r1) (ih _ r2)) r0
theorem ZaT {f : V -> Option V} {av1 av2 : Addr -> Prop} {β1 β2 : List Addr} {h₁ : Heap} (hf : ∀ v d d', Rep G av1 β1 h₁ v d -> f d = some d' -> Rep G av2 β2 h₁ v d') {vs : List Value} {ds : List V} (r : Zb G av1 β1 h₁ vs ds) : ∀ ds', XB f ds = some ds' -> Zb G av2 β2 h₁ vs ds' :=
 Zb.ind (P := fun vs ds => ∀ ds', XB f ds = some ds' -> Zb G av2 β2 h₁ vs ds') (fun ds' e => Option.some.inj e ▸ .nil) (fun r _ ih ds' e => by
  unfold XB at e
  split at e
  ·rename_i e1 e2
   rw [<- Option.some.inj e];exact .cons (hf _ _ _ r e1) (ih _ e2)
  ·cases e) r
theorem ZmW {n : Nat} (c : Cut av av' β β' n) (hx : ZbY G av' β' B' h) : ∀ (m : Nat) (v : Value) (d d' : V), Rep G (avB av' β') β' h v d -> frz n B' m d = some d' -> Rep G (avB av β) β h v d' := by
 intro m
 induction m with
 | zero => intro v d d' r hf; cases hf
 | succ m ih =>
  intro v d d' r hf;have S := r.sh;clear r
  cases d with
  | none => rw [<- Option.some.inj hf, show v = _ from S]; exact .none
  | bool b => rw [<- Option.some.inj hf, show v = _ from S]; exact .bool _
  | int i => obtain ⟨t, e⟩ := S; rw [<- Option.some.inj hf, e]; exact .int _ _
  | str x => obtain ⟨t, e⟩ := S; rw [<- Option.some.inj hf, e]; exact .str _ _
  | range x y => obtain ⟨a, t, u, w, ev, e, na⟩ := S; rw [<- Option.some.inj hf, ev]; exact .range e fun z => na (c.sub _ z)
  | tup xs =>
   refine Xl S fun a vs k ev e na q => ?_;clear S;refine Zp hf fun ys hy ed => ?_;rw [<- ed, ev]; exact .tup e (fun z => na (c.sub _ z)) (ZaT ih q _ hy)
  | list xs =>
   refine Xl S fun a vs k ev e na q => ?_;clear S;refine Zp hf fun ys hy ed => ?_;rw [<- ed, ev]; exact .list e (fun z => na (c.sub _ z)) (ZaT ih q _ hy)
  | dict ks xs =>
   refine Zak S fun a kvs ev e hs na he q => ?_;clear S;refine Zp hf fun ys hy ed => ?_;rw [<- ed, ev]; exact .dict e hs (fun z => na (c.sub _ z)) he (ZaT ih q _ hy)
  | tc x =>
   refine ZmI S fun a D od w ev e na nd hn hm r => ?_;clear S;refine Zp hf fun y hy ed => ?_;rw [<- ed, ev]; exact .tc e (fun z => na (c.sub _ z)) (fun z => nd (c.sub _ z)) hn hm (ih _ _ _ r hy)
  | box i =>
   refine Zg S fun a ev e => ?_;clear S;rw [ev];have hf : (if i < n then some (V.box i) else match B'[i]? with | some (.list xs) => (XB (frz n B' m) xs).map .list | some (.dict ks xs) => (XB (frz n B' m) xs).map (.dict ks) | _ => none) = some d' := hf
   by_cases hi : i < n
   ·rw [if_pos hi] at hf
    rw [<- Option.some.inj hf];exact .box (c.get e hi)
   ·rw [if_neg hi] at hf
    have na := c.apart i a (Nat.le_of_not_lt hi) e
    cases hB : B'[i]? with
    | none => rw [hB] at hf; cases hf
    | some y =>
     rw [hB] at hf;have X := (hx.at' i a _ e hB).sh
     cases y with
     | list xs =>
      refine YA X fun vs k e2 r2 => ?_;clear X;refine Zp hf fun ys hy ed => ?_;rw [<- ed]; exact .list e2 na (ZaT ih r2 _ hy)
     | dict ks xs =>
      refine Zbf X fun kvs e2 hs he r2 => ?_;clear X;refine Zp hf fun ys hy ed => ?_;rw [<- ed]; exact .dict e2 hs na he (ZaT ih r2 _ hy)
     | _ => exact nn hf
structure Zte (G : GC) (g : Bool) (name : Str) (params : Arguments) (body : List Stmt) (scope : Scope) (a : Addr) : Prop where
 top : Yz G name (.ref a)
 at' : ∃ o pm cd doc c, G.H0.get? a = some o /\ ¬ G.Tb a /\ o.data = .func (docDef name params body scope pm cd doc) /\ cd = .ref c /\ G.H0.CodeRec cd name /\ ¬ G.Tb c /\ (g = true -> ∃ P, (c, P) ∈ G.tabs)
noncomputable def ZaB (G : GC) (g : Bool) (name qual : Str) (params : Arguments) (body : List Stmt) (scope : Scope) (a : Addr) : Prop :=
 ∃ o pm cd doc c, G.H0.get? a = some o /\ ¬ G.Tb a /\ o.data = .func (methDef name qual params body scope pm cd doc) /\ cd = .ref c /\ G.H0.CodeRec cd qual /\ ¬ G.Tb c /\ (g = true -> ∃ P, (c, P) ∈ G.tabs)
noncomputable def Zp3 (G : GC) (H : Nat) (a : Addr) (F : Bx -> List V -> Option (V × Bx)) : Prop := ∀ B ds d B', F B ds = some (d, B') -> OpN G H B B' (fun vs => call (.ref a) vs) ds d
noncomputable def K.fn (scope : Scope) (g : Bool) : K := { sc := scope.names, names := Yl scope.names, asg := Yl scope.names, gen := g }
noncomputable def Zaw (scope : Scope) (ps : List Str) : Bool :=
 scope.kind == .function && !scope.isGenerator && !scope.isCoroutine && decide (scope.names.map (·.1)).Nodup && (scope.names.lookup ("__debug__" : Str)).isNone && scope.names.all (fun x => x.2 != .free) && ps.all fun x => Zen (scope.names.lookup x)
noncomputable def st0 (names : List Str) : List Str -> List V -> St -> St
 | p :: ps, d :: ds, σ => st0 names ps ds (σ.set (names.idxOf p) (some d))
 | _, _, σ => σ
noncomputable def start (scope : Scope) (ps : List Str) (ds : List V) : St := st0 (Yl scope.names) ps ds (List.replicate (Yl scope.names).length none)
theorem Zce (names : List Str) : ∀ (ps : List Str) (ds : List V) (σ : St), (st0 names ps ds σ).length = σ.length
 | [], [], σ => rfl
 | [], _ :: _, σ => rfl
 | _ :: _, [], σ => rfl
 | p :: ps, d :: ds, σ => by simp only [st0]; rw [Zce]; simp
theorem Zc4 {names : List Str} {kindOf : Str -> Option NameKind} {P : Value -> V -> Prop} : ∀ (ps : List Str) (vs : List Value) (ds : List V) (m cm : Str -> Option Value) (σ : St), σ.length = names.length -> (∀ p ∈ ps, p ∈ names) -> vs.length = ps.length ->
  (∀ (i : Nat) (v : Value) (d : V), vs[i]? = some v -> ds[i]? = some d -> P v d) -> ds.length = vs.length ->
  (∀ x d, (σ[names.idxOf x]?).join = some d -> ∃ v, (if kindOf x = some .local then m x else cm x) = some v /\ P v d) ->
  ∀ x d, ((st0 names ps ds σ)[names.idxOf x]?).join = some d -> ∃ v, (if kindOf x = some .local then bindL kindOf (ps.zip vs) m x else bindC kindOf (ps.zip vs) cm x) = some v /\ P v d
 | [], vs, ds, m, cm, σ, hσ, hp, hv, hr, hd, hP => by
  cases vs with
  | nil =>
   cases ds with
   | nil => exact hP
   | cons => simp at hd
  | cons => simp at hv
 | p :: ps, [], ds, m, cm, σ, hσ, hp, hv, hr, hd, hP => by simp at hv
 | p :: ps, v :: vs, [], m, cm, σ, hσ, hp, hv, hr, hd, hP => by simp at hd
 | p :: ps, v :: vs, d :: ds, m, cm, σ, hσ, hp, hv, hr, hd, hP => by
  have hpn := hp p (.head _)
  have := Zc4 (names := names) (kindOf := kindOf) (P := P) ps vs ds (if kindOf p = some .local then fun y => if y = p then some v else m y else m) (if kindOf p = some .local then cm else fun y => if y = p then some v else cm y)
   (σ.set (names.idxOf p) (some d)) (by simp [hσ]) (fun q hq => hp q (.tail _ hq)) (by simpa using hv) (fun i v d h1 h2 => hr (i + 1) v d (by simpa using h1) (by simpa using h2)) (by simpa using hd) fun x e he => by
    by_cases hx : x = p
    ·subst hx
     have hlt : names.idxOf x < σ.length := by rw [hσ]; exact List.idxOf_lt_length_of_mem hpn
     rw [List.getElem?_set_self hlt] at he
     cases he
     refine ⟨v, ?_, hr 0 v d rfl rfl⟩
     by_cases hk : kindOf x = some .local <;> simp [hk]
    ·have hne : names.idxOf p ≠ names.idxOf x := Zhi hpn (Ne.symm hx)
     rw [List.getElem?_set_ne hne] at he;refine Zg (hP x e he) fun w hw hPw => ?_;refine ⟨w, ?_, hPw⟩
     by_cases hk : kindOf x = some .local
     ·rw [if_pos hk] at hw ⊢
      by_cases hk2 : kindOf p = some .local <;> simp [hk2, hx, hw]
     ·rw [if_neg hk] at hw ⊢
      by_cases hk2 : kindOf p = some .local <;> simp [hk2, hx, hw]
  intro x e he;refine Zg (this x e he) fun w hw hPw => ?_;exact ⟨w, hw, hPw⟩
theorem ZcN {av : Addr -> Prop} {β : List Addr} {h : Heap} {vs : List Value} {ds : List V} (r : Zb G av β h vs ds) (i : Nat) (v : Value) (d : V) (h1 : vs[i]? = some v) (h2 : ds[i]? = some d) : Rep G av β h v d := by
 refine Zg (r.getV h1) fun d' e q => ?_;exact Option.some.inj (e.symm.trans h2) ▸ q
noncomputable def Cx.callee (C : Cx) (env : Env) (scope : Scope) (n m : Nat) (g : Bool) : Cx :=
 { env := env, names := Yl scope.names, av := fun a => C.av a \/ (n <= a /\ a < m), mu := fun a => n <= a /\ a < m, asg := Yl scope.names, gen := g }
theorem Zl0 (O : Zv G C) (I : Inv G C β B σ s) {fd : FuncData} {a : Addr} {ps : List Str} {vs : List Value} (hf : Zaw fd.scope ps = true) (hg : fd.globals = mainGlobals) (hb : fd.builtins = builtinsNs) {g : Bool} (hcode : g = true -> ∃ c P, fd.code = .ref c /\ (c, P) ∈ G.tabs) (hps : vs.length = ps.length)
  (rr : Zb G (avB C.av β) β s.heap vs ds) {s'1 : Shared}
  (x : InCallC s (callEnvC fd s.heap.objs.size a).locals (bindL (callEnvC fd s.heap.objs.size a).kindOf (ps.zip vs) fun _ => none) (callEnvC fd s.heap.objs.size a).cells (bindC (callEnvC fd s.heap.objs.size a).kindOf (ps.zip vs) fun _ => none) s'1) :
  Zv G (C.callee (callEnvC fd s.heap.objs.size a) fd.scope s.heap.objs.size s'1.heap.objs.size g) /\
  Inv G (C.callee (callEnvC fd s.heap.objs.size a) fd.scope s.heap.objs.size s'1.heap.objs.size g) β B (start fd.scope ps ds) s'1 /\ Ext s s'1 /\ s.heap.objs.size < s'1.heap.objs.size /\
  Xi (K.fn fd.scope g) (C.callee (callEnvC fd s.heap.objs.size a) fd.scope s.heap.objs.size s'1.heap.objs.size g) := by
 unfold Zaw at hf;simp only [Bool.and_eq_true, beq_iff_eq, decide_eq_true_eq, List.all_eq_true, Option.isNone_iff_eq_none, Bool.not_eq_true'] at hf;obtain ⟨⟨⟨⟨⟨⟨hk, _⟩, _⟩, hnd⟩, hdbg⟩, hnf⟩, hpar⟩ := hf;have hL : (callEnvC fd s.heap.objs.size a).locals = s.heap.objs.size := rfl;have hcells : (callEnvC fd s.heap.objs.size a).cells = cellsFrom (s.heap.objs.size + 1) fd.scope.names [] := rfl;have hkind : ∀ y, (callEnvC fd s.heap.objs.size a).kindOf y = fd.scope.names.lookup y := fun y => rfl;have hlt : s.heap.objs.size < s'1.heap.objs.size := x.toInCall.ns.lt;refine Zbz x.toInCall.same fun h' tk hs1 => ?_;have ext : Ext s s'1 := ⟨x.toInCall.keep, Nat.le_of_lt hlt, by rw [hs1], by rw [hs1]⟩;have h0 := I.H0 O;have hcl : ∀ y c, (cellsFrom (s.heap.objs.size + 1) fd.scope.names []).lookup y = some c -> s.heap.objs.size <= c /\ c < s'1.heap.objs.size := fun y c h => ⟨Nat.le_of_lt (x.above y c (mem_of_lookup h)), (x.cell y c h).lt⟩;have hnew : ∀ y, (y, NameKind.cell) ∈ fd.scope.names -> ∃ c, (cellsFrom (s.heap.objs.size + 1) fd.scope.names []).lookup y = some c := fun y hy => let ⟨c, h1, _⟩ := X3 (n₀ := 0) _ _ [] y (.inl hy) (Nat.zero_le _); ⟨c, h1⟩
 have hvar : ∀ y, Zbe (fd.scope.names.lookup y) -> y ∈ Yl fd.scope.names := fun y hy => by
  rcases hy with h | h | h
  ·exact Xz.mpr (.inl (Z2 h))
  ·exact Xz.mpr (.inr (Z2 h))
  ·have := hnf _ (Z2 h); simp at this
 refine ⟨⟨O.gok, hk, hg, hb, fun a h => .inr h, fun a h => .inl (O.tbav a h), ⟨Nat.le_refl _, hlt⟩, fun a h => Nat.le_trans h0 h.1, fun y c _ _ h => hcl y c h, fun y c h => .inr (hcl y c h), fun y z c h1 h2 => ?_, fun y hy => ?_, fun y c h => Nat.le_trans h0 (hcl y c h).1, hvar, hdbg, hcode⟩, ?_, ext, hlt, ⟨rfl, rfl, rfl, rfl⟩⟩
 ·exact name_of_addr x.apart (mem_of_lookup h1) (mem_of_lookup h2)
 ·rcases hy with h | h
  ·exact hnew y (Z2 h)
  ·have := hnf _ (Z2 h); simp at this
 ·have Im : Inv G (C.more fun a => s.heap.objs.size <= a /\ a < s'1.heap.objs.size) β B σ s'1 := I.more ext fun a h => h
  refine ⟨Im.wd, Im.low, ⟨_, x.toInCall.ns⟩, fun y ya hy => ?_, fun y e hy ky => ?_, ?_, Im.boxes⟩
  ·obtain ⟨c, hc⟩ := hnew y (Z2 hy)
   exact ⟨c, _, hc, x.cell y c hc⟩
  ·have hpn : ∀ p ∈ ps, p ∈ Yl fd.scope.names := fun p hp => hvar p ((Jq (hpar p hp)).elim .inl fun z => .inr (.inl z))
   have hrep : ∀ (i : Nat) (v : Value) (d : V), vs[i]? = some v -> ds[i]? = some d -> Rep G (avB (C.more fun a => s.heap.objs.size <= a /\ a < s'1.heap.objs.size).av β) β s'1.heap v d := fun i v d h1 h2 => by
    refine Rep.mono (fun b o e n => ⟨ext.keep b o e, ?_⟩) (fun _ _ z => z) (ZcN rr i v d h1 h2)
    rintro ((z | z) | z)
    ·exact n (.inl z)
    ·exact absurd (Heap.lt_size e) (Nat.not_lt.mpr z.1)
    ·exact n (.inr z)
   obtain ⟨v, hv, hr⟩ := Zc4 (kindOf := (callEnvC fd s.heap.objs.size a).kindOf) (P := fun v d => Rep G (avB (C.more fun a => s.heap.objs.size <= a /\ a < s'1.heap.objs.size).av β) β s'1.heap v d) ps vs ds (fun _ => none) (fun _ => none) (List.replicate (Yl fd.scope.names).length none)
    (by simp) hpn hps hrep rr.length.symm (fun y d hy => by
     rw [List.getElem?_replicate] at hy
     split at hy <;> simp at hy) y e hy
   refine ⟨v, ?_, hr⟩
   by_cases hkl : (callEnvC fd s.heap.objs.size a).kindOf y = some .local
   ·rw [if_pos hkl] at hv
    exact .inl ⟨hkl, _, x.toInCall.ns, hv⟩
   ·rw [if_neg hkl] at hv
    have hky : (callEnvC fd s.heap.objs.size a).kindOf y = some .cell := by
     rcases ky with h | h | h
     ·exact absurd h hkl
     ·exact h
     ·have := hnf _ (Z2 h); simp at this
    obtain ⟨c, hc⟩ := hnew y (Z2 hky);refine .inr ⟨.inl hky, c, hc, ?_⟩;have := x.cell y c hc;rw [hv] at this;exact this
  ·show (st0 _ _ _ _).length = _
   rw [Zce, List.length_replicate];rfl
noncomputable def Zcm (n : Nat) (B B' B'' : Bx) : Prop := B''.length = n /\ B.length = n /\ ∀ i, i < n -> (B'[i]? = B[i]? /\ B''[i]? = B[i]?) \/ ∃ m d d', B'[i]? = some d /\ ZsW d = true /\ frz n B' m d = some d' /\ B''[i]? = some d'
theorem ZiK (I : Inv G C β B σ s) {C1 : Cx} {β2 : List Addr} {s'2 : Shared} (i'2 : Inv G C1 β2 B' σ' s'2) (hp : ∀ (n : Nat) (a : Addr), β[n]? = some a -> β2[n]? = some a) (hav : ∀ q, C.av q -> C1.av q) : Cut C.av C1.av β β2 β.length := by
 refine ⟨fun e hi => ?_, fun q z => z.elim (fun z => .inl (hav q z)) fun z => ?_, fun i q hi e z => z.elim (fun z => i'2.boxes.apart q (List.mem_of_getElem? e) (hav q z)) fun z => ?_⟩
 ·rw [<- e, hp _ _ (List.getElem?_eq_getElem hi)]; exact List.getElem?_eq_getElem hi
 ·obtain ⟨j, hj⟩ := List.getElem?_of_mem z
  exact .inr (List.mem_of_getElem? (hp _ _ hj))
 ·obtain ⟨j, hj⟩ := List.getElem?_of_mem z
  have h1 := List.getElem?_eq_some_iff.mp (hp _ _ hj);have h2 := List.getElem?_eq_some_iff.mp e;have e3 := Zgc i'2.boxes.nodup h2.1 h1.1 (h2.2.trans h1.2.symm);exact absurd (List.getElem?_eq_some_iff.mp hj).1 (Nat.not_lt.mpr (e3 ▸ hi))
theorem Zi8 (I : Inv G C β B σ s) {C1 : Cx} {β2 : List Addr} {s'2 : Shared} {B'' : Bx} (i'2 : Inv G C1 β2 B' σ' s'2) (hp : ∀ (n : Nat) (a : Addr), β[n]? = some a -> β2[n]? = some a) (c : Cut C.av C1.av β β2 β.length) (hB : Zcm β.length B B' B'') : ZbY G C.av β B'' s'2.heap := by
 refine ⟨hB.1.symm, I.boxes.nodup, I.boxes.apart, I.boxes.high, fun i q e h1 h2 => ?_⟩;rcases hB.2.2 i (List.getElem?_eq_some_iff.mp h1).1 with ⟨g1, g2⟩ | ⟨m', d', e', g1, gm, g2, g3⟩
 ·have h3 := g2.symm.trans h2
  have X := (i'2.boxes.at' i q e (hp _ _ h1) (g1.trans h3)).sh;have X0 := (I.boxes.at' i q e h1 h3).sh
  cases e with
  | list xs =>
   refine YA X fun vs k e4 r4 => ?_;clear X;refine YA X0 fun _ _ _ r0 => ?_;clear X0;exact .list e4 (r0.cut c _ r4)
  | dict ks xs =>
   refine Zbf X fun kvs e4 hs he r4 => ?_;clear X;refine Zbf X0 fun _ _ _ _ r0 => ?_;clear X0;exact .dict e4 hs he (r0.cut c _ r4)
  | _ => exact X.elim
 ·rw [<- Option.some.inj (g3.symm.trans h2)]
  have X := (i'2.boxes.at' i q d' (hp _ _ h1) g1).sh
  cases m' with
  | zero => exact nn g2
  | succ m' =>
   have ih := ZmW c i'2.boxes m'
   cases d' with
   | list xs =>
    refine YA X fun vs k e4 r4 => ?_;clear X;refine Zp g2 fun ys hy ed => ?_;rw [<- ed]; exact .list e4 (ZaT ih r4 _ hy)
   | dict ks xs =>
    refine Zbf X fun kvs e4 hs he r4 => ?_;clear X;refine Zp g2 fun ys hy ed => ?_;rw [<- ed]; exact .dict e4 hs he (ZaT ih r4 _ hy)
   | _ => exact X.elim
theorem ZpI {g : Bool} {name qual : Str} {params : Arguments} {body : List Stmt} {scope : Scope} {a : Addr} {ps : List Str} {f : DS} {B'' : Bx} {m : Nat} {σ₁ : St} (hfn : ZaB G g name qual params body scope a) (hfit : Zaw scope ps = true)
  (hbind : ∀ pm cd doc vs, vs.length = ps.length -> bindArgs (methDef name qual params body scope pm cd doc) ⟨vs, []⟩ = pure (ps.zip vs)) (hbody : Xa G H (K.fn scope g) body f)
  (hrun : f (start scope ps ds) B = some (.ret d, σ₁, B')) (hd : frz B.length B' m d = some d₁) (hB : Zcm B.length B B' B'') (hl : ds.length = ps.length) : OpN G (H + 1) B B'' (fun vs => call (.ref a) vs) ds d₁ := by
 intro C σ A β s vs O hA I rr E;refine ZqF hfn fun o pm cd doc c ho hTa hdat hcd hrec hTc hP0 => ?_;clear hfn;have hlen : vs.length = ps.length := rr.length.trans hl;have hfit' := hfit;unfold Zaw at hfit';simp only [Bool.and_eq_true, beq_iff_eq, List.all_eq_true, Bool.not_eq_true'] at hfit';refine wpAny_call (codeAny_call_cells (fd := methDef name qual params body scope pm cd doc) (body := body) (binds := ps.zip vs) hA.room (I.wd.keep _ _ ho hTa) hdat (I.wd.nolimit O.gok) ?_ rfl (hbind pm cd doc vs hlen) rfl (fun x hx => ?_) (fun s'1 x => ?_) hfit'.1.1.1.1.2 hfit'.1.1.1.1.1.2 hfit'.1.1.1.1.1.1)
 ·refine Zcv hrec fun c' oc vs' t e1 e2 e3 e4 => ?_
  clear hrec;exact ⟨c', oc, vs', t, e1, I.wd.keep _ _ e2 (Value.ref.inj (hcd.symm.trans e1) ▸ hTc), e3, e4⟩
 ·rcases Jq (hfit'.2 x.1 (List.of_mem_zip hx).1) with h | h
  ·exact .inl h
  ·refine Zg (X3 (n₀ := 0) scope.names (s.heap.objs.size + 1) [] x.1 (.inl (Z2 h)) (Nat.zero_le _)) fun c h1 _ => ?_
   exact .inr ⟨h, Option.isSome_iff_exists.mpr ⟨c, h1⟩⟩
 ·refine ZfN (Zl0 O I (fd := methDef name qual params body scope pm cd doc) hfit rfl rfl (fun e => (hP0 e).elim fun P h => ⟨c, P, hcd, h⟩) hlen rr x) fun O1 i'1 x'1 hlt F'1 => ?_
  clear hfit' hbind x ho hdat hrec hTc hP0 hTa hcd;refine (hbody.ok _ O1 F'1 _ _ _ hrun (A.deeper (callEnvC (methDef name qual params body scope pm cd doc) s.heap.objs.size a)) β s'1 (hA.deeper _) i'1).t3 fun fl s'2 β2 a'2 i'2 q'2 => ?_
  cases fl with
  | ret v =>
   have hcut := ZiK I i'2 a'2.pre' fun q z => .inl z;have h0 := I.boxes.len;have a'3 : Adv G (fun _ => False) β s β s'2 := ⟨⟨[], (List.append_nil _).symm, fun _ h => nomatch h⟩, fun b o e n t => a'2.grow.keep b o (x'1.keep b o e) (fun z => z.elim (fun z => absurd (Heap.lt_size e) (Nat.not_lt.mpr z.1)) fun z => n (.inr z)) t, Nat.le_trans x'1.size a'2.grow.size⟩;rw [<- h0] at hB hd;exact ⟨β, a'3.mono fun _ z => z.elim, I.back O a'3 (fun q z => z.elim) (fun z => z) (fun _ _ _ z => z) i'2.wd (Zi8 I i'2 a'2.pre' hcut hB), ZmW hcut i'2.boxes m v d d₁ q'2 hd⟩
  | _ => exact q'2.elim
end
noncomputable abbrev VF := Bx -> List V -> Option (V × Bx)
noncomputable def Y3 (f : Bx -> List V -> Option V) : VF := fun B ds => (f B ds).map (·, B)
section
variable {G : GC} {C : Cx} {β : List Addr} {B B' B₁ B₂ : Bx} {σ : St} {s : Shared} {H H' : Nat} {d d₁ d₂ d'3 : V} {v : Value} {b : Bool} {ds : List V} {r : Out} {k : K}
theorem OpN.le {op : List Value -> Sem Value} (h : OpN G H' B B' op ds d) (hl : H' <= H) : OpN G H B B' op ds d := fun C σ A β s vs O hA I rr => h C σ A β s vs O (hA.le hl) I rr
set_option tactic.hygienic true in
theorem ZlS {g : Bool} {x : Str} {a : Addr} {params : Arguments} {body : List Stmt} {scope : Scope} {es : List Expr} {fs : List DE} {p pos : Pos} {F : VF} (hF : Zp3 G H' a F) (hat : Zte G g x params body scope a) (hle : H' <= H)
  (hk : k.kind x = some .globalImplicit) (hd : (x == ("__debug__" : Str)) = false) (h : JT G H k es fs) (hne : es ≠ []) : Den G H k (.Call (.Name x p) es [] pos) (D.c F fs) := .mk fun C O F' σ B d B' hr => by
 refine mR hr fun as B₁ has hr => ?_;refine ZsK hat.at' fun o pm cd doc c ho hT hdat _ => ?_;exact Znr O (by rw [F'.kind]; exact hk) hat.top hd ho hT hdat (h.row O F' has) hne ((hF _ _ _ _ hr).le hle)
set_option tactic.hygienic true in
theorem Zl {x : Str} {f : Value} {es : List Expr} {fs : List DE} {p pos : Pos} {F : VF} (hF : ∀ B ds d B', F B ds = some (d, B') -> OpN G H B B' (fun vs => call f vs) ds d) (hf : Yz G x f) (h : JT G H k es fs) (hp : ZjT f = true := by rfl)
  (hg : ZjD k x = true := by kernel_rfl) (hne : es.isEmpty = false := by rfl) : Den G H k (.Call (.Name x p) es [] pos) (D.c F fs) := .mk fun C O F' σ B d B' hr => by
 refine mR hr fun as B₁ has hr => ?_;exact Zok O (by rw [F'.kind]; exact (Zcu hg).1) hf hp (Zcu hg).2 (h.row O F' has) (fun z => by rw [z] at hne; cases hne) (hF _ _ _ _ hr)
noncomputable def X8 : VF := Y3 fun B ds => match ds with
 | [d] => (Zk0 B d).map .int
 | _ => none
noncomputable def YO : VF := Y3 fun B ds => match ds with
 | [d] => match ZS B d with
  | some xs => (YR xs).map fun ns => .int ns.sum
  | none => none
 | _ => none
noncomputable def ZqG (ds : List V) : Sb fun (r : V) => ∃ a b, ds = [.int a, .int b] /\ r = .int (if b < a then b else a) := match ds with
 | [.int a, .int b] => .ok (.int (if b < a then b else a)) ⟨a, b, rfl, rfl⟩
 | _ => .no
noncomputable def ZlE : VF := Y3 fun B ds => (ZqG ds).1
noncomputable def Zkh (ds : List V) : Sb fun (r : V) => (∃ n, ds = [.int n] /\ r = .range 0 n) \/ ∃ a b, ds = [.int a, .int b] /\ r = .range a b := match ds with
 | [.int n] => .ok (.range 0 n) (.inl ⟨n, rfl, rfl⟩)
 | [.int a, .int b] => .ok (.range a b) (.inr ⟨a, b, rfl, rfl⟩)
 | _ => .no
noncomputable def Zw : VF := Y3 fun B ds => (Zkh ds).1
noncomputable def ZqZ (ds : List V) : Sb fun (r : V) => ∃ i, ds = [.int i] /\ Zu (baseText "0x" 16 i).length = true /\ r = .str (baseText "0x" 16 i) := match ds with
 | [.int i] => .ite (c := Zu (baseText "0x" 16 i).length = true) (.str (baseText "0x" 16 i)) fun h => ⟨i, rfl, h, rfl⟩
 | _ => .no
noncomputable def Zfr : VF := Y3 fun B ds => (ZqZ ds).1
theorem ZnJ {B : Bx} {i : Int} : Zfr B [.int i] = (if Zu (baseText "0x" 16 i).length then some (V.str (baseText "0x" 16 i)) else none).map (·, B) := rfl
noncomputable def ZqE (ds : List V) : Sb fun (r : V) => ∃ c, ds = [.bool c] /\ r = .int (if c then 1 else 0) := match ds with
 | [.bool c] => .ok (.int (if c then 1 else 0)) ⟨c, rfl, rfl⟩
 | _ => .no
noncomputable def Zr8 : VF := Y3 fun B ds => (ZqE ds).1
theorem Yt {f : Bx -> List V -> Option V} (h : Y3 f B ds = some (d, B')) : f B ds = some d /\ B' = B := by
 refine Zp h fun e he hh => ?_
 cases hh
 exact ⟨he, rfl⟩
theorem Zbc : ∀ B ds d B', X8 B ds = some (d, B') -> OpN G H B B' (fun vs => call (.builtin "len") vs) ds d := by
 intro B ds d B' h;replace h := Yt h;obtain ⟨h, rfl⟩ := h
 split at h
 ·refine Zp h fun n hn z_2 => ?_
  subst z_2;exact Zrl hn
 ·exact nn h
theorem Xk : ∀ B ds d B', YO B ds = some (d, B') -> OpN G H B B' (fun vs => call (.builtin "sum") vs) ds d := by
 intro B ds d B' h;replace h := Yt h;obtain ⟨h, rfl⟩ := h
 split at h
 ·split at h
  ·rename_i hx
   refine Zp h fun n hn z_2 => ?_;subst z_2;exact Zry hx hn
  ·exact nn h
 ·exact nn h
theorem Zph : ∀ B ds d B', ZlE B ds = some (d, B') -> OpN G H B B' (fun vs => call (.builtin "min") vs) ds d := by
 intro B ds d B' h;replace h := Yt h;obtain ⟨h, rfl⟩ := h;refine YA ((ZqG ds).2 _ h) fun a b e e2 => ?_;rw [e, e2];exact Zsa
theorem Z8 : ∀ B ds d B', Zw B ds = some (d, B') -> OpN G H B B' (fun vs => call (.type "range") vs) ds d := by
 intro B ds d B' h;replace h := Yt h;obtain ⟨h, rfl⟩ := h;refine ((Zkh ds).2 _ h).elim (fun h => Zg h fun n e e2 => ?_) fun h => YA h fun a b e e2 => ?_
 ·rw [e, e2]; exact ZkI
 ·rw [e, e2]; exact Zld
theorem ZjL : ∀ B ds d B', Zfr B ds = some (d, B') -> OpN G H B B' (fun vs => call (.builtin "hex") vs) ds d := by
 intro B ds d B' h;replace h := Yt h;obtain ⟨h, rfl⟩ := h;refine XS ((ZqZ ds).2 _ h) fun i e hz e2 => ?_;rw [e, e2];exact Zr7 hz
theorem Zpc : ∀ B ds d B', Zr8 B ds = some (d, B') -> OpN G H B B' (fun vs => call (.type "int") vs) ds d := by
 intro B ds d B' h;replace h := Yt h;obtain ⟨h, rfl⟩ := h;refine Zg ((ZqE ds).2 _ h) fun c e e2 => ?_;rw [e, e2];exact Zrz
noncomputable def D.meth (isT : Bx -> V -> Bool) (F : VF) (f : DE) (fs : List DE) : DE := fun σ B => match f σ B with
 | none => none
 | some (o, B₁) => if isT B₁ o then match D.row fs σ B₁ with
  | none => none
  | some (as, B₂) => F B₂ (o :: as) else none
set_option tactic.hygienic true in
theorem Xf {o : Expr} {nm : Str} {apos pos : Pos} {es : List Expr} {fs : List DE} {T id : String} {f : DE} {F : VF} {isT : Bx -> V -> Bool} (hP : PlainAttrs T) (hS : PySem.Slot T nm id) (hT : typeOf (.builtin id) = pure (.type "method_descriptor"))
  (hty : ∀ B d, isT B d = true -> ∀ C σ β s v, Inv G C β B σ s -> Rep G (avB C.av β) β s.heap v d -> Zh9 s v T) (hF : ∀ B ds d B', F B ds = some (d, B') -> OpN G H B B' (fun vs => call (.builtin id) vs) ds d)
  (hb : Xo o = true) (hl : (apos.endLine == pos.line) = true) (hf : Den G H k o f) (h : JT G H k es fs) (hn : es.length < 29) : Den G H k (.Call (.Attribute o nm apos) es [] pos) (D.meth isT F f fs) := .mk fun C O F' σ B d B' hr => by
 refine mE hr fun d₁ B₁ h1 hr => ?_
 split at hr
 ·rename_i ht
  refine mR hr fun as B₂ has hr => ?_;exact Zqo O hb hl hP hS hT (hf.ok C O F' _ _ _ _ h1) (fun β s v I r => hty _ _ ht C σ β s v I r) (h.row O F' has) hn (hF _ _ _ _ hr)
 ·exact nn hr
noncomputable def Xj : Bx -> V -> Bool := fun _ d => match d with
 | .str _ => true
 | _ => false
noncomputable def XC : Bx -> V -> Bool := fun B d => (ZS B d).isSome
theorem J6 : ∀ B d, Xj B d = true -> ∀ (C : Cx) σ β s v, Inv G C β B σ s -> Rep G (avB C.av β) β s.heap v d -> Zh9 s v "str" := fun B d h C σ β s v I r => by
 cases d with
 | str x => exact Znv β s v I r
 | _ => cases h
theorem Jx : ∀ B d, XC B d = true -> ∀ (C : Cx) σ β s v, Inv G C β B σ s -> Rep G (avB C.av β) β s.heap v d -> Zh9 s v "list" := fun B d h C σ β s v I r => by
 obtain ⟨xs, hx⟩ := Option.isSome_iff_exists.mp h;exact Zqg hx β s v I r
noncomputable def Zkw (ds : List V) : Sb fun (r : Str × Str) => ds = [.str r.1, .str r.2] := match ds with
 | [.str x, .str y] => .ok (x, y) rfl
 | _ => .no
noncomputable def ZdY : VF := Y3 fun _ ds => (Zkw ds).1.map fun p => .bool (Txt.startswith p.1 p.2)
noncomputable def Zkd : VF := Y3 fun _ ds => (Zkw ds).1.map fun p => .bool (Txt.endswith p.1 p.2)
noncomputable def findIn (x y : Str) (i j : Int) : Int := match Builtin.Str.occurrences x y (fromIndex x.length i) (min (fromIndex x.length j) x.length) 1 with
 | i :: _ => (i : Int)
 | [] => -1
noncomputable def ZmG (ds : List V) : Sb fun (r : V) => ∃ x y i j, ds = [.str x, .str y, .int i, .int j] /\ r = .int (findIn x y i j) := match ds with
 | [.str x, .str y, .int i, .int j] => .ok (.int (findIn x y i j)) ⟨x, y, i, j, rfl, rfl⟩
 | _ => .no
noncomputable def ZfZ : VF := Y3 fun _ ds => (ZmG ds).1
noncomputable def ZaC : List V -> Option (List Str)
 | [] => some []
 | .str x :: r => (ZaC r).map (x :: ·)
 | _ => none
noncomputable def Zl9 (B : Bx) (ds : List V) : Sb fun (r : V) => ∃ x d xs ys, ds = [.str x, d] /\ ZS B d = some xs /\ ZaC xs = some ys /\ (ys.map (·.length)).sum + ys.length * x.length <= 16777216 /\ r = .str (Txt.join x ys) := match ds with
 | [.str x, d] => .bind (ZS B d) fun xs h1 => .bind (ZaC xs) fun ys h2 => .ite (c := (ys.map (·.length)).sum + ys.length * x.length <= 16777216) (.str (Txt.join x ys)) fun h => ⟨x, d, xs, ys, rfl, h1, h2, h, rfl⟩
 | _ => .no
noncomputable def Zbm : VF := Y3 fun B ds => (Zl9 B ds).1
theorem Zk9 {B : Bx} {x : Str} {d : V} {xs : List V} {ys : List Str} (h1 : ZS B d = some xs) (h2 : ZaC xs = some ys) (h : (ys.map (·.length)).sum + ys.length * x.length <= 16777216) : Zbm B [.str x, d] = some (.str (Txt.join x ys), B) := by
 show Option.map _ (Sb.bind _ _).1 = _;rw [Sb.bind_eq h1, Sb.bind_eq h2];exact congrArg (Option.map _) (if_pos h)
noncomputable def ZaV : VF := Y3 fun B ds => match ds with
 | [o, .int i] => match ZS B o with
  | some xs => (YR xs).map fun ns => .int (ns.count i : Nat)
  | none => none
 | _ => none
noncomputable def Zhl (B : Bx) (ds : List V) : Sb fun (r : V × Bx) => ∃ n d, ds = [.box n, d] /\ (Zho B n d).map (V.none, ·) = some r := match ds with
 | [.box n, d] => ⟨(Zho B n d).map (.none, ·), fun _ h => ⟨n, d, rfl, h⟩⟩
 | _ => .no
noncomputable def JF : VF := fun B ds => (Zhl B ds).1
theorem Zbw {B : Bx} {n : Nat} {d : V} : JF B [.box n, d] = (Zho B n d).map (.none, ·) := rfl
theorem ZmE {av : Addr -> Prop} {h : Heap} {vs : List Value} (r : Zb G av β h vs [d, d₁, d₂]) : ∃ v w u, vs = [v, w, u] /\ Rep G av β h v d /\ Rep G av β h w d₁ /\ Rep G av β h u d₂ :=
 let ⟨v, _, e, r1, rs⟩ := r.sh.2 _ _ rfl; let ⟨w, u, e2, r2⟩ := YE rs; ⟨v, w, u, e.trans (congrArg (v :: ·) e2), r1, r2⟩
theorem ZmS {av : Addr -> Prop} {h : Heap} {vs : List Value} (r : Zb G av β h vs [d, d₁, d₂, d'3]) : ∃ v w u z, vs = [v, w, u, z] /\ Rep G av β h v d /\ Rep G av β h w d₁ /\ Rep G av β h u d₂ /\ Rep G av β h z d'3 :=
 let ⟨v, _, e, r1, rs⟩ := r.sh.2 _ _ rfl; let ⟨w, u, z, e2, r2⟩ := ZmE rs; ⟨v, w, u, z, e.trans (congrArg (v :: ·) e2), r1, r2⟩
theorem ZiE : ∀ B ds d B', ZdY B ds = some (d, B') -> OpN G H B B' (fun vs => call (.builtin "str.startswith") vs) ds d := by
 intro B ds d B' h;replace h := Yt h;obtain ⟨h, rfl⟩ := h;refine Zp h fun p hp e => ?_;rw [<- e, (Zkw ds).2 _ hp]
 exact fun C σ A β s vs O hA I rr E => by
  refine YH (YE rr) fun v w z_2 r1 r2 => ?_;obtain ⟨t, e1⟩ := Z7 r1;obtain ⟨u, e2⟩ := Z7 r2;rw [z_2, e1, e2];exact SC.startswith (Zs.ofExt I (Ext.refl s) (.bool _))
theorem Zol : ∀ B ds d B', Zkd B ds = some (d, B') -> OpN G H B B' (fun vs => call (.builtin "str.endswith") vs) ds d := by
 intro B ds d B' h;replace h := Yt h;obtain ⟨h, rfl⟩ := h;refine Zp h fun p hp e => ?_;rw [<- e, (Zkw ds).2 _ hp]
 exact fun C σ A β s vs O hA I rr E => by
  refine YH (YE rr) fun v w z_2 r1 r2 => ?_;obtain ⟨t, e1⟩ := Z7 r1;obtain ⟨u, e2⟩ := Z7 r2;rw [z_2, e1, e2];exact SC.endswith (Zs.ofExt I (Ext.refl s) (.bool _))
theorem Zha (x y : Str) (i j : Int) (t u v w : Tok) : Gives (Builtin.«str.find» ⟨[.str x t, .str y u, .int i v, .int j w], []⟩) (.int (findIn x y i j)) := by
 show Gives (match Builtin.Str.occurrences x y (fromIndex x.length i) (min (fromIndex x.length j) x.length) 1 with | k :: _ => retInt k | [] => (do rule "str.find.not-found"; retInt (-1))) _;unfold findIn
 cases Builtin.Str.occurrences x y (fromIndex x.length i) (min (fromIndex x.length j) x.length) 1 with
 | nil => exact .rule (.of_eq rfl)
 | cons k _ => exact .of_eq rfl
theorem ZoP : ∀ B ds d B', ZfZ B ds = some (d, B') -> OpN G H B B' (fun vs => call (.builtin "str.find") vs) ds d := by
 intro B ds d B' h;replace h := Yt h;obtain ⟨h, rfl⟩ := h;refine Ztb ((ZmG ds).2 _ h) fun x y i j e e' => ?_;rw [e, e']
 exact fun C σ A β s vs O hA I rr E => by
  refine Zkl (ZmS rr) fun v w a b z_4 r1 r2 r3 r4 => ?_;obtain ⟨t, e1⟩ := Z7 r1;obtain ⟨u, e2⟩ := Z7 r2;obtain ⟨t3, e3⟩ := Zo r3;obtain ⟨t4, e4⟩ := Zo r4;rw [z_4, e1, e2, e3, e4];exact call_gives PySem.F.slot_str_find (typeIs_str _ _ _) PySem.F.entry_str_find (PySem.F.args_str_find_4 _ _ _ _) (Zha _ _ _ _ _ _ _ _) (Zs.ofExt I (Ext.toks s _) (.int _ _))
theorem ZmK {av : Addr -> Prop} {h : Heap} {vs : List Value} {xs : List V} (r : Zb G av β h vs xs) : ∀ ys, ZaC xs = some ys -> StrsAre vs ys :=
 Zb.ind (P := fun vs xs => ∀ ys, ZaC xs = some ys -> StrsAre vs ys) (fun ys e => Option.some.inj e ▸ .nil) (fun {v d vs xs} r rs ih ys e => by
  cases d with
  | str x =>
   refine Zp e fun zs hz e2 => ?_;obtain ⟨t, e1⟩ := Z7 r;rw [<- e2, e1];exact .cons x t (ih zs hz)
  | _ => exact nn e) r
theorem Ze9 : ∀ B ds d B', Zbm B ds = some (d, B') -> OpN G H B B' (fun vs => call (.builtin "str.join") vs) ds d := by
 intro B ds d B' h;replace h := Yt h;obtain ⟨h, rfl⟩ := h;refine Zkl ((Zl9 B' ds).2 _ h) fun x d xs ys e hx hs hz e' => ?_;rw [e, e']
 exact fun C σ A β s vs O hA I rr E => by
  refine YH (YE rr) fun v w z_2 r1 r2 => ?_;obtain ⟨t, e1⟩ := Z7 r1;refine YD (Ys I r2 hx) fun a ws n z_3 e q => ?_;rw [z_2, e1, z_3];exact join_list (Rep.isList e) (ZmK q _ hs) hz fun t' k => Zs.ofExt I (Ext.toks s _) (.str _ _)
set_option tactic.hygienic true in
theorem ZaG : ∀ B ds d B', ZaV B ds = some (d, B') -> OpN G H B B' (fun vs => call (.builtin "list.count") vs) ds d := by
 intro B ds d B' h;replace h := Yt h;obtain ⟨h, rfl⟩ := h
 split at h
 ·rename_i o i
  split at h
  ·rename_i xs hx
   refine Zp h fun ns hn z_2 => ?_;subst z_2
   exact fun C σ A β s vs O hA I rr E => by
    refine YH (YE rr) fun v w z_2 r1 r2 => ?_;subst z_2;obtain ⟨t, rfl⟩ := Zo r2;refine YD (Ys I r1 hx) fun a ws n z_3 e q => ?_;subst z_3;rw [Xh hn] at q;refine Zg (Zby q) fun ps hps hns => ?_
    let e0 : Value -> Bool := fun y => match y with | .int j _ => j == i | _ => false
    refine call_meets PySem.F.slot_list_count ⟨_, e, rfl⟩ PySem.F.entry_list_count (PySem.F.args_list_count_2 _ _) (SeqAt.list_countAt a ws n none #[] (.int i t) e0) ⟨e, fun y hy => ?_, ?_⟩
    ·have hy : y ∈ ps.map (fun p => Value.int p.1 p.2) := by rw [<- hps]; simpa using hy
     refine Zg (List.mem_map.mp hy) fun p _ z_2 => ?_;subst z_2;exact fun prog w E Q h => wpAny_eqBool_int h
    ·have hc : ws.toList.countP e0 = ns.count i := by
      rw [hps, List.countP_map, <- hns, List.count, List.countP_map];rfl
     rw [hc];exact Zs.ofExt I (Ext.toks s _) (.int _ _)
  ·exact nn h
 ·exact nn h
theorem Zcn : ∀ B ds d B', JF B ds = some (d, B') -> OpN G H B B' (fun vs => call (.builtin "list.append") vs) ds d := by
 intro B ds d B' h;refine YA ((Zhl B ds).2 _ h) fun n d' e h => ?_;refine Zp h fun B₁ hB hh => ?_;rw [e, <- (Prod.mk.inj hh).1, <- (Prod.mk.inj hh).2];exact Zla hB
end
section
variable {prog : Program} {w : World} {A : Around} {E : Value -> Shared -> Prop} {s : Shared}
theorem ZcX {b i l c : Addr} (h : b = i \/ b = l) (h1 : i ≠ c) (h2 : l ≠ c) : b ≠ c := h.elim (fun e => e ▸ h1) fun e => e ▸ h2
structure ZeL (h : Heap) (i l k : Addr) (xs : Array Value) : Prop where
 it : h.IsTupleIter i l k
 tu : h.IsTuple l xs
theorem Zez {h h' : Heap} {a t : Addr} {i : Nat} (x : h.IsTupleIter a t i) (e : ∀ o, h.get? a = some o -> h'.get? a = some o) : h'.IsTupleIter a t i := let ⟨o, ho, r⟩ := x; ⟨o, e _ ho, r⟩
theorem Zaj {h h' : Heap} {t : Addr} {vs : Array Value} (x : h.IsTuple t vs) (e : ∀ o, h.get? t = some o -> h'.get? t = some o) : h'.IsTuple t vs := let ⟨o, ho, r⟩ := x; ⟨o, e _ ho, r⟩
theorem ZeL.at {h h' : Heap} {i l k : Addr} {xs : Array Value} (x : ZeL h i l k xs) (e : ∀ b o, (b = i \/ b = l) -> h.get? b = some o -> h'.get? b = some o) : ZeL h' i l k xs :=
 ⟨Zez x.it fun o => e _ o (.inl rfl), Zaj x.tu fun o => e _ o (.inr rfl)⟩
theorem Zfw {i l : Addr} {k : Nat} {xs : Array Value} {x : Value} {Q : Value -> Shared -> Prop} (T : ZeL s.heap i l k xs) (hx : xs[k]? = some x) (hil : l ≠ i)
  (hQ : ∀ h', ZeL h' i l (k + 1) xs -> Heap.SameBut i s.heap h' -> Q x { s with heap := h' }) : wpAny (model prog w) A (Builtin.SmallTypes.nextOf (.ref i)) Q E s := by
 refine XS (id T.it) fun o ho hc hd => ?_;obtain ⟨ol, hol, _, nl, hdl⟩ := id T.tu;unfold Builtin.SmallTypes.nextOf
 refine wpAny_bind (wpAny_callSpecial?_slot (name := Str.ofString "__next__") T.it.typeIs PySem.F.slot_tuple_iterator_next
  (wpAny_call_entry PySem.F.slot_tuple_iterator_next T.it.typeIs PySem.F.entry_tuple_iterator_next ?_ (PySem.F.args_tuple_iterator_next_1 _)))
 show wpAny _ _ (field (.ref i) 0 >>= _) _ _ s;refine wpAny_bind (wpAny_field ho hd (x := .ref l) rfl ?_);show wpAny _ _ (if (Value.ref l == Value.none) = true then _ else _) _ _ s;rw [if_neg (show ¬ ((Value.ref l == Value.none) = true) from Bool.false_ne_true)];show wpAny _ _ (field (.ref i) 1 >>= _) _ _ s;refine wpAny_bind (wpAny_field ho hd (x := .int k 0) rfl ?_);show wpAny _ _ (seqItems? (.ref l) >>= _) _ _ s;refine wpAny_bind (wpAny_seqItems hol hdl ?_);simp only [Int.toNat_natCast, hx];refine wpAny_bind (wpAny_setField ho hd (by simp) (wpAny_pure ⟨x, rfl, wpAny_pure (hQ _ ⟨?_, ?_⟩ (Heap.SameBut.update ..))⟩))
 ·exact ⟨_, Heap.get?_update_self _ ho (Obj.isFreed_of_fields (Obj.data_mapFields hd _)), (Obj.cls_mapFields ..).trans hc, by
   rw [Obj.data_mapFields hd]; simp [rawInt]⟩
 ·exact Zaj T.tu fun o e => (Heap.SameBut.update ..).extBut _ _ hil e
theorem Zgl {i l : Addr} {k : Nat} {xs : Array Value} {Q : Value -> Shared -> Prop} (hh : A.handled = none) (T : ZeL s.heap i l k xs) (hx : xs[k]? = none)
  (hE : ∀ h' e, Heap.ExtBut i s.heap h' -> (∃ o, h'.get? e = some o /\ o.cls = .type "StopIteration") -> E (.ref e) { s with heap := h' }) :
  wpAny (model prog w) A (Builtin.SmallTypes.nextOf (.ref i)) Q E s := by
 refine XS (id T.it) fun o ho hc hd => ?_;obtain ⟨ol, hol, _, nl, hdl⟩ := id T.tu;unfold Builtin.SmallTypes.nextOf
 refine wpAny_bind (wpAny_callSpecial?_slot (name := Str.ofString "__next__") T.it.typeIs PySem.F.slot_tuple_iterator_next
  (wpAny_call_entry PySem.F.slot_tuple_iterator_next T.it.typeIs PySem.F.entry_tuple_iterator_next ?_ (PySem.F.args_tuple_iterator_next_1 _)))
 show wpAny _ _ (field (.ref i) 0 >>= _) _ _ s;refine wpAny_bind (wpAny_field ho hd (x := .ref l) rfl ?_);show wpAny _ _ (if (Value.ref l == Value.none) = true then _ else _) _ _ s;rw [if_neg (show ¬ ((Value.ref l == Value.none) = true) from Bool.false_ne_true)];show wpAny _ _ (field (.ref i) 1 >>= _) _ _ s;refine wpAny_bind (wpAny_field ho hd (x := .int k 0) rfl ?_);show wpAny _ _ (seqItems? (.ref l) >>= _) _ _ s;refine wpAny_bind (wpAny_seqItems hol hdl ?_);simp only [Int.toNat_natCast, hx];refine wpAny_bind (wpAny_rule (wpAny_bind (wpAny_setField ho hd (by simp) ?_)));show wpAny _ _ (newExc (.type "StopIteration") [] >>= _) _ _ _;refine wpAny_bind ?_;simp only [newExc, newTuple];refine wpAny_bind (wpAny_newObj_type ?_ (by size_fits));refine wpAny_bind (m := firstArgMember _ _) (wpAny_of_eq (a := Value.none) (by first | rfl | (simp only [firstArgMember]; rfl)) ?_);refine wpAny_newObj_type ?_ (by size_fits);simp only [raiseNew];refine wpAny_bind (wpAny_handled ?_)
 first | rw [show A.in1.handled = none from hh] | rw [hh]
 refine wpAny_bind (wpAny_pure (wpAny_throw ?_));exact hE _ _ (((Heap.SameBut.update ..).extBut.push _).push _) ⟨_, Heap.get?_push_size _ rfl, rfl⟩
structure ZT (h : Heap) (z TI TO i1 i2 l1 l2 : Addr) (f0 : Value) (k : Nat) (xs ys : Array Value) : Prop where
 z : IsZip h z TI TO f0
 ti : IsPair h TI (.ref i1) (.ref i2)
 to : ∃ a b, IsPair h TO a b
 t1 : ZeL h i1 l1 k xs
 t2 : ZeL h i2 l2 k ys
noncomputable def zWr (z TO i1 i2 b : Addr) : Prop := b = z \/ b = TO \/ b = i1 \/ b = i2
theorem ZT.next {z TI TO i1 i2 l1 l2 : Addr} {k : Nat} {xs ys : Array Value} {x y : Value} {Q : Option Value -> Shared -> Prop} (D : ZipApart z TI TO i1 i2 l1 l2) (T : ZT s.heap z TI TO i1 i2 l1 l2 .none k xs ys)
  (hx : xs[k]? = some x) (hy : ys[k]? = some y)
  (hQ : ∀ h', ZT h' z TI TO i1 i2 l1 l2 (rawInt s.heap.objs.size) (k + 1) xs ys -> IsPair h' s.heap.objs.size x y -> h'.objs.size = s.heap.objs.size + 1 ->
   (∀ c o, ¬ zWr z TO i1 i2 c -> s.heap.get? c = some o -> h'.get? c = some o) -> Q (some (.ref s.heap.objs.size)) { s with heap := h' }) :
  wpAny (model prog w) A (pyNext (.ref z)) Q E s := by
 obtain ⟨hz, hTI, ⟨a, b, hTO⟩, t1, t2⟩ := T;have hT : s.TypeIs (.ref z) "zip" := ⟨_, hz, rfl⟩;unfold pyNext;refine wpAny_bind (wpAny_attempt (wpAny_callSpecial?_slot (name := Str.ofString "__next__") hT PySem.F.slot_zip_next (wpAny_call_entry PySem.F.slot_zip_next hT PySem.F.entry_zip_next ?_ (PySem.F.args_zip_next_1 _))));show wpAny _ _ (field (.ref z) 2 >>= _) _ _ _;refine wpAny_bind (wpAny_field hz rfl (x := .bool false) rfl ?_);show wpAny _ _ (field (.ref z) 3 >>= _) _ _ _;refine wpAny_bind (wpAny_field hz rfl (x := .ref TI) rfl ?_);refine wpAny_bind (wpAny_seqItems hTI rfl ?_);show wpAny _ _ (Builtin.SmallTypes.ownedTupleIsFree (.ref z) >>= _) _ _ _;refine wpAny_bind ?_;unfold Builtin.SmallTypes.ownedTupleIsFree;refine wpAny_bind (wpAny_field hz rfl (x := .none) rfl (wpAny_pure ?_));simp only [if_true];refine wpAny_bind (wpAny_rule ?_);refine wpAny_bind (wpAny_field hz rfl (x := .ref TO) rfl ?_);refine wpAny_bind (wpAny_setField_rec hz (by simp) fun h₁ hz1 q'1 => ?_);replace hz1 : IsZip h₁ z TI TO .ellipsis := hz1;refine wpAny_bind ?_;simp only [List.zipIdx_cons, List.zipIdx_nil, List.forIn_cons, List.forIn_nil];refine wpAny_bind (wpAny_bind (wpAny_onRaise ?_));show wpAny _ _ (Builtin.SmallTypes.nextOf (.ref i1) >>= _) _ _ _;refine wpAny_bind (Zfw (t1.at fun c o hc e => q'1.extBut _ _ (ZcX hc D.i1z D.l1z) e) hx D.l1i1 fun h'2 t12 q'2 => wpAny_pure ?_);have hTO2 : IsPair h'2 TO a b := q'2.extBut _ _ D.TOi1 (q'1.extBut _ _ D.TOz hTO);refine wpAny_bind (wpAny_seqItems hTO2 rfl ?_);refine wpAny_bind (wpAny_updateSeq_pair hTO2 fun h'3 hTO3 q'3 => ?_);replace hTO3 : IsPair h'3 TO x b := hTO3;refine wpAny_bind (wpAny_letGo (wpAny_pure ?_));refine wpAny_bind (wpAny_bind (wpAny_onRaise ?_));show wpAny _ _ (Builtin.SmallTypes.nextOf (.ref i2) >>= _) _ _ _
 have k'3 : ∀ c o, ¬ zWr z TO i1 i2 c -> s.heap.get? c = some o -> h'3.get? c = some o := fun c o n e =>
  q'3.extBut _ _ (fun z => n (.inr (.inl z))) (q'2.extBut _ _ (fun z => n (.inr (.inr (.inl z)))) (q'1.extBut _ _ (fun z => n (.inl z)) e))
 have t23 : ZeL h'3 i2 l2 k ys := t2.at fun c o hc e => q'3.extBut _ _ (ZcX hc D.TOi2.symm D.l2TO) (q'2.extBut _ _ (ZcX hc D.i12.symm D.l2i1)
  (q'1.extBut _ _ (ZcX hc D.i2z D.l2z) e))
 refine wpAny_bind (Zfw t23 hy D.l2i2 fun h'4 t24 q'4 => wpAny_pure ?_);have hTO4 : IsPair h'4 TO x b := q'4.extBut _ _ D.TOi2 hTO3;refine wpAny_bind (wpAny_seqItems hTO4 rfl ?_);refine wpAny_bind (wpAny_updateSeq_pair hTO4 fun h'5 hTO5 q'5 => ?_);replace hTO5 : IsPair h'5 TO x y := hTO5;refine wpAny_bind (wpAny_letGo (wpAny_pure (wpAny_pure ?_)));refine wpAny_bind (wpAny_seqItems hTO5 rfl ?_);refine wpAny_bind (wpAny_newTuple ?_);have hsz : h'5.objs.size = s.heap.objs.size := by rw [q'5.1, q'4.1, q'3.1, q'2.1, q'1.1]
 have k'5 : ∀ c o, ¬ zWr z TO i1 i2 c -> s.heap.get? c = some o -> h'5.get? c = some o := fun c o n e => q'5.extBut _ _ (fun z => n (.inr (.inl z))) (q'4.extBut _ _ (fun z => n (.inr (.inr (.inr z)))) (k'3 c o n e));have hz5 : IsZip h'5 z TI TO .ellipsis := q'5.extBut _ _ D.TOz.symm (q'4.extBut _ _ D.i2z.symm (q'3.extBut _ _ D.TOz.symm (q'2.extBut _ _ D.i1z.symm hz1)))
 have t15 : ZeL h'5 i1 l1 (k + 1) xs := t12.at fun c o hc e => q'5.extBut _ _ (ZcX hc D.TOi1.symm D.l1TO) (q'4.extBut _ _ (ZcX hc D.i12 D.l1i2)
  (q'3.extBut _ _ (ZcX hc D.TOi1.symm D.l1TO) e))
 have t25 : ZeL h'5 i2 l2 (k + 1) ys := t24.at fun c o hc e => q'5.extBut _ _ (ZcX hc D.TOi2.symm D.l2TO) e;have hTI5 : IsPair h'5 TI (.ref i1) (.ref i2) := k'5 _ _ (fun z => z.elim D.TIz fun z => z.elim D.TITO fun z => z.elim D.TIi1 D.TIi2) hTI;have hzlt : z < h'5.objs.size := Heap.lt_size hz5;show wpAny _ _ (Builtin.SmallTypes.ownedTupleHandOut (.ref z) (.ref h'5.objs.size) >>= _) _ _ _;refine wpAny_bind ?_;unfold Builtin.SmallTypes.ownedTupleHandOut;have hz6 : IsZip (h'5.push { cls := .type "tuple", data := .seq #[x, y] }) z TI TO .ellipsis := Heap.get?_push_of_some _ hz5;refine wpAny_bind (wpAny_setField_rec hz6 (by simp) fun h'7 hz7 q'7 => ?_);replace hz7 : IsZip h'7 z TI TO (rawInt h'5.objs.size) := hz7;refine wpAny_setField_rec hz7 (by simp) fun h'8 hz'8 q'8 => ?_;replace hz'8 : IsZip h'8 z TI TO (rawInt h'5.objs.size) := hz'8;have up : ∀ c o, c ≠ z -> h'5.get? c = some o -> h'8.get? c = some o := fun c o c1 e => q'8.extBut _ _ c1 (q'7.extBut _ _ c1 (Heap.get?_push_of_some _ e));have hT8 : IsPair h'8 h'5.objs.size x y := q'8.extBut _ _ (Nat.ne_of_gt hzlt) (q'7.extBut _ _ (Nat.ne_of_gt hzlt) (Heap.get?_push_size _ rfl));have hz8 : h'8.objs.size = h'5.objs.size + 1 := by rw [q'8.1, q'7.1, Heap.size_push]
 rw [hsz] at hz'8 hT8 hz8;refine wpAny_pure ⟨_, rfl, ?_⟩;refine wpAny_pure ?_;show Q (some (.ref h'5.objs.size)) _;rw [hsz]
 exact hQ h'8 ⟨hz'8, up _ _ D.TIz hTI5, ⟨_, _, up _ _ D.TOz hTO5⟩, t15.at fun c o hc e => up c o (ZcX hc D.i1z D.l1z) e, t25.at fun c o hc e => up c o (ZcX hc D.i2z D.l2z) e⟩
  hT8 hz8 fun c o n e => up c o (fun z => n (.inl z)) (k'5 c o n e)
theorem ZT.stop {z TI TO i1 i2 l1 l2 : Addr} {k : Nat} {xs ys : Array Value} {Q : Option Value -> Shared -> Prop} (hh : A.handled = none) (D : ZipApart z TI TO i1 i2 l1 l2) (T : ZT s.heap z TI TO i1 i2 l1 l2 .none k xs ys) (hx : xs[k]? = none)
  (hQ : ∀ h', (∀ c o, ¬ zWr z TO i1 i2 c -> s.heap.get? c = some o -> h'.get? c = some o) -> Q none { s with heap := h' }) : wpAny (model prog w) A (pyNext (.ref z)) Q E s := by
 obtain ⟨hz, hTI, ⟨a, b, hTO⟩, t1, t2⟩ := T;have hT : s.TypeIs (.ref z) "zip" := ⟨_, hz, rfl⟩;unfold pyNext;refine wpAny_bind (wpAny_attempt (wpAny_callSpecial?_slot (name := Str.ofString "__next__") hT PySem.F.slot_zip_next (wpAny_call_entry PySem.F.slot_zip_next hT PySem.F.entry_zip_next ?_ (PySem.F.args_zip_next_1 _))));show wpAny _ _ (field (.ref z) 2 >>= _) _ _ _;refine wpAny_bind (wpAny_field hz rfl (x := .bool false) rfl ?_);show wpAny _ _ (field (.ref z) 3 >>= _) _ _ _;refine wpAny_bind (wpAny_field hz rfl (x := .ref TI) rfl ?_);refine wpAny_bind (wpAny_seqItems hTI rfl ?_);show wpAny _ _ (Builtin.SmallTypes.ownedTupleIsFree (.ref z) >>= _) _ _ _;refine wpAny_bind ?_;unfold Builtin.SmallTypes.ownedTupleIsFree;refine wpAny_bind (wpAny_field hz rfl (x := .none) rfl (wpAny_pure ?_));simp only [if_true];refine wpAny_bind (wpAny_rule ?_);refine wpAny_bind (wpAny_field hz rfl (x := .ref TO) rfl ?_);refine wpAny_bind (wpAny_setField_rec hz (by simp) fun h₁ hz1 q'1 => ?_);replace hz1 : IsZip h₁ z TI TO .ellipsis := hz1;refine wpAny_bind ?_;simp only [List.zipIdx_cons, List.zipIdx_nil, List.forIn_cons, List.forIn_nil];refine wpAny_bind (wpAny_bind (wpAny_onRaise ?_));show wpAny _ _ (Builtin.SmallTypes.nextOf (.ref i1) >>= _) _ _ _;refine wpAny_bind (Zgl (by exact hh) (t1.at fun c o hc e => q'1.extBut _ _ (ZcX hc D.i1z D.l1z) e) hx fun h'2 e q'2 he => ?_);refine Zg he fun oe hoe hce => ?_;clear he;have hz2 : IsZip h'2 z TI TO .ellipsis := q'2 _ _ D.i1z.symm hz1;have hez : e ≠ z := fun x => by subst x; rw [hz2] at hoe; cases hoe; simp at hce
 refine wpAny_setField_rec hz2 (by simp) fun h'3 _ q'3 => ?_;refine wpAny_bind (wpAny_isInstance (T := "StopIteration") (b := true) ⟨oe, q'3.extBut _ _ hez hoe, hce⟩ isSubtype_stop ?_);exact wpAny_pure (hQ _ fun c o n x => q'3.extBut _ _ (fun z => n (.inl z)) (q'2 _ _ (fun z => n (.inr (.inr (.inl z)))) (q'1.extBut _ _ (fun z => n (.inl z)) x)))
theorem ZjX {z TO i1 i2 c : Addr} (n : zWr z TO i1 i2 c) : c ∈ [z, TO, i1, i2] := n.elim (fun e => e ▸ .head _) fun n => n.elim (fun e => e ▸ .tail _ (.head _)) fun n => n.elim (fun e => e ▸ .tail _ (.tail _ (.head _))) fun e => e ▸ .tail _ (.tail _ (.tail _ (.head _)))
theorem ZjQ {z TO i1 i2 c : Addr} (h : c ∈ [z, TO, i1, i2]) : zWr z TO i1 i2 c := (List.mem_cons.mp h).imp id fun h => (List.mem_cons.mp h).imp id fun h => (List.mem_cons.mp h).imp id fun h => List.mem_singleton.mp h
theorem ZT.walks (hh : A.handled = none) {z TI TO i1 i2 l1 l2 : Addr} (D : ZipApart z TI TO i1 i2 l1 l2) {xs ys : Array Value} (hs : xs.size = ys.size) :
  WalksU prog w A z [z, TI, TO, i1, i2, l1, l2] [z, TO, i1, i2] xs.size (fun i vals => ∃ x y, xs[i]? = some x /\ ys[i]? = some y /\ vals = #[x, y]) (fun i h => ZT h z TI TO i1 i2 l1 l2 .none i xs ys)
   (fun i T h => ZT h z TI TO i1 i2 l1 l2 (rawInt T) (i + 1) xs ys /\ T ≠ z /\ T ≠ TO /\ T ≠ i1 /\ T ≠ i2) where
 sub := fun c hc => (ZjQ hc).elim (fun e => e ▸ .head _) fun n => n.elim (fun e => e ▸ .tail _ (.tail _ (.head _))) fun n => n.elim (fun e => e ▸ .tail _ (.tail _ (.tail _ (.head _)))) fun e => e ▸ .tail _ (.tail _ (.tail _ (.tail _ (.head _))))
 frame := fun i h h' T hk => ⟨hk z (.head _) _ T.z, hk TI (.tail _ (.head _)) _ T.ti, let ⟨a, b, e⟩ := T.to; ⟨a, b, hk TO (.tail _ (.tail _ (.head _))) _ e⟩,
  T.t1.at fun c o hc e => hk c (hc.elim (fun e => e ▸ .tail _ (.tail _ (.tail _ (.head _)))) fun e => e ▸ .tail _ (.tail _ (.tail _ (.tail _ (.tail _ (.head _)))))) o e, T.t2.at fun c o hc e => hk c (hc.elim (fun e => e ▸ .tail _ (.tail _ (.tail _ (.tail _ (.head _))))) fun e => e ▸ .tail _ (.tail _ (.tail _ (.tail _ (.tail _ (.tail _ (.head _))))))) o e⟩
 item := fun i s Q E hi T hQ => by
  have hy : i < ys.size := hs ▸ hi;have lt : ∀ {c o}, s.heap.get? c = some o -> s.heap.objs.size ≠ c := fun e => Nat.ne_of_gt (Heap.lt_size e);have l2 : s.heap.objs.size ≠ TO := let ⟨_, _, e⟩ := T.to; lt e
  have l3 : s.heap.objs.size ≠ i1 := let ⟨_, e, _⟩ := T.t1.it; lt e
  have l4 : s.heap.objs.size ≠ i2 := let ⟨_, e, _⟩ := T.t2.it; lt e
  exact T.next D (Array.getElem?_eq_getElem hi) (Array.getElem?_eq_getElem hy) fun h' T' hp hz hk => hQ s.heap.objs.size #[xs[i], ys[i]] h' s.toks ⟨_, _, Array.getElem?_eq_getElem hi, Array.getElem?_eq_getElem hy, rfl⟩ ⟨_, hp, rfl, _, rfl⟩
   ⟨T', lt T.z, l2, l3, l4⟩ fun c o hc e => hk c o (fun n => hc (ZjX n)) e
 go := fun elts k pos i T s Q E hm hQ => wpAny_letOwnedTupleGo_zip hm.1.z fun h' hz' hs' => hQ h' ⟨hz', hs'.extBut _ _ D.TIz hm.1.ti, let ⟨a, b, e⟩ := hm.1.to; ⟨a, b, hs'.extBut _ _ D.TOz e⟩,
   hm.1.t1.at fun c o hc e => hs'.extBut _ _ (ZcX hc D.i1z D.l1z) e, hm.1.t2.at fun c o hc e => hs'.extBut _ _ (ZcX hc D.i2z D.l2z) e⟩
   fun c o hc e => hs'.extBut _ _ (fun x => hc (x ▸ .head _)) e
 apart := fun i T h hm hT => (ZjQ hT).elim hm.2.1 fun n => n.elim hm.2.2.1 fun n => n.elim hm.2.2.2.1 hm.2.2.2.2
 done := fun s Q E T hQ => T.stop hh D (Array.getElem?_eq_none (Nat.le_refl _)) fun h' hk => hQ h' s.toks fun c o hc e => hk c o (fun n => hc (ZjX n)) e
 self := fun i s Q E T hQ => wpAny_pyIter_zip T.z hQ
noncomputable abbrev zt1 (h : Heap) (l1 : Addr) : Heap := h.push { cls := .type "tuple_iterator", data := .fields #[.ref l1, .int 0 0] }
noncomputable abbrev zt2 (h : Heap) (l1 l2 : Addr) : Heap := (zt1 h l1).push { cls := .type "tuple_iterator", data := .fields #[.ref l2, .int 0 0] }
noncomputable abbrev zt3 (h : Heap) (l1 l2 : Addr) : Heap := (zt2 h l1 l2).push { cls := .type "tuple", data := .seq #[.ref h.objs.size, .ref (zt1 h l1).objs.size] }
noncomputable abbrev zt4 (h : Heap) (l1 l2 : Addr) : Heap := (zt3 h l1 l2).push { cls := .type "tuple", data := .seq #[.none, .none] }
noncomputable abbrev zt5 (h : Heap) (l1 l2 : Addr) : Heap := (zt4 h l1 l2).push { cls := .type "zip", data := .fields #[.none, .bool false, .bool false, .ref (zt2 h l1 l2).objs.size, .ref (zt3 h l1 l2).objs.size] }
theorem Zq4 (l1 l2 : Addr) (xs ys : Array Value) :
  Meets (Builtin.«zip.__new__» ⟨[.type "zip", .ref l1, .ref l2], []⟩) (fun _ R s => s.heap.IsTuple l1 xs /\ s.heap.IsTuple l2 ys /\ R (.ok (.ret (.ref (zt4 s.heap l1 l2).objs.size))) { s with heap := zt5 s.heap l1 l2 }) :=
 .of_wp fun prog w A R s h => by
  obtain ⟨hp, g, d, tk, os⟩ := s; obtain ⟨hl1, hl2, h⟩ := h;have hsub := sub_zip;have hL1 : Heap.IsTuple (Shared.heap ⟨hp, g, d, tk, os⟩) l1 xs := hl1;have hL2 : Heap.IsTuple (Shared.heap ⟨hp.push { cls := .type "tuple_iterator", data := .fields #[.ref l1, .int 0 0] }, g, d, tk, os⟩) l2 ys := Zaj hl2 fun o e => Heap.get?_push_of_some _ e
  wp_walk using wpAny_pyIter_tuple hL1, wpAny_pyIter_tuple hL2
  exact ⟨_, rfl, h⟩
theorem Zo8 {l1 l2 : Addr} {xs ys : Array Value} {Q : Value -> Shared -> Prop} (hl1 : s.heap.IsTuple l1 xs) (hl2 : s.heap.IsTuple l2 ys)
  (h : ∀ h', ZT h' (s.heap.objs.size + 4) (s.heap.objs.size + 2) (s.heap.objs.size + 3) s.heap.objs.size (s.heap.objs.size + 1) l1 l2 .none 0 xs ys -> h'.objs.size = s.heap.objs.size + 5 ->
   (∀ c o, s.heap.get? c = some o -> h'.get? c = some o) -> Q (.ref (s.heap.objs.size + 4)) { s with heap := h' }) : wpAny (model prog w) A (call (.type "zip") [.ref l1, .ref l2]) Q E s := by
 refine callType_new PySem.F.called_zip (by decide) (PySem.F.typeCall_zip_2 _ _) (PySem.F.newCall_zip_2 _ _) (fun obj => PySem.F.args_object_init_3 obj _ _) PySem.F.entry_zip_new (Zq4 l1 l2 xs ys) ⟨hl1, hl2, ?_⟩;have z1 : (zt1 s.heap l1).objs.size = s.heap.objs.size + 1 := Heap.size_push ..;have z2 : (zt2 s.heap l1 l2).objs.size = s.heap.objs.size + 2 := by rw [Heap.size_push, z1]
 have z3 : (zt3 s.heap l1 l2).objs.size = s.heap.objs.size + 3 := by rw [Heap.size_push, z2]
 have z4 : (zt4 s.heap l1 l2).objs.size = s.heap.objs.size + 4 := by rw [Heap.size_push, z3]
 have z5 : (zt5 s.heap l1 l2).objs.size = s.heap.objs.size + 5 := by rw [Heap.size_push, z4]
 have g5 : (zt5 s.heap l1 l2).get? (zt4 s.heap l1 l2).objs.size = some _ := Heap.get?_push_size _ rfl;have g4 : (zt5 s.heap l1 l2).get? (zt3 s.heap l1 l2).objs.size = some _ := Heap.get?_push_of_some _ (Heap.get?_push_size _ rfl);have g3 : (zt5 s.heap l1 l2).get? (zt2 s.heap l1 l2).objs.size = some _ := Heap.get?_push_of_some _ (Heap.get?_push_of_some _ (Heap.get?_push_size _ rfl));have g2 : (zt5 s.heap l1 l2).get? (zt1 s.heap l1).objs.size = some _ := Heap.get?_push_of_some _ (Heap.get?_push_of_some _ (Heap.get?_push_of_some _ (Heap.get?_push_size _ rfl)));have g1 : (zt5 s.heap l1 l2).get? s.heap.objs.size = some _ := Heap.get?_push_of_some _ (Heap.get?_push_of_some _ (Heap.get?_push_of_some _ (Heap.get?_push_of_some _ (Heap.get?_push_size _ rfl))))
 have up : ∀ c o, s.heap.get? c = some o -> (zt5 s.heap l1 l2).get? c = some o := fun c o x =>
  Heap.get?_push_of_some _ (Heap.get?_push_of_some _ (Heap.get?_push_of_some _ (Heap.get?_push_of_some _ (Heap.get?_push_of_some _ x))))
 show _ /\ _;rw [z2, z3, z4] at g5;rw [z1, z2] at g3;rw [z3] at g4;rw [z1] at g2;rw [z4];exact ⟨⟨_, g5, rfl⟩, h _ ⟨g5, g3, ⟨_, _, g4⟩, ⟨⟨_, g1, rfl, rfl⟩, Zaj hl1 fun o => up _ o⟩, ⟨⟨_, g2, rfl, rfl⟩, Zaj hl2 fun o => up _ o⟩⟩ z5 up⟩
end
section
variable {G : GC} {C : Cx} {β : List Addr} {B B' B₁ : Bx} {σ : St} {s s' : Shared} {H : Nat} {d acc : V} {v : Value} {b : Bool} {it : Value} {r : Out} {k : K}
theorem Inv.grow (O : Zv G C) (I : Inv G C β B σ s) (hk : ∀ b o, s.heap.get? b = some o -> ¬ G.Tb b -> s'.heap.get? b = some o) (hz : s.heap.objs.size <= s'.heap.objs.size) (W : Wd G s') :
  Inv G C β B σ s' /\ Adv G C.mu β s β s' /\ ∀ b o, s.heap.get? b = some o -> ¬ avB C.av β b -> s'.heap.get? b = some o /\ ¬ avB C.av β b := by
 have a : Adv G (fun _ => False) β s β s' := ⟨⟨[], by simp, fun _ h => by simp at h⟩, fun b o e _ t => hk b o e t, hz⟩;have hav : ∀ b o, s.heap.get? b = some o -> ¬ avB C.av β b -> s'.heap.get? b = some o /\ ¬ avB C.av β b := fun b o e n => ⟨hk b o e fun t => n (.inl (O.tbav b t)), n⟩
 refine ⟨I.back O a (fun q z => z.elim) (fun z => z) (fun _ _ _ z => z) W ⟨I.boxes.len, I.boxes.nodup, I.boxes.apart, I.boxes.high, fun n q e e1 e2 => (I.boxes.at' n q e e1 e2).mono hav (fun _ _ z => z) fun o z => hk q o z fun t =>
  I.boxes.apart q (List.mem_of_getElem? e1) (O.tbav q t)⟩, a.mono (fun _ z => z.elim), hav⟩
theorem ZpG {M : Model} {A : Around} {E : Value -> Shared -> Prop} {env : Env} {c P : Addr} {ps : Array Value} {pos : Pos} {qualname : Str} {scope : Scope} {Q : Value -> Shared -> Prop} (hc : env.code = .ref c) (hok : s.heap.IsCode c P ps)
  (htab : s.heap.TableAt c P ps) (hQ : ∀ code h' tk ps', Heap.ExtBut P s.heap h' -> h'.IsCode c P ps' -> h'.TableAt c P ps' -> Q code { s with heap := h', toks := tk }) : wpAny M A (genexprCode env pos qualname scope) Q E s := by
 cases hnf : codeAmong pos ps.toList with
 | none => exact wpAny_genexprCodeX hc hok htab hnf fun c' h' tk hx _ _ h1 _ h2 _ => hQ _ _ _ _ hx h1 h2
 | some cv =>
  obtain ⟨o, vs, file, tf, flags, tg, inF, text, tt, op, ho, hd, h11, h2, h7, h9, h10, hop, hpd, htr, hne⟩ := id hok;unfold genexprCode codeAt;rw [hc, if_neg (show ¬ ((Value.ref c == Value.none) = true) from Bool.false_ne_true)];refine wpAny_bind (wpAny_fieldsOf ho hd ?_);rw [h11];refine wpAny_bind (wpAny_fieldsOf hop hpd ?_);rw [hnf];exact wpAny_pure (hQ cv s.heap s.toks ps (Heap.ExtBut.refl _ _) hok htab)
theorem Wd.tabTurn (gok : GOk G) (W : Wd G s) {c P : Addr} {ps' : Array Value} {h' : Heap} {tk : Nat} (hm : (c, P) ∈ G.tabs) (hx : Heap.ExtBut P s.heap h') (h1 : h'.IsCode c P ps') (h2 : h'.TableAt c P ps') : Wd G { s with heap := h', toks := tk } := by
 refine ⟨fun b o e n => hx b o (fun z => n ⟨c, z ▸ hm⟩) (W.keep b o e n), fun c' P' hm' => ?_, W.gens, W.os⟩
 by_cases hP : P' = P
 ·subst hP
  have := gok.one _ _ _ hm' hm;subst this;exact ⟨ps', h1, h2⟩
 ·refine Zg (W.tab c' P' hm') fun ps h3 h4 => ?_
  have hc : c' ≠ P := fun z => (gok.tabs c' P' hm').2.2 ⟨c, z ▸ hm⟩;exact ⟨ps, h3.extBut hx hc hP, h4.extBut hx hc hP⟩
noncomputable def zsum (xs ys : List V) : Option (List V) := (YR xs).bind fun ns => (YR ys).bind fun ms => if ns.length = ms.length then some ((List.zipWith (· + ·) ns ms).map .int) else none
theorem ZfO {xs ys zs : List V} (h : zsum xs ys = some zs) : ∃ ns ms : List Int, xs = ns.map .int /\ ys = ms.map .int /\ ns.length = ms.length /\ zs = (List.zipWith (· + ·) ns ms).map .int := by
 refine Z6 h fun ns hn h => ?_;refine Z6 h fun ms hm h => ?_;exact ⟨ns, ms, Xh hn, Xh hm, (Yp h).1, (Option.some.inj (Yp h).2).symm⟩
noncomputable def D.zsum (f g : DE) : DE := fun σ B => (f σ B).bind fun p => (ZlA p.1).1.bind fun xs => (g σ p.2).bind fun q => (ZlA q.1).1.bind fun ys => (Mine.zsum xs ys).bind fun zs => if Zu xs.length then some (.tup zs, q.2) else none
theorem Wd.kept (gok : GOk G) (W : Wd G s) (k0 : ∀ b o, b < G.H0.objs.size -> s.heap.get? b = some o -> s'.heap.get? b = some o) (hg : AllBare s'.gens) (ho : s'.os = s.os) : Wd G s' := by
 refine ⟨fun b o e n => k0 b o (Heap.lt_size e) (W.keep b o e n), fun c P hm => ?_, hg, ho.trans W.os⟩;refine Zg (W.tab c P hm) fun ps g1 g2 => ?_;refine Xx (gok.tabs c P hm) fun hc hP _ => ?_;obtain ⟨o, vs, file, tf, flags, tg, inF, text, tt, op, q1, q2, q3, q4, q5, q6, q7, q8, q9⟩ := g1;obtain ⟨⟨o2, vs2, p1, p2⟩, p3⟩ := g2;exact ⟨ps, ⟨o, vs, file, tf, flags, tg, inF, text, tt, op, k0 _ _ hc q1, q2, q3, q4, q5, q6, q7, k0 _ _ hP q8, q9⟩, ⟨⟨o2, vs2, k0 _ _ hc p1, p2⟩, k0 _ _ hP p3⟩⟩
theorem ZoA {av : Addr -> Prop} {h : Heap} : ∀ (l : List Value) (n m : List Int), l.length = n.length -> n.length = m.length -> (∀ (j : Nat) (v : Value), l[j]? = some v -> ∃ a b t, n[j]? = some a /\ m[j]? = some b /\ v = .int (a + b) t) ->
  Zb G av β h l ((List.zipWith (· + ·) n m).map .int) := by
 intro l
 induction l with
 | nil => intro n m h1 h2 _; rw [List.eq_nil_of_length_eq_zero h1.symm]; exact .nil
 | cons v l ih =>
  intro n m h1 h2 h3
  cases n with
  | nil => cases h1
  | cons a n =>
   cases m with
   | nil => cases h2
   | cons b m =>
    refine YD (h3 0 v rfl) fun a' b' t g1 g2 e => ?_;rw [e, <- Option.some.inj g1, <- Option.some.inj g2];exact .cons (.int _ _) (ih n m (Nat.succ.inj h1) (Nat.succ.inj h2) fun j v hv => h3 (j + 1) v hv)
noncomputable def zfp (x l1 l2 : Nat) : List Addr := [x + 4, x + 2, x + 3, x, x + 1, l1, l2]
noncomputable def zwr (x : Nat) : List Addr := [x + 4, x + 3, x, x + 1]
theorem Zn7 {x b : Nat} (h : b ∈ zwr x) : x <= b := by
 simp only [zwr, List.mem_cons, List.not_mem_nil, or_false] at h;rcases h with h | h | h | h <;> rw [h]
 ·exact Nat.le_add_right _ _
 ·exact Nat.le_add_right _ _
 ·exact Nat.le_refl _
 ·exact Nat.le_add_right _ _
noncomputable def ZsR (G : GC) (β : List Addr) (s'1 s' : Shared) (v : Value) (ns ms : List Int) : Prop :=
 (∀ b o, s'1.heap.get? b = some o -> ¬ G.Tb b -> s'.heap.get? b = some o) /\ s'1.heap.objs.size < s'.heap.objs.size /\ Wd G s' /\ ∃ a vs, v = .ref a /\ s'1.heap.objs.size <= a /\ s'.heap.get? a = some (YG vs 0) /\ ∀ av β, Zb G av β s'.heap vs.toList ((List.zipWith (· + ·) ns ms).map .int)
theorem ZnA {s'1 s'3 s'5 : Shared} {acc : Array Value} {ns ms : List Int} {n : Nat} {Gf : Array GenState -> Array GenState -> Prop} (gok : GOk G) (W3 : Wd G s'3) (hH0 : G.H0.objs.size <= s'1.heap.objs.size) (hle : s'1.heap.objs.size <= s'3.heap.objs.size) (k'3 : ∀ b o, s'1.heap.get? b = some o -> ¬ G.Tb b -> s'3.heap.get? b = some o)
  (hk5 : ∀ b o, s'3.heap.get? b = some o -> s'5.heap.get? b = some o) (hmv : Moved (s'3.heap.objs.size :: zwr s'1.heap.objs.size) Gf s'5 s') (hb : AllBare s'.gens) (ho : s'5.os = s'3.os) {ot : Obj} (hti : s'3.heap.get? (s'1.heap.objs.size + 2) = some ot)
  (hacc : acc.size = n /\ ∀ (j : Nat) (v : Value), acc[j]? = some v -> ∃ i, (List.range n)[j]? = some i /\ ∃ a b t, ns[i]? = some a /\ ms[i]? = some b /\ v = .int (a + b) t) (hn : n = ns.length) (hl : ns.length = ms.length) :
  ZsR G β s'1 { s' with heap := s'.heap.push (YG acc 0) } (.ref s'.heap.objs.size) ns ms := by
 have kk : ∀ b o, b < s'1.heap.objs.size -> s'3.heap.get? b = some o -> s'.heap.get? b = some o := fun b o hb e => hmv.heap b o (fun hm => (List.mem_cons.mp hm).elim (fun z => absurd hb (Nat.not_lt.mpr (z ▸ hle))) fun z => absurd hb (Nat.not_lt.mpr (Zn7 z))) (hk5 b o e)
 have hz : s'1.heap.objs.size <= s'.heap.objs.size := by
  have hm : s'1.heap.objs.size + 2 ∉ s'3.heap.objs.size :: zwr s'1.heap.objs.size := fun hm => (List.mem_cons.mp hm).elim (fun z => absurd (Heap.lt_size hti) (Nat.not_lt.mpr (Nat.le_of_eq z.symm))) fun hm => by
   simp only [zwr, List.mem_cons, List.not_mem_nil, or_false] at hm;rcases hm with h | h | h | h
   ·exact absurd (Nat.add_left_cancel h) (by decide)
   ·exact absurd (Nat.add_left_cancel h) (by decide)
   ·exact absurd (Nat.add_left_cancel (k := 0) h) (by decide)
   ·exact absurd (Nat.add_left_cancel h) (by decide)
  exact Nat.le_trans (Nat.le_add_right _ 2) (Nat.le_of_lt (Heap.lt_size (hmv.heap _ _ hm (hk5 _ _ hti))))
 refine ⟨fun b o e n => Heap.get?_push_of_some _ (kk b o (Heap.lt_size e) (k'3 b o e n)), by show _ < (s'.heap.push _).objs.size; rw [Heap.size_push]; exact Nat.lt_succ_of_le hz,
  (W3.kept gok (fun b o hb e => kk b o (Nat.lt_of_lt_of_le hb hH0) e) hb (hmv.os.trans ho)).ext (Ext.push s' _), _, acc, rfl, hz, Heap.get?_push_size _ rfl, fun av β => ?_⟩
 refine ZoA _ _ _ (by rw [Array.length_toList, hacc.1, hn]) hl fun j v hv => ?_;refine Zg (hacc.2 j v (Array.getElem?_toList.symm.trans hv)) fun i hi r => ?_;rw [List.getElem?_eq_some_iff] at hi;obtain ⟨h1, h2⟩ := hi;rw [List.getElem_range] at h2;rw [h2];exact r
theorem Zno {e'1 e'2 : Expr} {f g : DE} {xi xj : Str} {pi pj pa pb pt pbin pz pzc pg pn pos : Pos} {kt : Nat} {scope : Scope} (hf : Den G H k e'1 f) (hg : Den G H k e'2 g) (hn1 : XE e'1 = true) (hn2 : XE e'2 = true)
  (hgen : k.gen = true) (hkt : k.kind "tuple" = some .globalImplicit) (hkz : k.kind "zip" = some .globalImplicit) (htt : Yz G "tuple" (.type "tuple")) (htz : Yz G "zip" (.type "zip"))
  (hco : scope.isCoroutine = false) (hcell : ∀ y ∈ scope.names, y.2 ≠ .cell) (hfree : ∀ y ∈ scope.names, y.2 ≠ .free) (h0 : scope.names.lookup (".0" : Str) = some NameKind.local) (hxi : scope.names.lookup xi = some .local) (hxj : scope.names.lookup xj = some .local)
  (hij : xi ≠ xj) (hki : scope.kind = .function) (hdi : (xi == ("__debug__" : Str)) = false) (hdj : (xj == ("__debug__" : Str)) = false) :
  Den G H k (.Call (.Name "tuple" pn) [.GeneratorExp (.BinOp (.Name xi pa) .Add (.Name xj pb) pbin) [⟨.Tuple [.Name xi pi, .Name xj pj] kt pt, .Call (.Name "zip" pz) [e'1, e'2] [] pzc, [], 0⟩] scope pg] [] pos) (D.zsum f g) := .mk fun C O F σ B d B' h => by
 have h' : ∃ ns ms B₁, f σ B = some (.tup (ns.map .int), B₁) /\ g σ B₁ = some (.tup (ms.map .int), B') /\ ns.length = ms.length /\ Zu ns.length = true /\ d = .tup ((List.zipWith (· + ·) ns ms).map .int) := by
  refine Z6 h fun p hp h => ?_;refine Z6 h fun xs hx h => ?_;refine Z6 h fun q hq h => ?_;refine Z6 h fun ys hy h => ?_;refine Z6 h fun zs hzs h => ?_;obtain ⟨hsh, h⟩ := Yp h;obtain ⟨e1, e2⟩ := Prod.mk.inj (Option.some.inj h);refine ZbZ (ZfO hzs) fun ns ms e3 e4 hlen e5 => ?_;rw [e3, List.length_map] at hsh;exact ⟨ns, ms, p.2, hp.trans (congrArg (fun z => some (z, p.2)) (((ZlA p.1).2 _ hx).trans (congrArg V.tup e3))), hq.trans (congrArg some (Prod.ext (((ZlA q.1).2 _ hy).trans (congrArg V.tup e4)) e2)), hlen, hsh, by rw [<- e1, e5]⟩
 clear h;refine Zh2 h' fun ns ms B₁ h1 h2 hlen hsh hd => ?_;clear h';intro A β s hA I E;have hroom := hA.room;have hR : Row G H C σ B [e'1, e'2] [.tup (ns.map .int), .tup (ms.map .int)] B' := .cons _ _ _ _ _ _ _ hn1 (hf.ok C O F _ _ _ _ h1) (.cons _ _ _ _ _ _ _ hn2 (hg.ok C O F _ _ _ _ h2) (.nil _));have hE := hR.evs O (pos := pzc) A β s hA I;have hpl := hR.plain (pos := pzc);refine YA (O.code (F.gen.trans hgen)) fun cc P hcode hm => ?_;have hkt' := (F.kind _).trans hkt;have hkz' := (F.kind _).trans hkz;clear hf hg h1 h2 hR hkt hkz F hgen
 have main : Ok G.prog G.w A (eval (.Call (.Name "tuple" pn) [.GeneratorExp (.BinOp (.Name xi pa) .Add (.Name xj pb) pbin) [⟨.Tuple [.Name xi pi, .Name xj pj] kt pt, .Call (.Name "zip" pz) [e'1, e'2] [] pzc, [], 0⟩] scope pg] [] pos) C.env) s
   (fun v s' => ∃ β1 s'1, Adv G C.mu β s β1 s'1 /\ Inv G C β1 B' σ s'1 /\ ZsR G β1 s'1 s' v ns ms) := by
  intro E;refine wpAny_Call_NameR (X9 O I hkt' htt (by rfl) (PySem.callWith_type (by rfl) ?_));refine evalArgs_plain (spliced_cons ?_);refine wpAny_GeneratorExp_walksQT hA.handled hco (closureFor_none hfree) hcell h0 hxi hxj hij hki hroom ?_ (fun x => rfl);refine wpAny_Call_NameR (X9 O I hkz' htz (by rfl) (PySem.callWith_type hpl ?_));clear hpl I htt htz hkt' hkz';rw [ZA hn1, ZW] at hE ⊢;refine evalArgs_plain (hE.t3 fun vs s'1 β1 a'1 i'1 r'1 => ?_);clear hE;refine YH (YE r'1) fun v1 v2 ev r1 r2 => ?_;refine Xl r1.sh fun l1 us n1 ev1 e1 nav1 q1 => ?_;refine Xl r2.sh fun l2 ws n2 ev2 e2 nav2 q2 => ?_;rw [ev, ev1, ev2];clear r1 r2 r'1 ev ev1 ev2;refine Zg (Zby q1) fun ps1 hp1 hn1' => ?_;refine Zg (Zby q2) fun ps2 hp2 hn2' => ?_;have hu : us.size = ns.length := Array.length_toList.symm.trans (q1.length.trans (List.length_map _));have hw : ws.size = ms.length := Array.length_toList.symm.trans (q2.length.trans (List.length_map _));clear q1 q2;refine Zo8 (Rep.isTuple e1) (Rep.isTuple e2) fun h'2 Z hsz'2 hk'2 => ?_;refine wpAny_pyIter_zip Z.z ?_;have D := ZdD s'1.heap.objs.size l1 l2 (Heap.lt_size e1) (Heap.lt_size e2);have x'2 : Ext s'1 { s'1 with heap := h'2 } := ⟨hk'2, by show _ <= h'2.objs.size; rw [hsz'2]; exact Nat.le_add_right _ _, rfl, rfl⟩;have W2 := i'1.wd.ext x'2;refine ⟨W2.nolimit O.gok, ?_⟩;refine Zg (W2.tab cc P hm) fun psc hIs hTab => ?_;refine ZpG hcode hIs hTab fun code h'3 tk3 ps3 hx3 hIs3 hTab3 => ?_;have W3 := W2.tabTurn (tk := tk3) O.gok hm hx3 hIs3 hTab3;have hnT : ∀ {b}, ¬ G.Tb b -> b ≠ P := fun n z => n ⟨cc, z ▸ hm⟩;have hH0 := i'1.H0 O;have hge : ∀ {b}, s'1.heap.objs.size <= b -> b ≠ P := fun hb z => absurd (O.gok.tabs cc P hm).2.1 (Nat.not_lt.mpr (Nat.le_trans hH0 (z ▸ hb)));have hTbl : ∀ {b}, ¬ avB C.av β1 b -> b ≠ P := fun n => hnT fun t => n (.inl (O.tbav _ t));have k'3 : ∀ b o, s'1.heap.get? b = some o -> ¬ G.Tb b -> h'3.get? b = some o := fun b o e n => hx3 b o (hnT n) (hk'2 b o e);have hnP : ∀ {b o} (j : Nat), b = s'1.heap.objs.size + j -> h'2.get? b = some o -> h'3.get? b = some o := fun j hb e => hx3 _ _ (hge (hb ▸ Nat.le_add_right _ j)) e
  have Z3 : ZT h'3 (s'1.heap.objs.size + 4) (s'1.heap.objs.size + 2) (s'1.heap.objs.size + 3) s'1.heap.objs.size (s'1.heap.objs.size + 1) l1 l2 .none 0 us ws :=
   ⟨hnP 4 rfl Z.z, hnP 2 rfl Z.ti, let ⟨a, b, e⟩ := Z.to; ⟨a, b, hnP 3 rfl e⟩, Z.t1.at fun b o hb e => hx3 b o (hb.elim (fun z => hge (z ▸ Nat.le_refl _)) fun z => z ▸ hTbl nav1) e,
    Z.t2.at fun b o hb e => hx3 b o (hb.elim (fun z => hge (z ▸ Nat.le_add_right _ _)) fun z => z ▸ hTbl nav2) e⟩
  have a1' := a'1;clear hx3 hIs3 hTab3 hnT hge hTbl hnP W2 x'2 hIs hTab Z nav1 nav2 hk'2 hsz'2 e1 e2;generalize hs'3 : ({ heap := h'3, gens := s'1.gens, drawn := s'1.drawn, toks := tk3, os := s'1.os } : Shared) = s'3 at W3 ⊢;have e'3 : h'3 = s'3.heap := by rw [<- hs'3]
  rw [e'3] at k'3 Z3;clear hs'3 e'3 h'3;refine Zs5 O.gok.bm fun bm ob hb1 hb2 hb3 hb4 hb5 hb6 hb7 => ?_;have hG : s'3.heap.Ns C.env.globals G.mg := by rw [O.globals]; exact W3.g O.gok
  refine wpAny_builtinsFor (m := G.mg) (o := ob) hG hb1 hb2 (W3.keep _ _ hb3 hb7) hb4 hb5 hb6 ?_;clear hG hb1 hb2 hb3 hb4 hb5 hb6 hb7
  have hlt3 : ∀ b ∈ zfp s'1.heap.objs.size l1 l2, b < s'3.heap.objs.size := by
   intro b hb;simp only [zfp, List.mem_cons, List.not_mem_nil, or_false] at hb;rcases hb with hb | hb | hb | hb | hb | hb | hb <;> rw [hb]
   ·exact Heap.lt_size Z3.z
   ·exact Heap.lt_size Z3.ti
   ·obtain ⟨a, b, e⟩ := Z3.to; exact Heap.lt_size e
   ·obtain ⟨o, e, _⟩ := Z3.t1.it; exact Heap.lt_size e
   ·obtain ⟨o, e, _⟩ := Z3.t2.it; exact Heap.lt_size e
   ·obtain ⟨o, e, _⟩ := Z3.t1.tu; exact Heap.lt_size e
   ·obtain ⟨o, e, _⟩ := Z3.t2.tu; exact Heap.lt_size e
  have hle : s'1.heap.objs.size <= s'3.heap.objs.size := Nat.le_of_lt (hlt3 _ (.tail _ (.tail _ (.tail _ (.head _)))));have hst : cStatics < s'1.heap.objs.size := Nat.lt_of_lt_of_le (let ⟨mc, hn, _⟩ := O.gok.nolimit; hn.lt) hH0
  refine ⟨s'1.heap.objs.size + 4, zfp s'1.heap.objs.size l1 l2, zwr s'1.heap.objs.size,
   us.size, _, _, _, fun _ => true, fun i y => ∃ a b t, ns[i]? = some a /\ ms[i]? = some b /\ y = .int (a + b) t, rfl, fun A' hA' => ZT.walks hA' D (hu.trans (hlen.trans hw.symm)), ?_, Z3, hlt3, W3.nolimit O.gok, ?_, ?_, ?_⟩
  ·rintro i vals ⟨x, y, _, _, e⟩; exact ⟨x, y, e⟩
  ·exact fun hmem => absurd hst (Nat.not_lt.mpr (Zn7 hmem))
  ·intro href _
   refine ⟨fun A' E' i va vb s'2 m'2 _ _ _ _ _ _ => wpAny_pure ⟨rfl, s'2.heap, s'2.toks, rfl, fun _ _ e => e⟩, fun A' E' i va vb s'2 m'2 _ hP _ hns ha hb _ => ?_⟩;refine YH hP fun x y hx hy hxy => ?_;clear hP;have hxy := List.cons.inj (congrArg Array.toList hxy);rw [<- hxy.1, <- Array.getElem?_toList, hp1, List.getElem?_map] at hx;rw [<- (List.cons.inj hxy.2).1, <- Array.getElem?_toList, hp2, List.getElem?_map] at hy;refine Zp hx fun p hp e1 => ?_;refine Zp hy fun q hq e2 => ?_;rw [<- e1] at ha;rw [<- e2] at hb;refine wpAny_BinOp (wpAny_Name (wpAny_loadName_local hki hxi hns ha ?_) hdi);refine wpAny_Name (wpAny_loadName_local hki hxj hns hb ?_) hdj;exact add_int ⟨⟨p.1, q.1, _, by rw [<- hn1', List.getElem?_map, hp]; rfl, by rw [<- hn2', List.getElem?_map, hq]; rfl, rfl⟩, s'2.heap, s'2.toks + 1, rfl, fun _ _ e => e⟩
  ·intro a h'5 tk gs hbare hlt hsz5 hk5 hW hGA
   have hpass : passing (fun _ => true) us.size 0 = List.range us.size := List.filter_eq_self.mpr fun _ _ => rfl;rw [hpass, List.length_range] at hW;refine spliced_nil ?_;refine call_tuple_gen (n := us.size) hW.in4_3 (fun i s' hg => hg.1.typeIs) hGA (fun b hb => ?_) (List.mem_cons_self) (fun s' acc hmv hacc => ?_) (by rw [hu]; exact Yy hsh)
   ·show b < h'5.objs.size
    rw [hsz5];exact Nat.lt_succ_of_le ((List.mem_cons.mp hb).elim (fun z => Nat.le_of_eq z) fun hb => (List.mem_cons.mp hb).elim (fun z => z ▸ Nat.le_of_lt hlt) fun hb => Nat.le_of_lt (Nat.lt_trans (List.mem_range.mp hb) hlt))
   ·exact ⟨β1, s'1, a'1, i'1, ZnA O.gok W3 hH0 hle k'3 hk5 hmv (AllBare.movedS (W3.gens.push hbare) hmv) rfl Z3.ti hacc hu hlen⟩
 refine main.to fun v s' hz => ?_;refine Zak hz fun β1 s'1 a'1 i'1 hk hlt W hz => ?_;refine ZbZ hz fun a vs e ha hg hr => ?_;refine Xx (i'1.grow O hk (Nat.le_of_lt hlt) W) fun i'2 a'2 _ => ?_;rw [e, hd];exact ⟨β1, a'1.trans a'2, i'2, .tup hg (i'1.fresh ha) (hr _ _)⟩
end
noncomputable def ZrM : V -> Option Bool
 | .tup _ => some true
 | .int _ => some false
 | _ => none
noncomputable def D.isTup (f : DE) : DE := fun σ B => match f σ B with
 | none => none
 | some (d, B₁) => (ZrM d).map fun b => (.bool b, B₁)
noncomputable def J8 : List (Int × Str) := [(1, "OPTIMIZED"), (2, "NEWLOCALS"), (4, "VARARGS"), (8, "VARKEYWORDS"), (16, "NESTED"), (32, "GENERATOR"), (64, "NOFREE"), (128, "COROUTINE"), (256, "ITERABLE_COROUTINE"), (512, "ASYNC_GENERATOR")]
noncomputable def Zcx (i : Int) (y : Str) : Str := match J8.find? fun p => p.1 = i with
 | some p => p.2
 | none => y
noncomputable def D.flagGet (f g : DE) : DE := fun σ B => match f σ B with
 | some (.int i, B₁) => match g σ B₁ with
  | some (.str y, B₂) => some (.str (Zcx i y), B₂)
  | _ => none
 | _ => none
noncomputable def ZgV (G : GC) : Prop := ∃ a kvs, Yz G "COMPILER_FLAG_NAMES" (.ref a) /\ ¬ G.Tb a /\ (a == sysModules) = false /\ G.H0.DictOf (intKind G.prog G.w) a kvs /\ ∃ ts : List Tok, kvs = List.zipWith (fun (p : Int × Str) t => (p.1, Value.str p.2 t)) J8 ts /\ ts.length = 10
noncomputable def D.pairs : List (DE × DE) -> St -> Bx -> List Str -> List V -> Option (V × Bx)
 | [], _, B, ks, vs => some (.dict ks vs, B)
 | (f, g) :: r, σ, B, ks, vs => match f σ B with
  | some (.str x, B₁) => match g σ B₁ with
   | none => none
   | some (d, B₂) => match D.pairs r σ B₂ ks vs with
    | none => none
    | some z => some z
  | _ => none
noncomputable def D.pairRow : List (DE × DE) -> St -> Bx -> Option (List (Str × V) × Bx)
 | [], _, B => some ([], B)
 | (f, g) :: r, σ, B => match f σ B with
  | some (.str x, B₁) => match g σ B₁ with
   | none => none
   | some (d, B₂) => match D.pairRow r σ B₂ with
    | none => none
    | some (ps, B3) => some ((x, d) :: ps, B3)
  | _ => none
noncomputable def ZdB : List (Str × V) -> List Str × List V -> List Str × List V
 | [], a => a
 | (x, d) :: r, a => ZdB r (Jr a.1 a.2 x d)
noncomputable def D.dict (fs : List (DE × DE)) : DE := fun σ B => match D.pairRow fs σ B with
 | none => none
 | some (ps, B₁) => some (.dict (ZdB ps ([], [])).1 (ZdB ps ([], [])).2, B₁)
noncomputable def Zae (B : Bx) (d : V) (l u : Option Int) : Option V := match ZS B d with
 | some xs => if Zu xs.length then some (.list (ZeP xs l u)) else none
 | none => none
section
variable {G : GC} {C : Cx} {β β' : List Addr} {B B' B₁ B₂ B3 : Bx} {σ : St} {s s' : Shared} {H : Nat} {d d₁ acc : V} {v : Value} {b : Bool} {ds : List V} {ow : Addr -> Prop} {r : Out} {k : K}
set_option tactic.hygienic true in
theorem ZlP {e : Expr} {f : DE} {pi pt pos : Pos} (hf : Den G H k e f) (hn : XE e = true) (hki : k.kind "isinstance" = some .globalImplicit) (hkt : k.kind "tuple" = some .globalImplicit) (hti : Yz G "isinstance" (.builtin "isinstance"))
  (htt : Yz G "tuple" (.type "tuple")) : Den G H k (.Call (.Name "isinstance" pi) [e, .Name "tuple" pt] [] pos) (D.isTup f) := .mk fun C O F σ B d B' h => by
 refine mE h fun d₁ B₁ h1 h => ?_;refine Zp h fun c hc hh => ?_
 cases hh
 intro A β s hA I E;refine wpAny_Call_NameR (X9 O I (by rw [F.kind]; exact hki) hti (by rfl) (Calls.callWith_builtin (by rw [ZA hn, ZW]; rfl) ?_));rw [ZA hn, ZW];refine evalArgs_plain (spliced_cons ((hf.ok C O F _ _ _ _ h1 A β s hA I).t3 fun v s'1 β1 a'1 i'1 r'1 => spliced_cons ?_));refine X9 O i'1 (by rw [F.kind]; exact hkt) htt (by rfl) (spliced_nil ?_);refine (?_ : wpAny _ A (call (.builtin "isinstance") [v, .type "tuple"]) _ E s'1);have S := r'1.sh;clear r'1
 cases d₁ with
 | tup xs =>
  refine Xl S fun a vs m ev e4 n4 q4 => ?_;rw [ev, <- Option.some.inj hc];exact call_isinstance_yes (Tx := "tuple") ⟨_, e4, rfl⟩ PySem.F.isi_meta_tuple AutoSeq1.sub_tuple_tuple ((Zs.ofExt i'1 (Ext.refl _) (.bool _)).from a'1)
 | int i =>
  obtain ⟨t, ev⟩ := S;rw [ev, <- Option.some.inj hc];exact IsiPair.int_tuple ((Zs.ofExt i'1 (Ext.toks _ _) (.bool _)).from a'1)
 | _ => exact nn hc
theorem ZiX {ts : List Tok} (h : ts.length = 10) (i : Int) (y : Str) (u : Tok) : ∃ t, (valueAt (List.zipWith (fun (p : Int × Str) t => (p.1, Value.str p.2 t)) J8 ts) i).getD (.str y u) = .str (Zcx i y) t := by
 unfold valueAt Zcx
 have key : ∀ (l : List (Int × Str)) (ts : List Tok), l.length <= ts.length -> ∃ t, (((List.zipWith (fun (p : Int × Str) t => (p.1, Value.str p.2 t)) l ts).find? fun kv => kv.1 = i).map (·.2)).getD (.str y u) = .str (match l.find? fun p => p.1 = i with | some p => p.2 | none => y) t := by
  intro l
  induction l with
  | nil => intro ts _; exact ⟨u, rfl⟩
  | cons p l ih =>
   intro ts hl
   cases ts with
   | nil => simp at hl
   | cons t ts =>
    by_cases hp : p.1 = i
    ·exact ⟨t, by simp [hp]⟩
    ·obtain ⟨t', ht'⟩ := ih ts (by simpa using hl)
     exact ⟨t', by simpa [hp] using ht'⟩
 exact key J8 ts (by rw [h]; decide)
set_option tactic.hygienic true in
theorem Zhg {e'1 e'2 : Expr} {f g : DE} {pn apos pos : Pos} (hf : Den G H k e'1 f) (hg : Den G H k e'2 g) (hn1 : XE e'1 = true) (hn2 : XE e'2 = true) (hl : (apos.endLine == pos.line) = true)
  (hk : k.kind "COMPILER_FLAG_NAMES" = some .globalImplicit) (hF : ZgV G) : Den G H k (.Call (.Attribute (.Name "COMPILER_FLAG_NAMES" pn) "get" apos) [e'1, e'2] [] pos) (D.flagGet f g) := .mk fun C O F σ B d B' h => by
 unfold D.flagGet at h
 split at h
 ·rename_i i B₁ h1
  split at h
  ·rename_i y B₂ h2
   cases h
   intro A β s hA I E;obtain ⟨a, kvs, htop, hT, hs, hd, ts, rfl, hts⟩ := hF;have R : Row G H C σ B [e'1, e'2] [.int i, .str y] B' := .cons _ _ _ _ _ _ _ hn1 (hf.ok C O F _ _ _ _ h1) (.cons _ _ _ _ _ _ _ hn2 (hg.ok C O F _ _ _ _ h2) (.nil _));have move : ∀ {s'1 : Shared}, Wd G s'1 -> s'1.heap.DictOf (intKind G.prog G.w) a _ := fun W => let ⟨o, es, ep, ho, r⟩ := hd; ⟨o, es, ep, W.keep _ _ ho hT, r⟩
   refine wpAny_Call_method (T := "dict") (id := "dict.get") (ZgF rfl) ?_ hl PySem.F.plainAttrs_dict PySem.F.slot_dict_get PySem.F.type_dict_get ?_
   ·rw [R.all]; rfl
   ·refine X9 O I (by rw [F.kind]; exact hk) htop (by rfl) ⟨(move I.wd).typeIs, (move I.wd).mapOf.noDict, Calls.callWith_builtin R.plain ?_⟩
    have := R.evs O (pos := pos) A β s hA I;rw [ZA hn1, ZW] at this ⊢;refine evalArgs_plain (this.t3 fun vs s'1 β1 a'1 i'1 r'1 => ?_);refine YH (YE r'1) fun v u z_2 r1 r2 => ?_;subst z_2;obtain ⟨t1, rfl⟩ := Zo r1;obtain ⟨t2, rfl⟩ := Z7 r2;refine call_meetsIn PySem.F.slot_dict_get (move i'1.wd).typeIs PySem.F.entry_dict_get (PySem.F.args_dict_get_3 _ _ _) (meets_dict_get_default (intKind G.prog G.w) a (intKind_is G.prog G.w i t1) hs _) ⟨_, (move i'1.wd).mapOf, ?_⟩;obtain ⟨t, ht⟩ := ZiX hts i y t2;rw [ht];exact (Zs.ofExt i'1 (Ext.toks _ _) (.str _ _)).from a'1
  ·exact nn h
 ·exact nn h
inductive ZcI (G : GC) (H : Nat) (k : K) : List (Option Expr) -> List Expr -> List (DE × DE) -> Prop
 | nil : ZcI G H k [] [] []
 | cons {e e' : Expr} {ks : List (Option Expr)} {es : List Expr} {f f' : DE} {fs : List (DE × DE)} : Den G H k e f -> Den G H k e' f' -> ZcI G H k ks es fs -> ZcI G H k (some e :: ks) (e' :: es) ((f, f') :: fs)
noncomputable def prs (env : Env) (pos : Pos) : List (Option Expr) -> List Expr -> List (Sem Value × Sem Value)
 | some e :: ks, e' :: es => (eval e env, do let x <- eval e' env; standAt pos; pure x) :: prs env pos ks es
 | _, _ => []
theorem ZcI.shape {ks : List (Option Expr)} {es : List Expr} {fs : List (DE × DE)} (h : ZcI G H k ks es fs) (env : Env) (pos : Pos) :
  (evalEachOpt ks env).zip ((evalEach es env).map fun v => do let x <- v; standAt pos; pure x) = (prs env pos ks es).map fun p => (some p.1, p.2) := by
 induction h with
 | nil => rfl
 | cons _ _ _ ih =>
  show (some (eval _ env), _) :: _ = _;simp only [prs, List.map_cons];rw [<- ih];rfl
theorem ZcI.len {ks : List (Option Expr)} {es : List Expr} {fs : List (DE × DE)} (h : ZcI G H k ks es fs) (env : Env) (pos : Pos) : (prs env pos ks es).length = fs.length := by
 induction h with
 | nil => rfl
 | cons _ _ _ ih => simp [prs, ih]
set_option tactic.hygienic true in
theorem Zmi (O : Zv G C) (F : Xi k C) {pos : Pos} {ks : List (Option Expr)} {es : List Expr} {fs : List (DE × DE)} (h : ZcI G H k ks es fs) : ∀ {B : Bx} {ps : List (Str × V)} {B' : Bx} {A : Around} {β : List Addr} {s : Shared},
  D.pairRow fs σ B = some (ps, B') -> AOk H A -> Inv G C β B σ s -> Ok G.prog G.w A (evalPairs (prs C.env pos ks es)) s fun vs s' => ∃ β', Adv G C.mu β s β' s' /\ Inv G C β' B' σ s' /\
   ∃ kvs : List (Str × Value), Carries (PySem.strKind G.prog G.w) vs kvs /\ kvs.map (·.1) = ps.map (·.1) /\ Zb G (avB C.av β') β' s'.heap (kvs.map (·.2)) (ps.map (·.2)) := by
 induction h with
 | nil => intro B ps B' A β s h hA I E; cases h; exact evalPairs_nil ⟨β, .refl, I, [], trivial, rfl, .nil⟩
 | cons hf hf' _ ih =>
  intro B ps B' A β s h hA I E;simp only [D.pairRow] at h
  split at h
  ·rename_i x B₁ h1
   refine mE h fun d B₂ h2 h => ?_;refine mP h fun ps' B3 h3 h => ?_
   cases h
   refine evalPairs_cons ((hf.ok C O F _ _ _ _ h1 A β s hA I).t3 fun kv s'1 β1 a'1 i'1 r'1 => wpAny_bind ((hf'.ok C O F _ _ _ _ h2 A β1 s'1 hA i'1).t3 fun vv s'2 β2 a'2 i'2 r'2 => wpAny_bind (wpAny_standAt (wpAny_pure
    ((ih h3 hA i'2).to fun vs s'3 hz => ?_)))))
   refine XS hz fun β3 a'3 i3 hz => ?_;refine XS hz fun kvs hc hk hr => ?_;obtain ⟨t, rfl⟩ := Z7 r'1;exact ⟨β3, (a'1.trans a'2).trans a'3, i3, (x, vv) :: kvs, ⟨strKind_is G.prog G.w x t, rfl, hc⟩, by simp [hk], .cons (a'3.e O r'2) hr⟩
  ·exact nn h
theorem Ze6 {av : Addr -> Prop} {h : Heap} : ∀ (kvs : List (Str × Value)) (ps : List (Str × V)) (acc : List (Str × Value)) (vs : List V), kvs.map (·.1) = ps.map (·.1) -> Zb G av β h (kvs.map (·.2)) (ps.map (·.2)) -> (acc.map (·.1)).Nodup -> Zb G av β h (acc.map (·.2)) vs ->
  (merged acc kvs).map (·.1) = (ZdB ps (acc.map (·.1), vs)).1 /\ Zb G av β h ((merged acc kvs).map (·.2)) (ZdB ps (acc.map (·.1), vs)).2
 | [], [], acc, vs, _, _, _, hr => by simp only [merged, List.foldl_nil, ZdB]; exact ⟨trivial, hr⟩
 | [], _ :: _, _, _, h, _, _, _ => by simp at h
 | _ :: _, [], _, _, h, _, _, _ => by simp at h
 | (x, v) :: kvs, (y, d) :: ps, acc, vs, h, hrr, hn, hr => by
  simp only [List.map_cons, List.cons.injEq] at h;obtain ⟨rfl, h⟩ := h
  cases hrr with
  | cons r1 rs =>
   obtain ⟨q1, q2⟩ := Zca (k := x) hn hr r1
   have hnd : ((stored acc x v).map (·.1)).Nodup := by
    rw [ZdA]
    split
    ·exact hn
    ·rename_i hc
     refine List.nodup_append.mpr ⟨hn, by simp, fun a ha b hb => ?_⟩;rw [List.mem_singleton.mp hb]
     rintro rfl
     exact hc (by rw [List.contains_iff_mem]; exact ha)
   have := Ze6 kvs ps (stored acc x v) _ h rs hnd q2;rw [q1] at this;exact this
set_option tactic.hygienic true in
theorem ZbM {ks : List (Option Expr)} {es : List Expr} {fs : List (DE × DE)} {pos : Pos} (h : ZcI G H k ks es fs) (hne : fs ≠ []) (hlen : fs.length <= 15) : Yu G H k (.Dict ks es pos) (D.dict fs) := .mk fun C O F σ B d B' hd => by
 refine mP hd fun ps B₁ hps hd => ?_
 cases hd
 intro A β s hA I E;have x'0 := Ext.push s { cls := .type "dict", data := .dict #[] };have how : ∀ a, Yi s.heap.objs.size a -> s.heap.objs.size <= a := fun a z => Nat.le_of_eq z.symm;have I0 := I.more (ow := Yi s.heap.objs.size) x'0 fun a z => ⟨how a z, by show a < (s.heap.push _).objs.size; rw [Heap.size_push]; exact z ▸ Nat.lt_succ_self _⟩;have O0 := O.more (Yi s.heap.objs.size);have WD := Zgh O I how;refine wpAny_Dict_pairs (knd := PySem.strKind G.prog G.w) (h.shape C.env pos) (fun e => hne (List.length_eq_zero_iff.mp (by rw [<- h.len C.env pos, e]; rfl))) (by rw [h.len]; exact hlen) ?_;refine (Zmi O0 (F.more _) h hps hA I0).to fun vs s'1 hz => ?_;refine XS hz fun β1 a'1 i'1 hz => ?_;refine XS hz fun kvs hc hk hr => ?_;have hnew : (s.heap.push { cls := .type "dict", data := .dict #[] }).DictOf (PySem.strKind G.prog G.w) s.heap.objs.size [] := Heap.DictOf.new _
 have hkeep : ∀ o, (s.heap.push { cls := .type "dict", data := .dict #[] }).get? s.heap.objs.size = some o -> s'1.heap.get? s.heap.objs.size = some o := fun o e => a'1.grow.keep _ o e (by
  rintro (z | z)
  ·exact WD.nomu _ rfl z
  ·exact I0.boxes.apart _ z (.inr rfl)) fun ⟨c, z⟩ => absurd (O.gok.tabs c _ z).2.1 (Nat.not_lt.mpr (I.H0 O))
 refine ⟨kvs, hc, Zbu hnew hkeep, fun h' hd' hs' => ?_⟩;refine ZcR (Ze2 (tk := s'1.toks + vs.length) O0 WD i'1 hs') fun _ i'2 _ hk'2 => ?_;obtain ⟨q1, q2⟩ := Ze6 kvs ps [] [] hk hr (by simp) .nil;refine ⟨β1, _, rfl, Nat.le_refl _, fun z => Nat.lt_irrefl _ (I.low _ z), ?_, i'2, .dict hd' (ZiB O I (Nat.le_refl _)) q1 (Zb.mono hk'2 (fun _ _ z => z) q2)⟩;refine ⟨a'1.pre.imp fun βn ⟨e, hz⟩ => ⟨e, fun a ha => Nat.le_trans x'0.size (hz a ha)⟩, fun b o e n t => ?_, ?_⟩
 ·have hb : b ≠ s.heap.objs.size := fun z => Nat.lt_irrefl _ (z ▸ Heap.lt_size e)
  exact (hs'.2 b hb).trans (a'1.grow.keep b o (x'0.keep b o e) n t)
 ·show _ <= h'.objs.size
  rw [hs'.1];exact Nat.le_trans x'0.size a'1.grow.size
set_option tactic.hygienic true in
theorem ZbW {o : Expr} {lo hi : Option Expr} {p pos : Pos} {f : DE} {fl fu : Option DE} (hn : ZiI o = true) (hf : Den G H k o f) (hl : ∀ e, lo = some e -> ∃ g, fl = some g /\ Den G H k e g) (hl0 : lo = none -> fl = none)
  (hu : ∀ e, hi = some e -> ∃ g, fu = some g /\ Den G H k e g) (hu0 : hi = none -> fu = none) : Den G H k (.Subscript o (.Slice lo hi none p) pos) (D.slice Zae f fl fu) := .mk fun C O F σ B d B' h => by
 refine mE h fun a B₁ h1 h => ?_;refine mO h fun l B₂ h2 h => ?_;refine mO h fun u B3 h3 h => ?_;refine Zp h fun z hz hh => ?_
 cases hh
 unfold Zae at hz
 split at hz
 ·rename_i xs hx
  split at hz
  ·rename_i hs
   cases hz
   refine Zop (B₂ := B₂) O hn (hf.ok C O F _ _ _ _ h1) ?_ ?_ hx hs
   ·cases lo with
    | none => rw [hl0 rfl] at h2; cases h2; exact .none _
    | some e =>
     refine Zg (hl e rfl) fun g z_1 hg => ?_;subst z_1;simp only at h2
     split at h2
     ·cases h2; exact .some _ _ _ _ (hg.ok C O F _ _ _ _ (by assumption))
     ·exact nn h2
   ·cases hi with
    | none => rw [hu0 rfl] at h3; cases h3; exact .none _
    | some e =>
     refine Zg (hu e rfl) fun g z_1 hg => ?_;subst z_1;simp only at h3
     split at h3
     ·cases h3; exact .some _ _ _ _ (hg.ok C O F _ _ _ _ (by assumption))
     ·exact nn h3
  ·exact nn hz
 ·exact nn hz
noncomputable def D.split (f g : DE) : DE := fun σ B => match f σ B with
 | some (.str x, B₁) => match g σ B₁ with
  | some (.str y, B₂) => if Zu (x.length + 2) && decide (y.length ≠ 0) then some (.list ((Txt.split x y).map .str), B₂) else none
  | _ => none
 | _ => none
noncomputable def D.words (f : DE) : DE := fun σ B => match f σ B with
 | some (.str x, B₁) => if Zu x.length && Zu (Builtin.Str.spaceWords x (x.length + 1)).length then some (.list ((Txt.words x).map .str), B₁) else none
 | _ => none
theorem ZeF {av : Addr -> Prop} {h : Heap} : ∀ (tk : Nat) (l : List Str), Zb G av β h (strsFrom tk l) (l.map .str)
 | _, [] => .nil
 | tk, x :: l => .cons (.str x tk) (ZeF (tk + 1) l)
theorem Zhv (O : Zv G C) {o : Expr} {nm : Str} {apos pos : Pos} {es : List Expr} {id : String} {x : Str} {A : Around} {E : Value -> Shared -> Prop} {Q : Value -> Shared -> Prop}
  (hA : AOk H A) (I : Inv G C β B σ s) (hb : Xo o = true) (hl : (apos.endLine == pos.line) = true) (hS : PySem.Slot "str" nm id) (hT : typeOf (.builtin id) = pure (.type "method_descriptor")) (h1 : Yn G H C σ B (eval o C.env) (.str x) B₁)
  (R : Row G H C σ B₁ es ds B₂) (hn : es.length < 29)
  (k : ∀ β' s' v vs, Adv G C.mu β s β' s' -> Inv G C β' B₂ σ s' -> Rep G (avB C.av β') β' s'.heap v (.str x) -> Zb G (avB C.av β') β' s'.heap vs ds -> wpAny (model G.prog G.w) A (call (.builtin id) (v :: vs)) Q E s') :
  wpAny (model G.prog G.w) A (eval (.Call (.Attribute o nm apos) es [] pos) C.env) Q E s := ZbN O hA I hb hl PySem.F.plainAttrs_str hS hT h1 Znv R hn k
set_option tactic.hygienic true in
theorem ZiR {o e : Expr} {apos pos : Pos} {f g : DE} (hb : Xo o = true) (hl : (apos.endLine == pos.line) = true) (hns : XE e = true) (hf : Den G H k o f) (hg : Den G H k e g) :
  Yu G H k (.Call (.Attribute o "split" apos) [e] [] pos) (D.split f g) := .mk fun C O F σ B d B' h => by
 unfold D.split at h
 split at h
 ·rename_i x B₁ h1
  split at h
  ·rename_i y B₂ h2
   split at h
   ·rename_i hs
    cases h
    obtain ⟨hs, hy⟩ := Bool.and_eq_true_iff.mp hs;have hy := of_decide_eq_true hy;have hsx : x.length <= sizeLine := Nat.le_trans (Nat.le_add_right _ 2) (Yy hs);intro A β s hA I E;refine Zhv O hA I hb hl PySem.F.slot_str_split PySem.F.type_str_split (hf.ok C O F _ _ _ _ h1) (.cons _ _ _ _ _ _ _ hns (hg.ok C O F _ _ _ _ h2) (.nil _)) (by show 1 < 29; omega) fun β' s' v vs a i r rs => ?_;obtain ⟨t, rfl⟩ := Z7 r;refine Zg (Jl rs) fun w z_1 r2 => ?_;subst z_1;obtain ⟨u, rfl⟩ := Z7 r2;have hy' : (y.length == 0) = false := by simpa using hy
    have hlen := split_le x y
    cases c1 : (decide (x.length < y.length) || decide (Builtin.Str.strKind x < Builtin.Str.strKind y))
    ·cases c2 : (Builtin.Str.occurrences x y 0 x.length (x.length + 1)).isEmpty
     ·have e : Txt.split x y = Builtin.Str.partsBetween x (Builtin.Str.occurrences x y 0 x.length (x.length + 1)) y.length := (if_neg (ne_true_of_eq_false c1)).trans (if_neg (ne_true_of_eq_false c2))
      rw [e] at hlen ⊢
      exact call_meets PySem.F.slot_str_split (typeIs_str _ _ _) PySem.F.entry_str_split (PySem.F.args_str_split_2 _ _) (meets_str_split_sep x y t u c1 hy' c2 hsx (Nat.le_trans hlen (Yy hs)))
       ((X6 (vs := (strsFrom s'.toks _).toArray) (n := 0) (tk := _) O i (by rw [List.toList_toArray]; exact ZeF _ _)).from a)
     ·have e : Txt.split x y = [x] := (if_neg (ne_true_of_eq_false c1)).trans (if_pos c2)
      rw [e];exact call_meets PySem.F.slot_str_split (typeIs_str _ _ _) PySem.F.entry_str_split (PySem.F.args_str_split_2 _ _) (meets_str_split_not_found x y t u c1 hy' c2) ((X6 (vs := #[.str x t]) (n := 0) (tk := s'.toks) O i (.cons (.str x t) .nil)).from a)
    ·have e : Txt.split x y = [x] := if_pos c1
     rw [e];exact call_meets PySem.F.slot_str_split (typeIs_str _ _ _) PySem.F.entry_str_split (PySem.F.args_str_split_2 _ _) (meets_str_split_cannot_occur x y t u c1) ((X6 (vs := #[.str x t]) (n := 0) (tk := s'.toks) O i (.cons (.str x t) .nil)).from a)
   ·exact nn h
  ·exact nn h
 ·exact nn h
set_option tactic.hygienic true in
theorem Zi7 {o : Expr} {apos pos : Pos} {f : DE} (hb : Xo o = true) (hl : (apos.endLine == pos.line) = true) (hf : Den G H k o f) : Yu G H k (.Call (.Attribute o "split" apos) [] [] pos) (D.words f) := .mk fun C O F σ B d B' h => by
 unfold D.words at h
 split at h
 ·rename_i x B₁ h1
  split at h
  ·rename_i hs
   cases h
   obtain ⟨hs, hz⟩ := Bool.and_eq_true_iff.mp hs;intro A β s hA I E;refine Zhv O hA I hb hl PySem.F.slot_str_split PySem.F.type_str_split (hf.ok C O F _ _ _ _ h1) (.nil _) (by decide) fun β' s' v vs a i r rs => ?_;obtain ⟨t, rfl⟩ := Z7 r
   cases rs
   refine call_meets PySem.F.slot_str_split (typeIs_str _ _ _) PySem.F.entry_str_split (PySem.F.args_str_split_1 _) (meets_str_split_space x t (Yy hs) (Yy hz)) ?_
   cases hw : Builtin.Str.spaceWords x (x.length + 1) == [(0, x.length)]
   ·have e : Txt.words x = wordsOf x := if_neg (ne_true_of_eq_false hw)
    rw [e];simp only [Bool.false_eq_true, if_false];exact (X6 (vs := (strsFrom s'.toks _).toArray) (n := 0) (tk := _) O i (by rw [List.toList_toArray]; exact ZeF _ _)).from a
   ·have e : Txt.words x = [x] := if_pos hw
    rw [e];simp only [if_true];exact (X6 (vs := #[.str x t]) (n := 0) (tk := s'.toks) O i (.cons (.str x t) .nil)).from a
  ·exact nn h
 ·exact nn h
end
noncomputable def Zmw (sc : List (Str × NameKind)) (ts vs : List Expr) : Option (Option (List Str)) :=
 if !(ts.length == 2 || ts.length == 3) || vs.length != ts.length then some none
 else if vs.any (fun | .Starred .. => true | _ => false) then some none
 else
  let line := (ts.head?.map (·.pos.line)).getD 0
  let names := ts.filterMap fun
   | .Name id pos => if sc.lookup id == some .local && pos.line == line then some id else none
   | _ => none
  if names.length != ts.length || names.eraseDups.length != names.length then some none
  else if vs.all (foldedForSure 8) then some none
  else if vs.all (constantsAlone 8) then none
  else some (some names)
theorem ZgT {α : Type} {c : Prop} [Decidable c] {a r : α} {o : Option α} {T : Sem α} (h : (if c then some a else o) = some r) (k : o = some r -> T = pure r) : (if c then pure a else T) = pure r := by
 by_cases hc : c
 ·rw [if_pos hc] at h ⊢; rw [Option.some.inj h]
 ·rw [if_neg hc] at h ⊢; exact k h
theorem ZsH {α : Type} {x y : Bool} {a r : α} {o : Option α} {T : Sem α} (e : y = false) (h : (if x = true then some a else o) = some r) (k : o = some r -> T = pure r) : (if (x || y) = true then pure a else T) = pure r := by
 rw [e, Bool.or_false];exact ZgT h k
theorem Zsc {α : Type} {c : Prop} [Decidable c] {a r : α} {T : Sem α} (h : (if c then none else some a) = some r) : (if c then T else pure a) = pure r := by
 by_cases hc : c
 ·rw [if_pos hc] at h; exact nn h
 ·rw [if_neg hc] at h ⊢; rw [Option.some.inj h]
theorem Zio {env : Env} {sc : List (Str × NameKind)} {ts vs : List Expr} {k1 k2 : Nat} {p1 p2 : Pos} {r : Option (List Str)} (hk : env.scope.kind = .function) (hn : env.scope.names = sc) (h : Zmw sc ts vs = some r) :
  swappedStores [.Tuple ts k1 p1] (.Tuple vs k2 p2) env = pure r := by
 rw [<- hn] at h;have hb : env.blockKind = .function := by unfold Env.blockKind; rw [hk]; rfl
 unfold swappedStores;exact ZsH (by rw [hb]; rfl) h fun h => ZgT h fun h => ZgT h fun h => ZgT h fun h => Zsc h
noncomputable def swB (sc : List (Str × NameKind)) (e : Expr) (t : Str) (p : Pos) : Bool := match e with
 | .ListComp _ _ s q | .DictComp _ _ _ s q => sc.lookup t == some .local && p.line == q.line && !(s.names.any fun x => x.1 == t && (x.2 == .local || x.2 == .cell))
 | _ => false
theorem ZnY {env : Env} {sc : List (Str × NameKind)} {e : Expr} {t : Str} {p : Pos} {n : Nat} {b : Bool} (hk : env.scope.kind = .function) (hn : env.scope.names = sc) (hs : ∀ a b c d, e ≠ .SetComp a b c d) (h : swB sc e t p = b) :
  swapsWith e (some (.Name t p)) n env = pure b := by
 subst hn;have hb : env.blockKind = .function := by unfold Env.blockKind; rw [hk]; rfl
 cases e with
 | ListComp a g s q =>
  show pure (env.blockKind == .function && env.kindOf t == some .local && p.line == q.line && !(s.names.any _)) = _;rw [hb]; rw [<- h]; rfl
 | DictComp a c g s q =>
  show pure (env.blockKind == .function && env.kindOf t == some .local && p.line == q.line && !(s.names.any _)) = _;rw [hb]; rw [<- h]; rfl
 | SetComp a b c d => exact absurd rfl (hs a b c d)
 | _ => rw [<- h]; rfl
section
variable {G : GC} {C : Cx} {β : List Addr} {B B' B₁ B₂ : Bx} {σ σ' : St} {s s' : Shared} {H H' : Nat} {d d₂ : V} {v : Value} {b : Bool} {ds : List V} {it : Value} {r : Out} {k : K}
set_option tactic.hygienic true in
theorem Zcz {es : List Expr} {n : Nat} {tpos pos : Pos} {e : Expr} {is : List Nat} {f : DE} (hf : Den G H k e f) (hg : Zfq k es is)
  (hw : ∀ env : Env, env.scope.kind = .function -> env.scope.names = k.sc -> swappedStores [.Tuple es n tpos] e env = pure none) : ZaQ G H k (.Assign [.Tuple es n tpos] e pos) (S.assigns is f) := .mk fun C O F σ B r h => by
 refine mE h fun d B₁ h1 h => ?_;refine mT h fun σ₁ h2 h => ?_
 cases h
 refine ZfI O (hf.ok C O F _ _ _ _ h1) ((Zal hg).ok C O F σ B₁ d _ h2) ?_ (hw _ O.kind F.sc) rfl
 cases e <;> rfl
theorem Zb4 {es vs : List Expr} {n k2 : Nat} {tpos p2 pos : Pos} {is : List Nat} {f : DE} (hf : Den G H k (.Tuple vs k2 p2) f) (hg : Zfq k es is) (hw : Zmw k.sc es vs = some none := by kernel_rfl) :
  ZaQ G H k (.Assign [.Tuple es n tpos] (.Tuple vs k2 p2) pos) (S.assigns is f) := Zcz hf hg fun _ hk hn => Zio hk hn hw
theorem ZeY {x : Str} {e : Expr} {px pos : Pos} {f : DE} {i : Nat} (hf : Den G H k e f) (h9 : Nat.beq e.ctorIdx 9 = false := by rfl) (hw : swB k.sc e x px = false := by kernel_rfl) (hx : Zfs k x i = true := by kernel_rfl) :
  ZaQ G H k (.Assign [.Name x px] e pos) (S.a i f) := ZeC hf (fun _ hk hn => ZnY hk hn (fun _ _ _ _ e => by rw [e] at h9; cases h9) hw) hx
theorem ZkA (O : Zv G C) (F : Xi k C) {es : List Expr} {is : List Nat} (hg : Zfq k es is) : ∃ names : List Str, (∀ x ∈ names, x ∈ k.asg) /\ names.map (k.names.idxOf ·) = is /\ (∀ x ∈ names, Zen (k.kind x) = true) /\ es.filterMap (fun | .Name id _ => some id | _ => none) = names := by
 induction hg with
 | nil => exact ⟨[], by simp, rfl, by simp, rfl⟩
 | @cons x pos es i is _ hx ih =>
  refine Xx (Zcs hx) fun hxa hk hi => ?_;refine Zbf ih fun ns h1 h2 h3 h4 => ?_;clear ih;refine ⟨x :: ns, ?_, by simp [hi, h2], ?_, by simp [h4]⟩
  ·intro y hy
   rcases List.mem_cons.mp hy with rfl | hy
   ·exact hxa
   ·exact h1 y hy
  ·intro y hy
   rcases List.mem_cons.mp hy with rfl | hy
   ·exact hk
   ·exact h3 y hy
theorem Zeg (O : Zv G C) (F : Xi k C) : ∀ (names : List Str) (ds : List V) (σ σ' : St), (∀ x ∈ names, x ∈ k.asg) -> (∀ x ∈ names, Zen (k.kind x) = true) -> S.sets (names.map (k.names.idxOf ·)) ds σ = some σ' -> ZcA G H C B σ (names.map fun n => bindName C.env n) ds σ'
 | [], [], σ, σ', _, _, h => by cases h; exact .nil _
 | [], _ :: _, σ, σ', _, _, h => by cases h
 | _ :: _, [], σ, σ', _, _, h => by cases h
 | x :: ns, d :: ds, σ, σ', h1, h2, h => by
  simp only [List.map_cons, S.sets] at h;have := Zqc (H := H) (B := B) (σ := σ) (d := d) O (by rw [F.asg]; exact h1 x (.head _)) (by rw [F.kind]; exact Jq (h2 x (.head _)));rw [F.names] at this;exact .cons _ _ _ _ _ _ _ this (Zeg O F ns ds _ σ' (fun y hy => h1 y (.tail _ hy)) (fun y hy => h2 y (.tail _ hy)) h)
set_option tactic.hygienic true in
theorem Jf {es vs : List Expr} {n k2 : Nat} {tpos p2 pos : Pos} {is : List Nat} {f : DE} {names : List Str} (hf : Den G H k (.Tuple vs k2 p2) f) (hg : Zfq k es is) (hnames : es.filterMap (fun | .Name id _ => some id | _ => none) = names)
  (hw : Zmw k.sc es vs = some (some names) := by kernel_rfl) : ZaQ G H k (.Assign [.Tuple es n tpos] (.Tuple vs k2 p2) pos) (S.swapped is f) := .mk fun C O F σ B r h => by
 refine mE h fun d B₁ h1 h => ?_;refine mX h fun ds h2 h => ?_
 split at h
 ·rename_i hl
  refine mT h fun σ₁ h3 h => ?_
  cases h
  refine Zbf (ZkA O F hg) fun ns g1 g2 g3 g4 => ?_;rw [hnames] at g4;subst g4;refine Zis (names := names) O (hf.ok C O F _ _ _ _ h1) h2 (by rw [hl, <- g2, List.length_map]) ?_ rfl (Zio O.kind F.sc hw);refine Zeg O F names.reverse ds.reverse σ σ₁ (fun x hx => g1 x (List.mem_reverse.mp hx)) (fun x hx => g3 x (List.mem_reverse.mp hx)) ?_;rw [List.map_reverse, g2]; exact h3
 ·exact nn h
set_option tactic.hygienic true in
theorem ZaI {elt : Expr} {g : Comprehension} {rest : List Comprehension} {f : DE} {S : Xu} {Ss : List Xu} {scope : Scope} {pos px spos : Pos} {x : Str} {i : Nat} (hG : Zlc G H k scope g rest S Ss) (hf : Den G H (k.child scope) elt f)
  (hx : Zfs k x i = true := by kernel_rfl) (hsw : swB k.sc (.ListComp elt (g :: rest) scope pos) x px = true := by kernel_rfl) :
  ZaQ G H k (.Assign [.Name x px] (.ListComp elt (g :: rest) scope pos) spos) (Mine.S.a i (Zy (Yl scope.names).length (emL f) S Ss (.list []))) := .mk fun C O F σ B r h => by
 refine Xx (Zcs hx) fun hxa hk hi => ?_;refine mE h fun d B₁ h1 h => ?_
 cases h
 have hs := hG.g.sync;obtain ⟨t, it, fs, a⟩ := g;simp only at hs;subst hs;have := Zpz (d₂ := d) (B₂ := B₁) (px := px) (spos := spos) Zkf (ZhQ hf) hG ZsO ZjW O F h1 (by rw [F.asg]; exact hxa) (by rw [F.kind]; exact Jq hk) (ZnY O.kind F.sc (fun _ _ _ _ e => by cases e) hsw) (fun use => rfl) fun C β σ s v s' y _ => y.tree;rw [F.names, hi] at this;exact this
set_option tactic.hygienic true in
theorem ZbD {es : List Expr} {ts : List DT} (h : ZeA G H k es ts) : ∀ C, Zv G C -> Xi k C -> ∀ σ B b B', T.all ts σ B = some (b, B') -> EvB G H C σ B (ZeJ es C.env) b B' := fun C O F σ => by
 have off : ∀ (es : List Expr) (env : Env), (forIn es false fun c r => if r = true then do let ok <- PySem.isTrue c env (eval c env); pure (ForInStep.yield ok) else pure (ForInStep.yield r) : Sem Bool) = pure false := by
  intro es env
  induction es with
  | nil => rfl
  | cons e es ih => rw [List.forIn_cons]; simp only [Bool.false_eq_true, if_false, pure_bind]; exact ih
 induction h with
 | nil => intro B b B' h A β s hA I E; cases h; exact wpAny_pure ⟨β, .refl, I, rfl⟩
 | cons h1 _ ih =>
  intro B b B' h A β s hA I E;simp only [T.all] at h;unfold ZeJ;rw [List.forIn_cons];simp only [if_true]
  split at h
  ·exact nn h
  ·rename_i B₁ hc
   refine wpAny_bind (wpAny_bind ((h1.ok C O F _ _ _ _ hc A β s hA I).t3 fun c s'1 β1 a'1 i'1 e => ?_));subst e;refine wpAny_pure ?_;exact (ih _ _ _ h A β1 s'1 hA i'1).to fun c' s'2 p => p.from a'1
  ·rename_i B₁ hc
   cases h
   refine wpAny_bind (wpAny_bind ((h1.ok C O F _ _ _ _ hc A β s hA I).t3 fun c s'1 β1 a'1 i'1 e => ?_));subst e;refine wpAny_pure ?_;show wpAny _ _ (forIn _ false _) _ _ _;rw [off];exact wpAny_pure ⟨β1, a'1, i'1, rfl⟩
structure Yo (G : GC) (H : Nat) (x : Str) (F : VF) : Prop where
 at' : ∃ H' g a params body scope, H' <= H /\ Zte G g x params body scope a /\ Zp3 G H' a F
theorem Yh {x : Str} {es : List Expr} {fs : List DE} {p pos : Pos} {F : VF} (hF : Yo G H x F) (h : JT G H k es fs) (hg : ZjD k x = true := by kernel_rfl) (hne : es.isEmpty = false := by rfl) :
  Den G H k (.Call (.Name x p) es [] pos) (D.c F fs) :=
 let ⟨_, _, _, _, _, _, hle, hat, hF⟩ := hF.at'
 ZlS hF hat hle (Zcu hg).1 (Zcu hg).2 h fun z => by rw [z] at hne; cases hne
structure ZbV (G : GC) : Prop where
 len : Yz G "len" (.builtin "len")
 sum : Yz G "sum" (.builtin "sum")
 min : Yz G "min" (.builtin "min")
 range : Yz G "range" (.type "range")
 hex : Yz G "hex" (.builtin "hex")
 int : Yz G "int" (.type "int")
 repr : Yz G "repr" (.builtin "repr")
 sorted : Yz G "sorted" (.builtin "sorted")
 dict : Yz G "dict" (.type "dict")
 list : Yz G "list" (.type "list")
 set : Yz G "set" (.type "set")
 tuple : Yz G "tuple" (.type "tuple")
 zip : Yz G "zip" (.type "zip")
 isinstance : Yz G "isinstance" (.builtin "isinstance")
 marker : ∃ t, Yz G "ELLIPSIS_MARKER" (.str "..." t)
 flags : ZgV G
section
variable {G : GC} {H : Nat} {k : K}
theorem ZeU {pos : Pos} (TB : ZbV G) (hk : k.kind "ELLIPSIS_MARKER" = some .globalImplicit) : Den G H k (.Name "ELLIPSIS_MARKER" pos) (D.k (.str "...")) :=
 let ⟨_, ht⟩ := TB.marker
 Zjb hk ht (by rfl)
end
end
theorem Zeb {G : GC} {H : Nat} {k : K} {g : Comprehension} {S : Xu} (h1 : g.is_async = 0) (h2 : ZdZ S.tp g.target = true) (h3 : ZpT G H k g.target S.tgt) (h4 : Zsx G H k g.ifs S.ifs) : Zdt G H k g S :=
 ⟨h1, h2, h3.ok, h4⟩
theorem Ye {G : GC} {H : Nat} {k : K} {g : Comprehension} {x : Str} {p : Pos} {i : Nat} {it : DI} (h1 : g.is_async = 0 := by rfl) (h2 : g.target = .Name x p := by rfl) (h4 : g.ifs = [] := by rfl) (hx : Zfs k x i = true := by kernel_rfl) : Zdt G H k g { it := it, tp := false, tgt := fun d σ => some (σ.set i (some d)), ifs := T.all [] } :=
 ⟨h1, by rw [h2]; rfl, by rw [h2]; exact (Yc hx).ok, by rw [h4]; exact ZbD .nil⟩
theorem Zs3 {G : GC} {H : Nat} {k : K} {g : Comprehension} {S : Xu} (h1 : ∀ env x, foldedSetIterable g.iter env x = pure x) (h2 : Zjk G H k g.iter S.tp S.it) : ZqD G H k g S :=
 ⟨h1, h2.ok⟩
mutual
noncomputable def ZjA : V -> Option PyData
 | .none => some .none
 | .bool b => some (.bool b)
 | .int i => some (.int i)
 | .str x => some (.str x)
 | .tup xs => (Zdv xs).map .tuple
 | .list xs => (Zdv xs).map .list
 | _ => none
noncomputable def Zdv : List V -> Option (List PyData)
 | [] => some []
 | x :: xs => match ZjA x, Zdv xs with
  | some y, some ys => some (y :: ys)
  | _, _ => none
end
noncomputable def ZhE (d : V) : Option Str := match ZjA d with
 | some p => if p.showable && decide (p.depth <= 400) && Zu p.shown.length then some p.shown else none
 | none => none
noncomputable def Zi1 : V -> Bool
 | .tup _ | .list _ => true
 | _ => false
noncomputable def Jg : VF := Y3 fun B ds => match ds with
 | [d] => if Zi1 d then (ZhE d).map .str else none
 | _ => none
section
variable {G : GC} {C : Cx} {β : List Addr} {B B' : Bx} {σ : St} {s s' : Shared} {H : Nat} {d : V} {v : Value} {h : Heap} {av : Addr -> Prop}
theorem Rep.reads (r : Rep G av β h v d) : ∀ p, ZjA d = some p -> p.hasDict = false /\ ∃ as, Reads h v p as :=
 Rep.rec (motive_1 := fun v d _ => ∀ p, ZjA d = some p -> p.hasDict = false /\ ∃ as, Reads h v p as) (motive_2 := fun vs ds _ => ∀ ps, Zdv ds = some ps -> PyData.hasDictAll ps = false /\ ∃ as, ReadsAll h vs ps as)
  (fun p e => Option.some.inj e ▸ ⟨by simp only [PyData.hasDict], _, .none⟩) (fun b p e => Option.some.inj e ▸ ⟨by simp only [PyData.hasDict], _, .bool b⟩) (fun i t p e => Option.some.inj e ▸ ⟨by simp only [PyData.hasDict], _, .int i t⟩)
  (fun x t p e => Option.some.inj e ▸ ⟨by simp only [PyData.hasDict], _, .str x t⟩)
  (fun q na r ih p e => Zp e fun ys hy z => z ▸ Zg (A := List Addr) (P1 := fun _ => PyData.hasDictAll ys = false) (let ⟨h1, as, h2⟩ := ih ys hy; ⟨as, h1, h2⟩) fun as h1 h2 => ⟨by simp only [PyData.hasDict, h1], _, .tuple q rfl rfl h2⟩)
  (fun q na r ih p e => Zp e fun ys hy z => z ▸ Zg (A := List Addr) (P1 := fun _ => PyData.hasDictAll ys = false) (let ⟨h1, as, h2⟩ := ih ys hy; ⟨as, h1, h2⟩) fun as h1 h2 => ⟨by simp only [PyData.hasDict, h1], _, .list q rfl rfl h2⟩)
  (fun _ _ _ _ _ _ p e => nn e) (fun _ p e => nn e) (fun _ _ p e => nn e) (fun _ _ _ _ _ _ _ p e => nn e)
  (fun ps e => Option.some.inj e ▸ ⟨by simp only [PyData.hasDictAll], _, .nil⟩)
  (fun {v d vs ds} r rs ih ihs ps e => by
   unfold Zdv at e
   split at e
   ·rename_i e1 e2
    rw [<- Option.some.inj e];obtain ⟨h1, as, h2⟩ := ih _ e1;obtain ⟨h3, bs, h4⟩ := ihs _ e2;exact ⟨by simp only [PyData.hasDictAll, h1, h3, Bool.or_self], _, .cons h2 h4⟩
   ·exact nn e) r
theorem Zqp (r : Rep G av β h v d) (hq : Zi1 d = true) : ∃ a, v = .ref a := by
 have S := r.sh
 cases d with
 | tup xs => obtain ⟨a, _, _, e, _⟩ := S; exact ⟨a, e⟩
 | list xs => obtain ⟨a, _, _, e, _⟩ := S; exact ⟨a, e⟩
 | _ => cases hq
set_option tactic.hygienic true in
theorem ZpV {x : Str} (hq : Zi1 d = true) (hd : ZhE d = some x) : OpN G H B B (fun vs => call (.builtin "repr") vs) [d] (.str x) := fun C σ A β s vs O hA I rr E => by
 refine Zg (Jl rr) fun v z_1 r => ?_;subst z_1;unfold ZhE at hd
 split at hd
 ·rename_i p hp
  split at hd
  ·rename_i hc
   cases hd
   simp only [Bool.and_eq_true, decide_eq_true_eq] at hc;obtain ⟨a, rfl⟩ := Zqp r hq;obtain ⟨hn, as, hr⟩ := Rep.reads r _ hp;refine (Ok.ext (P := fun v s' => ∃ t, v = .str p.shown t) fun E => repr_of_reads' hr hc.1.1 (PyData.noDict_hsm hn) hA.guards (by have h1 := hA.units; have h2 := hc.1.2; show _ < 9900; omega) (fun _ _ e => e) (fun h' u tk hk => ⟨⟨hk, rfl, rfl⟩, u, rfl⟩) (Yy hc.2)).to fun v s' ⟨x, t, hv⟩ => ?_;subst hv;exact Zs.ofExt I x (.str _ _)
  ·exact nn hd
 ·exact nn hd
theorem ZaM : ∀ B ds d B', Jg B ds = some (d, B') -> OpN G H B B' (fun vs => call (.builtin "repr") vs) ds d := by
 intro B ds d B' h;replace h := Yt h;obtain ⟨h, rfl⟩ := h
 split at h
 ·split at h
  ·rename_i hq
   refine Zp h fun x hx z_2 => ?_;subst z_2;exact ZpV hq hx
  ·exact nn h
 ·exact nn h
end
noncomputable def Zbk (ns : List Int) : Nat := (firstMet (fun i => ns.getD i 0) ns.length).length
noncomputable def D.lenSet (f : DE) : DE := fun σ B => match f σ B with
 | some (d, B') => match ZS B' d with
  | some xs => match YR xs with
   | some ns => if ns.length < 1000 then some (.int (Zbk ns), B') else none
   | none => none
  | none => none
 | none => none
section
variable {G : GC} {C : Cx} {β : List Addr} {B B' : Bx} {σ : St} {s s' : Shared} {H : Nat} {d : V} {v : Value} {h : Heap} {av : Addr -> Prop} {k : K}
theorem Zg1 : ∀ {vs : List Value} {ns : List Int}, Zb G av β h vs (ns.map V.int) -> IntsAre vs ns := fun {vs ns} r => by
 refine Zg (Zby r) fun ps z_1 z_2 => ?_;subst z_1;subst z_2
 induction ps with
 | nil => exact .nil
 | cons p ps ih =>
  cases r with
  | cons r rs => exact .cons _ _ (ih rs)
set_option tactic.hygienic true in
theorem Zjv {e : Expr} {f : DE} {p'1 p'2 p'3 pos : Pos} (hkl : k.kind "len" = some .globalImplicit) (hks : k.kind "set" = some .globalImplicit) (htl : Yz G "len" (.builtin "len")) (hts : Yz G "set" (.type "set"))
  (hn : XE e = true) (hf : Den G H k e f) : Den G H k (.Call (.Name "len" p'1) [.Call (.Name "set" p'2) [e] [] p'3] [] pos) (D.lenSet f) := .mk fun C O F σ B d B' hh => by
 unfold D.lenSet at hh
 split at hh
 ·rename_i d₁ B₁ h1
  split at hh
  ·rename_i xs hx
   split at hh
   ·rename_i ns hi
    split at hh
    ·rename_i hlen
     cases hh
     intro A β s hA I
     have main : Ok G.prog G.w A (eval (.Call (.Name "len" p'1) [.Call (.Name "set" p'2) [e] [] p'3] [] pos) C.env) s
       (fun v s' => ∃ β1 s'1, Adv G C.mu β s β1 s'1 /\ Inv G C β1 B' σ s'1 /\ Ext s'1 s' /\ ∃ t, v = .int (Zbk ns) t) := by
      intro E;refine wpAny_Call_NameR (X9 O I (by rw [F.kind]; exact hkl) htl (by rfl) (Calls.callWith_builtin (by rfl) ?_));refine evalArgs_plain (spliced_cons ?_);refine wpAny_Call_NameR (X9 O I (by rw [F.kind]; exact hks) hts (by rfl) (PySem.callWith_type (by rw [ZA hn, ZW]; rfl) ?_));rw [ZA hn, ZW];refine evalArgs_plain (spliced_cons ((hf.ok C O F _ _ _ _ h1 A β s hA I).t3 fun v s'1 β1 a'1 i'1 r'1 => spliced_nil ?_));refine YD (Ys i'1 r'1 hx) fun a vs n z_3 e1 q1 => ?_;subst z_3;rw [Xh hi] at q1;have hsz : vs.size = ns.length := by rw [<- Array.length_toList, q1.length]; simp
      refine (?_ : wpAny _ A (call (.type "set") [.ref a]) _ E s'1);refine call_set_list hA.handled (Rep.isList e1) (Zg1 q1) (by rw [hsz]; show _ < 4096; omega) fun h' tk hset hk => ?_;refine ZsX hset fun o es ep t ho hex hd _ _ hb hfits hn' => ?_;clear hset;refine spliced_nil ?_;refine (?_ : wpAny _ A (call (.builtin "len") [.ref s'1.heap.objs.size]) _ E _);refine call_len_set ho hex hd hfits (by have : es.size < 4096 := hb; omega) ?_;exact ⟨β1, s'1, a'1, i'1, ⟨fun b o e => hk b o (Heap.lt_size e) e, Nat.le_of_lt (Heap.lt_size ho), rfl, rfl⟩, _, by rw [hn', hsz]; rfl⟩
     refine fun E => main.to fun v s' ⟨β1, s'1, a'1, i'1, x, t, hv⟩ => ?_;subst hv;exact (Zs.ofExt i'1 x (.int _ _)).from a'1
    ·exact nn hh
   ·exact nn hh
  ·exact nn hh
 ·exact nn hh
end
noncomputable def Zba (ks : List Str) (ds : List V) : List V := (ks.zip ds).map fun p => .tup [.str p.1, p.2]
noncomputable def D.listItems (f : DE) : DE := fun σ B => match f σ B with
 | some (.dict ks ds, B') => if Zu ks.length then some (.list (Zba ks ds), B') else none
 | _ => none
section
variable {G : GC} {C : Cx} {β : List Addr} {B B' B₁ : Bx} {σ : St} {s s' : Shared} {H : Nat} {d : V} {ds : List V} {v : Value} {h h' : Heap} {av : Addr -> Prop} {k : K} {tk : Nat}
theorem Zf1 {vs : List Value} {ds : List V} (hl : vs.length = ds.length) (hp : ∀ (i : Nat) v d, vs[i]? = some v -> ds[i]? = some d -> Rep G av β h v d) : Zb G av β h vs ds := by
 induction vs generalizing ds with
 | nil => cases ds with
  | nil => exact .nil
  | cons => simp at hl
 | cons v vs ih => cases ds with
  | nil => simp at hl
  | cons d ds => exact .cons (hp 0 v d rfl rfl) (ih (by simpa using hl) fun i v d h1 h2 => hp (i + 1) v d (by simpa using h1) (by simpa using h2))
theorem Zpv {k : Str} {key : Value} (hk : (PySem.strKind G.prog G.w).is k key = true) : ∃ t, key = .str k t := by
 have : Value.isStrOf k key = true := hk
 cases key <;> simp [Value.isStrOf] at this
 subst this; exact ⟨_, rfl⟩
theorem ZfS {as : List Addr} {kvs : List (Str × Value)} {lo : Addr} (g : PySem.W.KdxG (PySem.strKind G.prog G.w) kvs lo h as) (hl : as.length = kvs.length) (hn : ∀ a ∈ as, ¬ av a) (r : Zb G av β h (kvs.map (·.2)) ds) :
  Zb G av β h (as.map Value.ref) (Zba (kvs.map (·.1)) ds) := by
 have hlen := r.length;rw [List.length_map] at hlen;refine Zf1 (by simp [Zba, hl, hlen]) fun i v d h1 h2 => ?_;rw [List.getElem?_map] at h1;refine Zp h1 fun a ha z_2 => ?_;subst z_2;refine YD (g.pairs i a ha) fun key kx x e1 e2 e3 => ?_;obtain ⟨t, rfl⟩ := Zpv e2;unfold Zba at h2;rw [List.getElem?_map] at h2;refine Zp h2 fun p hp z_2 => ?_;subst z_2;rw [List.getElem?_zip_eq_some, List.getElem?_map, e1] at hp;obtain ⟨hp1, hp2⟩ := hp;have hp1 : kx = p.1 := Option.some.inj hp1;have hr := ZcN r i x p.2 (by rw [List.getElem?_map, e1]; rfl) hp2;exact .tup (vs := #[.str kx t, x]) (n := 0) e3 (hn a (List.mem_of_getElem? ha)) (.cons (hp1 ▸ .str _ _) (.cons hr .nil))
set_option tactic.hygienic true in
theorem ZaE {o : Expr} {f : DE} {p'1 apos p'3 pos : Pos} (hkl : k.kind "list" = some .globalImplicit) (htl : Yz G "list" (.type "list")) (hb : Xo o = true) (hl : (apos.endLine == p'3.line) = true)
  (hf : Den G H k o f) : Den G H k (.Call (.Name "list" p'1) [.Call (.Attribute o "items" apos) [] [] p'3] [] pos) (D.listItems f) := .mk fun C O F σ B d B' hh => by
 unfold D.listItems at hh
 split at hh
 ·rename_i ks ds B₁ h1
  split at hh
  ·rename_i hsh
   cases hh
   intro A β s hA I
   have main : Ok G.prog G.w A (eval (.Call (.Name "list" p'1) [.Call (.Attribute o "items" apos) [] [] p'3] [] pos) C.env) s
     (fun v s' => ∃ β1 s'1 a, Adv G C.mu β s β1 s'1 /\ Inv G C β1 B' σ s'1 /\ Ext s'1 s' /\ v = .ref a /\ s'1.heap.objs.size <= a /\ ∃ vs n, s'.heap.get? a = some (Z9 vs n) /\ Zb G (avB C.av β1) β1 s'.heap vs.toList (Zba ks ds)) := by
    intro E;refine wpAny_Call_NameR (X9 O I (by rw [F.kind]; exact hkl) htl (by rfl) (PySem.callWith_type (by rfl) ?_));refine evalArgs_plain (spliced_cons ?_);refine ZbN O hA I hb hl PySem.F.plainAttrs_dict PySem.F.slot_dict_items PySem.F.type_dict_items (hf.ok C O F _ _ _ _ h1) (ZdO (by rfl)) (.nil B') (by decide) fun β1 s'1 v vs a'1 i'1 r'1 rs => ?_;rw [rs.sh.1 rfl];refine Zak r'1.sh fun a kvs ev x hs n e r => ?_;rw [ev];clear r'1 rs ev;subst e;obtain ⟨o', ho'⟩ := Xc x;refine call_meetsIn PySem.F.slot_dict_items x.typeIs PySem.F.entry_dict_items (PySem.F.args_dict_items_1 _) (meets_dict_items (PySem.strKind G.prog G.w) a hs) ⟨⟨kvs, x⟩, ?_⟩;refine spliced_nil ?_;refine (?_ : wpAny _ A (call (.type "list") [.ref s'1.heap.objs.size]) _ E _);have x1 := Ext.push s'1 { cls := .type "dict_items", data := .fields #[.ref a] };obtain ⟨ep, hd⟩ := (x.push { cls := .type "dict_items", data := .fields #[.ref a] }).dictAt;refine PySem.W.kdx_call (knd := PySem.strKind G.prog G.w) (d := a) (kvs := kvs) (ep := ep) hA.handled ⟨_, Heap.get?_push_size _ rfl, rfl, rfl⟩ hd (by simpa using Yy hsh) fun h' tk acc c as hk hS hlen hG hacc => ?_;have i2 := i'1.ext x1;have hsz : (s'1.heap.push { cls := .type "dict_items", data := .fields #[.ref a] }).objs.size = s'1.heap.objs.size + 1 := by rw [Heap.size_push]
    have hk2 : ∀ b o, s'1.heap.get? b = some o -> h'.get? b = some o := fun b o e => hk b o (x1.keep b o e);refine ⟨β1, s'1, _, a'1, i'1, ⟨hk2, ?_, rfl, rfl⟩, rfl, ?_, acc, c, hS, ?_⟩
    ·have := Heap.lt_size hS
     show s'1.heap.objs.size <= h'.objs.size;rw [hsz] at this; exact Nat.le_of_lt (Nat.lt_of_succ_lt this)
    ·show s'1.heap.objs.size <= (s'1.heap.push _).objs.size
     rw [hsz]; omega
    ·rw [hacc]
     refine ZfS hG hlen (fun b hb => i'1.fresh ?_) (Zb.mono (fun b o e n => ⟨hk2 b o e, n⟩) (fun _ _ z => z) r);have := hG.above b hb;rw [hsz] at this;exact Nat.le_of_lt (Nat.lt_of_succ_lt this)
   refine fun E => main.to fun v s' hz => ?_;refine ZmN hz fun β1 s'1 a a'1 i'1 x hv ha hz => ?_;refine YA hz fun vs n e r => ?_;subst hv;exact (Zs.ofExt i'1 x (.list e (i'1.fresh ha) r)).from a'1
  ·exact nn hh
 ·exact nn hh
end
structure Zfi (G : GC) (K : PySem.W.Frag) (fI fC : Addr) : Prop where
 mem : K.In G.H0
 apart : ∀ a o, K.lookup a = some o -> ¬ G.Tb a
 makes : PySem.W.makesIn K G.tcC = true
 init : PySem.W.findIn K (.ref G.tcC) "__init__" = some (some (.ref fI))
 initT : PySem.W.typeIn K (.ref fI) = some (.type "function")
 ga : PySem.W.findIn K (.ref G.tcC) "__getattribute__" = some (some (.builtin "object.__getattribute__"))
 gat : PySem.W.findIn K (.ref G.tcC) "__getattr__" = some none
 sa : PySem.W.findIn K (.ref G.tcC) "__setattr__" = some (some (.builtin "object.__setattr__"))
 plain : PySem.W.plainOver K G.tcC = true
 taker : PySem.W.takerIn K G.tcC "comp_select_list" = some none
 hasD : PySem.W.hasDictIn K G.tcC = true
 cmp : PySem.W.findIn K (.ref G.tcC) "compare" = some (some (.ref fC))
 cmpT : PySem.W.typeIn K (.ref fC) = some (.type "function")
 sel : PySem.W.findIn K (.ref G.tcC) "comp_select_list" = some none
section
variable {G : GC} {C : Cx} {β : List Addr} {B B' B₁ : Bx} {σ : St} {s s' : Shared} {H : Nat} {d : V} {v : Value} {h : Heap} {av : Addr -> Prop} {k : K} {fI fC : Addr} {K : PySem.W.Frag}
theorem Zfi.mem_at (T : Zfi G K fI fC) (W : Wd G s) : K.In s.heap := fun a o e => W.keep a o (T.mem a o e) (T.apart a o e)
theorem ZjP (r : Rep G av β h v d) {c : V} (hd : d = .tc c) : ∃ a D od x, v = .ref a /\ h.get? a = some ⟨.ref G.tcC, some D, .plain, #[]⟩ /\ h.get? D = some od /\ ZiS od x /\ Rep G av β h x c := by
 rw [hd] at r;exact ZmI r.sh fun a D od x e1 e2 _ _ e3 e4 e5 => ⟨a, D, od, x, e1, e2, e3, e4, e5⟩
theorem Zji (r : Rep G av β h v d) : PySem.W.handedIn v = true := by
 have S := r.sh
 cases d with
 | none => rw [show v = _ from S]; rfl
 | bool _ => rw [show v = _ from S]; rfl
 | int _ => obtain ⟨_, e⟩ := S; rw [e]; rfl
 | str _ => obtain ⟨_, e⟩ := S; rw [e]; rfl
 | tup _ => exact Xl S fun _ _ _ e _ _ _ => e ▸ rfl
 | list _ => exact Xl S fun _ _ _ e _ _ _ => e ▸ rfl
 | dict _ _ => exact Zak S fun _ _ e _ _ _ _ _ => e ▸ rfl
 | box _ => exact Zg S fun _ e _ => e ▸ rfl
 | range _ _ => exact ZfQ S fun _ _ _ _ e _ _ => e ▸ rfl
 | tc _ => exact ZmI S fun _ _ _ _ e _ _ _ _ _ _ => e ▸ rfl
theorem ZjY {a D : Addr} {od : Obj} (e : h.get? a = some ⟨.ref G.tcC, some D, .plain, #[]⟩) (eD : h.get? D = some od) : PySem.W.InstAt h a ⟨.ref G.tcC, some D, .plain, #[]⟩ G.tcC (some od) := ⟨e, rfl, rfl, eD⟩
noncomputable def D.tcGet (f : DE) : DE := fun σ B => match f σ B with
 | some (.tc c, B') => some (c, B')
 | _ => none
set_option tactic.hygienic true in
theorem ZlO {n : Str} {np : Pos} {f : DE} {pos : Pos} (T : Zfi G K fI fC) (hf : Den G H k (.Name n np) f) : Den G H k (.Attribute (.Name n np) "comp_select_list" pos) (D.tcGet f) := .mk fun C O F σ B d B' hh => by
 unfold D.tcGet at hh
 split at hh
 ·rename_i c B₁ h1
  cases hh
  intro A β s hA I E;refine PyProof.Rows.Attribute_name ((hf.ok C O F _ _ _ _ h1 A β s hA I).t3 fun v s'1 β1 a'1 i'1 r'1 => ?_);refine Zkl (ZjP r'1 rfl) fun a D od x z_4 e eD hm r => ?_;subst z_4;refine PySem.W.get_value (T.mem_at i'1.wd) (ZjY e eD) T.ga (PySem.W.findObj_own T.hasD T.sel (by rfl) hm.1) (Zji r) ?_;exact (Zs.ofExt (s' := { s'1 with toks := s'1.toks + 1 }) i'1 (Ext.toks _ _) r).from a'1
 ·exact nn hh
section
variable {prog : Program} {w : World} {A : Around} {E : Value -> Shared -> Prop} {env : Env}
theorem Zi3 {o : Expr} {name : Str} {apos pos : Pos} {args : List Expr} {Q : Value -> Shared -> Prop}
  (hbase : attributeBase o name env (eval o env) = eval o env)
  (hfew : ((backTo pos (starEach args env)).all (fun x => !x.1) && (backToKw pos (keywordEach [] env)).all (fun x => x.1.isSome)
   && decide (args.length + ([] : List Keyword).length + (if ([] : List Keyword).isEmpty then 0 else 1) < 30)) = true)
  (hline : (apos.endLine == pos.line) = true)
  (h : wpAny (model prog w) A (eval o env) (fun ov s'1 => ∃ f, (∀ pl (Q' : Value × List Value -> Shared -> Prop), Q' (.ref f, [ov]) s'1 -> wpAny (model prog w) A (getMethod ov name pl) Q' E s'1) /\ wpAny (model prog w) A (callWith pos (.ref f) [ov] (backTo pos (starEach args env)) []) Q E s'1) E s) :
  wpAny (model prog w) A (eval (.Call (.Attribute o name apos) args [] pos) env) Q E s := by
 rw [arm_eval_Call, hbase];refine wpAny_bind (wpAny_mono h (fun ov s'1 h₁ => ?_) fun _ _ e => e);refine Zg h₁ fun f hg hc => ?_;clear h₁;refine wpAny_bind (wpAny_standAt ?_);have hform : methodCallForm (args.length + ([] : List Keyword).length) (backTo pos (starEach args env)) (backToKw pos (keywordEach [] env)) = true := hfew;have hpos : methodCallPos true o env apos pos = pure pos := by unfold methodCallPos; simp [hline]
 unfold methodCall;rw [hform];refine wpAny_bind (wpAny_holding (hg _ _ ?_));exact wpAny_bind (wpAny_of_eq hpos hc)
end
noncomputable def D.tcCmp (F : VF) (f : DE) (fs : List DE) : DE := fun σ B => match f σ B with
 | some (.tc c, B₁) => match D.row fs σ B₁ with
  | none => none
  | some (as, B₂) => F B₂ (.tc c :: as)
 | _ => none
structure Zke (G : GC) (H : Nat) (fC : Addr) (F : VF) : Prop where
 is : ∃ H' g name qual params body scope, H' <= H /\ ZaB G g name qual params body scope fC /\ Zp3 G H' fC F
set_option tactic.hygienic true in
theorem ZfX {o : Expr} {apos pos : Pos} {es : List Expr} {fs : List DE} {f : DE} {F : VF} (T : Zfi G K fI fC) (hC : Zke G H fC F) (hb : Xo o = true) (hl : (apos.endLine == pos.line) = true)
  (hf : Den G H k o f) (h : JT G H k es fs) (hne : es ≠ []) (hn : es.length < 29) : Den G H k (.Call (.Attribute o "compare" apos) es [] pos) (D.tcCmp F f fs) := .mk fun C O F' σ B d B' hr => by
 unfold D.tcCmp at hr
 split at hr
 ·rename_i c B₁ h1
  refine mR hr fun as B₂ has hr => ?_;intro A β s hA I E;have R := h.row O F' has;refine Zi3 (ZgF hb) ?_ hl ?_
  ·rw [R.all]
   show (true && true && decide (es.length + 0 + 0 < 30)) = true
   simpa using (by omega : es.length < 30)
  ·refine (hf.ok C O F' _ _ _ _ h1 A β s hA I).t3 fun v s'1 β1 a'1 i'1 r'1 => ?_
   refine Zkl (ZjP r'1 rfl) fun a D od x z_4 e eD hm r => ?_;subst z_4;refine ⟨fC, fun pl Q' hq => PySem.W.method_fn (T.mem_at i'1.wd) (ZjY e eD) T.ga T.gat T.cmp T.cmpT (by show (PySem.W.lookIn "compare" od).map (·.isSome) = some false; rw [hm.2]; rfl) hq, ?_⟩;obtain ⟨H', g, name, qual, params, body, scope, hle, ⟨oF, pm, cd, doc, cc, ho, hTb, hdat, _⟩, hF⟩ := hC.is;refine Calls.callWith_function (o := oF) (fd := methDef name qual params body scope pm cd doc) ?_
   cases R with
   | nil => exact absurd rfl hne
   | cons _ B1 _ e1 es' d' ds' hn' h1' hr' =>
    have := (Row.cons B₁ B1 B₂ e1 es' d' ds' hn' h1' hr').evs O (pos := pos) A β1 s'1 hA i'1;rw [ZA hn', ZW] at this ⊢;exact evalArgs_plain (this.t3 fun vs s'2 β2 a'2 i'2 r'2 => ⟨⟨i'2.wd.keep _ _ ho hTb, hdat⟩, (hF _ _ _ _ hr C σ (A) β2 s'2 (.ref a :: vs) O (hA.le hle) i'2 (.cons (a'2.e O r'1) r'2)).to fun v s'3 q => (q.from a'2).from a'1⟩)
 ·exact nn hr
end
structure Zqv (G : GC) (fI : Addr) : Prop where
 is : ∃ (g : Bool) (name qual : Str) (params : Arguments) (scope : Scope) (p1 p2 p3 p4 : Pos), ZaB G g name qual params [.Assign [.Attribute (.Name "self" p1) "comp_select_list" p2] (.Name "comp_select_list" p3) p4] scope fI /\
  scope.kind = .function /\ scope.isGenerator = false /\ scope.isCoroutine = false /\ scope.names.lookup ("self" : Str) = some .local /\ scope.names.lookup ("comp_select_list" : Str) = some .local /\
  ∀ pm cd doc a b, bindArgs (methDef name qual params [.Assign [.Attribute (.Name "self" p1) "comp_select_list" p2] (.Name "comp_select_list" p3) p4] scope pm cd doc) ⟨[a, b], []⟩ = pure [(("self" : Str), a), (("comp_select_list" : Str), b)]
section
variable {G : GC} {C : Cx} {β : List Addr} {B B' B₁ : Bx} {σ : St} {s : Shared} {H : Nat} {d : V} {v : Value} {h h' : Heap} {k : K} {fI fC : Addr} {K : PySem.W.Frag}
theorem Zqu {kindOf : Str -> Option NameKind} (h1 : kindOf "self" = some .local) (h2 : kindOf "comp_select_list" = some .local) (a b : Value) :
  bindL kindOf [(("self" : Str), a), (("comp_select_list" : Str), b)] (fun _ => none) "comp_select_list" = some b /\ bindL kindOf [(("self" : Str), a), (("comp_select_list" : Str), b)] (fun _ => none) "self" = some a := by
 have hne : ((("self" : Str) = "comp_select_list")) = False := eq_false (by decide +kernel);simp [bindL, h1, h2, hne]
theorem Zmn (T : Zfi G K fI fC) (N : Zqv G fI) : OpN G (H + 1) B B (fun vs => call (.ref G.tcC) vs) [d] (.tc d) := fun C σ A β s vs O hA I rr E => by
 refine Zg (Jl rr) fun v z_1 r => ?_;subst z_1;obtain ⟨g, name, qual, params, scope, p1, p2, p3, p4, ⟨oF, pm, cd, doc, cc, ho, hTb, hdat, hcd, hrec, hTc, hP⟩, hk, hgen, hco, hs, hc, hbind⟩ := N.is;have X := T.mem_at I.wd;have ho' := I.wd.keep _ _ ho hTb
 have hrec' : s.heap.CodeRec cd qual := by
  refine Zcv hrec fun c' oc vs' t e1 e2 e3 e4 => ?_;clear hrec;rw [hcd] at e1
  cases e1
  exact ⟨cc, oc, vs', t, hcd, I.wd.keep _ _ e2 hTc, e3, e4⟩
 have hlim := I.wd.nolimit O.gok;obtain ⟨hh, g, dd, t, os⟩ := s;have kp : ∀ b o, hh.get? b = some o -> ((hh.push PySem.W.emptyDict).push (PySem.W.instObj G.tcC hh.objs.size)).get? b = some o := fun b o e => Heap.get?_push_of_some _ (Heap.get?_push_of_some _ e);refine wpAny_call ?_;refine PySem.W.make_core (PySem.W.makes_of X T.makes) (PySem.W.looks_findIn X T.init) (fun self => PySem.W.bind_fn X self T.initT) (.inl rfl) ?_;refine codeAny_call_cells (fd := methDef name qual params _ scope pm cd doc) (binds := [(("self" : Str), .ref (hh.objs.size + 1)), (("comp_select_list" : Str), v)]) ?_ (kp _ _ ho') hdat (hlim.keeps kp) (hrec'.keeps kp) rfl (hbind pm cd doc _ _) rfl (fun x hx => ?_) (fun s'1 x => ?_) hco hgen hk
 ·show A.depth + 1 < 1000
  have := hA.depth; omega
 ·simp only [List.mem_cons, List.not_mem_nil, or_false] at hx
  rcases hx with rfl | rfl
  ·exact .inl hs
  ·exact .inl hc
 ·have hx1 : ((hh.push PySem.W.emptyDict).push (PySem.W.instObj G.tcC hh.objs.size)).get? (hh.objs.size + 1) = some (PySem.W.instObj G.tcC hh.objs.size) := by rw [<- Heap.size_push hh PySem.W.emptyDict]; exact Heap.get?_push_size _ rfl
  have hx2 : ((hh.push PySem.W.emptyDict).push (PySem.W.instObj G.tcC hh.objs.size)).get? hh.objs.size = some PySem.W.emptyDict := Heap.get?_push_of_some _ (Heap.get?_push_size _ rfl);have hsz : ((hh.push PySem.W.emptyDict).push (PySem.W.instObj G.tcC hh.objs.size)).objs.size = hh.objs.size + 2 := by rw [Heap.size_push, Heap.size_push]
  replace x := x.toInCall;generalize (hh.push PySem.W.emptyDict).push (PySem.W.instObj G.tcC hh.objs.size) = h2 at x hx1 hx2 hsz kp ⊢;have hn := x.ns;have k1 : (callEnvC (methDef name qual params [.Assign [.Attribute (.Name "self" p1) "comp_select_list" p2] (.Name "comp_select_list" p3) p4] scope pm cd doc) h2.objs.size fI).kindOf "self" = some .local := hs;have k2 : (callEnvC (methDef name qual params [.Assign [.Attribute (.Name "self" p1) "comp_select_list" p2] (.Name "comp_select_list" p3) p4] scope pm cd doc) h2.objs.size fI).kindOf "comp_select_list" = some .local := hc;replace hk : (callEnvC (methDef name qual params [.Assign [.Attribute (.Name "self" p1) "comp_select_list" p2] (.Name "comp_select_list" p3) p4] scope pm cd doc) h2.objs.size fI).scope.kind = .function := hk;have hfr := x.fresh;have hkk := x.keep;rw [execs_cons];refine Zbz x.same fun hA1 tk1 e1 => ?_;clear x hs hc hbind hdat;generalize callEnvC (methDef name qual params [.Assign [.Attribute (.Name "self" p1) "comp_select_list" p2] (.Name "comp_select_list" p3) p4] scope pm cd doc) h2.objs.size fI = env at hn k1 k2 hk hfr hkk ⊢;have hl : hh.objs.size + 2 <= env.locals := hsz ▸ hfr;have F1 : Fr hh env.locals s'1.heap _ := ⟨hn, fun b o e => hkk _ _ (kp b o e), Nat.le_trans (Nat.le_add_right _ 2) hl⟩
  have N1 : News hh env.locals s'1.heap [(hh.objs.size + 1, PySem.W.instObj G.tcC hh.objs.size), (hh.objs.size, PySem.W.dictOf [] 0)] := by
   intro q hq;rcases List.mem_cons.mp hq with rfl | hq
   ·exact ⟨hkk _ _ hx1, Nat.ne_of_lt hl, by cases e : hh.get? (hh.objs.size + 1) with
     | none => rfl
     | some o => exact absurd (Heap.lt_size e) (Nat.not_lt.mpr (Nat.le_succ _))⟩
   ·rcases List.mem_cons.mp hq with rfl | hq
    ·exact ⟨hkk _ _ hx2, Nat.ne_of_lt (Nat.lt_of_succ_lt hl), by cases e : hh.get? hh.objs.size with
      | none => rfl
      | some o => exact absurd (Heap.lt_size e) (Nat.lt_irrefl _)⟩
    ·nomatch hq
  refine wpAny_bind (plainObj_wpAny_Assign_Attribute ?_);refine wpAny_Name (wpAny_loadName_local hk k2 hn (v := v) (Zqu k1 k2 _ _).1 ?_);refine wpAny_Name (wpAny_loadName_local hk k1 hn (v := .ref (hh.objs.size + 1)) (Zqu k1 k2 _ _).2 ?_);refine PySem.W.set_dict F1 X N1 (PySem.W.InstAt.of_news N1 (.head _) (.tail _ (.head _))) rfl T.sa T.plain T.taker T.hasD (by rfl) rfl (.tail (Nat.succ_ne_self _) (.head (fun _ h => nomatch h))) (by show 1 <= 1000; decide) fun h' F' N' => ?_;refine wpAny_pure ?_;have y1 := (N' _ (.head _)).1;have y2 := (N' _ (.tail _ (.head _))).1;refine ⟨rfl, ?_⟩;subst e1;have X1 : Ext ⟨hh, g, dd, t, os⟩ { (⟨hA1, g, dd, tk1, os⟩ : Shared) with heap := h', toks := tk1 + 2 } := ⟨F'.keep, Nat.le_of_lt (Nat.lt_of_le_of_lt (Nat.le_succ _) (Heap.lt_size y1)), rfl, rfl⟩;exact Zs.ofExt I X1 (.tc y1 (I.fresh (Nat.le_succ _)) (I.fresh (Nat.le_refl _)) y2 ⟨by rfl, by rfl⟩ (Rep.mono (fun b o e n => ⟨F'.keep b o e, n⟩) (fun _ _ z => z) r))
noncomputable def D.tcNew (f : DE) : DE := fun σ B => match f σ B with
 | some (d, B') => some (.tc d, B')
 | none => none
structure Zj1 (G : GC) (H : Nat) (K : PySem.W.Frag) (fI : Addr) : Prop where
 top : Yz G "TupleComp" (.ref G.tcC)
 keep : PySem.W.keepIn K (.ref G.tcC) = true
 new : Zqv G fI
 pos : 1 <= H
set_option tactic.hygienic true in
theorem ZfU {e : Expr} {f : DE} {p pos : Pos} (T : Zfi G K fI fC) (N : Zj1 G H K fI) (hk : k.kind "TupleComp" = some .globalImplicit) (hn : XE e = true) (hf : Den G H k e f) :
  Den G H k (.Call (.Name "TupleComp" p) [e] [] pos) (D.tcNew f) := .mk fun C O F σ B d B' hh => by
 unfold D.tcNew at hh
 split at hh
 ·rename_i d₁ B₁ h1
  cases hh
  intro A β s hA I E;refine wpAny_Call_NameR (X9 O I (by rw [F.kind]; exact hk) N.top (by rfl) ?_);refine PySem.W.callWith_K (T.mem_at I.wd) N.keep ?_ (ZA hn);rw [ZA hn, ZW];refine spliced_cons ((hf.ok C O F _ _ _ _ h1 A β s hA I).t3 fun v s'1 β1 a'1 i'1 r'1 => spliced_nil ⟨T.mem_at i'1.wd, ?_⟩);exact ((Zmn (H := H - 1) T N.new C σ A β1 s'1 [v] O (hA.le (by have := N.pos; omega)) i'1 (.cons r'1 .nil)).to fun v' s'2 q => q.from a'1)
 ·exact nn hh
end
open PySem PySem.Calls PyProof.Rows
noncomputable def ZoE (G : GC) (env : Env) (scope : Scope) (n m : Nat) (g : Bool) : Cx :=
 { env := env, names := Yl scope.names, av := fun a => G.Tb a \/ (n <= a /\ a < m), mu := fun a => n <= a /\ a < m, asg := Yl scope.names, gen := g }
section
variable {G : GC} {s s' : Shared} {H : Nat} {ds : List V}
theorem Zi2 (gok : GOk G) (W : Wd G s) (hH : G.H0.objs.size <= s.heap.objs.size) {fd : FuncData} {a : Addr} {ps : List Str} {vs : List Value} (hf : Zaw fd.scope ps = true) (hg : fd.globals = mainGlobals) (hb : fd.builtins = builtinsNs)
  {g : Bool} (hcode : g = true -> ∃ c P, fd.code = .ref c /\ (c, P) ∈ G.tabs) (hps : vs.length = ps.length)
  (rr : Zb G (avB G.Tb []) [] s.heap vs ds) {s'1 : Shared}
  (x : InCallC s (callEnvC fd s.heap.objs.size a).locals (bindL (callEnvC fd s.heap.objs.size a).kindOf (ps.zip vs) fun _ => none) (callEnvC fd s.heap.objs.size a).cells (bindC (callEnvC fd s.heap.objs.size a).kindOf (ps.zip vs) fun _ => none) s'1) :
  Zv G (ZoE G (callEnvC fd s.heap.objs.size a) fd.scope s.heap.objs.size s'1.heap.objs.size g) /\
  Inv G (ZoE G (callEnvC fd s.heap.objs.size a) fd.scope s.heap.objs.size s'1.heap.objs.size g) [] [] (start fd.scope ps ds) s'1 /\ Ext s s'1 /\
  Xi (K.fn fd.scope g) (ZoE G (callEnvC fd s.heap.objs.size a) fd.scope s.heap.objs.size s'1.heap.objs.size g) := by
 unfold Zaw at hf;simp only [Bool.and_eq_true, beq_iff_eq, decide_eq_true_eq, List.all_eq_true, Option.isNone_iff_eq_none, Bool.not_eq_true'] at hf;obtain ⟨⟨⟨⟨⟨⟨hk, _⟩, _⟩, hnd⟩, hdbg⟩, hnf⟩, hpar⟩ := hf;have hL : (callEnvC fd s.heap.objs.size a).locals = s.heap.objs.size := rfl;have hcells : (callEnvC fd s.heap.objs.size a).cells = cellsFrom (s.heap.objs.size + 1) fd.scope.names [] := rfl;have hkind : ∀ y, (callEnvC fd s.heap.objs.size a).kindOf y = fd.scope.names.lookup y := fun y => rfl;have hlt : s.heap.objs.size < s'1.heap.objs.size := x.toInCall.ns.lt;refine Zbz x.toInCall.same fun h' tk hs1 => ?_;have ext : Ext s s'1 := ⟨x.toInCall.keep, Nat.le_of_lt hlt, by rw [hs1], by rw [hs1]⟩;have h0 := hH;have hcl : ∀ y c, (cellsFrom (s.heap.objs.size + 1) fd.scope.names []).lookup y = some c -> s.heap.objs.size <= c /\ c < s'1.heap.objs.size := fun y c h => ⟨Nat.le_of_lt (x.above y c (mem_of_lookup h)), (x.cell y c h).lt⟩;have hnew : ∀ y, (y, NameKind.cell) ∈ fd.scope.names -> ∃ c, (cellsFrom (s.heap.objs.size + 1) fd.scope.names []).lookup y = some c := fun y hy => let ⟨c, h1, _⟩ := X3 (n₀ := 0) _ _ [] y (.inl hy) (Nat.zero_le _); ⟨c, h1⟩
 have hvar : ∀ y, Zbe (fd.scope.names.lookup y) -> y ∈ Yl fd.scope.names := fun y hy => by
  rcases hy with h | h | h
  ·exact Xz.mpr (.inl (Z2 h))
  ·exact Xz.mpr (.inr (Z2 h))
  ·have := hnf _ (Z2 h); simp at this
 have htl : ∀ q, G.Tb q -> q < s.heap.objs.size := fun q ⟨c, hq⟩ => Nat.lt_of_lt_of_le (gok.tabs c q hq).2.1 hH;refine ⟨⟨gok, hk, hg, hb, fun a h => .inr h, fun a h => .inl h, ⟨Nat.le_refl _, hlt⟩, fun a h => Nat.le_trans h0 h.1, fun y c _ _ h => hcl y c h, fun y c h => .inr (hcl y c h), fun y z c h1 h2 => ?_, fun y hy => ?_, fun y c h => Nat.le_trans h0 (hcl y c h).1, hvar, hdbg, hcode⟩, ?_, ext, ⟨rfl, rfl, rfl, rfl⟩⟩
 ·exact name_of_addr x.apart (mem_of_lookup h1) (mem_of_lookup h2)
 ·rcases hy with h | h
  ·exact hnew y (Z2 h)
  ·have := hnf _ (Z2 h); simp at this
 ·refine ⟨W.ext ext, fun q h => ?_, ⟨_, x.toInCall.ns⟩, fun y ya hy => ?_, fun y e hy ky => ?_, ?_, ⟨rfl, List.nodup_nil, (fun _ h => by cases h), (fun _ h => by cases h), fun n a d h => by simp at h⟩⟩
  ·rcases h with h | h
   ·exact Nat.lt_trans (htl q h) hlt
   ·exact h.2
  ·obtain ⟨c, hc⟩ := hnew y (Z2 hy)
   exact ⟨c, _, hc, x.cell y c hc⟩
  ·have hpn : ∀ p ∈ ps, p ∈ Yl fd.scope.names := fun p hp => hvar p ((Jq (hpar p hp)).elim .inl fun z => .inr (.inl z))
   have hrep : ∀ (i : Nat) (v : Value) (d : V), vs[i]? = some v -> ds[i]? = some d -> Rep G (avB (fun a => G.Tb a \/ (s.heap.objs.size <= a /\ a < s'1.heap.objs.size)) []) [] s'1.heap v d := fun i v d h1 h2 => by
    refine Rep.mono (fun b o e n => ⟨ext.keep b o e, ?_⟩) (fun _ _ z => z) (ZcN rr i v d h1 h2)
    rintro ((z | z) | z)
    ·exact n (.inl z)
    ·exact absurd (Heap.lt_size e) (Nat.not_lt.mpr z.1)
    ·exact n (.inr z)
   obtain ⟨v, hv, hr⟩ := Zc4 (kindOf := (callEnvC fd s.heap.objs.size a).kindOf) (P := fun v d => Rep G (avB (fun a => G.Tb a \/ (s.heap.objs.size <= a /\ a < s'1.heap.objs.size)) []) [] s'1.heap v d) ps vs ds (fun _ => none) (fun _ => none) (List.replicate (Yl fd.scope.names).length none)
    (by simp) hpn hps hrep rr.length.symm (fun y d hy => by
     rw [List.getElem?_replicate] at hy
     split at hy <;> simp at hy) y e hy
   refine ⟨v, ?_, hr⟩
   by_cases hkl : (callEnvC fd s.heap.objs.size a).kindOf y = some .local
   ·rw [if_pos hkl] at hv
    exact .inl ⟨hkl, _, x.toInCall.ns, hv⟩
   ·rw [if_neg hkl] at hv
    have hky : (callEnvC fd s.heap.objs.size a).kindOf y = some .cell := by
     rcases ky with h | h | h
     ·exact absurd h hkl
     ·exact h
     ·have := hnf _ (Z2 h); simp at this
    obtain ⟨c, hc⟩ := hnew y (Z2 hky);refine .inr ⟨.inl hky, c, hc, ?_⟩;have := x.cell y c hc;rw [hv] at this;exact this
  ·show (st0 _ _ _ _).length = _
   rw [Zce, List.length_replicate];rfl
theorem Zm4 {g : Bool} {name qual : Str} {params : Arguments} {body : List Stmt} {scope : Scope} {a : Addr} {ps : List Str} {f : DS} {B' : Bx} {σ₁ : St} {vs : List Value} {A : Around}
  (gok : GOk G) (W : Wd G s) (hH : G.H0.objs.size <= s.heap.objs.size) (hA : AOk (H + 1) A) (hfn : ZaB G g name qual params body scope a) (hfit : Zaw scope ps = true)
  (hbind : ∀ pm cd doc vs, vs.length = ps.length -> bindArgs (methDef name qual params body scope pm cd doc) ⟨vs, []⟩ = pure (ps.zip vs)) (hbody : Xa G H (K.fn scope g) body f)
  (hrun : f (start scope ps ds) [] = some (.ret (.bool true), σ₁, B')) (hl : ds.length = ps.length) (rr : Zb G (avB G.Tb []) [] s.heap vs ds) :
  codeAny (model G.prog G.w) A (.call (.ref a) ⟨vs, []⟩) (fun r s' => r = .ok (.ret (.bool true)) /\ Wd G s') s := by
 refine ZqF hfn fun o pm cd doc c ho hTa hdat hcd hrec hTc hP0 => ?_;clear hfn;have ho' := W.keep _ _ ho hTa
 have hrec' : s.heap.CodeRec cd qual := by
  refine Zcv hrec fun c' oc vs' t e1 e2 e3 e4 => ?_;clear hrec;rw [hcd] at e1
  cases e1
  exact ⟨c, oc, vs', t, hcd, W.keep _ _ e2 hTc, e3, e4⟩
 have hlen : vs.length = ps.length := by rw [rr.length, hl]
 have hfit' := hfit;unfold Zaw at hfit';simp only [Bool.and_eq_true, beq_iff_eq, decide_eq_true_eq, List.all_eq_true, Option.isNone_iff_eq_none, Bool.not_eq_true'] at hfit';obtain ⟨⟨⟨⟨⟨⟨hk, hgen⟩, hco⟩, hnd⟩, hdbg⟩, hnf⟩, hpar⟩ := hfit';refine codeAny_call_cells (fd := methDef name qual params body scope pm cd doc) (body := body) (binds := ps.zip vs) hA.room ho' hdat (W.nolimit gok) hrec' rfl (hbind pm cd doc vs hlen) rfl (fun x hx => ?_) (fun s'1 x => ?_) hco hgen hk
 ·have hp := hpar x.1 (List.of_mem_zip hx).1
  rcases Jq hp with h | h
  ·exact .inl h
  ·refine .inr ⟨h, ?_⟩
   refine Zg (X3 (n₀ := 0) scope.names (s.heap.objs.size + 1) [] x.1 (.inl (Z2 h)) (Nat.zero_le _)) fun c h1 _ => ?_;exact Option.isSome_iff_exists.mpr ⟨c, h1⟩
 ·refine ZcR (Zi2 gok W hH (fd := methDef name qual params body scope pm cd doc) hfit rfl rfl (fun e => (hP0 e).elim fun P h => ⟨c, P, hcd, h⟩) hlen rr x) fun O1 i'1 x'1 F'1 => ?_
  have hrun := hbody.ok _ O1 F'1 _ _ _ hrun (A.deeper (callEnvC (methDef name qual params body scope pm cd doc) s.heap.objs.size a)) [] s'1 (hA.deeper _) i'1;refine hrun.t3 fun fl s'2 β2 a'2 i'2 q'2 => ?_
  cases fl with
  | ret v =>
   cases q'2
   exact ⟨rfl, i'2.wd⟩
  | _ => exact q'2.elim
theorem Wd.oldK (W : Wd G s) (htab0 : ∀ c P, (c, P) ∈ G.tabs -> G.H0.TableAt c P #[]) : OldK G.H0 s.heap := by
 refine ⟨fun b o e => ?_, fun b o e => ?_⟩
 ·by_cases hb : G.Tb b
  ·obtain ⟨c, hc⟩ := hb
   have t0 := htab0 c b hc;refine Zg (W.tab c b hc) fun ps _ t1 => ?_;have : o = _ := Option.some.inj (e.symm.trans t0.2);subst this;exact .inr (.inl ⟨t0.isCodeTable, rfl, #[], ps, rfl, by rw [t1.2]; simp⟩)
  ·exact .inl (W.keep b o e hb)
 ·by_cases hb : G.Tb b
  ·obtain ⟨c, hc⟩ := hb
   refine Zg (W.tab c b hc) fun ps _ t1 => ?_;exact ⟨_, t1.2⟩
  ·exact ⟨o, W.keep b o e hb⟩
end
noncomputable def mkG (prog : Program) (w : World) (s : Shared) (mg mb : Str -> Option Value) (c P tc : Addr) : GC :=
 { prog := prog, w := w, H0 := s.heap, os0 := s.os, mg := mg, mb := mb, tabs := [(c, P)], tcC := tc }
section
variable {p prog : Program} {loose : List Str} {mean : ExcName -> Option Value} {mg mb : Str -> Option Value} {s : Shared} {w : World} {c P tc : Addr} {K : PySem.W.Frag}
theorem Zd9 {q : Addr} : (mkG prog w s mg mb c P tc).Tb q ↔ q = P := by
 unfold GC.Tb mkG;simp only [List.mem_singleton, Prod.mk.injEq];exact ⟨fun ⟨_, _, e⟩ => e, fun e => ⟨c, rfl, e⟩⟩
theorem Zpq (T : Top p loose mean mg mb s.heap) (hc : s.heap.IsCode c P #[]) (ht : s.heap.TableAt c P #[]) : GOk (mkG prog w s mg mb c P tc) := by
 have hP : s.heap.get? P = some { cls := .none, data := .fields #[] } := ht.2
 have ne : ∀ {a m}, s.heap.Ns a m -> ¬ (mkG prog w s mg mb c P tc).Tb a := fun {a m} h z => by
  rw [Zd9.mp z] at h;refine YD h fun o es ep e d _ => ?_;clear h;rw [hP] at e; cases e; cases d
 refine Zg T.nodigits fun _ hst _ => ?_;refine ⟨T.g, T.b, ne T.g, ne T.b, T.nolimit, ne hst, fun a b h => ?_, fun a b q h1 h2 => ?_, ?_⟩
 ·simp only [mkG, List.mem_singleton, Prod.mk.injEq] at h
  obtain ⟨rfl, rfl⟩ := h;obtain ⟨⟨o, vs, e, k, d, _⟩, _⟩ := ht;refine ⟨Heap.lt_size e, Heap.lt_size hP, fun z => ?_⟩;rw [Zd9.mp z, hP] at e
  cases e; cases k
 ·simp only [mkG, List.mem_singleton, Prod.mk.injEq] at h1 h2
  exact h1.1.trans h2.1.symm
 ·refine Zak T.bmain fun bm ob h1 h2 h3 h4 h5 h6 => ?_
  refine ⟨bm, ob, h1, h2, h3, h4, h5, h6, fun z => ?_⟩;rw [Zd9.mp z, hP] at h3
  cases h3; cases h4
theorem Zrc (hc : s.heap.IsCode c P #[]) (ht : s.heap.TableAt c P #[]) (hg : s.gens = #[]) : Wd (mkG prog w s mg mb c P tc) s := by
 refine ⟨fun _ _ e _ => e, fun a b h => ?_, .of_eq hg, rfl⟩;simp only [mkG, List.mem_singleton, Prod.mk.injEq] at h;obtain ⟨rfl, rfl⟩ := h;exact ⟨_, hc, ht⟩
theorem Zov (ht : s.heap.TableAt c P #[]) : ∀ a b, (a, b) ∈ (mkG prog w s mg mb c P tc).tabs -> (mkG prog w s mg mb c P tc).H0.TableAt a b #[] := fun a b h => by
 simp only [mkG, List.mem_singleton, Prod.mk.injEq] at h;obtain ⟨rfl, rfl⟩ := h;exact ht
theorem Zko (X : K.In s.heap) (ht : s.heap.TableAt c P #[]) (hn : K.lookup P = none) : ∀ a o, K.lookup a = some o -> ¬ (mkG prog w s mg mb c P tc).Tb a := fun a o e z => by
 rw [Zd9.mp z, hn] at e; cases e
theorem Ja {G : GC} {K : PySem.W.Frag} (X : K.In G.H0) (ap : ∀ a o, K.lookup a = some o -> ¬ G.Tb a) {a c : Addr} {o oc : Obj} {name qual : Str} {params : Arguments} {body : List Stmt} {scope : Scope} {pm doc : Value} {vs : Array Value} {t : Tok} {g : Bool}
  (e : K.lookup a = some o) (d : o.data = .func (methDef name qual params body scope pm (.ref c) doc)) (ec : K.lookup c = some oc) (dc : oc.data = .fields vs) (hq : vs[1]? = some (.str qual t)) (hg : g = true -> ∃ P, (c, P) ∈ G.tabs) :
  ZaB G g name qual params body scope a :=
 ⟨o, pm, _, doc, c, X _ _ e, ap _ _ e, d, rfl, ⟨c, oc, vs, t, rfl, X _ _ ec, dc, hq⟩, ap _ _ ec, hg⟩
theorem Jp (T : Top p loose mean mg mb s.heap) {x : Str} {v : Value} (h1 : (startupNames.contains x || loose.contains x || ((recsOf p).map (·.name)).contains x || ((litsOf p).map (·.1)).contains x || ((clssOf p loose).map (·.name)).contains x || x == "__name__") = false)
  (h2 : bootBuiltins x = some v) : Yz (mkG prog w s mg mb c P tc) x v := by
 simp only [Bool.or_eq_false_iff, List.contains_eq_mem, decide_eq_false_iff_not, beq_eq_false_iff_ne] at h1;obtain ⟨⟨⟨⟨⟨a1, a2⟩, a3⟩, a4⟩, a5⟩, a6⟩ := h1;exact .inr ⟨T.free x a1 a2 a3 a4 a5, (T.builtins x a6).trans h2⟩
theorem ZpJ {G : GC} {K : PySem.W.Frag} (X : K.In G.H0) (ap : ∀ a o, K.lookup a = some o -> ¬ G.Tb a) {a : Addr} (hm : G.mg "COMPILER_FLAG_NAMES" = some (.ref a)) (hs : (a == sysModules) = false) {n : Nat} {k1 k2 k3 k4 k5 k6 k7 k8 k9 k10 v1 v2 v3 v4 v5 v6 v7 v8 v9 v10 : Tok}
  (e : K.lookup a = some { cls := .type "dict", data := .dict #[⟨1, .int 1 k1, .str "OPTIMIZED" v1⟩, ⟨2, .int 2 k2, .str "NEWLOCALS" v2⟩, ⟨4, .int 4 k3, .str "VARARGS" v3⟩, ⟨8, .int 8 k4, .str "VARKEYWORDS" v4⟩, ⟨16, .int 16 k5, .str "NESTED" v5⟩,
   ⟨32, .int 32 k6, .str "GENERATOR" v6⟩, ⟨64, .int 64 k7, .str "NOFREE" v7⟩, ⟨128, .int 128 k8, .str "COROUTINE" v8⟩, ⟨256, .int 256 k9, .str "ITERABLE_COROUTINE" v9⟩, ⟨512, .int 512 k10, .str "ASYNC_GENERATOR" v10⟩] n }) : ZgV G := by
 refine ⟨a, List.zipWith (fun (p : Int × Str) t => (p.1, Value.str p.2 t)) J8 [v1, v2, v3, v4, v5, v6, v7, v8, v9, v10], .inl hm, ap _ _ e, hs, ⟨_, _, _, X _ _ e, ⟨rfl, rfl, rfl⟩, rfl, ?_, ?_, ?_⟩, _, rfl, rfl⟩
 ·intro q hq
  simp only [List.mem_toArray, List.mem_cons, List.not_mem_nil, or_false] at hq;rcases hq with rfl | rfl | rfl | rfl | rfl | rfl | rfl | rfl | rfl | rfl
  ·exact ⟨1, rfl, rfl⟩
  ·exact ⟨2, rfl, rfl⟩
  ·exact ⟨4, rfl, rfl⟩
  ·exact ⟨8, rfl, rfl⟩
  ·exact ⟨16, rfl, rfl⟩
  ·exact ⟨32, rfl, rfl⟩
  ·exact ⟨64, rfl, rfl⟩
  ·exact ⟨128, rfl, rfl⟩
  ·exact ⟨256, rfl, rfl⟩
  ·exact ⟨512, rfl, rfl⟩
 ·exact .cons rfl rfl (.cons rfl rfl (.cons rfl rfl (.cons rfl rfl (.cons rfl rfl (.cons rfl rfl (.cons rfl rfl (.cons rfl rfl (.cons rfl rfl (.cons rfl rfl .nil)))))))))
 ·simp only [J8, List.zipWith_cons_cons, List.zipWith_nil_left, List.map_cons, List.map_nil]
  decide
end
noncomputable def ZbF {α : Type} : Nat -> (List α -> Prop) -> Prop
 | 0, P => P []
 | n + 1, P => ∀ v, ZbF n fun vs => P (v :: vs)
theorem ZbF.all {α : Type} : ∀ {n : Nat} {P : List α -> Prop}, ZbF n P -> ∀ vs : List α, vs.length = n -> P vs := by
 intro n
 induction n with
 | zero => intro P h vs e; rw [List.eq_nil_of_length_eq_zero e]; exact h
 | succ n ih => intro P h vs e; cases vs with
  | nil => cases e
  | cons v vs => exact ih (h v) vs (Nat.succ.inj e)
noncomputable def JS (k : K) (ps : List Str) (ds : List V) : St := st0 k.names ps ds (List.replicate k.names.length none)
structure Runs (f : DS) (k : K) (ps : List Str) (F : VF) : Prop where
 ok : ∀ B ds d₁ B'', F B ds = some (d₁, B'') -> ds.length = ps.length /\ ∃ d σ₁ B' m, f (JS k ps ds) B = some (.ret d, σ₁, B') /\ frz B.length B' m d = some d₁ /\ Zcm B.length B B' B''
section
variable {G : GC} {H : Nat}
theorem Zkp {g : Bool} {name qual : Str} {params : Arguments} {body : List Stmt} {scope : Scope} {a : Addr} {ps : List Str} {f : DS} {F : VF} {k : K} (hfn : ZaB G g name qual params body scope a) (hk : K.fn scope g = k) (hfit : Zaw scope ps = true)
  (hbind : ∀ pm cd doc vs, vs.length = ps.length -> bindArgs (methDef name qual params body scope pm cd doc) ⟨vs, []⟩ = pure (ps.zip vs)) (hbody : Xa G H k body f) (R : Runs f k ps F) : Zp3 G (H + 1) a F := fun B ds d B' h => by
 obtain ⟨hl, d0, σ₁, B1, m, hr, hz, hb⟩ := R.ok B ds d B' h;subst hk;exact ZpI hfn hfit hbind hbody hr hz hb hl
theorem YS {g : Bool} {name : Str} {params : Arguments} {body : List Stmt} {scope : Scope} {a : Addr} {ps : List Str} {f : DS} {F : VF} {k : K} {H' : Nat} (ht : Yz G name (.ref a)) (hfn : ZaB G g name name params body scope a) (hk : K.fn scope g = k) (hfit : Zaw scope ps = true)
  (hbind : ∀ pm cd doc vs, vs.length = ps.length -> bindArgs (methDef name name params body scope pm cd doc) ⟨vs, []⟩ = pure (ps.zip vs)) (hbody : Xa G H k body f) (R : Runs f k ps F) (hle : H + 1 <= H') : Yo G H' name F :=
 ⟨H + 1, g, a, params, body, scope, hle, ⟨ht, hfn⟩, Zkp hfn hk hfit hbind hbody R⟩
end
theorem Zgn {G : GC} {av : Addr -> Prop} {β : List Addr} {h : Heap} {P : Params} : ∀ {ns : List Int} {vs : List Value}, PySem.W.WellAll P h vs (PySem.W.ofPys (ns.map .int)) -> Zb G av β h vs (ns.map .int) := by
 intro xs_
 induction xs_ with
 | nil =>
  intro vs w
  cases w; exact .nil
 | cons n ns ih_ =>
  intro vs w;simp only [List.map_cons, PySem.W.ofPys, PySem.W.ofPy] at w
  cases w with
  | cons a b => cases a; exact .cons (.int _ _) (ih_ b)
theorem Zlz {G : GC} {av : Addr -> Prop} {β : List Addr} {h : Heap} {P : Params} {ns : List Int} {l : Addr} (w : PySem.W.Well P h (.ref l) (PySem.W.ofPy (.list (ns.map .int))))
  (hn : ∀ q, av q -> ∀ o, h.get? q = some o -> o.cls ≠ .type "list") : Rep G av β h (.ref l) (.list (ns.map .int)) := by
 simp only [PySem.W.ofPy] at w
 cases w with
 | list e r => exact .list e (fun z => hn l z _ e rfl) (Zgn r)
theorem Zlq (xs ys : List PySem.W.WData) : (PySem.W.WShape.has [] (.bool true) .bool && (PySem.W.WTm.eq .res (.lit (.bool true))).holds [] { args := xs, res := some (.bool true), after := ys }) = true := by
 simp [PySem.W.WShape.has, PySem.W.WTm.holds, PySem.W.WTm.value, PySem.W.WShape.arms, PySem.W.same]
theorem ZiU {B B1 : Bx} : Zcm B.length B (B ++ B1) B := ⟨rfl, rfl, fun i hi => .inl ⟨List.getElem?_append_left hi, rfl⟩⟩
theorem Zh0 {step : V -> St -> Bx -> Option Out} {els : St -> Bx -> Option Out} (P : List V -> St -> Bx -> Prop)
  (hstep : ∀ x xs σ B, P (x :: xs) σ B -> ∃ σ' B', step x σ B = some (.next, σ', B') /\ P xs σ' B') :
  ∀ (xs : List V) (n : Nat) (σ : St) (B : Bx), xs.length < n -> P xs σ B -> ∃ σ' B', P [] σ' B' /\ Y4 step els n (.seq xs) σ B = els σ' B'
 | [], 0, σ, B, hn, hP => absurd hn (by simp)
 | [], n + 1, σ, B, hn, hP => ⟨σ, B, hP, rfl⟩
 | x :: xs, 0, σ, B, hn, hP => absurd hn (by simp)
 | x :: xs, n + 1, σ, B, hn, hP => by
  refine YA (hstep x xs σ B hP) fun σ' B' h1 h2 => ?_;obtain ⟨σ'', B'', h3, h4⟩ := Zh0 P hstep xs n σ' B' (by simpa using hn) h2;refine ⟨σ'', B'', h3, ?_⟩;simp only [Y4, Src.at, List.head?_cons, h1, Src.adv, List.tail_cons];exact h4
theorem ZkB {it : DI} {tgt : V -> St -> Option St} {body els : DS} {σ : St} {B B₁ : Bx} {xs : List V} (P : List V -> St -> Bx -> Prop)
  (hstep : ∀ x xs σ B, P (x :: xs) σ B -> ∃ σ₁ σ' B', tgt x σ = some σ₁ /\ body σ₁ B = some (.next, σ', B') /\ P xs σ' B') (hit : it σ B = some (.seq xs, B₁)) (hP : P xs σ B₁) :
  ∃ σ' B', P [] σ' B' /\ S.l it tgt body els σ B = els σ' B' := by
 unfold S.l;simp only [hit];refine Zh0 P (fun x xs σ B h => ?_) xs _ σ B₁ (Nat.lt_succ_self _) hP;refine YD (hstep x xs σ B h) fun σ₁ σ' B' h1 h2 h3 => ?_;exact ⟨σ', B', by simp only [h1, h2], h3⟩
theorem Za9 {α : Type} {it : DI} {tgt : V -> St -> Option St} {body els : DS} {σ : St} {B B₁ : Bx} {L : List α} (f : α -> V) (P : List α -> St -> Bx -> Prop)
  (hstep : ∀ c Lc σ B, P (c :: Lc) σ B -> ∃ σ₁ σ' B', tgt (f c) σ = some σ₁ /\ body σ₁ B = some (.next, σ', B') /\ P Lc σ' B') (hit : it σ B = some (.seq (L.map f), B₁)) (hP : P L σ B₁) :
  ∃ σ' B', P [] σ' B' /\ S.l it tgt body els σ B = els σ' B' := by
 refine YA (ZkB (tgt := tgt) (body := body) (els := els) (fun xs σ B => ∃ Lc, xs = Lc.map f /\ P Lc σ B) (fun x xs σ B h => ?_) hit ⟨L, rfl, hP⟩) fun σ' B' h e => ?_
 ·refine Zg h fun Lc hx hp => ?_
  cases Lc with
  | nil => cases hx
  | cons c Lc =>
   refine YD (hstep c Lc σ B hp) fun σ₁ σ' B' h1 h2 h3 => ⟨σ₁, σ', B', ?_, h2, Lc, (List.cons.inj hx).2, h3⟩;rw [(List.cons.inj hx).1]; exact h1
 ·refine Zg h fun Lc hx hp => ⟨σ', B', ?_, e⟩
  cases Lc with
  | nil => exact hp
  | cons _ _ => cases hx
theorem Zly {Y : Type} {it : DI} {tgt : V -> St -> Option St} {body : DS} (n : Nat) (f : Nat -> V) (Sf : Nat -> Y -> St) (Bf : Nat -> Bx) {y0 : Y}
  (hstep : ∀ k y, k < n -> ∃ σ₁ y', tgt (f k) (Sf k y) = some σ₁ /\ body σ₁ (Bf k) = some (.next, Sf (k + 1) y', Bf (k + 1))) (hit : it (Sf 0 y0) (Bf 0) = some (.seq ((List.range n).map f), Bf 0)) :
  ∃ y, S.l it tgt body S.k (Sf 0 y0) (Bf 0) = some (.next, Sf n y, Bf n) := by
 have key : ∀ j k y m, k + j = n -> j < m -> ∃ y', Y4 (fun x σ B => match tgt x σ with | none => none | some σ₁ => body σ₁ B) S.k m (.seq ((List.range' k j).map f)) (Sf k y) (Bf k) = some (.next, Sf n y', Bf n) := by
  intro j
  induction j with
  | zero =>
   intro k y m hk hm
   cases m with
   | zero => cases hm
   | succ m => rw [<- show k = n from hk]; exact ⟨y, rfl⟩
  | succ j ih =>
   intro k y m hk hm
   cases m with
   | zero => cases hm
   | succ m =>
    refine YA (hstep k y (hk ▸ Nat.lt_add_of_pos_right (Nat.succ_pos _))) fun σ₁ y1 h1 h2 => ?_;refine Zb1 (ih (k + 1) y1 m (by rw [<- hk, Nat.add_right_comm]; rfl) (Nat.lt_of_succ_lt_succ hm)) fun y2 h3 => ⟨y2, ?_⟩;rw [<- h3];show (match (match tgt (f k) (Sf k y) with | none => none | some σ₁ => body σ₁ (Bf k)) with | some (.next, σ', B') => _ | some (.cont, σ', B') => _ | some (.brk, σ', B') => _ | some (.ret d, σ', B') => _ | none => _) = _;simp only [h1, h2];rfl
 unfold S.l;simp only [hit];rw [List.range_eq_range'];exact key n 0 y0 _ (Nat.zero_add n) (by show n < _ + 1; rw [List.length_map, List.length_range']; exact Nat.lt_succ_self n)
section
variable {a b x y : DS} {t : DT} {f g : DE} {σ σ₁ : St} {B B₁ : Bx} {d : V}
theorem ZU (h : a σ B = some (.next, σ₁, B₁)) : S.q a b σ B = b σ₁ B₁ := by simp [S.q, h]
theorem ZdL (h : a σ B = some (.ret d, σ₁, B₁)) : S.q a b σ B = some (.ret d, σ₁, B₁) := by simp [S.q, h]
theorem Zo4 (h : a σ B = some (.brk, σ₁, B₁)) : S.q a b σ B = some (.brk, σ₁, B₁) := by simp [S.q, h]
theorem JU (h : t σ B = some (true, B₁)) : S.ite t x y σ B = x σ B₁ := by simp [S.ite, h]
theorem Xv (h : t σ B = some (false, B₁)) : S.ite t x y σ B = y σ B₁ := by simp [S.ite, h]
theorem ZiJ (h : t σ B = some (true, B₁)) : D.ite t f g σ B = f σ B₁ := by simp [D.ite, h]
theorem Zjf (h : t σ B = some (false, B₁)) : D.ite t f g σ B = g σ B₁ := by simp [D.ite, h]
theorem Zq {i : Nat} (h : f σ B = some (d, B₁)) : S.a i f σ B = some (.next, σ.set i (some d), B₁) := by simp [S.a, h]
theorem Zc1 (h : f σ B = some (d, B₁)) : S.r f σ B = some (.ret d, σ, B₁) := by simp [S.r, h]
theorem Zgx (h : f σ B = some (d, B₁)) : S.expr f σ B = some (.next, σ, B₁) := by simp [S.expr, h]
theorem ZE {F : VF} {d' : V} {B₂ : Bx} (h : f σ B = some (d, B₁)) (hF : F B₁ [d] = some (d', B₂)) : D.c F [f] σ B = some (d', B₂) := by simp [D.c, D.row, h, hF]
theorem Y7 {F : VF} {d' e : V} {B₂ B3 : Bx} (h : f σ B = some (d, B₁)) (h2 : g σ B₁ = some (e, B₂)) (hF : F B₂ [d, e] = some (d', B3)) : D.c F [f, g] σ B = some (d', B3) := by simp [D.c, D.row, h, h2, hF]
theorem Zmj {F : VF} {k : DE} {d' e c : V} {B₂ B3 B4 : Bx} (h : f σ B = some (d, B₁)) (h2 : g σ B₁ = some (e, B₂)) (h3 : k σ B₂ = some (c, B3)) (hF : F B3 [d, e, c] = some (d', B4)) : D.c F [f, g, k] σ B = some (d', B4) := by simp [D.c, D.row, h, h2, h3, hF]
theorem Zh {op : Bx -> V -> V -> Option V} {e c : V} {B₂ : Bx} (h : f σ B = some (d, B₁)) (h2 : g σ B₁ = some (e, B₂)) (ho : op B₂ d e = some c) : D.b op f g σ B = some (c, B₂) := by simp [D.b, h, h2, ho]
theorem Z5 {op : Bx -> V -> V -> Option Bool} {e : V} {c : Bool} {B₂ : Bx} (h : f σ B = some (d, B₁)) (h2 : g σ B₁ = some (e, B₂)) (ho : op B₂ d e = some c) : T.cmp op f g σ B = some (c, B₂) := by simp [T.cmp, h, h2, ho]
theorem Jm {c : Bool} (h : f σ B = some (d, B₁)) (ho : Ju B₁ d = some c) : T.of f σ B = some (c, B₁) := by simp [T.of, h, ho]
theorem Zam {isT : Bx -> V -> Bool} {F : VF} {o e c : V} {B₂ B3 : Bx} (h : f σ B = some (o, B₁)) (ht : isT B₁ o = true) (h2 : g σ B₁ = some (e, B₂)) (hF : F B₂ [o, e] = some (c, B3)) : D.meth isT F f [g] σ B = some (c, B3) := by simp [D.meth, D.row, h, ht, h2, hF]
theorem Zmx {isT : Bx -> V -> Bool} {F : VF} {k k2 : DE} {o e e2 e3 c : V} {B₂ B3 B4 B5 : Bx} (h : f σ B = some (o, B₁)) (ht : isT B₁ o = true) (h2 : g σ B₁ = some (e, B₂)) (h3 : k σ B₂ = some (e2, B3)) (h4 : k2 σ B3 = some (e3, B4)) (hF : F B4 [o, e, e2, e3] = some (c, B5)) : D.meth isT F f [g, k, k2] σ B = some (c, B5) := by simp [D.meth, D.row, h, ht, h2, h3, h4, hF]
theorem Zc0 {op : Bx -> V -> V -> Option V} {o i k : DE} {n : Nat} {j d₂ d'3 d'4 : V} {B₂ B3 B4 : Bx} (ho : o σ B = some (.box n, B₁)) (hi : i σ B₁ = some (j, B₂)) (hg : Zf B₂ (.box n) j = some d₂) (hf : k σ B₂ = some (d'3, B3)) (hop : op B3 d₂ d'3 = some d'4)
  (hp : Zck B3 n j d'4 = some B4) : S.augput op o i k σ B = some (.next, σ, B4) := by simp [S.augput, ho, hi, hg, hf, hop, hp]
theorem Zi5 {o i k : DE} {n : Nat} {j d₁ : V} {B₂ B3 B4 : Bx} (hf : k σ B = some (d₁, B₁)) (ho : o σ B₁ = some (.box n, B₂)) (hi : i σ B₂ = some (j, B3)) (hp : Zck B3 n j d₁ = some B4) : S.put k o i σ B = some (.next, σ, B4) := by simp [S.put, ho, hi, hf, hp]
theorem ZoK {op : Bx -> V -> V -> Option V} {i : Nat} {d₁ d₂ d'3 : V} (h : σ[i]? = some (some d₁)) (hf : f σ B = some (d₂, B₁)) (hop : op B₁ d₁ d₂ = some d'3) : S.aug op i f σ B = some (.next, σ.set i (some d'3), B₁) := by simp [S.aug, h, hf, hop]
theorem YW {src : Src} (h : f σ B = some (d, B₁)) (hs : Zaa B₁ d = some src) : I.val f σ B = some (src, B₁) := by simp [I.val, h, hs]
theorem Zik {x : Str} {e : V} {B₂ : Bx} (h : f σ B = some (.str x, B₁)) (h2 : g σ B₁ = some (e, B₂)) : D.dict [(f, g)] σ B = some (.dict [x] [e], B₂) := by simp [D.dict, D.pairRow, h, h2, ZdB, Jr]
theorem ZgY {f2 g2 : DE} {x y : Str} {e e2 : V} {B₂ B3 B4 : Bx} (h : f σ B = some (.str x, B₁)) (h2 : g σ B₁ = some (e, B₂)) (h3 : f2 σ B₂ = some (.str y, B3)) (h4 : g2 σ B3 = some (e2, B4)) (hxy : x ≠ y) : D.dict [(f, g), (f2, g2)] σ B = some (.dict [x, y] [e, e2], B4) := by
 simp [D.dict, D.pairRow, h, h2, h3, h4, ZdB, Jr, Ne.symm hxy]
theorem YQ {e : V} {B₂ : Bx} (h : f σ B = some (d, B₁)) (h2 : g σ B₁ = some (e, B₂)) : D.t [f, g] σ B = some (.tup [d, e], B₂) := by simp [D.t, D.row, h, h2]
theorem Zj6 {k : DE} {e c : V} {B₂ B3 : Bx} (h : f σ B = some (d, B₁)) (h2 : g σ B₁ = some (e, B₂)) (h3 : k σ B₂ = some (c, B3)) : D.t [f, g, k] σ B = some (.tup [d, e, c], B3) := by simp [D.t, D.row, h, h2, h3]
theorem Zn {i : Nat} (h : σ[i]? = some (some d)) : D.v i σ B = some (d, B) := by simp [D.v, h]
end
noncomputable def Zbj (f : DS) (σ : St) (B : Bx) (d : V) (B' : Bx) : Prop := ∃ σ₁, f σ B = some (.ret d, σ₁, B')
section
variable {a b x y : DS} {t : DT} {f : DE} {σ σ₁ : St} {B B₁ B' : Bx} {d : V}
theorem Zi (h : a σ B = some (.next, σ₁, B₁)) (k : Zbj b σ₁ B₁ d B') : Zbj (S.q a b) σ B d B' := let ⟨τ, e⟩ := k; ⟨τ, by rw [ZU h, e]⟩
theorem Jz (h : Zbj a σ B d B') : Zbj (S.q a b) σ B d B' := let ⟨τ, e⟩ := h; ⟨τ, ZdL e⟩
theorem Yq (h : f σ B = some (d, B')) : Zbj (S.r f) σ B d B' := ⟨_, Zc1 h⟩
theorem Zgi (h : t σ B = some (true, B₁)) (k : Zbj x σ B₁ d B') : Zbj (S.ite t x y) σ B d B' := let ⟨τ, e⟩ := k; ⟨τ, by rw [JU h, e]⟩
theorem Zny (h : t σ B = some (false, B₁)) (k : Zbj y σ B₁ d B') : Zbj (S.ite t x y) σ B d B' := let ⟨τ, e⟩ := k; ⟨τ, by rw [Xv h, e]⟩
end
theorem Jc {f : DS} {k : K} {ps : List Str} {fn : Bx -> List V -> Option V} (h : ∀ B ds d, fn B ds = some d -> ds.length = ps.length /\ ∃ B₁ d'0 m, Zbj f (JS k ps ds) B d'0 (B ++ B₁) /\ frz B.length (B ++ B₁) m d'0 = some d) : Runs f k ps (Y3 fn) :=
 ⟨fun B ds d B'' hF => by
  obtain ⟨h1, rfl⟩ := Yt hF;obtain ⟨hl, B₁, d'0, m, ⟨σ₁, e⟩, hz⟩ := h _ _ _ h1;exact ⟨hl, d'0, σ₁, _, m, e, hz, ZiU⟩⟩
noncomputable def Cap : Nat := 16777216
theorem Yd {n : Nat} (h : n <= Cap) : Zu n = true := decide_eq_true h
theorem Zrg {step : V -> St -> Bx -> V -> Option ZaA} {src : Src} {B : Bx} {σ : St} {acc : V} {n : Nat} (h : src.at B = some none) : cl step (n + 1) src σ B acc = some (σ, B, acc) := by
 unfold cl;rw [h]
theorem ZjC {step : V -> St -> Bx -> V -> Option ZaA} {src : Src} {B B' : Bx} {σ σ' : St} {acc acc' x : V} {n : Nat} (h : src.at B = some (some x)) (hs : step x σ B acc = some (σ', B', acc')) : cl step (n + 1) src σ B acc = cl step n src.adv σ' B' acc' := by
 show (match src.at B with | none => none | some none => some (σ, B, acc) | some (some x) => match step x σ B acc with | some (σ', B', acc') => cl step n src.adv σ' B' acc' | none => none) = _;rw [h];show (match step x σ B acc with | some (σ', B', acc') => cl step n src.adv σ' B' acc' | none => none) = _;rw [hs]
theorem ZnV {S : Xu} {inner : St -> Bx -> V -> Option ZaA} {x : V} {σ σ₁ : St} {B : Bx} {acc : V} {b : Bool} (h1 : S.tgt x σ = some σ₁) (h2 : S.ifs σ₁ B = some (b, B)) : JL S inner x σ B acc = if b then inner σ₁ B acc else some (σ₁, B, acc) := by
 unfold JL;rw [h1];show (match S.ifs σ₁ B with | none => none | some (false, B₁) => some (σ₁, B₁, acc) | some (true, B₁) => inner σ₁ B₁ acc) = _;rw [h2]
 cases b <;> rfl
noncomputable def ZkX (B : Bx) (src : Src) (xs : List V) : Prop := match src with
 | .seq ys => ys = xs
 | .box n i => ∃ ys, B[n]? = some (.list ys) /\ ys.drop i = xs
theorem ZkX.at {B : Bx} {src : Src} {xs : List V} (h : ZkX B src xs) : src.at B = some xs.head? /\ ZkX B src.adv xs.tail := by
 cases src with
 | seq ys => rw [show ys = xs from h]; exact ⟨rfl, rfl⟩
 | box n i =>
  refine Zg h fun ys h1 h2 => ⟨?_, ys, h1, by rw [<- List.tail_drop, h2]⟩;show (match B[n]? with | some (.list ys) => some ys[i]? | _ => none) = _;rw [h1, <- h2, List.head?_drop]
theorem Zht {S : Xu} {inner : St -> Bx -> V -> Option ZaA} {B : Bx} (I : St -> Prop) (b : V -> Bool) (g : V -> List V) :
  ∀ (xs : List V) (src : Src), ZkX B src xs -> (∀ x ∈ xs, ∀ σ, I σ -> ∃ σ₁, S.tgt x σ = some σ₁ /\ S.ifs σ₁ B = some (b x, B) /\ (b x = false -> I σ₁) /\
    (b x = true -> ∀ acc : List V, acc.length + (g x).length <= Cap -> ∃ σ2, I σ2 /\ inner σ₁ B (.list acc) = some (σ2, B, .list (acc ++ g x)))) ->
   ∀ (acc : List V) (σ : St) (n : Nat), I σ -> xs.length < n -> acc.length + (xs.flatMap fun x => if b x then g x else []).length <= Cap ->
   ∃ σ', I σ' /\ cl (JL S inner) n src σ B (.list acc) = some (σ', B, .list (acc ++ xs.flatMap fun x => if b x then g x else [])) := by
 intro xs
 induction xs with
 | nil =>
  intro src hs _ acc σ n hI hn _
  cases n with
  | zero => cases hn
  | succ n => exact ⟨σ, hI, by rw [Zrg hs.at.1, List.flatMap_nil, List.append_nil]⟩
 | cons x xs ih =>
  intro src hs h acc σ n hI hn hc
  cases n with
  | zero => cases hn
  | succ n =>
   have hxs := ih src.adv hs.at.2 fun y hy => h y (List.mem_cons_of_mem _ hy);have hn := Nat.lt_of_succ_lt_succ hn;refine Zbf (h x (.head _) σ hI) fun σ₁ h1 h2 h3 h4 => ?_;rw [List.flatMap_cons] at hc ⊢;have hst := ZnV (inner := inner) (acc := .list acc) h1 h2;clear h ih h1 h2
   cases hb : b x with
   | false =>
    rw [hb] at hst hc;refine Zg (hxs acc σ₁ n (h3 hb) hn hc) fun σ' h5 h6 => ⟨σ', h5, ?_⟩;rw [ZjC hs.at.1 hst, h6]; rfl
   | true =>
    rw [hb] at hst hc;rw [if_pos rfl, List.length_append, <- Nat.add_assoc] at hc;refine Zg (h4 hb acc (Nat.le_trans (Nat.le_add_right _ _) hc)) fun σ2 h5 h6 => ?_;rw [if_pos rfl, h6] at hst;refine Zg (hxs (acc ++ g x) σ2 n h5 hn (by rw [List.length_append]; exact hc)) fun σ' h7 h8 => ⟨σ', h7, ?_⟩;rw [ZjC hs.at.1 hst, h8, if_pos rfl, List.append_assoc]
theorem ZdT {S : Xu} {inner : St -> Bx -> V -> Option ZaA} {B : Bx} (I : St -> Prop) (b : V -> Bool) (g : V -> List V) (xs : List V) (h : ∀ x ∈ xs, ∀ σ, I σ -> ∃ σ₁, S.tgt x σ = some σ₁ /\ S.ifs σ₁ B = some (b x, B) /\ (b x = false -> I σ₁) /\
    (b x = true -> ∀ acc : List V, acc.length + (g x).length <= Cap -> ∃ σ2, I σ2 /\ inner σ₁ B (.list acc) = some (σ2, B, .list (acc ++ g x))))
   (acc : List V) (σ : St) (n : Nat) (hI : I σ) (hn : xs.length < n) (hc : acc.length + (xs.flatMap fun x => if b x then g x else []).length <= Cap) :
   ∃ σ', I σ' /\ cl (JL S inner) n (.seq xs) σ B (.list acc) = some (σ', B, .list (acc ++ xs.flatMap fun x => if b x then g x else [])) := Zht I b g xs (.seq xs) (show ZkX B (.seq xs) xs from rfl) h acc σ n hI hn hc
theorem Zoc {f : DE} {σ : St} {B B' : Bx} {d : V} {acc : List V} (h : f σ B = some (d, B')) (hc : acc.length <= Cap) : emL f σ B (.list acc) = some (B', .list (acc ++ [d])) := by
 show (f σ B).bind _ = _;rw [h];exact if_pos (Yd hc)
theorem Zma {f g : DE} {σ : St} {B B₁ B₂ : Bx} {x : Str} {d : V} {ks : List Str} {vs : List V} (h : f σ B = some (.str x, B₁)) (h2 : g σ B₁ = some (d, B₂)) (hc : Zu ks.length = true) :
  cgo (emD f g) [] σ B (.dict ks vs) = some (σ, B₂, .dict (Jr ks vs x d).1 (Jr ks vs x d).2) := by
 show ((f σ B).bind _).map _ = _;rw [h];show ((g σ B₁).bind _).map _ = _;rw [h2];exact congrArg (Option.map _) (if_pos hc)
theorem ZdX {f : DE} {σ : St} {B B' : Bx} {d : V} {acc : List V} (h : f σ B = some (d, B')) (hc : acc.length <= Cap) : cgo (emL f) [] σ B (.list acc) = some (σ, B', .list (acc ++ [d])) := by
 simp only [cgo, Zoc h hc, Option.map_some]
theorem Zac {f : DE} {it : DI} {ifs : DT} {tp : Bool} {σ : St} {B B₁ : Bx} {xs : List V} (b : V -> Bool) (e : V -> V) (hit : it σ B = some (.seq xs, B₁))
  (h : ∀ x ∈ xs, ifs (none :: some x :: σ) B₁ = some (b x, B₁) /\ (b x = true -> f (none :: some x :: σ) B₁ = some (e x, B₁))) (hl : xs.length <= Cap) :
  Zy 2 (emL f) { it := it, tp := tp, tgt := fun d σ => some (σ.set 1 (some d)), ifs := ifs } [] (.list []) σ B = some (.list ((xs.filter b).map e), B₁) := by
 have key : xs.flatMap (fun x => if b x then [e x] else []) = (xs.filter b).map e := by
  clear h hit hl
  induction xs with
  | nil => rfl
  | cons x xs ih => cases hb : b x <;> simp [hb, ih]
 obtain ⟨σ', _, h2⟩ := ZdT (S := { it := it, tp := tp, tgt := fun d σ => some (σ.set 1 (some d)), ifs := ifs }) (inner := cgo (emL f) []) (B := B₁) (fun τ => ∃ y, τ = none :: y :: σ) b (fun x => [e x]) xs
  (fun x hx τ ⟨y, hy⟩ => by
   subst hy;refine ⟨none :: some x :: σ, rfl, (h x hx).1, fun _ => ⟨_, rfl⟩, fun hb acc hc => ⟨_, ⟨_, rfl⟩, ZdX ((h x hx).2 hb) (by simp at hc; omega)⟩⟩)
  [] (none :: none :: σ) (xs.length + 1) ⟨_, rfl⟩ (Nat.lt_succ_self _) (by
   rw [key]; simp only [List.length_nil, List.length_map]; have := List.length_filter_le b xs; omega)
 unfold Zy;simp only [hit, Src.fuel];rw [show List.replicate 2 (none : Option V) ++ σ = none :: none :: σ from rfl, h2, key];simp
theorem Ztl {f : DE} {it : DI} {ifs : DT} {tp : Bool} {σ : St} {B B₁ : Bx} {xs : List V} (b : V -> Bool) (e : V -> V) (hit : it σ B = some (.seq xs, B₁))
  (h : ∀ x ∈ xs, ∃ u v, Zar x = some [u, v] /\ ifs (none :: some u :: some v :: σ) B₁ = some (b x, B₁) /\ (b x = true -> f (none :: some u :: some v :: σ) B₁ = some (e x, B₁))) (hl : xs.length <= Cap) :
  Zy 3 (emL f) { it := it, tp := tp, tgt := S.parts [1, 2], ifs := ifs } [] (.list []) σ B = some (.list ((xs.filter b).map e), B₁) := by
 have key : xs.flatMap (fun x => if b x then [e x] else []) = (xs.filter b).map e := by
  clear h hit hl
  induction xs with
  | nil => rfl
  | cons x xs ih => cases hb : b x <;> simp [hb, ih]
 obtain ⟨σ', _, h2⟩ := ZdT (S := { it := it, tp := tp, tgt := S.parts [1, 2], ifs := ifs }) (inner := cgo (emL f) []) (B := B₁) (fun τ => ∃ y z, τ = none :: y :: z :: σ) b (fun x => [e x]) xs
  (fun x hx τ ⟨y, z, hy⟩ => by
   subst hy;refine YH (h x hx) fun u v h1 h2 h3 => ?_;refine ⟨none :: some u :: some v :: σ, by simp [S.parts, h1, S.sets], h2, fun _ => ⟨_, _, rfl⟩, fun hb acc hc => ⟨_, ⟨_, _, rfl⟩, ZdX (h3 hb) (by simp at hc; omega)⟩⟩)
  [] (none :: none :: none :: σ) (xs.length + 1) ⟨_, _, rfl⟩ (Nat.lt_succ_self _) (by
   rw [key]; simp only [List.length_nil, List.length_map]; have := List.length_filter_le b xs; omega)
 unfold Zy;simp only [hit, Src.fuel];rw [show List.replicate 3 (none : Option V) ++ σ = none :: none :: none :: σ from rfl, h2, key];simp
theorem ZrY {f : DE} {it it2 : DI} {ifs ifs2 : DT} {tp tp2 : Bool} {σ : St} {B B₁ : Bx} {xs : List V} (ys : V -> List V) (e : V -> V -> V) (hit : it σ B = some (.seq xs, B₁))
  (h : ∀ x ∈ xs, ifs (none :: some x :: none :: σ) B₁ = some (true, B₁) /\ (∀ z, ifs (none :: some x :: z :: σ) B₁ = some (true, B₁) /\ it2 (none :: some x :: z :: σ) B₁ = some (.seq (ys x), B₁)) /\
   ∀ y ∈ ys x, ifs2 (none :: some x :: some y :: σ) B₁ = some (true, B₁) /\ f (none :: some x :: some y :: σ) B₁ = some (e x y, B₁)) (hl : (xs.flatMap ys).length <= Cap) :
  Zy 3 (emL f) { it := it, tp := tp, tgt := fun d σ => some (σ.set 1 (some d)), ifs := ifs } [{ it := it2, tp := tp2, tgt := fun d σ => some (σ.set 2 (some d)), ifs := ifs2 }] (.list []) σ B =
   some (.list (xs.flatMap fun x => (ys x).map (e x)), B₁) := by
 obtain ⟨σ', _, h2⟩ := ZdT (S := { it := it, tp := tp, tgt := fun d σ => some (σ.set 1 (some d)), ifs := ifs }) (inner := cgo (emL f) [{ it := it2, tp := tp2, tgt := fun d σ => some (σ.set 2 (some d)), ifs := ifs2 }]) (B := B₁)
  (fun τ => ∃ y z, τ = none :: y :: z :: σ) (fun _ => true) (fun x => (ys x).map (e x)) xs
  (fun x hx τ ⟨y, z, hy⟩ => by
   subst hy;refine Xx (h x hx) fun h1 h2 h3 => ?_;refine ⟨none :: some x :: z :: σ, rfl, (h2 z).1, fun h => (nomatch h), fun _ acc hc => ?_⟩
   have key : (ys x).flatMap (fun y => if (true : Bool) = true then [e x y] else []) = (ys x).map (e x) := by
    simp only [if_true]
    induction ys x with
    | nil => rfl
    | cons a l ih => simp [ih]
   obtain ⟨τ', ⟨z', hz'⟩, hcl⟩ := ZdT (S := { it := it2, tp := tp2, tgt := fun d σ => some (σ.set 2 (some d)), ifs := ifs2 }) (inner := cgo (emL f) []) (B := B₁) (fun τ => ∃ z, τ = none :: some x :: z :: σ) (fun _ => true) (fun y => [e x y]) (ys x)
    (fun y hy τ ⟨z, hz⟩ => by
     subst hz;exact ⟨none :: some x :: some y :: σ, rfl, (h3 y hy).1, fun h => (nomatch h), fun _ acc hc => ⟨_, ⟨_, rfl⟩, ZdX (h3 y hy).2 (by simp at hc; omega)⟩⟩)
    acc (none :: some x :: z :: σ) ((ys x).length + 1) ⟨_, rfl⟩ (Nat.lt_succ_self _) (by rw [key]; exact hc)
   refine ⟨τ', ⟨_, _, hz'⟩, ?_⟩;simp only [cgo, (h2 z).2, Src.fuel];rw [show (JL { it := it2, tp := tp2, tgt := fun d σ => some (σ.set 2 (some d)), ifs := ifs2 } fun σ B acc => (emL f σ B acc).map fun r => (σ, r)) = JL { it := it2, tp := tp2, tgt := fun d σ => some (σ.set 2 (some d)), ifs := ifs2 } (cgo (emL f) []) from rfl, hcl, key])
  [] (none :: none :: none :: σ) (xs.length + 1) ⟨_, _, rfl⟩ (Nat.lt_succ_self _) (by
   simp only [if_true, List.length_nil, Nat.zero_add];rw [List.length_flatMap] at hl ⊢
   simpa using hl)
 unfold Zy;simp only [hit, Src.fuel];rw [show List.replicate 3 (none : Option V) ++ σ = none :: none :: none :: σ from rfl, h2];simp
theorem Zew {ks : List Str} {vs : List V} {k : Str} {d : V} (h : k ∉ ks) : Jr ks vs k d = (ks ++ [k], vs ++ [d]) := by
 unfold Jr; rw [if_neg (by simpa using h)]
theorem ZmJ {ks : List Str} {vs : List V} {k : Str} {d : V} (h : k ∈ ks) : Jr ks vs k d = (ks, vs.set (ks.idxOf k) d) := by
 unfold Jr; rw [if_pos (by simpa using h)]
theorem ZcB {prog : Program} {w : World} {A : Around} {E : Value -> Shared -> Prop} {s : Shared} {a b : Int} {t u : Tok} {Q : Value -> Shared -> Prop} (h : Q (.bool (decide (a > b))) s) : wpAny (model prog w) A (richCompare .Gt (.int a t) (.int b u)) Q E s :=
 (gt_int h : wpAny (model prog w) A (compareOp .Gt (.int a t) (.int b u)) Q E s)
set_option maxHeartbeats 2000000 in
theorem Zlb (l b : Addr) (x y p q : Int) (t1 t2 t3 t4 : Tok) (n n2 : Nat) :
  Meets (Builtin.«tuple.__gt__» ⟨[.ref l, .ref b], []⟩)
   (fun A R s => s.heap.get? l = some { cls := .type "tuple", dict := none, data := .seq #[.int x t1, .int y t2] n, slots := #[] } /\ s.heap.get? b = some { cls := .type "tuple", dict := none, data := .seq #[.int p t3, .int q t4] n2, slots := #[] } /\
    R (.ok (.ret (.bool (if x = p then decide (y > q) else decide (x > p))))) s) :=
 .of_wp fun prog w A R s h => by
  obtain ⟨hp, g, d, tk, os⟩ := s; obtain ⟨hl, hb, h⟩ := h;have f2 := AutoSeq1.sub_tuple_tuple
  by_cases hx : x = p
  ·subst hx
   rw [if_pos rfl] at h
   by_cases hy : y = q
   ·subst hy
    have e : decide (y > y) = false := by simp
    rw [e] at h
    wp_walk using wpAny_loadPart' hl, wpAny_loadPart' hb, wpAny_eqBool_int, ZcB
    all_goals (try rw [beq_self_eq_true])
    wp_walk using wpAny_loadPart' hl, wpAny_loadPart' hb, wpAny_eqBool_int, ZcB
    exact ⟨_, rfl, h⟩
   ·have e : (y == q) = false := by simpa using hy
    wp_walk using wpAny_loadPart' hl, wpAny_loadPart' hb, wpAny_eqBool_int, ZcB
    all_goals (try rw [beq_self_eq_true])
    wp_walk using wpAny_loadPart' hl, wpAny_loadPart' hb, wpAny_eqBool_int, ZcB
    exact ⟨_, rfl, h⟩
  ·rw [if_neg hx] at h
   have e : (x == p) = false := by simpa using hx
   wp_walk using wpAny_loadPart' hl, wpAny_loadPart' hb, wpAny_eqBool_int, ZcB
   exact ⟨_, rfl, h⟩
theorem ZrA {G : GC} {H : Nat} {B : Bx} {x y p q : Int} : Op2 G H B (compareOp .Gt) (.tup [.int x, .int y]) (.tup [.int p, .int q]) (.bool (if x = p then decide (y > q) else decide (x > p))) := fun C σ A β s v w O hA I rv rw E => by
 refine YD (XV rv) fun a vs n z_3 e q1 => ?_;subst z_3;refine YD (XV rw) fun a2 ws n2 z_3 e2 q2 => ?_;subst z_3;refine YH (YE q1) fun v1 v2 h1 r1 r2 => ?_;refine YH (YE q2) fun w1 w2 h2 r3 r4 => ?_;obtain ⟨t1, rfl⟩ := Zo r1;obtain ⟨t2, rfl⟩ := Zo r2;obtain ⟨t3, rfl⟩ := Zo r3;obtain ⟨t4, rfl⟩ := Zo r4;have e : s.heap.get? a = some (YG #[.int x t1, .int y t2] n) := by rw [e]; congr 2; apply Array.ext'; exact h1
 have e2 : s.heap.get? a2 = some (YG #[.int p t3, .int q t4] n2) := by rw [e2]; congr 2; apply Array.ext'; exact h2
 exact richCompare_meets_room (op := .Gt) ⟨_, e, rfl⟩ ⟨_, e2, rfl⟩ PySem.F.slot_tuple_gt PySem.F.entry_tuple_gt (PySem.F.args_tuple_gt_2 _ _) (Zlb a a2 x y p q t1 t2 t3 t4 n n2) ⟨e, e2, by simp, Zs.ofExt I (Ext.refl s) (.bool _)⟩ (by have := hA.room3; lia)
noncomputable def ZmA (_ : Bx) (d e : V) : Option Bool := Zmu (fun a b => decide (a > b)) d e
theorem Zqq {G : GC} {H : Nat} (B d₁ d₂ b) (h : ZmA B d₁ d₂ = some b) : Op2 G H B (compareOp .Gt) d₁ d₂ (.bool b) := Zfb (P := fun d e b => Op2 G H B (compareOp .Gt) d e (.bool b)) h fun _ _ _ _ => ZrA
open PySem PySem.Calls PyProof.Rows PySem.SeqAt
section
variable {prog : Program} {w : World} {A : Around} {E : Value -> Shared -> Prop} {s : Shared}
theorem ZgE {d : Addr} {o : Obj} {es : Array DictEntry} {ep : Nat} {k : Str} {t : Tok} {hs : Int} {i : Nat} {Q : Option Nat -> Shared -> Prop} (ho : s.heap.get? d = some o) (hd : o.data = .dict es ep)
  (hall : (es.all fun e => isExactStrKey e.key) = true) (hi : (es.findIdx? fun e => e.key.isStr k) = some i) (h : Q (some i) s) : wpAny (model prog w) A (dictFind d (.str k t) hs) Q E s := by
 unfold dictFind
 try with_reducible refine wpAny_holding ?_
 refine wpAny_bind (wpAny_dictEntries ho hd ?_);dsimp only;rw [if_pos hall];unfold foundByValue;rw [hi];refine Zg (Array.findIdx?_eq_some_iff_getElem.mp hi) fun hlt he _ => ?_;simp only [Array.getElem?_eq_getElem hlt]
 obtain ⟨u, hu⟩ : ∃ u, es[i].key = .str k u := by
  cases hk : es[i].key <;> rw [hk] at he <;> simp [Value.isStr] at he
  subst he; exact ⟨_, rfl⟩
 rw [hu];refine wpAny_bind (wpAny_dictEpoch ho hd (wpAny_bind (wpAny_eqBool_str (wpAny_bind (wpAny_dictEpoch ho hd ?_)))));show wpAny _ _ (if (ep != ep) = true then _ else _) _ E _;rw [if_neg (by simp), decide_eq_true rfl];exact wpAny_bind (wpAny_rule (wpAny_pure h))
end
section
variable {P : Program} {W : World}
theorem ZbQ {es : List DictEntry} {kvs : List (Str × Value)} (h : Pairs (PySem.strKind P W) es kvs) : (es.all fun e => isExactStrKey e.key) = true /\ ∀ (i : Nat) (k : Str) (v : Value), kvs[i]? = some (k, v) -> ∃ (hs : Int) (t : Tok), es[i]? = some (DictEntry.mk hs (.str k t) v) := by
 induction h with
 | nil => exact ⟨rfl, fun i k v h => by simp at h⟩
 | @cons e kv es kvs h1 h2 _ ih =>
  obtain ⟨t, ht⟩ := Zd0 (k := kv.1) (key := e.key) h1;refine ⟨by rw [List.all_cons, ih.1, ht]; rfl, fun i k v hh => ?_⟩
  cases i with
  | zero =>
   have : kv = (k, v) := Option.some.inj hh;subst this;exact ⟨e.hash, t, by rw [List.getElem?_cons_zero]; cases e; simp only at ht h2; rw [ht, h2]⟩
  | succ i => exact ih.2 i k v hh
theorem ZkS {es : List DictEntry} {kvs : List (Str × Value)} (h : Pairs (PySem.strKind P W) es kvs) (hn : (kvs.map (·.1)).Nodup) {i : Nat} {k : Str} {v : Value} (hi : kvs[i]? = some (k, v)) :
  (es.findIdx? fun e => e.key.isStr k) = some i := by
 obtain ⟨hlt, hk⟩ := List.getElem?_eq_some_iff.mp hi;have hl := h.length;have pk := (ZbQ h).2;refine List.findIdx?_eq_some_iff_getElem.mpr ⟨by lia, ?_, fun j hj => ?_⟩
 ·refine Zbz (pk i k v hi) fun hs t e => ?_
  rw [List.getElem?_eq_getElem (by lia)] at e;rw [Option.some.inj e]; simp [Value.isStr]
 ·have hj' : j < kvs.length := by lia
  refine Zbz (pk j kvs[j].1 kvs[j].2 (List.getElem?_eq_getElem hj')) fun hs t e => ?_;rw [List.getElem?_eq_getElem (by lia)] at e;rw [Option.some.inj e];intro hc;have hc : kvs[j].1 = k := by simpa [Value.isStr] using hc
  have := (List.pairwise_iff_getElem.mp hn) j i (by simpa using hj') (by simpa using hlt) hj;apply this;simp [hc, hk]
theorem ZhS (es : Array DictEntry) (p : DictEntry -> Bool) : es.findIdx? p = es.toList.findIdx? p := by
 obtain ⟨l⟩ := es;simp
theorem ZmL {A : Around} {s : Shared} {a b : Addr} {ka kb : List (Str × Value)} (ha : (a == sysModules) = false) (hb : (b == sysModules) = false) (da : s.heap.DictOf (PySem.strKind P W) a ka) (db : s.heap.DictOf (PySem.strKind P W) b kb)
  (hk : ka.map (·.1) = kb.map (·.1)) (hu : A.units < cLine) (hv : ∀ (i : Nat) v y, (ka.map (·.2))[i]? = some v -> (kb.map (·.2))[i]? = some y -> EqAt A.in1 s v y true) : RcAt A s (.ref a) (.ref b) true := fun prog w E Q h => by
 have tb := db.typeIs;refine wpAny_richCompare_same_room (op := .Eq) da.typeIs tb PySem.F.slot_dict_eq (wpAny_call_entry PySem.F.slot_dict_eq da.typeIs PySem.F.entry_dict_eq ?_ (PySem.F.args_dict_eq_2 _ _)) hu;show wpAny _ _ (Builtin.Dict.dictSlotArgs "__eq__" ⟨[.ref a, .ref b], []⟩ >>= _) _ _ s;refine wpAny_bind ?_;unfold Builtin.Dict.dictSlotArgs;refine wpAny_bind (wpAny_notOrdered_dict da.typeIs ?_);show wpAny _ _ (pure (Value.ref a, Value.ref b)) _ _ s;refine wpAny_pure ?_;refine wpAny_bind (wpAny_isInstance (T := "dict") tb PySem.F.sub_dict_dict ?_);simp only [Bool.not_true, Bool.false_eq_true, if_false];refine wpAny_bind (wpAny_pure (wpAny_bind (wpAny_pure ?_)));refine wpAny_bind ?_;refine ZmN da fun oa es ep hoa _ hda hka hpa hna => ?_;clear da;refine ZmN db fun ob es' ep' hob _ hdb hkb hpb hnb => ?_;clear db;have hla : ka.length = es.size := by rw [<- hpa.length]; exact Array.length_toList
 have hlb : kb.length = es'.size := by rw [<- hpb.length]; exact Array.length_toList
 have hlk : ka.length = kb.length := by have := congrArg List.length hk; simpa using this
 have hsz : es.size = es'.size := by lia
 have hall : (es'.all fun e => isExactStrKey e.key) = true := by
  have := (ZbQ hpb).1;rw [<- Array.all_toList]; exact this
 unfold Builtin.Dict.samePairs Builtin.Dict.showsAll;rw [if_neg (show ¬ (a == sysModules) = true by rw [ha]; exact Bool.false_ne_true), if_neg (show ¬ (b == sysModules) = true by rw [hb]; exact Bool.false_ne_true)];refine wpAny_bind (wpAny_pure (wpAny_bind (wpAny_pure ?_)));refine wpAny_bind (wpAny_dictEntries hoa hda ?_);dsimp only;refine wpAny_bind (wpAny_dictEntries hob hdb ?_);rw [if_neg (by rw [hsz]; simp)];refine wpAny_bind (wpAny_dictEpoch hoa hda ?_);refine wpAny_bind ?_;rw [Std.Legacy.Range.forIn_eq_forIn_range'];simp only [Std.Legacy.Range.size, Nat.sub_zero, Nat.add_sub_cancel, Nat.div_one];refine wpAny_forIn_list _ (fun rest q s' => s' = s /\ q = (none, ()) /\ ∃ i, rest = List.range' i (es.size - i) /\ i <= es.size) _ ?_ ?_ _ _ ⟨rfl, rfl, 0, by simp, Nat.zero_le _⟩
 ·rintro x rest q s' ⟨rfl, rfl, i, hr, hi⟩
  have hlt : i < es.size := by
   rcases Nat.lt_or_ge i es.size with h | h
   ·exact h
   ·rw [Nat.sub_eq_zero_of_le h] at hr; simp at hr
  obtain ⟨rfl, hrest⟩ : x = i /\ rest = List.range' (i + 1) (es.size - (i + 1)) := by
   have e : es.size - i = (es.size - (i + 1)) + 1 := by lia
   rw [e, List.range'_succ] at hr
   injection hr with h1 h2
   exact ⟨h1, h2⟩
  have hax : x < ka.length := by lia
  have hbx : x < kb.length := by lia
  have ekk : ka[x].1 = kb[x].1 := by
   have := congrArg (·[x]?) hk
   simpa [List.getElem?_eq_getElem hax, List.getElem?_eq_getElem hbx] using this
  refine Zbz ((ZbQ hpa).2 x ka[x].1 ka[x].2 (List.getElem?_eq_getElem hax)) fun hs t e1 => ?_;refine Zbz ((ZbQ hpb).2 x kb[x].1 kb[x].2 (List.getElem?_eq_getElem hbx)) fun hs' t' e2 => ?_;have hf := ZkS hpb hnb (i := x) (k := kb[x].1) (v := kb[x].2) (List.getElem?_eq_getElem hbx);rw [Array.getElem?_toList] at e1 e2
  have hf' : (es'.findIdx? fun e => e.key.isStr kb[x].1) = some x := by
   rw [<- hf, ZhS]
  refine wpAny_bind (wpAny_dictEntries hoa hda ?_);rw [e1];show wpAny _ _ (holding [_, _] _ >>= _) _ _ _;refine wpAny_bind (wpAny_holding (wpAny_bind (ZgE hob hdb hall (by rw [ekk]; exact hf') ?_)));refine wpAny_bind (wpAny_dictEntries hob hdb ?_);rw [e2];refine wpAny_holding (hv x ka[x].2 kb[x].2 (by rw [List.getElem?_map, List.getElem?_eq_getElem hax]; rfl) (by rw [List.getElem?_map, List.getElem?_eq_getElem hbx]; rfl) prog w _ _ ?_);show wpAny _ _ (if (!true) = true then _ else _) _ _ _;rw [if_neg (by decide)];refine wpAny_bind (wpAny_dictEpoch hoa hda ?_);rw [if_neg (by simp)];exact wpAny_pure ⟨rfl, rfl, x + 1, hrest, hlt⟩
 ·rintro q s' ⟨rfl, rfl, i, hr, hi⟩
  exact wpAny_pure (wpAny_pure ⟨_, rfl, (fun x => nomatch x), h⟩)
end
theorem Zdr : ∀ ns : List Int, YR (ns.map V.int) = some ns
 | [] => rfl
 | n :: ns => by simp [YR, Zdr ns]
noncomputable def dv (p : List Str × List Int) : V := .dict p.1 (p.2.map V.int)
noncomputable def ZjM (d : V) : Sb fun (p : List Str × List Int) => d = dv p := match d with
 | .dict ks vs => ⟨(YR vs).map fun ns => (ks, ns), fun r h => Zp h fun ns h1 h2 => h2 ▸ (Xh h1) ▸ rfl⟩
 | _ => .no
noncomputable def Zek : List V -> Option (List (List Str × List Int))
 | [] => some []
 | d :: ds => (ZjM d).1.bind fun p => (Zek ds).map (p :: ·)
theorem Zfd : ∀ {ds : List V} {ps : List (List Str × List Int)}, Zek ds = some ps -> ds = ps.map dv
 | [], ps, h => by rw [<- Option.some.inj h]; rfl
 | d :: ds, ps, h => Z6 h fun p hp h => Zp h fun qs hq e => by rw [<- e, (ZjM d).2 p hp, Zfd hq]; rfl
theorem Zde : ∀ ps : List (List Str × List Int), Zek (ps.map dv) = some ps
 | [] => rfl
 | p :: ps => by
  have : (ZjM (dv p)).1 = some p := by show (YR (p.2.map V.int)).map _ = _; rw [Zdr]; rfl
  show (ZjM (dv p)).1.bind _ = _;rw [this];show (Zek (ps.map dv)).map _ = _;rw [Zde ps]; rfl
noncomputable def ZqH (d d' : V) : Sb fun (b : Bool) => b = false /\ ∃ ps : List (List Str × List Int), d = .list (ps.map dv) /\ d' = .list (ps.map dv) := match d, d' with
 | .list xs, .list ys => .bind (Zek xs) fun ps h1 => .bind (Zek ys) fun qs h2 => .ite (c := ps = qs) false fun e => ⟨rfl, ps, congrArg V.list (Zfd h1), congrArg V.list (e ▸ Zfd h2)⟩
 | _, _ => .no
noncomputable def Zk7 (_ : Bx) (d d' : V) : Option Bool := (ZqH d d').1
theorem Zp0 {B : Bx} (ps : List (List Str × List Int)) : Zk7 B (.list (ps.map dv)) (.list (ps.map dv)) = some false := by
 show (Sb.bind (Zek (ps.map dv)) _).1 = _;rw [Sb.bind_eq (Zde ps), Sb.bind_eq (Zde ps)];exact if_pos rfl
section
variable {G : GC} {av : Addr -> Prop} {β : List Addr} {s : Shared} {A : Around}
theorem ZsD (hu : A.in1.units < cLine) (hu' : A.units < cLine) {v v' : Value} {p : List Str × List Int} (r : Rep G av β s.heap v (dv p)) (r' : Rep G av β s.heap v' (dv p)) : EqAt A s v v' true := by
 by_cases hv : v = v'
 ·rw [hv]; exact EqAt.same _
 refine Zak r.sh fun a ka e x hs _ hk q => ?_;refine Zak r'.sh fun a' kb e' x' hs' _ hk' q' => ?_;rw [e, e'] at hv ⊢;refine EqAt.of_refs (fun z => hv (by rw [z])) (ZmL hs hs' x x' (hk.trans hk'.symm) hu' fun i v y h1 h2 => ?_);refine Zg (q.getV h1) fun d hd rd => ?_;refine Zg (q'.getV h2) fun d' hd' rd' => ?_;obtain rfl : d = d' := Option.some.inj (hd.symm.trans hd');rw [List.getElem?_map] at hd;refine Zp hd fun n _ e => ?_;rw [<- e] at rd rd';obtain ⟨t, rfl⟩ := Zo rd;obtain ⟨t', rfl⟩ := Zo rd';have := EqAt.int_int (A := A.in1) (s := s) n t n t'
 rwa [beq_self_eq_true] at this
end
theorem Zqk {G : GC} {H : Nat} : ∀ B d₁ d₂ b, Zk7 B d₁ d₂ = some b -> Op2 G H B (compareOp .NotEq) d₁ d₂ (.bool b) := fun B d₁ d₂ b h C σ A β s v w O hA I r'1 r'2 E => by
 obtain ⟨hb, ps, e1, e2⟩ := (ZqH d₁ d₂).2 b h;rw [e1] at r'1;rw [e2] at r'2;rw [hb];have hroom := hA.room3;have h0 : A.units < cLine := by lia
 have h1 : A.in1.units < cLine := by show A.units + 1 < cLine; lia
 have h2 : A.in1.in1.units < cLine := by show A.units + 1 + 1 < cLine; lia
 refine Xl r'1.sh fun a vs k s1 g1 _ q1 => ?_;refine Xl r'2.sh fun a' vs' k' s2 g2 _ q2 => ?_;rw [s1, s2];have n1 : vs.size = ps.length := by rw [<- Array.length_toList, q1.length, List.length_map]
 have n2 : vs'.size = ps.length := by rw [<- Array.length_toList, q2.length, List.length_map]
 have := RcNeAt.lists (A := A) (e := fun _ => true) (Rep.isList g1) (Rep.isList g2) (n1.trans n2.symm) h0 (fun j j1 j2 => by
  refine Zg (q1.getV (Array.getElem?_toList.trans (Array.getElem?_eq_getElem j1))) fun x hx rx => ?_;refine Zg (q2.getV (Array.getElem?_toList.trans (Array.getElem?_eq_getElem j2))) fun y hy ry => ?_;obtain rfl : x = y := Option.some.inj (hx.symm.trans hy);rw [List.getElem?_map] at hx;refine Zp hx fun p _ e => ?_;rw [<- e] at rx ry;exact ZsD h2 h1 rx ry)
 refine this _ _ _ _ ?_;have : (List.range vs.size).all (fun _ => true) = true := by simp
 rw [this];exact Zs.ofExt I (Ext.refl s) (.bool _)
open PySem PySem.Calls PyProof.Rows PySem.W
noncomputable def ZgL {α : Type} (lt : Nat -> Nat -> Bool) : KasT α -> α
 | .ret a => a
 | .ask i j k => ZgL lt (k (lt i j))
noncomputable def okT {α : Type} (n : Nat) : KasT α -> Bool
 | .ret _ => true
 | .ask i j k => i.blt n && j.blt n && !(Nat.beq i j) && okT n (k true) && okT n (k false)
theorem ZcW {α : Type} {cmp : Nat -> Nat -> (Bool -> Shared -> Prop) -> Shared -> Prop} {Q : α -> Shared -> Prop} {s : Shared} {n : Nat} {lt : Nat -> Nat -> Bool}
  (hc : ∀ i j, i < n -> j < n -> i ≠ j -> ∀ C : Bool -> Shared -> Prop, C (lt i j) s -> cmp i j C s) : ∀ T : KasT α, okT n T = true -> Q (ZgL lt T) s -> T.kasWp cmp Q s
 | .ret a, _, h => h
 | .ask i j k, ho, h => by
  simp only [okT, Bool.and_eq_true, Nat.blt_eq, Bool.not_eq_true'] at ho;obtain ⟨⟨⟨⟨h1, h2⟩, h3⟩, h4⟩, h5⟩ := ho;refine hc i j h1 h2 (fun e => by rw [e, Nat.beq_refl] at h3; cases h3) _ ?_
  cases hb : lt i j with
  | true => exact ZcW hc (k true) h4 (by unfold ZgL at h; rwa [hb] at h)
  | false => exact ZcW hc (k false) h5 (by unfold ZgL at h; rwa [hb] at h)
theorem Zj3 : okT 3 (kas_sort 3) = true := by kernel_rfl
noncomputable def Zka (a b : Str) : Bool := decide (a.cps.toList < b.cps.toList)
noncomputable def J9 (ks : List Str) : List Nat := (ZgL (fun i j => Zka (ks.getD i "") (ks.getD j "")) (kas_sort 3)).toList
noncomputable def Zh1 (ks : List Str) (ds : List V) : List V := (J9 ks).map fun i => ds.getD i .none
noncomputable def Zju (h : Heap) (L a : Addr) : List (Addr × Obj) := (List.range h.objs.size).filterMap fun b => if b = L \/ b = a then none else (h.get? b).map (b, ·)
theorem Zab {h : Heap} {L a b : Addr} {o : Obj} : (b, o) ∈ Zju h L a ↔ b ≠ L /\ b ≠ a /\ h.get? b = some o := by
 unfold Zju;rw [List.mem_filterMap]
 constructor
 ·rintro ⟨c, _, hc⟩
  split at hc
  ·cases hc
  ·rename_i hn
   refine Zp hc fun o' h1 h2 => ?_
   cases h2
   exact ⟨fun e => hn (.inl e), fun e => hn (.inr e), h1⟩
 ·rintro ⟨h1, h2, h3⟩
  refine ⟨b, List.mem_range.mpr (Heap.lt_size h3), ?_⟩;rw [if_neg (fun z => z.elim h1 h2), h3]; rfl
section
variable {prog : Program} {w : World} {A : Around} {E : Value -> Shared -> Prop} {s : Shared}
theorem Zhc {L a t0 t1 t2 : Addr} {m : Str -> Option Value} {n n0 n1 n2 : Nat} {k0 k1 k2 : Str} {u0 u1 u2 : Tok} {v0 v1 v2 : Value} {Q : Value -> Shared -> Prop} (hL : s.heap.Ns L m) (ha : s.heap.get? a = some (Z9 #[.ref t0, .ref t1, .ref t2] n)) (haL : a ≠ L)
  (g0 : s.heap.get? t0 = some (YG #[.str k0 u0, v0] n0)) (g1 : s.heap.get? t1 = some (YG #[.str k1 u1, v1] n1)) (g2 : s.heap.get? t2 = some (YG #[.str k2 u2, v2] n2)) (hn : [k0, k1, k2].Nodup) (htL : ∀ t ∈ [t0, t1, t2], t ≠ L)
  (h : ∀ h' c, (∀ b o, b ≠ L -> b ≠ a -> s.heap.get? b = some o -> h'.get? b = some o) -> h'.Ns L m -> h'.get? a = some (Z9 ((J9 [k0, k1, k2]).map fun i => [Value.ref t0, .ref t1, .ref t2].getD i .none).toArray c) -> Q .none { s with heap := h' }) :
  wpAny (model prog w) A (call (.builtin "list.sort") [.ref a]) Q E s := by
 have F : Fr {} L s.heap m := ⟨hL, fun b o e => by simp [Heap.get?] at e, Nat.zero_le _⟩
 have N : News {} L s.heap ((a, Z9 #[.ref t0, .ref t1, .ref t2] n) :: Zju s.heap L a) := fun p hp => by
  rcases List.mem_cons.mp hp with rfl | hp
  ·exact ⟨ha, haL, by simp [Heap.get?]⟩
  ·obtain ⟨b, o⟩ := p
   refine Xx (Zab.mp hp) fun h1 h2 h3 => ?_;exact ⟨h3, h1, by simp [Heap.get?]⟩
 have ne : ∀ {t : Addr} {o : Obj}, s.heap.get? t = some o -> o.cls = .type "tuple" -> t ≠ a := fun e hc z => by
  rw [z, ha] at e; rw [<- Option.some.inj e] at hc; exact absurd hc (by simp [Z9])
 refine kat_lsort (vs := [Value.ref t0, .ref t1, .ref t2]) F N (UpdF.head fun p hp => (Zab.mp hp).2.1) rfl (Nat.le_succ 2) (Nat.lt_of_sub_pos (by decide : 0 < 64 - 3)) fun e1 h' F' N' => ?_;have up : ∀ b o, b ≠ L -> b ≠ a -> s.heap.get? b = some o -> h'.get? b = some o := fun b o h1 h2 h3 => (N' (b, o) (List.mem_cons_of_mem _ (Zab.mpr ⟨h1, h2, h3⟩))).1;have f0 := up _ _ (htL t0 (by simp)) (ne g0 rfl) g0;have f1 := up _ _ (htL t1 (by simp)) (ne g1 rfl) g1;have f2 := up _ _ (htL t2 (by simp)) (ne g2 rfl) g2;refine kat_kind (fs := [.str k0 u0, .str k1 u1, .str k2 u2]) (T := .type "str") (.cons f0 rfl rfl rfl (.cons f1 rfl rfl rfl (.cons f2 rfl rfl rfl .nil))) (Nat.succ_pos 2) (fun v hv => ?_) (by decide) ?_
 ·rcases List.mem_cons.mp hv with rfl | hv
  ·exact .now
  ·rcases List.mem_cons.mp hv with rfl | hv
   ·exact .now
   ·rw [List.mem_singleton.mp hv]; exact .now
 refine ZcW (n := 3) (lt := fun i j => Zka ([k0, k1, k2].getD i "") ([k0, k1, k2].getD j "")) (fun i j hi hj hij C hC => ?_) _ Zj3 ?_
 ·have one : ∀ {x y : Addr} {p q : Str} {tp tq : Tok} {vp vq : Value} {np nq : Nat}, h'.get? x = some (YG #[.str p tp, vp] np) -> h'.get? y = some (YG #[.str q tq, vq] nq) -> p ≠ q -> C (Zka p q) { s with heap := h' } ->
    wpAny (model prog w) A.in1 (keyLt' (tuples' ((Value.type "str" : Value) != Value.type "tuple")) (.ref x) (.ref y)) C (fun _ _ => False) { s with heap := h' } := fun hx hy hpq hC => by
   refine kat_lt (s := { s with heap := h' }) hx rfl hy rfl (kat_cons (wpAny_eqBool_str ?_));rw [decide_eq_false hpq];exact kat_no (oneLt_str hC)
  have n01 : k0 ≠ k1 := fun e => by simp [e] at hn
  have n02 : k0 ≠ k2 := fun e => by simp [e] at hn
  have n12 : k1 ≠ k2 := fun e => by simp [e] at hn
  unfold kas_ask
  match i, j, hi, hj, hij with
  | 0, 1, _, _, _ => exact one f0 f1 n01 hC
  | 0, 2, _, _, _ => exact one f0 f2 n02 hC
  | 1, 0, _, _, _ => exact one f1 f0 n01.symm hC
  | 1, 2, _, _, _ => exact one f1 f2 n12 hC
  | 2, 0, _, _, _ => exact one f2 f0 n02.symm hC
  | 2, 1, _, _, _ => exact one f2 f1 n12.symm hC
  | 0, 0, _, _, z => exact absurd rfl z
  | 1, 1, _, _, z => exact absurd rfl z
  | 2, 2, _, _, z => exact absurd rfl z
  | n + 3, _, z, _, _ => exact absurd z (by lia)
  | 0, n + 3, _, z, _ => exact absurd z (by lia)
  | 1, n + 3, _, z, _ => exact absurd z (by lia)
  | 2, n + 3, _, z, _ => exact absurd z (by lia)
 ·refine KasFin.intro F' N' (UpdF.head fun p hp => (Zab.mp hp).2.1) fun h2 c F2 N2 => ?_
  exact h h2 c (fun b o h1 h2 h3 => (N2 (b, o) (List.mem_cons_of_mem _ (Zab.mpr ⟨h1, h2, h3⟩))).1) F2.ns (N2 _ (.head _)).1
end
open PySem PySem.Calls PyProof.Rows PySem.W
section
variable {G : GC} {C : Cx} {β : List Addr} {B : Bx} {σ : St} {s s' : Shared} {d : V} {ds : List V} {v : Value} {h h' : Heap} {av : Addr -> Prop} {k : K} {A : Around}
theorem ZlG {h : Heap} {a : Addr} {m m' : Str -> Option Value} (x : h.Ns a m) (y : h.Ns a m') : m = m' := by
 refine Xl x fun o es ep e1 e2 _ e3 => ?_;clear x;refine Xl y fun o' es' ep' f1 f2 _ f3 => ?_;clear y;rw [e1] at f1; cases f1;rw [e2] at f2; cases f2;exact funext fun n => (e3 n).symm.trans (f3 n)
theorem ZoD {vs : List Value} (r : Zb G av β h vs ds) (i : Nat) : Rep G av β h (vs.getD i .none) (ds.getD i .none) := by
 rcases r.both i with ⟨h1, h2⟩ | ⟨v, d, h1, h2, h3⟩
 ·rw [List.getD_eq_getElem?_getD, List.getD_eq_getElem?_getD, h1, h2]; exact .none
 ·rw [List.getD_eq_getElem?_getD, List.getD_eq_getElem?_getD, h1, h2]; exact h3
theorem Zfx {vs : List Value} (r : Zb G av β h vs ds) : ∀ is : List Nat, Zb G av β h (is.map fun i => vs.getD i .none) (is.map fun i => ds.getD i .none)
 | [] => .nil
 | i :: is => .cons (ZoD r i) (Zfx r is)
noncomputable def Ji (k : Str) (d : V) : V := .tup [.str k, d]
theorem ZgJ {v : Value} {k : Str} {d : V} (r : Rep G av β h v (Ji k d)) : ∃ t u x n, v = .ref t /\ h.get? t = some (YG #[.str k u, x] n) /\ ¬ av t := by
 refine Xl r.sh fun t vs n e e1 e2 q => ?_;refine YH (YE q) fun x y e3 r1 _ => ?_;obtain ⟨u, rfl⟩ := Z7 r1;exact ⟨t, u, y, n, e, by rw [e1]; congr 2; exact Array.ext' e3, e2⟩
theorem Zdw (O : Zv G C) (I : Inv G C β B σ s) {vs : List Value} {k0 k1 k2 : Str} {d0 d1 d2 : V} (r : Zb G (avB C.av β) β s.heap vs [Ji k0 d0, Ji k1 d1, Ji k2 d2]) (hn : [k0, k1, k2].Nodup) :
  Ok G.prog G.w A (newList vs >>= fun l => holding [l] (call (.builtin "list.sort") [l] []) >>= fun _ => ret l) s (fun fin s' => ∃ v, fin = .done (.ret v) /\ Zs G C β σ s (.list (Zh1 [k0, k1, k2] [Ji k0 d0, Ji k1 d1, Ji k2 d2])) B v s') := by
 refine YH (r.sh.2 _ _ rfl) fun w0 vs' e0 r0 rs => ?_;refine YH (rs.sh.2 _ _ rfl) fun w1 vs1 e1 r1 rs => ?_;refine YH (rs.sh.2 _ _ rfl) fun w2 vs2 e2 r2 rs => ?_;obtain rfl := rs.sh.1 rfl;subst e2 e1 e0;refine ZfQ (ZgJ r0) fun t0 u0 v0 n0 z_4 g0 a0 => ?_;subst z_4;refine ZfQ (ZgJ r1) fun t1 u1 v1 n1 z_4 g1 a1 => ?_;subst z_4;refine ZfQ (ZgJ r2) fun t2 u2 v2 n2 z_4 g2 a2 => ?_;subst z_4;clear r0 r1 r2 rs;obtain ⟨m, hm⟩ := I.ns;have hL : avB C.av β C.env.locals := .inl (O.muav _ O.muL);have hLs := hm.lt
 let o : Obj := Z9 #[.ref t0, .ref t1, .ref t2] 0
 have up : ∀ b o', s.heap.get? b = some o' -> (s.heap.push o).get? b = some o' := fun b o' e => Heap.get?_push_of_some _ e
 have main : Ok G.prog G.w A (call (.builtin "list.sort") [.ref s.heap.objs.size] []) { s with heap := s.heap.push o } (fun _ s' => ∃ h' c, s' = { s with heap := h' } /\ (∀ b o, b ≠ C.env.locals -> b ≠ s.heap.objs.size -> s.heap.get? b = some o -> h'.get? b = some o) /\ h'.Ns C.env.locals m /\
   h'.get? s.heap.objs.size = some (Z9 ((J9 [k0, k1, k2]).map fun i => [Value.ref t0, .ref t1, .ref t2].getD i .none).toArray c)) := fun E =>
  Zhc (s := { s with heap := s.heap.push o }) (hm.keeps up) (Heap.get?_push_size _ rfl) (Nat.ne_of_gt hLs) (up _ _ g0) (up _ _ g1) (up _ _ g2) hn
   (fun t ht => by
    rcases List.mem_cons.mp ht with rfl | ht
    ·exact fun e => a0 (e ▸ hL)
    ·rcases List.mem_cons.mp ht with rfl | ht
     ·exact fun e => a1 (e ▸ hL)
     ·rw [List.mem_singleton.mp ht]; exact fun e => a2 (e ▸ hL))
   fun h' c hk hns hg => ⟨h', c, rfl, fun b o h1 h2 h3 => hk b o h1 h2 (up b o h3), hns, hg⟩
 intro E;refine wpAny_bind (wpAny_newList ?_ (by show 3 <= _; rw [sizeLine_eq]; decide));refine wpAny_bind (wpAny_holding (main.size.to fun v s' hz => ?_));obtain ⟨hsz, h', c, rfl, hk, hns, hg⟩ := hz
 have hsz : s.heap.objs.size <= h'.objs.size := by
  have : (s.heap.push o).objs.size <= h'.objs.size := hsz;rw [Heap.size_push] at this; exact Nat.le_of_succ_le this
 refine wpAny_pure ⟨_, rfl, Zs.ofExtL O I (s' := { s with heap := h' }) ⟨fun b o h1 h2 => hk b o h1 (Nat.ne_of_lt (Heap.lt_size h2)) h2, fun m' hm' => ?_, hsz, rfl, rfl⟩ (.list hg (I.fresh (Nat.le_refl _)) ?_)⟩
 ·exact ZlG hm hm' ▸ hns
 ·refine Zb.mono (fun b o e n => ⟨hk b o (fun z => n (z ▸ hL)) (Nat.ne_of_lt (Heap.lt_size e)) e, n⟩) (fun _ _ z => z) (Zfx r _)
end
open PySem PySem.Calls PyProof.Rows PySem.W
noncomputable def tri {α : Type} : List α -> Option (α × α × α)
 | [] => none
 | a :: l => (two l).map fun p => (a, p)
theorem Zin {α : Type} {l : List α} {t : α × α × α} (h : tri l = some t) : l = [t.1, t.2.1, t.2.2] := by
 cases l with
 | nil => exact nn h
 | cons a l => exact Zp h fun p e h => by rw [<- h, Zhk e]
noncomputable def Zdl (ks : List Str) (ds : List V) : Option (List V) := (tri ks).bind fun k => (tri ds).bind fun d => if [k.1, k.2.1, k.2.2].Nodup then some (Zh1 [k.1, k.2.1, k.2.2] [Ji k.1 d.1, Ji k.2.1 d.2.1, Ji k.2.2 d.2.2]) else none
noncomputable def D.sortItems (f : DE) : DE := fun σ B => match f σ B with
 | some (.dict ks ds, B') => (Zdl ks ds).map fun xs => (.list xs, B')
 | _ => none
theorem Zdz {ks : List Str} {ds xs : List V} (h : Zdl ks ds = some xs) : ∃ k0 k1 k2 d0 d1 d2, ks = [k0, k1, k2] /\ ds = [d0, d1, d2] /\ [k0, k1, k2].Nodup /\ xs = Zh1 [k0, k1, k2] [Ji k0 d0, Ji k1 d1, Ji k2 d2] :=
 Z6 h fun k e h => Z6 h fun d e' h => ZaN (Yp h) fun h1 h2 =>
  ⟨_, _, _, _, _, _, Zin e, Zin e', h1, (Option.some.inj h2).symm⟩
section
variable {G : GC} {C : Cx} {β : List Addr} {B B' B₁ : Bx} {σ : St} {s : Shared} {H : Nat} {d : V} {ds : List V} {v : Value} {h' : Heap} {av : Addr -> Prop} {k : K} {tk : Nat}
set_option tactic.hygienic true in
theorem Zff {o : Expr} {f : DE} {p'1 apos p'3 pos : Pos} (hkl : k.kind "sorted" = some .globalImplicit) (htl : Yz G "sorted" (.builtin "sorted")) (hb : Xo o = true) (hl : (apos.endLine == p'3.line) = true)
  (hf : Den G H k o f) : Den G H k (.Call (.Name "sorted" p'1) [.Call (.Attribute o "items" apos) [] [] p'3] [] pos) (D.sortItems f) := .mk fun C O F σ B d B' hh => by
 unfold D.sortItems at hh
 split at hh
 ·rename_i ks ds B₁ h1
  refine Zp hh fun xs hx e => ?_
  cases e
  refine ZqV (Zdz hx) fun k0 k1 k2 d0 d1 d2 z_6 z_7 hnd z_9 => ?_;subst z_6;subst z_7;subst z_9;intro A β s hA I E;refine wpAny_Call_NameR (X9 O I (by rw [F.kind]; exact hkl) htl (by rfl) (Calls.callWith_builtin (by rfl) ?_));refine evalArgs_plain (spliced_cons ?_);refine ZbN O hA I hb hl PySem.F.plainAttrs_dict PySem.F.slot_dict_items PySem.F.type_dict_items (hf.ok C O F _ _ _ _ h1) (ZdO (by rfl)) (.nil B') (by decide) fun β1 s'1 v vs a'1 i'1 r'1 rs => ?_;rw [rs.sh.1 rfl];refine Zak r'1.sh fun a kvs ev x hs n e r => ?_;rw [ev];clear r'1 rs ev;obtain ⟨o', ho'⟩ := Xc x;refine call_meetsIn PySem.F.slot_dict_items x.typeIs PySem.F.entry_dict_items (PySem.F.args_dict_items_1 _) (meets_dict_items (PySem.strKind G.prog G.w) a hs) ⟨⟨kvs, x⟩, ?_⟩;refine spliced_nil ?_;refine (?_ : wpAny _ A (call (.builtin "sorted") [.ref s'1.heap.objs.size]) _ E _);have x1 := Ext.push s'1 { cls := .type "dict_items", data := .fields #[.ref a] };obtain ⟨ep, hd⟩ := (x.push { cls := .type "dict_items", data := .fields #[.ref a] }).dictAt;have hkl : kvs.length = 3 := by have := congrArg List.length e; simpa using this
  refine call_function_entry kind_sorted plain_sorted entry_sorted (args_sorted1 _) ?_;unfold Builtin.«sorted»;refine wpAny_bind (m := checkCount "sorted" 1 1 _) (wpAny_pure ?_);refine wpAny_bind (PySem.W.kdx_collect (A := A.in1) (knd := PySem.strKind G.prog G.w) (d := a) (kvs := kvs) (ep := ep) hA.handled ⟨_, Heap.get?_push_size _ rfl, rfl, rfl⟩ hd (by rw [hkl, sizeLine_eq]; decide) fun h' tk as hk hlen hG => ?_);have hsz : (s'1.heap.push { cls := .type "dict_items", data := .fields #[.ref a] }).objs.size = s'1.heap.objs.size + 1 := by rw [Heap.size_push]
  have hk2 : ∀ b o, s'1.heap.get? b = some o -> h'.get? b = some o := fun b o e => hk b o (x1.keep b o e);have hS := hk _ _ (Heap.get?_push_size s'1.heap (o := { cls := .type "dict_items", data := .fields #[.ref a] }) rfl);have x2 : Ext s'1 { s'1 with heap := h', toks := tk } := ⟨hk2, Nat.le_of_lt (Heap.lt_size hS), rfl, rfl⟩;have i2 := i'1.ext x2;have rp := ZfS (av := avB C.av β1) (β := β1) hG hlen (fun b hb => i'1.fresh (by have := hG.above b hb; rw [hsz] at this; exact Nat.le_of_lt (Nat.lt_of_succ_lt this))) (Zb.mono (fun b o e n => ⟨hk2 b o e, n⟩) (fun _ _ z => z) r);rw [e] at rp;exact (Zdw O i2 rp hnd).to fun fin s3 ⟨v, e1, q⟩ => ⟨v, e1, q.from (a'1.trans (.ofExt x2))⟩
 ·exact nn hh
end
open PySem PySem.Calls PyProof.Rows PySem.W
noncomputable abbrev Zcf (h : Heap) (z TI TO : Addr) (T : Nat) (f : Bool) : Prop :=
 h.get? z = some { cls := .type "zip", dict := none, data := .fields #[rawInt T, .bool f, .bool false, .ref TI, .ref TO], slots := #[] }
section
variable {prog : Program} {w : World} {A : Around} {E : Value -> Shared -> Prop} {s : Shared}
theorem Zfy {z TI TO : Addr} {T : Nat} {f : Bool} {o : Obj} {Q : Bool -> Shared -> Prop} (hz : Zcf s.heap z TI TO T f) (hT : s.heap.get? T = some o)
  (h : ∀ h', Zcf h' z TI TO T true -> Heap.SameBut z s.heap h' -> Q false { s with heap := h' }) : wpAny (model prog w) A (Builtin.SmallTypes.ownedTupleIsFree (.ref z)) Q E s := by
 unfold Builtin.SmallTypes.ownedTupleIsFree;refine wpAny_bind (wpAny_field hz rfl (x := rawInt T) rfl ?_);show wpAny _ _ (loadIfAlive (T : Int).toNat >>= _) _ _ _;rw [Int.toNat_natCast];refine wpAny_bind (kdx_alive hT ?_);simp only [Option.isNone_some, Bool.false_eq_true, if_false];refine wpAny_bind (wpAny_field hz rfl (x := .bool f) rfl ?_)
 cases f with
 | true =>
  refine (?_ : wpAny _ _ (if (Value.bool true != Value.bool true) = true then _ else _) _ _ _);rw [if_neg (by simp)];exact wpAny_pure (h s.heap hz (Heap.SameBut.refl ..))
 | false =>
  refine (?_ : wpAny _ _ (if (Value.bool false != Value.bool true) = true then _ else _) _ _ _);rw [if_pos (by decide)];refine wpAny_bind (wpAny_setField_rec hz (by simp) fun h₁ hz1 hs'1 => ?_);exact wpAny_pure (h h₁ hz1 hs'1)
theorem ZkH {z TI TO i1 i2 l1 l2 : Addr} {k1 k2 T : Nat} {f : Bool} {o : Obj} {xs ys : Array Value} {x y : Value} {Q : Value -> Shared -> Prop} (D : ZipApart z TI TO i1 i2 l1 l2)
  (hz : Zcf s.heap z TI TO T f) (hT : s.heap.get? T = some o) (hTI : IsPair s.heap TI (.ref i1) (.ref i2))
  (h1 : s.heap.IsListIter i1 l1 k1) (h2 : s.heap.IsListIter i2 l2 k2) (hl1 : s.heap.IsList l1 xs) (hl2 : s.heap.IsList l2 ys) (hx : xs[k1]? = some x) (hy : ys[k2]? = some y)
  (hQ : ∀ h', Zcf h' z TI TO T true -> h'.IsListIter i1 l1 (k1 + 1) -> h'.IsListIter i2 l2 (k2 + 1) -> IsPair h' s.heap.objs.size x y -> h'.objs.size = s.heap.objs.size + 1 ->
   (∀ c o, c ≠ z -> c ≠ i1 -> c ≠ i2 -> s.heap.get? c = some o -> h'.get? c = some o) -> Q (.ref s.heap.objs.size) { s with heap := h' }) :
  wpAny (model prog w) A (Builtin.«zip.__next__» ⟨[.ref z], []⟩) (fun fin s' => ∃ v, fin = .done (.ret v) /\ Q v s') E s := by
 show wpAny _ _ (field (.ref z) 2 >>= _) _ _ _;refine wpAny_bind (wpAny_field hz rfl (x := .bool false) rfl ?_);show wpAny _ _ (field (.ref z) 3 >>= _) _ _ _;refine wpAny_bind (wpAny_field hz rfl (x := .ref TI) rfl ?_);refine wpAny_bind (wpAny_seqItems hTI rfl ?_);show wpAny _ _ (Builtin.SmallTypes.ownedTupleIsFree (.ref z) >>= _) _ _ _;refine wpAny_bind (Zfy hz hT fun h₁ hz1 hs'1 => ?_);simp only [Bool.false_eq_true, if_false];refine wpAny_bind ?_;rw [<- Array.forIn_toList];simp only [List.forIn_cons, List.forIn_nil];refine wpAny_bind (wpAny_bind (wpAny_holding ?_));show wpAny _ _ (Builtin.SmallTypes.nextOf (.ref i1) >>= _) _ _ _;refine wpAny_bind (wpAny_nextOf_list_item (h1.extBut hs'1.extBut D.i1z) (hl1.extBut hs'1.extBut D.l1z) hx fun h'2 h'12 hs'2 => wpAny_pure ?_);refine wpAny_pure (wpAny_bind (wpAny_bind (wpAny_holding ?_)));show wpAny _ _ (Builtin.SmallTypes.nextOf (.ref i2) >>= _) _ _ _;refine wpAny_bind (wpAny_nextOf_list_item ((h2.extBut hs'1.extBut D.i2z).extBut hs'2.extBut D.i12.symm) ((hl2.extBut hs'1.extBut D.l2z).extBut hs'2.extBut D.l2i1) hy fun h'4 h24 hs'4 => wpAny_pure ?_);refine wpAny_pure (wpAny_pure ?_);refine wpAny_bind (wpAny_newTuple ?_ (by show 2 <= _; rw [sizeLine_eq]; decide));have hsz : h'4.objs.size = s.heap.objs.size := by rw [hs'4.1, hs'2.1, hs'1.1]
 have hk : ∀ c o, c ≠ z -> c ≠ i1 -> c ≠ i2 -> s.heap.get? c = some o -> h'4.get? c = some o := fun c o c1 c3 c4 e => hs'4.extBut _ _ c4 (hs'2.extBut _ _ c3 (hs'1.extBut _ _ c1 e));have hz4 : Zcf h'4 z TI TO T true := hs'4.extBut _ _ D.i2z.symm (hs'2.extBut _ _ D.i1z.symm hz1);have h'14 : h'4.IsListIter i1 l1 (k1 + 1) := h'12.extBut hs'4.extBut D.i12;have up : ∀ c o, h'4.get? c = some o -> (h'4.push { cls := .type "tuple", data := .seq #[x, y] }).get? c = some o := fun c o e => Heap.get?_push_of_some _ e;refine wpAny_pure ⟨_, rfl, ?_⟩;show Q (.ref h'4.objs.size) _;have hT := Heap.get?_push_size h'4 (o := { cls := .type "tuple", data := .seq #[x, y] }) rfl;rw [hsz] at hT ⊢;exact hQ _ (up _ _ hz4) (h'14.at fun o e => up _ o e) (h24.at fun o e => up _ o e) hT (by rw [Heap.size_push, hsz]) fun c o c1 c3 c4 e => up c o (hk c o c1 c3 c4 e)
theorem Znl {z TI TO i1 i2 l1 l2 : Addr} {k1 T : Nat} {f : Bool} {o : Obj} {xs : Array Value} {Q : Fin -> Shared -> Prop} (hh : A.handled = none) (D : ZipApart z TI TO i1 i2 l1 l2)
  (hz : Zcf s.heap z TI TO T f) (hT : s.heap.get? T = some o) (hTI : IsPair s.heap TI (.ref i1) (.ref i2))
  (h1 : s.heap.IsListIter i1 l1 k1) (hl1 : s.heap.IsList l1 xs) (hend : xs[k1]? = none)
  (hE : ∀ h' e, (∀ c o, c ≠ z -> c ≠ i1 -> c ≠ i2 -> s.heap.get? c = some o -> h'.get? c = some o) -> (∃ o, h'.get? e = some o /\ o.cls = .type "StopIteration") -> E (.ref e) { s with heap := h' }) :
  wpAny (model prog w) A (Builtin.«zip.__next__» ⟨[.ref z], []⟩) Q E s := by
 show wpAny _ _ (field (.ref z) 2 >>= _) _ _ _;refine wpAny_bind (wpAny_field hz rfl (x := .bool false) rfl ?_);show wpAny _ _ (field (.ref z) 3 >>= _) _ _ _;refine wpAny_bind (wpAny_field hz rfl (x := .ref TI) rfl ?_);refine wpAny_bind (wpAny_seqItems hTI rfl ?_);show wpAny _ _ (Builtin.SmallTypes.ownedTupleIsFree (.ref z) >>= _) _ _ _;refine wpAny_bind (Zfy hz hT fun h₁ hz1 hs'1 => ?_);simp only [Bool.false_eq_true, if_false];refine wpAny_bind ?_;rw [<- Array.forIn_toList];simp only [List.forIn_cons, List.forIn_nil];refine wpAny_bind (wpAny_bind (wpAny_holding ?_));show wpAny _ _ (Builtin.SmallTypes.nextOf (.ref i1) >>= _) _ _ _;refine wpAny_bind (wpAny_nextOf_list_end hh (h1.extBut hs'1.extBut D.i1z) (hl1.extBut hs'1.extBut D.l1z) hend fun h'2 e hs'2 he => ?_);exact hE h'2 e (fun c o c1 c3 _ x => hs'2 _ _ c3 (hs'1.extBut _ _ c1 x)) he
structure ZC (h : Heap) (z TI TO i1 i2 l1 l2 : Addr) (xs ys : Array Value) (k : Nat) : Prop where
 at' : (k = 0 /\ IsZip h z TI TO .none /\ ∃ a b, IsPair h TO a b) \/ ∃ T f o, Zcf h z TI TO T f /\ h.get? T = some o /\ o.cls = .type "tuple" /\ T ≠ z /\ T ≠ i1 /\ T ≠ i2
 TI : IsPair h TI (.ref i1) (.ref i2)
 h1 : h.IsListIter i1 l1 k
 h2 : h.IsListIter i2 l2 k
 l1 : h.IsList l1 xs
 l2 : h.IsList l2 ys
theorem ZC.move {h h' : Heap} {z TI TO i1 i2 l1 l2 S : Addr} {xs ys : Array Value} {k : Nat} (x : ZC h z TI TO i1 i2 l1 l2 xs ys k) (hS : ∀ o, h.get? S = some o -> o.cls = .type "list") (hs : S ≠ l1 /\ S ≠ l2) (hk : ∀ b o, b ≠ S -> h.get? b = some o -> h'.get? b = some o) : ZC h' z TI TO i1 i2 l1 l2 xs ys k := by
 have up : ∀ b o, h.get? b = some o -> o.cls ≠ .type "list" -> h'.get? b = some o := fun b o e hc => hk b o (fun z => hc (hS o (z ▸ e))) e;obtain ⟨a, hTI, h1, h2, hl1, hl2⟩ := x;have notL : (Value.type "tuple") ≠ .type "list" := by decide
 have notZ : (Value.type "zip") ≠ .type "list" := by decide
 have it : ∀ {i l : Addr}, h.IsListIter i l k -> h'.IsListIter i l k := fun q => q.at fun o e => up _ o e (by obtain ⟨o', e1, e2, _⟩ := q; rw [e1] at e; cases e; rw [e2]; decide);refine ⟨?_, up _ _ hTI notL, it h1, it h2, hl1.at fun o e => hk _ o hs.1.symm e, hl2.at fun o e => hk _ o hs.2.symm e⟩;rcases a with ⟨h0, hz, a, b, hTO⟩ | ⟨T, f, o, hz, hT, hc, hn⟩
 ·exact .inl ⟨h0, up _ _ hz notZ, a, b, up _ _ hTO notL⟩
 ·exact .inr ⟨T, f, o, up _ _ hz notZ, up _ _ hT (by rw [hc]; decide), hc, hn⟩
theorem ZC.next {z TI TO i1 i2 l1 l2 : Addr} {xs ys : Array Value} {k : Nat} {x y : Value} {Q : Option Value -> Shared -> Prop} (D : ZipApart z TI TO i1 i2 l1 l2) (Z : ZC s.heap z TI TO i1 i2 l1 l2 xs ys k) (hx : xs[k]? = some x) (hy : ys[k]? = some y)
  (hQ : ∀ h', ZC h' z TI TO i1 i2 l1 l2 xs ys (k + 1) -> IsPair h' s.heap.objs.size x y -> h'.objs.size = s.heap.objs.size + 1 -> (∀ c o, c ≠ z -> c ≠ TO -> c ≠ i1 -> c ≠ i2 -> s.heap.get? c = some o -> h'.get? c = some o) -> Q (some (.ref s.heap.objs.size)) { s with heap := h' }) :
  wpAny (model prog w) A (pyNext (.ref z)) Q E s := by
 obtain ⟨a, hTI, h1, h2, hl1, hl2⟩ := Z;have lt : ∀ {c o}, s.heap.get? c = some o -> s.heap.objs.size ≠ c := fun e => Nat.ne_of_gt (Heap.lt_size e);have hi1 : s.heap.objs.size ≠ i1 := by obtain ⟨_, e, _⟩ := h1; exact lt e
 have hi2 : s.heap.objs.size ≠ i2 := by obtain ⟨_, e, _⟩ := h2; exact lt e
 rcases a with ⟨_, hz, a, b, hTO⟩ | ⟨T, f, o, hz, hT, hc, hn⟩
 ·exact wpAny_pyNext_zip_item D hz hTI hTO h1 h2 hl1 hl2 hx hy fun h' a1 a2 a3 a4 a5 a6 hk =>
   hQ h' ⟨.inr ⟨_, false, _, a1, a5, rfl, lt hz, hi1, hi2⟩, hk _ _ D.TIz D.TITO D.TIi1 D.TIi2 hTI, a3, a4, hl1.at fun o e => hk _ o D.l1z D.l1TO D.l1i1 D.l1i2 e, hl2.at fun o e => hk _ o D.l2z D.l2TO D.l2i1 D.l2i2 e⟩ a5 a6 hk
 ·have hTy : s.TypeIs (.ref z) "zip" := ⟨_, hz, rfl⟩
  unfold pyNext
  exact wpAny_bind (wpAny_attempt (wpAny_callSpecial?_slot (name := Str.ofString "__next__") hTy PySem.F.slot_zip_next
   (wpAny_call_entry PySem.F.slot_zip_next hTy PySem.F.entry_zip_next
    (ZkH D hz hT hTI h1 h2 hl1 hl2 hx hy fun h' a1 a3 a4 a5 a6 hk => wpAny_pure (hQ h' ⟨.inr ⟨T, true, o, a1, hk _ _ hn.1 hn.2.1 hn.2.2 hT, hc, hn⟩, hk _ _ D.TIz D.TIi1 D.TIi2 hTI, a3, a4, hl1.at fun o e => hk _ o D.l1z D.l1i1 D.l1i2 e, hl2.at fun o e => hk _ o D.l2z D.l2i1 D.l2i2 e⟩ a5 a6
     fun c o c1 _ c3 c4 e => hk c o c1 c3 c4 e)) (PySem.F.args_zip_next_1 _))))
theorem ZC.stop {z TI TO i1 i2 l1 l2 : Addr} {xs ys : Array Value} {k : Nat} {Q : Option Value -> Shared -> Prop} (hh : A.handled = none) (D : ZipApart z TI TO i1 i2 l1 l2) (Z : ZC s.heap z TI TO i1 i2 l1 l2 xs ys k) (hk : k ≠ 0) (hx : xs[k]? = none)
  (hQ : ∀ h', (∀ c o, c ≠ z -> c ≠ TO -> c ≠ i1 -> c ≠ i2 -> s.heap.get? c = some o -> h'.get? c = some o) -> Q none { s with heap := h' }) : wpAny (model prog w) A (pyNext (.ref z)) Q E s := by
 obtain ⟨a, hTI, h1, h2, hl1, hl2⟩ := Z;rcases a with ⟨h0, _⟩ | ⟨T, f, o, hz, hT, hc, hn⟩
 ·exact absurd h0 hk
 ·have hTy : s.TypeIs (.ref z) "zip" := ⟨_, hz, rfl⟩
  unfold pyNext
  refine wpAny_bind (wpAny_attempt (wpAny_callSpecial?_slot (name := Str.ofString "__next__") hTy PySem.F.slot_zip_next
   (wpAny_call_entry PySem.F.slot_zip_next hTy PySem.F.entry_zip_next (Znl hh D hz hT hTI h1 hl1 hx fun h' e hk he => ?_) (PySem.F.args_zip_next_1 _))))
  refine Zg he fun o ho hc => ?_;clear he;refine wpAny_bind (wpAny_isInstance (T := "StopIteration") (b := true) ⟨o, ho, hc⟩ isSubtype_stop ?_);exact wpAny_pure (hQ _ fun c o c1 _ c3 c4 e => hk c o c1 c3 c4 e)
end
open PySem PySem.Calls PyProof.Rows PySem.W
section
variable {prog : Program} {w : World} {A : Around} {E : Value -> Shared -> Prop} {s : Shared}
theorem ZiA : typeLookup (.type "zip") "__len__" = pure none := by rw [typeLookup_type, builtinLookup_eq_fast]; kernel_rfl
theorem ZhK : typeLookup (.type "zip") "__length_hint__" = pure none := by rw [typeLookup_type, builtinLookup_eq_fast]; kernel_rfl
noncomputable def Zku (h : Heap) (xs ys : Array Value) (lo : Nat) (ts : List Addr) : Prop := ∀ (j : Nat) (t : Addr), ts[j]? = some t -> ∃ x y, xs[j]? = some x /\ ys[j]? = some y /\ IsPair h t x y /\ lo <= t
theorem Zni {z TI TO i1 i2 l1 l2 S : Addr} {xs ys : Array Value} {res : Value} {R : Result -> Shared -> Prop} {h₁ : Heap} (hh : A.handled = none) (D : ZipApart z TI TO i1 i2 l1 l2) (hxy : xs.size = ys.size) (h0 : xs.size ≠ 0) (hn : xs.size <= 1000) (hl : S ≠ l1 /\ S ≠ l2)
  (hS0 : S ≠ z /\ S ≠ TO /\ S ≠ i1 /\ S ≠ i2) (hw : ∀ b, b = z \/ b = TO \/ b = i1 \/ b = i2 -> b < S)
  (hR : ∀ h' acc c ts, (∀ b o, b ≠ S -> b ≠ z -> b ≠ TO -> b ≠ i1 -> b ≠ i2 -> h₁.get? b = some o -> h'.get? b = some o) -> h'.get? S = some (Z9 acc c) -> acc.toList = ts.map Value.ref -> ts.length = xs.size -> Zku h' xs ys S ts -> R (.ok (.ret res)) { s with heap := h' }) :
  ∀ (k i : Nat) (h : Heap) (c : Nat) (acc : Array Value) (ts : List Addr), xs.size - i = k -> i <= xs.size -> ZC h z TI TO i1 i2 l1 l2 xs ys i -> (∀ b o, b ≠ S -> b ≠ z -> b ≠ TO -> b ≠ i1 -> b ≠ i2 -> h₁.get? b = some o -> h.get? b = some o) ->
   h.get? S = some (Z9 acc c) -> acc.toList = ts.map Value.ref -> ts.length = i -> Zku h xs ys S ts -> (∀ t ∈ ts, t ≠ S) ->
   codeAny (model prog w) A (.builtin "list.extend.loop" ⟨[.ref S, .ref z, res], []⟩) R { s with heap := h } := by
 intro k
 induction k with
 | zero =>
  intro i h c acc ts hk hi Z hkeep hS hacc hal hG hts;have hin : i = xs.size := by lia
  refine codeAny_builtin PySem.F.entry_extend_loop ?_;rw [Around.under_plainId PySem.F.plain_extend_loop _];show wpAny _ A.in1 (pyNext (.ref z) >>= _) _ _ _;refine wpAny_bind (ZC.stop (s := { s with heap := h }) (A := A.in1) hh D Z (by lia) (Array.getElem?_eq_none (by lia)) fun h' he => ?_);refine wpAny_pure (hR h' acc c ts (fun b o h1 h2 h3 h4 h5 e => he b o h2 h3 h4 h5 (hkeep b o h1 h2 h3 h4 h5 e)) (he S _ hS0.1 hS0.2.1 hS0.2.2.1 hS0.2.2.2 hS) hacc (hal.trans hin) fun j t hj => ?_);refine ZbZ (hG j t hj) fun x y e1 e2 e3 e4 => ?_;have ap : ∀ b, b = z \/ b = TO \/ b = i1 \/ b = i2 -> t ≠ b := fun b hb e => Nat.lt_irrefl _ (Nat.lt_of_lt_of_le (hw b hb) (e ▸ e4));exact ⟨x, y, e1, e2, he t _ (ap z (.inl rfl)) (ap TO (.inr (.inl rfl))) (ap i1 (.inr (.inr (.inl rfl)))) (ap i2 (.inr (.inr (.inr rfl)))) e3, e4⟩
 | succ k ih =>
  intro i h c acc ts hk hi Z hkeep hS hacc hal hG hts;have hlt : i < xs.size := by lia
  have hlt' : i < ys.size := by lia
  have hsz : acc.size = i := by rw [<- Array.length_toList, hacc, List.length_map, hal]
  have hSl : S < h.objs.size := Heap.lt_size hS;refine codeAny_builtin PySem.F.entry_extend_loop ?_;rw [Around.under_plainId PySem.F.plain_extend_loop _];show wpAny _ A.in1 (pyNext (.ref z) >>= _) _ _ _;refine wpAny_bind (ZC.next (s := { s with heap := h }) D Z (Array.getElem?_eq_getElem hlt) (Array.getElem?_eq_getElem hlt') fun h' Z' hp hz he => ?_);dsimp only at hp hz he ⊢;have hS' := he S _ hS0.1 hS0.2.1 hS0.2.2.1 hS0.2.2.2 hS;have up : ∀ b o, b ≠ S -> h'.get? b = some o -> (h'.update S (Obj.mapSeq (·.push (Value.ref h.objs.size)))).get? b = some o := fun b o hb e => (Heap.get?_update_other _ _ (Ne.symm hb)).trans e;show wpAny _ A.in1 (updateSeq S (·.push (Value.ref h.objs.size)) >>= _) _ _ _;refine wpAny_bind ?_
  refine wpAny_updateSeq hS' rfl (wpAny_pure ⟨plainId_quiet PySem.F.plain_extend_loop _, ih (i + 1) _ _ (acc.push (Value.ref h.objs.size)) (ts ++ [h.objs.size]) (by lia) hlt
   (Z'.move (S := S) (fun o e => by rw [hS'] at e; cases e; rfl) hl up) (fun b o h1 h2 h3 h4 h5 e => up b o h1 (he b o h2 h3 h4 h5 (hkeep b o h1 h2 h3 h4 h5 e))) (Heap.get?_update_self _ hS' rfl) (by rw [Array.toList_push, hacc, List.map_append]; rfl) (by rw [List.length_append, hal]; rfl) ?_ ?_⟩)
   (by rw [hsz, sizeLine_eq]; lia) (by show (acc.push (Value.ref h.objs.size)).size <= sizeLine + 1; rw [Array.size_push, hsz, sizeLine_eq]; lia)
  ·intro j b hj
   rcases Nat.lt_trichotomy j ts.length with h1 | h1 | h1
   ·rw [List.getElem?_append_left h1] at hj
    refine ZbZ (hG j b hj) fun x y e1 e2 e3 e4 => ?_;have ap : ∀ q, q = z \/ q = TO \/ q = i1 \/ q = i2 -> b ≠ q := fun q hq e => Nat.lt_irrefl _ (Nat.lt_of_lt_of_le (hw q hq) (e ▸ e4));exact ⟨x, y, e1, e2, up b _ (hts b (List.mem_of_getElem? hj)) (he b _ (ap z (.inl rfl)) (ap TO (.inr (.inl rfl))) (ap i1 (.inr (.inr (.inl rfl)))) (ap i2 (.inr (.inr (.inr rfl)))) e3), e4⟩
   ·subst h1
    have hb : h.objs.size = b := by simpa using hj
    subst hb;exact ⟨xs[i], ys[i], by rw [hal]; exact Array.getElem?_eq_getElem hlt, by rw [hal]; exact Array.getElem?_eq_getElem hlt', up _ _ (Nat.ne_of_gt hSl) hp, Nat.le_of_lt hSl⟩
   ·have hnone : (ts ++ [h.objs.size])[j]? = none := List.getElem?_eq_none (by rw [List.length_append, List.length_singleton]; lia)
    rw [hnone] at hj; cases hj
  ·intro t ht
   rcases List.mem_append.mp ht with ht | ht
   ·exact hts t ht
   ·rw [List.mem_singleton.mp ht]; exact Nat.ne_of_gt hSl
theorem Ziq {z TI TO i1 i2 l1 l2 : Addr} {xs ys : Array Value} {R : List Value -> Shared -> Prop} (hh : A.handled = none) (D : ZipApart z TI TO i1 i2 l1 l2) (hxy : xs.size = ys.size) (h0 : xs.size ≠ 0) (hn : xs.size <= 1000) (Z : ZC s.heap z TI TO i1 i2 l1 l2 xs ys 0) {f0 : Value} (hz : IsZip s.heap z TI TO f0)
  (hTO : TO < s.heap.objs.size)
  (hR : ∀ h' ts, (∀ b o, b ≠ z -> b ≠ TO -> b ≠ i1 -> b ≠ i2 -> s.heap.get? b = some o -> h'.get? b = some o) -> ts.length = xs.size -> Zku h' xs ys s.heap.objs.size ts -> R (ts.map Value.ref) { s with heap := h' }) :
  wpAny (model prog w) A (collect (.ref z)) R E s := by
 have hw : ∀ b, b = z \/ b = TO \/ b = i1 \/ b = i2 -> b < s.heap.objs.size := by
  rintro b (rfl | rfl | rfl | rfl)
  ·exact Heap.lt_size hz
  ·exact hTO
  ·obtain ⟨_, e, _⟩ := Z.h1; exact Heap.lt_size e
  ·obtain ⟨_, e, _⟩ := Z.h2; exact Heap.lt_size e
 have hl : s.heap.objs.size ≠ l1 /\ s.heap.objs.size ≠ l2 := ⟨by obtain ⟨_, e, _⟩ := Z.l1; exact Nat.ne_of_gt (Heap.lt_size e), by obtain ⟨_, e, _⟩ := Z.l2; exact Nat.ne_of_gt (Heap.lt_size e)⟩;have ne : ∀ b, b = z \/ b = TO \/ b = i1 \/ b = i2 -> s.heap.objs.size ≠ b := fun b hb => Nat.ne_of_gt (hw b hb);unfold collect;refine wpAny_bind (wpAny_runValue (codeAny_builtin entry_proto_collect' ?_));rw [Around.under_plainId PySem.F.plain_proto_collect _];show wpAny _ A.in1 (newList [] >>= fun l => again (.builtin "list.__iadd__" ⟨[l, .ref z], []⟩)) _ _ s;refine wpAny_bind (wpAny_newObj_type ?_);refine wpAny_pure ⟨plainId_quiet PySem.F.plain_list_iadd _, codeAny_builtin entry_list_iadd' ?_⟩;rw [Around.under_plainId PySem.F.plain_list_iadd _];have hS1 : (s.heap.push { cls := .type "list", data := .seq ([] : List Value).toArray }).get? s.heap.objs.size = some { cls := .type "list", data := .seq #[] } := Heap.get?_push_size _ rfl;have up : ∀ b o, s.heap.get? b = some o -> (s.heap.push { cls := .type "list", data := .seq ([] : List Value).toArray }).get? b = some o := fun b o e => Heap.get?_push_of_some _ e;have hz1 : IsZip _ z TI TO f0 := up _ _ hz;have hTy : ({ s with heap := s.heap.push { cls := .type "list", data := .seq ([] : List Value).toArray } } : Shared).TypeIs (.ref z) "zip" := ⟨_, hz1, rfl⟩;show wpAny _ A.in1 (Builtin.List.listExtendWith (.ref s.heap.objs.size) (.ref z) (.ref s.heap.objs.size)) _ _ _;unfold Builtin.List.listExtendWith;refine wpAny_bind (wpAny_typeOf hTy ?_);have h1 : Builtin.List.listSameRef (.ref s.heap.objs.size) (.ref z) = false := by simp [Builtin.List.listSameRef, ne z (.inl rfl)]
 have h2 : (Value.type "zip" == Value.type "list") = false := by decide
 have h3 : (Value.type "zip" == Value.type "tuple") = false := by decide
 simp only [h1, h2, h3, Bool.or_false, Bool.false_eq_true, if_false];refine wpAny_bind (wpAny_pyIter_zip hz1 ?_);refine wpAny_bind (wpAny_holding ?_);unfold Builtin.List.listLengthHint;refine wpAny_bind (wpAny_specialOf hTy ZiA ?_);show wpAny _ A.in1 (specialOf (Value.ref z) (Str.ofString "__length_hint__") >>= _) _ _ _;refine wpAny_bind (wpAny_specialOf hTy ZhK ?_);refine wpAny_pure ?_
 show wpAny _ A.in1 (rule "list.extend.makes-room" >>= fun _ => Builtin.List.listTouch (.ref s.heap.objs.size) >>= fun _ =>
  again (.builtin "list.extend.loop" ⟨[.ref s.heap.objs.size, .ref z, .ref s.heap.objs.size], []⟩)) _ _ _
 refine wpAny_bind (wpAny_rule ?_);refine wpAny_bind ?_;show wpAny _ A.in1 (updateSeq s.heap.objs.size (·.push .none) >>= fun _ => updateSeq s.heap.objs.size (·.pop)) _ _ _;refine wpAny_bind (wpAny_updateSeq hS1 rfl ?_);have hS2 := Heap.get?_update_self (Obj.mapSeq (·.push Value.none)) hS1 rfl;refine wpAny_updateSeq (hz := by seq_fits) hS2 rfl ?_;have hS3 := Heap.get?_update_self (Obj.mapSeq (·.pop)) hS2 rfl
 have oth : ∀ b o, b ≠ s.heap.objs.size -> s.heap.get? b = some o -> (((s.heap.push { cls := .type "list", data := .seq ([] : List Value).toArray }).update s.heap.objs.size (Obj.mapSeq (·.push Value.none))).update s.heap.objs.size (Obj.mapSeq (·.pop))).get? b = some o :=
  fun b o hb e => (Heap.get?_update_other _ _ (Ne.symm hb)).trans ((Heap.get?_update_other _ _ (Ne.symm hb)).trans (up b o e))
 refine wpAny_pure ⟨plainId_quiet PySem.F.plain_extend_loop _, ?_⟩
 refine Zni (s := s) (h₁ := s.heap) hh D hxy h0 hn hl ⟨ne z (.inl rfl), ne TO (.inr (.inl rfl)), ne i1 (.inr (.inr (.inl rfl))), ne i2 (.inr (.inr (.inr rfl)))⟩ hw (fun h' acc c ts hk hS hacc hl hG => ?_) xs.size 0 _ _ #[] [] (Nat.sub_zero _) (Nat.zero_le _)
  (Z.move (S := s.heap.objs.size) (fun o e => absurd (Heap.lt_size e) (Nat.lt_irrefl _)) hl oth) (fun b o h1 _ _ _ _ e => oth b o h1 e) hS3 rfl rfl (fun j t hj => by simp at hj) (fun t ht => nomatch ht)
 show wpAny _ A (load s.heap.objs.size >>= _) _ _ _;refine wpAny_bind (wpAny_load hS ?_);refine wpAny_pure ?_;rw [hacc];exact hR h' ts (fun b o h1 h2 h3 h4 e => hk b o (Nat.ne_of_lt (Heap.lt_size e)) h1 h2 h3 h4 e) hl hG
end
open PySem PySem.Calls PyProof.Rows PySem.W
noncomputable def D.sortZip (f g : DE) : DE := fun σ B => match f σ B with
 | some (.list xs, B₁) => match g σ B₁ with
  | some (.list ys, B₂) => (ZaC xs).bind fun ks => (Zdl ks ys).map fun zs => (.list zs, B₂)
  | _ => none
 | _ => none
theorem ZfJ : ∀ {xs : List V} {ks : List Str}, ZaC xs = some ks -> xs = ks.map V.str
 | [], ks, h => by rw [<- Option.some.inj h]; rfl
 | x :: r, ks, h => by
  cases x with
  | str x =>
   refine Zp h fun q h1 h2 => ?_;rw [<- h2, ZfJ h1]; rfl
  | _ => exact nn h
section
variable {G : GC} {C : Cx} {β : List Addr} {B B' B₁ : Bx} {σ : St} {s : Shared} {H : Nat} {d : V} {ds : List V} {v : Value} {h h' : Heap} {av : Addr -> Prop} {k : K}
theorem Zjp {ts : List Addr} {xs ys : Array Value} {lo : Nat} {ks : List Str} {ds : List V} (g : Zku h xs ys lo ts) (hn : ∀ a, lo <= a -> ¬ av a) (r1 : Zb G av β h xs.toList (ks.map V.str)) (r2 : Zb G av β h ys.toList ds) (hl : ts.length = xs.size) (h12 : ks.length = ds.length) :
  Zb G av β h (ts.map Value.ref) ((ks.zip ds).map fun p => Ji p.1 p.2) := by
 have l1 := r1.length;rw [Array.length_toList, List.length_map] at l1;refine Zf1 (by rw [List.length_map, List.length_map, List.length_zip, <- h12, Nat.min_self, hl, l1]) fun i v d h1 h2 => ?_;rw [List.getElem?_map] at h1 h2;refine Zp h1 fun t ht e1 => ?_;refine Zp h2 fun p hp e2 => ?_;refine ZbZ (g i t ht) fun x y gx gy gp glo => ?_;rw [List.getElem?_zip_eq_some] at hp;have q1 := ZcN r1 i x (.str p.1) (Array.getElem?_toList.trans gx) (by rw [List.getElem?_map, hp.1]; rfl);have q2 := ZcN r2 i y p.2 (Array.getElem?_toList.trans gy) hp.2;rw [<- e1, <- e2];exact .tup (vs := #[x, y]) (n := 0) gp (hn t glo) (.cons q1 (.cons q2 .nil))
set_option tactic.hygienic true in
theorem ZhD {e'1 e'2 : Expr} {f g : DE} {p'1 p'2 p'3 pos : Pos} (hks : k.kind "sorted" = some .globalImplicit) (hkz : k.kind "zip" = some .globalImplicit) (hts : Yz G "sorted" (.builtin "sorted")) (htz : Yz G "zip" (.type "zip"))
  (hn1 : XE e'1 = true) (hn2 : XE e'2 = true) (hf : Den G H k e'1 f) (hg : Den G H k e'2 g) : Den G H k (.Call (.Name "sorted" p'1) [.Call (.Name "zip" p'2) [e'1, e'2] [] p'3] [] pos) (D.sortZip f g) := .mk fun C O F σ B d B' hh => by
 unfold D.sortZip at hh
 split at hh
 ·rename_i xs B₁ h1
  split at hh
  ·rename_i ys B₂ h2
   refine Z6 hh fun ks hk hh => ?_;refine Zp hh fun zs hx e => ?_
   cases e
   refine ZqV (Zdz hx) fun k0 k1 k2 d0 d1 d2 z_6 z_7 hnd z_9 => ?_;subst z_6;subst z_7;subst z_9;have exs := ZfJ hk;intro A β s hA I E;have R : Row G H C σ B [e'1, e'2] [.list xs, .list [d0, d1, d2]] B' := (JT.cons hn1 hf (.cons hn2 hg .nil)).row O F (by simp only [D.row, h1, h2]);refine wpAny_Call_NameR (X9 O I (by rw [F.kind]; exact hks) hts (by rfl) (Calls.callWith_builtin (by rfl) ?_));refine evalArgs_plain (spliced_cons ?_);refine wpAny_Call_NameR (X9 O I (by rw [F.kind]; exact hkz) htz (by rfl) (PySem.callWith_type R.plain ?_));have hev := R.evs O (pos := p'3) A β s hA I;rw [ZA hn1, ZW] at hev ⊢;refine evalArgs_plain (hev.t3 fun vs s'1 β1 a'1 i'1 r'1 => ?_);refine YH (YE r'1) fun v w z_2 r1 r2 => ?_;subst z_2;refine Xl r1.sh fun l1 xv m1 ev1 e4 n4 q4 => ?_;refine Xl r2.sh fun l2 yv m2 ev2 e5 n5 q5 => ?_;rw [ev1, ev2];clear r1 r2 r'1 ev1 ev2 hev;rw [exs] at q4;have z1 : xv.size = 3 := by rw [<- Array.length_toList, q4.length]; rfl
   have z2 : yv.size = 3 := by rw [<- Array.length_toList, q5.length]; rfl
   refine call_zip_2 (Rep.isList e4) (Rep.isList e5) fun h' g1 g2 g3 g4 g5 g6 g7 => ?_;have lt1 := Heap.lt_size e4;have lt2 := Heap.lt_size e5;refine spliced_nil ?_;refine (?_ : wpAny _ A (call (.builtin "sorted") [.ref (s'1.heap.objs.size + 4)]) _ E _);refine call_function_entry kind_sorted plain_sorted entry_sorted (args_sorted1 _) ?_;unfold Builtin.«sorted»;refine wpAny_bind (m := checkCount "sorted" 1 1 _) (wpAny_pure ?_);have x1 : Ext s'1 { s'1 with heap := h' } := ⟨g7, by show s'1.heap.objs.size <= h'.objs.size; lia, rfl, rfl⟩
   refine wpAny_bind (Ziq (s := { s'1 with heap := h' }) (A := A.in1) hA.handled (ZdD s'1.heap.objs.size l1 l2 lt1 lt2) (z1.trans z2.symm) (by lia) (by lia)
    ⟨.inl ⟨rfl, g1, _, _, g3⟩, g2, g4, g5, (Rep.isList e4).at fun o e => g7 _ o e, (Rep.isList e5).at fun o e => g7 _ o e⟩ g1 (by show s'1.heap.objs.size + 3 < h'.objs.size; lia) fun h2' ts hk2 hlen hG => ?_)
   have hlow : ∀ b o, s'1.heap.get? b = some o -> h2'.get? b = some o := fun b o e => by
    have := Heap.lt_size e;exact hk2 b o (Nat.ne_of_lt (Nat.lt_add_right 4 this)) (Nat.ne_of_lt (Nat.lt_add_right 3 this)) (Nat.ne_of_lt this) (Nat.ne_of_lt (Nat.lt_add_right 1 this)) (g7 b o e)
   have hsz2 : s'1.heap.objs.size <= h2'.objs.size := by
    have ht0 : ts[0]? = some ts[0] := List.getElem?_eq_getElem (by lia);refine ZbZ (hG 0 _ ht0) fun x y _ _ gp glo => ?_;have h3 := Heap.lt_size gp;have hle : s'1.heap.objs.size <= h'.objs.size := by lia
    exact Nat.le_of_lt (Nat.lt_of_le_of_lt (Nat.le_trans hle glo) h3)
   have x2 : Ext s'1 { s'1 with heap := h2' } := ⟨hlow, hsz2, rfl, rfl⟩;have i2 := i'1.ext x2;have rp := Zjp (G := G) (av := avB C.av β1) (β := β1) (ks := [k0, k1, k2]) (ds := [d0, d1, d2]) hG (fun a ha => i'1.fresh (Nat.le_trans (by lia : s'1.heap.objs.size <= h'.objs.size) ha)) (Zb.mono (fun b o e n => ⟨hlow b o e, n⟩) (fun _ _ z => z) q4) (Zb.mono (fun b o e n => ⟨hlow b o e, n⟩) (fun _ _ z => z) q5) (hlen.trans (by rfl)) rfl;exact (Zdw O i2 rp hnd).to fun fin s3 ⟨v, e1, q⟩ => ⟨v, e1, q.from (a'1.trans (.ofExt x2))⟩
  ·exact nn hh
 ·exact nn hh
end
noncomputable def bd (n : Nat) : List Stmt := match PySem.Challenge.pw_xg0032_03.main.body[n]? with
 | some (.FunctionDef _ _ b _ _ _ _ _ _ _) => b
 | _ => []
noncomputable def bdm : List Stmt := match PySem.Challenge.pw_xg0032_03.main.body[(1:Nat)]? with
 | some (.ClassDef _ _ _ b _ _ _ _ _ _ _) => match b[(1:Nat)]? with
  | some (.FunctionDef _ _ b _ _ _ _ _ _ _) => b
  | _ => []
 | _ => []
noncomputable def XR : K := { sc := [("target", .local), ("source", .local), ("new_callers", .local), ("func", .local), ("caller", .local), ("isinstance", .globalImplicit), ("tuple", .globalImplicit), ("zip", .globalImplicit)], names := ["target", "source", "new_callers", "func", "caller"], asg := ["target", "source", "new_callers", "func", "caller"], gen := true }
noncomputable def JH : DS := (S.q (S.a 2 (Zbx (D.k (.dict [] [])))) (S.q (S.l (I.items (D.v 0)) (S.parts [3, 4]) (S.put (D.v 4) (D.v 2) (D.v 3)) S.k) (S.q (S.l (I.items (D.v 1)) (S.parts [3, 4]) (S.ite (T.cmp vin (D.v 3) (D.v 2)) (S.ite (T.of (D.isTup (D.v 4))) (S.put (D.zsum (D.v 4) (D.b Zf (D.v 2) (D.v 3))) (D.v 2) (D.v 3)) (S.augput ZbS (D.v 2) (D.v 3) (D.v 4))) (S.put (D.v 4) (D.v 2) (D.v 3))) S.k) (S.r (D.v 2)))))
theorem Zfk {G : GC} {H : Nat} (TB : ZbV G) : Xa G H XR (bd 2) (JH) :=
 (Zd (Zt (Yu.box Zja)) (Zd (Y6 (Zd2 rfl rfl Za) rfl (Zal (.cons (.cons .nil))) (Zk (ZeB Za Za Za rfl)) ZF (fun _ _ => rfl)) (Zd (Y6 (Zd2 rfl rfl Za) rfl (Zal (.cons (.cons .nil))) (Zk (Yj (ZK Zrq Za Za rfl) (Zk (Yj (JG rfl (ZlP Za rfl (by kernel_rfl) (by kernel_rfl) TB.isinstance TB.tuple)) (Zk (ZeB (Zno Za (Zj rfl Za Za) rfl rfl rfl (by kernel_rfl) (by kernel_rfl) TB.tuple TB.zip rfl (by decide +kernel) (by decide +kernel) (by kernel_rfl) (by kernel_rfl) (by kernel_rfl) (by decide +kernel) rfl (by kernel_rfl) (by kernel_rfl)) Za Za rfl)) (Zk (Zbo Zcr Za Za Za (by intro _ _ _; rfl))))) (Zk (ZeB Za Za Za rfl)))) ZF (fun _ _ => rfl)) (Zk (ZL Za)))))
noncomputable def XT : K := { sc := [("callers", .local), ("nc", .local), ("calls", .local)], names := ["callers", "nc", "calls"], asg := ["callers", "nc", "calls"], gen := false }
noncomputable def JD : DS := (S.q (S.a 1 (D.k (.int 0))) (S.q (S.l (I.values (D.v 0)) (fun d σ => some (σ.set 2 (some d))) (S.aug ZbS 1 (D.v 2)) S.k) (S.r (D.v 1))))
theorem Zfg {G : GC} {H : Nat} (TB : ZbV G) : Xa G H XT (bd 3) (JD) :=
 (Zd (Zt Zc) (Zd (Y6 (Zhh rfl rfl Za) rfl Yc (Zk (ZcP Zcr Za)) ZF (fun _ _ => rfl)) (Zk (ZL Za))))
noncomputable def Xw : K := { sc := [("flags", .local), ("names", .local), ("i", .local), ("flag", .local), ("range", .globalImplicit), ("COMPILER_FLAG_NAMES", .globalImplicit), ("hex", .globalImplicit)], names := ["flags", "names", "i", "flag"], asg := ["flags", "names", "i", "flag"], gen := false }
noncomputable def Jn : DS := (S.q (S.a 1 (Zbx (D.list []))) (S.q (S.l (I.val (D.c Zw [D.k (.int 32)])) (fun d σ => some (σ.set 2 (some d))) (S.q (S.a 3 (D.b Zfj (D.k (.int 1)) (D.v 2))) (S.ite (T.of (D.b Zi9 (D.v 0) (D.v 3))) (S.q (S.expr (D.meth XC JF (D.v 1) [D.flagGet (D.v 3) (D.c Zfr [D.v 3])])) (S.q (S.aug Zl4 0 (D.v 3)) (S.ite (T.not (T.of (D.v 0))) S.brk S.k))) S.k)) (S.expr (D.meth XC JF (D.v 1) [D.c Zfr [D.v 0]]))) (S.r (D.meth Xj Zbm (D.k (.str ", ")) [D.v 1]))))
theorem ZeQ {G : GC} {H : Nat} (TB : ZbV G) : Xa G H Xw (bd 6) (Jn) :=
 (Zd (Zt (Yu.box (Ym .nil rfl))) (Zd (Y6 (Zx (Zl Z8 TB.range (.cons rfl Zc .nil))) rfl Yc (Zd (Zt (Zm Zki Zc Za)) (Zk (Yj (JG rfl (Zm Zpg Za Za)) (Zd (Zdk rfl (Xf PySem.F.plainAttrs_list PySem.F.slot_list_append PySem.F.type_list_append Jx Zcn rfl rfl Za (.cons rfl (Zhg Za (Zl ZjL TB.hex (.cons rfl Za .nil)) rfl rfl rfl (by kernel_rfl) TB.flags) .nil) (by decide))) (Zd (ZcP Zps Za) (Zk (Yj (Zip (JG rfl Za)) (Zk Zid) ZF)))) ZF))) (Zk (Zdk rfl (Xf PySem.F.plainAttrs_list PySem.F.slot_list_append PySem.F.type_list_append Jx Zcn rfl rfl Za (.cons rfl (Zl ZjL TB.hex (.cons rfl Za .nil)) .nil) (by decide)))) (fun _ _ => rfl)) (Zk (ZL (Xf PySem.F.plainAttrs_str PySem.F.slot_str_join PySem.F.type_str_join J6 Ze9 rfl rfl JW (.cons rfl Za .nil) (by decide))))))
noncomputable def Y0 : K := { sc := [("want", .local), ("got", .local), ("ws", .local), ("startpos", .local), ("endpos", .local), ("w", .local), ("ELLIPSIS_MARKER", .globalImplicit), ("len", .globalImplicit)], names := ["want", "got", "ws", "startpos", "endpos", "w"], asg := ["want", "got", "ws", "startpos", "endpos", "w"], gen := false }
noncomputable def Xm : DS := (S.q (S.ite (T.cmp Za5 (D.k (.str "...")) (D.v 0)) (S.r (D.b (bv Y1) (D.v 0) (D.v 1))) S.k) (S.q (S.a 2 (Zbx (D.split (D.v 0) (D.k (.str "..."))))) (S.q (S.assert (T.cmp vge (D.c X8 [D.v 2]) (D.k (.int 2)))) (S.q (S.swapped [3, 4] (D.t [D.k (.int 0), D.c X8 [D.v 1]])) (S.q (S.a 5 (D.b Zf (D.v 2) (D.k (.int 0)))) (S.q (S.ite (T.of (D.v 5)) (S.ite (T.of (D.meth Xj ZdY (D.v 1) [D.v 5])) (S.q (S.a 3 (D.c X8 [D.v 5])) (S.del (D.v 2) (D.k (.int 0)))) (S.r (D.k (.bool false)))) S.k) (S.q (S.a 5 (D.b Zf (D.v 2) (D.un JI (D.k (.int 1))))) (S.q (S.ite (T.of (D.v 5)) (S.ite (T.of (D.meth Xj Zkd (D.v 1) [D.v 5])) (S.q (S.aug Zpf 4 (D.c X8 [D.v 5])) (S.del (D.v 2) (D.un JI (D.k (.int 1))))) (S.r (D.k (.bool false)))) S.k) (S.q (S.ite (T.cmp vgt (D.v 3) (D.v 4)) (S.r (D.k (.bool false))) S.k) (S.q (S.l (I.val (D.v 2)) (fun d σ => some (σ.set 5 (some d))) (S.q (S.a 3 (D.meth Xj ZfZ (D.v 1) [D.v 5, D.v 3, D.v 4])) (S.q (S.ite (T.cmp vlt (D.v 3) (D.k (.int 0))) (S.r (D.k (.bool false))) S.k) (S.aug ZbS 3 (D.c X8 [D.v 5])))) S.k) (S.r (D.k (.bool true)))))))))))))
theorem ZcK {G : GC} {H : Nat} (TB : ZbV G) : Xa G H Y0 (bd 9) (Xm) :=
 (Zd (Yj (ZK Zc8 (ZeU TB (by kernel_rfl)) Za rfl) (Zk (ZL (X4 Jy Za Za rfl))) ZF) (Zd (Zt (Yu.box (ZiR rfl rfl rfl Za (ZeU TB (by kernel_rfl))))) (Zd (ZgZ (ZK Zq5 (Zl Zbc TB.len (.cons rfl Za .nil)) Zc rfl)) (Zd (Jf (Zz (.cons rfl Zc (.cons rfl (Zl Zbc TB.len (.cons rfl Za .nil)) .nil)) rfl) (.cons (.cons .nil)) rfl) (Zd (Zt (Zj rfl Za Zc)) (Zd (Yj (JG rfl Za) (Zk (Yj (JG rfl (Xf PySem.F.plainAttrs_str PySem.F.slot_str_startswith PySem.F.type_str_startswith J6 ZiE rfl rfl Za (.cons rfl Za .nil) (by decide))) (Zd (Zt (Zl Zbc TB.len (.cons rfl Za .nil))) (Zk (Zhs Za Zc))) (Zk (ZL YK)))) ZF) (Zd (Zt (Zj rfl Za (ZbB Zat Zc))) (Zd (Yj (JG rfl Za) (Zk (Yj (JG rfl (Xf PySem.F.plainAttrs_str PySem.F.slot_str_endswith PySem.F.type_str_endswith J6 Zol rfl rfl Za (.cons rfl Za .nil) (by decide))) (Zd (ZcP Zp2 (Zl Zbc TB.len (.cons rfl Za .nil))) (Zk (Zhs Za (ZbB Zat Zc)))) (Zk (ZL YK)))) ZF) (Zd (Yj (ZK Zc3 Za Za rfl) (Zk (ZL YK)) ZF) (Zd (Y6 (Zx Za) rfl Yc (Zd (Zt (Xf PySem.F.plainAttrs_str PySem.F.slot_str_find PySem.F.type_str_find J6 ZoP rfl rfl Za (.cons rfl Za (.cons rfl Za (.cons rfl Za .nil))) (by decide))) (Zd (Yj (ZK Ze1 Za Zc rfl) (Zk (ZL YK)) ZF) (Zk (ZcP Zcr (Zl Zbc TB.len (.cons rfl Za .nil)))))) ZF (fun _ _ => rfl)) (Zk (ZL YK))))))))))))
noncomputable def Je : K := { sc := [("script", .local), ("cells", .local), ("place", .local), ("range", .globalImplicit), ("min", .globalImplicit), ("len", .globalImplicit)], names := ["script", "cells", "place"], asg := ["script", "cells", "place"], gen := false }
noncomputable def J4 : DS := (S.q (S.a 1 (Zbx (D.list [D.k (.int 0), D.k (.int 1), D.k (.int 2), D.k (.int 1), D.k (.int 2), D.k (.int 4), D.k (.int 1), D.k (.int 5), D.k (.int 7)]))) (S.q (S.l (I.val (D.c Zw [D.c ZlE [D.k (.int 60), D.c X8 [D.v 0]]])) (fun d σ => some (σ.set 2 (some d))) (S.augput ZbS (D.v 1) (D.b Y8 (D.v 2) (D.k (.int 9))) (D.b Y8 (D.b Zf (D.v 0) (D.v 2)) (D.b ZgI (D.k (.int 10)) (D.k (.int 6))))) S.k) (S.r (D.v 1))))
theorem ZgA {G : GC} {H : Nat} (TB : ZbV G) : Xa G H Je (bd 11) (J4) :=
 (Zd (Zt (Yu.box (Ym (.cons rfl Zc (.cons rfl Zc (.cons rfl Zc (.cons rfl Zc (.cons rfl Zc (.cons rfl Zc (.cons rfl Zc (.cons rfl Zc (.cons rfl Zc .nil))))))))) rfl))) (Zd (Y6 (Zx (Zl Z8 TB.range (.cons rfl (Zl Zph TB.min (.cons rfl Zc (.cons rfl (Zl Zbc TB.len (.cons rfl Za .nil)) .nil))) .nil))) rfl Yc (Zk (Zbo Zcr Za (Zm X5 Za Zc) (Zm X5 (Zj rfl Za Za) (Zm Zpx Zc Zc)) (by intro _ _ _; rfl))) ZF (fun _ _ => rfl)) (Zk (ZL Za))))
noncomputable def Zai : K := { sc := [("cells", .cell), ("kinds", .local), ("a", .local), ("b", .local), ("c", .local), ("range", .globalImplicit), ("int", .globalImplicit), ("len", .globalImplicit), ("set", .globalImplicit)], names := ["cells", "kinds", "a", "b", "c"], asg := ["cells", "kinds", "a", "b", "c"], gen := false }
noncomputable def ZaP : DS := (S.q (S.a 1 (Zy 2 (emL (D.b Y8 (D.b Zf (D.v 2) (D.v 1)) (D.k (.int 3)))) (gs1 (I.val (D.c Zw [D.k (.int 5)])) (T.all [])) [] (.list []))) (S.q (S.a 1 (D.b YV (D.slice Zae (D.v 1) none (some (D.k (.int 4)))) (D.list [D.b Y8 (D.b YV (D.b Zf (D.v 1) (D.k (.int 4))) (D.c Zr8 [D.b (bv Y1) (D.lenSet (D.v 1)) (D.k (.int 1))])) (D.k (.int 3))]))) (S.q (S.swapped [2, 3, 4] (D.t [D.meth XC ZaV (D.v 1) [D.k (.int 0)], D.meth XC ZaV (D.v 1) [D.k (.int 1)], D.meth XC ZaV (D.v 1) [D.k (.int 2)]])) (S.r (D.list [D.list [D.k (.int 0), D.v 2, D.v 3], D.list [D.v 2, D.k (.int 0), D.v 4], D.list [D.v 3, D.v 4, D.k (.int 0)]])))))
theorem Zjg {G : GC} {H : Nat} (TB : ZbV G) : Xa G H Zai (bd 12) (ZaP) :=
 (Zd (ZaI (gens (Zx (Zl Z8 TB.range (.cons rfl Zc .nil))) Ye .nil) (Zm X5 (Zj rfl Za Za) Zc)) (Zd (Zt (Zm Xb (ZbW rfl Za (fun _ h => by cases h) (fun _ => rfl) (fun _ h => by cases h; exact ⟨_, rfl, Zc⟩) (fun h => by cases h)) (Yu.tree (Ym (.cons rfl (Zm X5 (Zm Xb (Zj rfl Za Zc) (Zl Zpc TB.int (.cons rfl (X4 Jy (Zjv (by kernel_rfl) (by kernel_rfl) TB.len TB.set rfl Za) Zc rfl) .nil))) Zc) .nil) rfl)))) (Zd (Jf (Zz (.cons rfl (Xf PySem.F.plainAttrs_list PySem.F.slot_list_count PySem.F.type_list_count Jx ZaG rfl rfl Za (.cons rfl Zc .nil) (by decide)) (.cons rfl (Xf PySem.F.plainAttrs_list PySem.F.slot_list_count PySem.F.type_list_count Jx ZaG rfl rfl Za (.cons rfl Zc .nil) (by decide)) (.cons rfl (Xf PySem.F.plainAttrs_list PySem.F.slot_list_count PySem.F.type_list_count Jx ZaG rfl rfl Za (.cons rfl Zc .nil) (by decide)) .nil))) rfl) (.cons (.cons (.cons .nil))) rfl) (Zk (ZL (Yu.tree (Ym (.cons rfl (Yu.tree (Ym (.cons rfl Zc (.cons rfl Za (.cons rfl Za .nil))) rfl)) (.cons rfl (Yu.tree (Ym (.cons rfl Za (.cons rfl Zc (.cons rfl Za .nil))) rfl)) (.cons rfl (Yu.tree (Ym (.cons rfl Za (.cons rfl Za (.cons rfl Zc .nil))) rfl)) .nil))) rfl)))))))
noncomputable def Jk : K := { sc := [("base", .local), ("names", .cell), ("range", .globalImplicit)], names := ["base", "names"], asg := ["base", "names"], gen := false }
noncomputable def J1 : DS := (S.q (S.a 1 (D.words (D.k (.str "OPTIMIZED NEWLOCALS VARARGS VARKEYWORDS NESTED GENERATOR NOFREE COROUTINE ITERABLE_COROUTINE ASYNC_GENERATOR")))) (S.r (Zy 2 (emL (D.ite (T.cmp vlt (D.v 1) (D.k (.int 10))) (D.b Zf (D.v 3) (D.v 1)) (D.b YV (D.b YV (D.k (.str "0x")) (D.b Zf (D.k (.str "1248")) (D.b Y8 (D.v 1) (D.k (.int 4))))) (D.b Y2 (D.k (.str "0")) (D.b Zg6 (D.v 1) (D.k (.int 4))))))) (gs1 (I.val (D.c Zw [D.v 0, D.b YV (D.v 0) (D.k (.int 3))])) (T.all [])) [] (.list []))))
theorem Zgk {G : GC} {H : Nat} (TB : ZbV G) : Xa G H Jk (bd 13) (J1) :=
 (Zd (Zt (Yu.tree (Zi7 rfl rfl JW))) (Zk (ZL (Yu.tree (Z0 (gens (Zx (Zl Z8 TB.range (.cons rfl Za (.cons rfl (Zm Xb Za Zc) .nil)))) Ye .nil) (ZdS (ZK Ze1 Za Zc rfl) (Zj rfl Za Za) (Zm Xb (Zm Xb JW (Zj rfl JW (Zm X5 Za Zc))) (Zm Xn JW (Zm ZjS Za Zc)))))))))
noncomputable def Jj : K := { sc := [("net", .cell), ("words", .cell), ("range", .globalImplicit)], names := ["net", "words"], asg := ["net", "words"], gen := false }
noncomputable def J5 : DS := (S.r (Zy 2 (emL (Zy 2 (emD (D.b Zf (D.v 5) (D.v 1)) (D.ite (T.cmp Y1 (D.v 3) (D.v 1)) (D.c YO [D.b Zf (D.v 4) (D.v 3)]) (D.un JI (D.b Zf (D.b Zf (D.v 4) (D.v 3)) (D.v 1))))) (gs1 (I.val (D.c Zw [D.k (.int 3)])) (T.all [T.bool false [T.cmp Y1 (D.v 3) (D.v 1), T.cmp vgt (D.b Zf (D.b Zf (D.v 4) (D.v 3)) (D.v 1)) (D.k (.int 0))]])) [] (.dict [] []))) (gs1 (I.val (D.c Zw [D.k (.int 3)])) (T.all [])) [] (.list [])))
theorem ZgC {G : GC} {H : Nat} (TB : ZbV G) : Xa G H Jj (bd 14) (J5) :=
 (Zk (ZL (Yu.tree (Z0 (gens (Zx (Zl Z8 TB.range (.cons rfl Zc .nil))) Ye .nil) (Yu.tree (XG (gens (Zx (Zl Z8 TB.range (.cons rfl Zc .nil))) (Zeb rfl rfl Yc (ZbD (.cons (J7 (.cons (ZK Jy Za Za rfl) (.cons (ZK Zc3 (Zj rfl (Zj rfl Za Za) Za) Zc rfl) .nil))) .nil))) .nil) (Zj rfl Za Za) (ZdS (ZK Jy Za Za rfl) (Zl Xk TB.sum (.cons rfl (Zj rfl Za Za) .nil)) (ZbB Zat (Zj rfl (Zj rfl Za Za) Za)))))))))
noncomputable def Jb : K := { sc := [("net", .local), ("coins", .local), ("one", .local), ("two", .local), ("both", .local), ("size", .local), ("f", .local), ("h", .local), ("x", .local), ("y", .local), ("sum", .globalImplicit), ("range", .globalImplicit)], names := ["net", "coins", "one", "two", "both", "size", "f", "h", "x", "y"], asg := ["net", "coins", "one", "two", "both", "size", "f", "h", "x", "y"], gen := false }
noncomputable def Zao : DS := (S.q (S.swapped [2, 3, 4] (D.t [D.c YO [D.b Zf (D.v 0) (D.k (.int 0))], D.c YO [D.b Zf (D.v 0) (D.k (.int 1))], D.b Zf (D.b Zf (D.v 0) (D.k (.int 0))) (D.k (.int 1))])) (S.q (S.a 5 (D.b Ya (D.b Y2 (D.v 2) (D.v 3)) (D.b Y2 (D.v 4) (D.v 4)))) (S.q (S.l (I.val (D.c Zw [D.b YV (D.c YO [D.v 1]) (D.k (.int 1))])) (fun d σ => some (σ.set 6 (some d))) (S.l (I.val (D.c Zw [D.b Ya (D.b YV (D.c YO [D.v 1]) (D.k (.int 1))) (D.v 6)])) (fun d σ => some (σ.set 7 (some d))) (S.q (S.swapped [8, 9] (D.t [D.b Ya (D.b Zf (D.v 1) (D.k (.int 0))) (D.v 6), D.b Ya (D.b Zf (D.v 1) (D.k (.int 1))) (D.v 7)])) (S.ite (T.bool true [T.cmp Y1 (D.b Y8 (D.b YV (D.b Y2 (D.v 3) (D.v 8)) (D.b Y2 (D.v 4) (D.v 9))) (D.v 5)) (D.k (.int 0)), T.cmp Y1 (D.b Y8 (D.b YV (D.b Y2 (D.v 4) (D.v 8)) (D.b Y2 (D.v 2) (D.v 9))) (D.v 5)) (D.k (.int 0))]) (S.r (D.k (.bool true))) S.k)) S.k) S.k) (S.r (D.k (.bool false))))))
theorem Zih {G : GC} {H : Nat} (TB : ZbV G) : Xa G H Jb (bd 15) (Zao) :=
 (Zd (Jf (Zz (.cons rfl (Zl Xk TB.sum (.cons rfl (Zj rfl Za Zc) .nil)) (.cons rfl (Zl Xk TB.sum (.cons rfl (Zj rfl Za Zc) .nil)) (.cons rfl (Zj rfl (Zj rfl Za Zc) Zc) .nil))) rfl) (.cons (.cons (.cons .nil))) rfl) (Zd (Zt (Zm Yk (Zm Xn Za Za) (Zm Xn Za Za))) (Zd (Y6 (Zx (Zl Z8 TB.range (.cons rfl (Zm Xb (Zl Xk TB.sum (.cons rfl Za .nil)) Zc) .nil))) rfl Yc (Zk (Y6 (Zx (Zl Z8 TB.range (.cons rfl (Zm Yk (Zm Xb (Zl Xk TB.sum (.cons rfl Za .nil)) Zc) Za) .nil))) rfl Yc (Zd (Jf (Zz (.cons rfl (Zm Yk (Zj rfl Za Zc) Za) (.cons rfl (Zm Yk (Zj rfl Za Zc) Za) .nil)) rfl) (.cons (.cons .nil)) rfl) (Zk (Yj (J7 (.cons (ZK Jy (Zm X5 (Zm Xb (Zm Xn Za Za) (Zm Xn Za Za)) Za) Zc rfl) (.cons (ZK Jy (Zm X5 (Zm Xb (Zm Xn Za Za) (Zm Xn Za Za)) Za) Zc rfl) .nil))) (Zk (ZL YK)) ZF))) ZF (fun _ _ => rfl))) ZF (fun _ _ => rfl)) (Zk (ZL YK)))))
noncomputable def JA : K := { sc := [("coins", .cell), ("loans", .local), ("words", .cell), ("base", .cell), ("way", .cell), ("judge", .local), ("start", .local), ("turns", .cell), ("right", .local), ("_", .local), ("owing", .local), ("first", .cell), ("one", .local), ("text", .cell), ("told", .local), ("TupleComp", .globalImplicit), ("range", .globalImplicit), ("add_callers", .globalImplicit), ("pretty_flags", .globalImplicit), ("sum", .globalImplicit)], names := ["coins", "loans", "words", "base", "way", "judge", "start", "turns", "right", "_", "owing", "first", "one", "text", "told"], asg := ["coins", "loans", "words", "base", "way", "judge", "start", "turns", "right", "_", "owing", "first", "one", "text", "told"], gen := false }
noncomputable def ZaS (Zr : VF) (Ze : VF) (ZB : VF) (ZH : VF) : DS := (S.q (S.a 5 (D.tcNew (D.t [D.t [D.k (.int 0), D.k (.int 1)], D.t [D.k (.int 1), D.v 4]]))) (S.q (S.assigns [6, 7, 8] (D.t [Zy 2 (emL (D.b Zf (D.v 2) (D.v 1))) (gs1 (I.val (D.v 2)) (T.all [])) [] (.list []), Zbx (D.list [D.k (.int 0), D.k (.int 0), D.k (.int 0)]), D.k (.bool true)])) (S.q (S.l (I.val (D.c Zw [D.k (.int 200)])) (fun d σ => some (σ.set 9 (some d))) (S.q (S.a 10 (Zy 2 (emL (D.t [D.b Zf (D.v 2) (D.b Zf (D.v 4) (D.v 1)), D.v 1])) (gs1 (I.val (D.c Zw [D.k (.int 3)])) (T.all [T.cmp vlt (D.b Zf (D.v 2) (D.b Zf (D.v 4) (D.v 1))) (D.k (.int 0))])) [] (.list []))) (S.q (S.ite (T.bool false [T.cmp Y1 (D.v 10) (D.list []), T.cmp Za5 (D.k (.int 0)) (D.v 7)]) S.brk S.k) (S.q (S.a 11 (D.b Zf (D.v 10) (D.k (.int 0)))) (S.q (S.l (I.val (D.slice Zae (D.v 10) (some (D.k (.int 1))) none)) (fun d σ => some (σ.set 12 (some d))) (S.a 11 (D.ite (T.cmp vlt (D.tcCmp ZH (D.v 5) [D.v 12, D.v 11]) (D.k (.int 0))) (D.v 12) (D.v 11))) S.k) (S.q (S.a 8 (D.boolop true [D.v 8, D.b (bv Y1) (Zy 2 (emL (D.v 1)) (gs1 (I.val (D.v 10)) (T.all [T.cmp Zh4 (D.t [D.b Zf (D.v 1) (D.k (.int 0)), D.b Y2 (D.v 6) (D.b Zf (D.v 1) (D.k (.int 1)))]) (D.t [D.b Zf (D.v 13) (D.k (.int 0)), D.b Y2 (D.v 6) (D.b Zf (D.v 13) (D.k (.int 1)))])])) [] (.list [])) (D.list [])])) (S.q (S.a 0 (D.c Ze [D.v 0, D.b Zf (D.v 1) (D.b Zf (D.v 11) (D.k (.int 1)))])) (S.augput ZbS (D.v 7) (D.b Zf (D.v 11) (D.k (.int 1))) (D.k (.int 1))))))))) S.k) (S.q (S.a 13 (D.c ZB [D.c YO [Zy 2 (emL (D.b Zfj (D.k (.int 1)) (D.b YV (D.v 5) (D.v 1)))) (gs1 (I.val (D.c Zw [D.k (.int 3)])) (T.all [T.cmp vgt (D.b Zf (D.v 9) (D.v 1)) (D.k (.int 0))])) [] (.list [])]])) (S.q (S.a 14 (Zy 2 (emL (D.c Zr [D.v 1, D.v 15])) (gs1 (I.val (D.list [D.meth Xj Zbm (D.k (.str "...")) [D.v 2], D.b YV (D.b YV (D.b Zf (D.v 2) (D.k (.int 0))) (D.k (.str "..."))) (D.b Zf (D.v 2) (D.k (.int 2)))])) (T.all [])) [] (.list []))) (S.r (D.t [D.v 14, D.v 13, D.v 6, D.v 7, D.b (bv Js) (D.v 10) (D.list []), D.v 0, D.v 8])))))))
theorem ZiV {G : GC} {H : Nat} {Zr : VF} {Ze : VF} {ZB : VF} {ZH : VF} (TB : ZbV G) {Kf : PySem.W.Frag} {fI fC : Addr} (TCI : Zfi G Kf fI fC) (TCC : Zke G H fC ZH) (TCN : Zj1 G H Kf fI) (h__ellipsis_match : Yo G H "_ellipsis_match" Zr) (h_add_callers : Yo G H "add_callers" Ze) (h_pretty_flags : Yo G H "pretty_flags" ZB) : Xa G H JA (bd 16) (ZaS Zr Ze ZB ZH) :=
 (Zd (Zt (ZfU TCI TCN (by kernel_rfl) rfl (Zz (.cons rfl (Zz (.cons rfl Zc (.cons rfl Zc .nil)) rfl) (.cons rfl (Zz (.cons rfl Zc (.cons rfl Za .nil)) rfl) .nil)) rfl))) (Zd (Zb4 (Zz (.cons rfl (Yu.tree (Z0 (gens (Zx Za) Ye .nil) (Zj rfl Za Za))) (.cons rfl (Yu.box (Ym (.cons rfl Zc (.cons rfl Zc (.cons rfl Zc .nil))) rfl)) (.cons rfl YK .nil))) rfl) (.cons (.cons (.cons .nil)))) (Zd (Y6 (Zx (Zl Z8 TB.range (.cons rfl Zc .nil))) rfl Yc (Zd (ZaI (gens (Zx (Zl Z8 TB.range (.cons rfl Zc .nil))) (Zeb rfl rfl Yc (ZbD (.cons (ZK Ze1 (Zj rfl Za (Zj rfl Za Za)) Zc rfl) .nil))) .nil) (Zz (.cons rfl (Zj rfl Za (Zj rfl Za Za)) (.cons rfl Za .nil)) rfl)) (Zd (Yj (J7 (.cons (ZK Jy Za (Yu.tree (Ym .nil rfl)) rfl) (.cons (ZK Zc8 Zc Za rfl) .nil))) (Zk Zid) ZF) (Zd (Zt (Zj rfl Za Zc)) (Zd (Y6 (Zx (ZbW rfl Za (fun _ h => by cases h; exact ⟨_, rfl, Zc⟩) (fun h => by cases h) (fun _ h => by cases h) (fun _ => rfl))) rfl Yc (Zk (Zt (ZdS (ZK Ze1 (ZfX TCI TCC rfl rfl Za (.cons rfl Za (.cons rfl Za .nil)) (by simp) (by decide)) Zc rfl) Za Za))) ZF (fun _ _ => rfl)) (Zd (Zt (Zeq (.cons rfl Za (.cons rfl (X4 Jy (Yu.tree (Z0 (gens (Zx Za) (Zeb rfl rfl Yc (ZbD (.cons (ZK ZjZ (Zz (.cons rfl (Zj rfl Za Zc) (.cons rfl (Zm Xn Za (Zj rfl Za Zc)) .nil)) rfl) (Zz (.cons rfl (Zj rfl Za Zc) (.cons rfl (Zm Xn Za (Zj rfl Za Zc)) .nil)) rfl) rfl) .nil))) .nil) Za)) (Yu.tree (Ym .nil rfl)) rfl) .nil)))) (Zd (Zt (Yh h_add_callers (.cons rfl Za (.cons rfl (Zj rfl Za (Zj rfl Za Zc)) .nil)))) (Zk (Zbo Zcr Za (Zj rfl Za Zc) Zc (by intro _ _ _; rfl))))))))) ZF (fun _ _ => rfl)) (Zd (Zt (Yh h_pretty_flags (.cons rfl (Zl Xk TB.sum (.cons rfl (Yu.tree (Z0 (gens (Zx (Zl Z8 TB.range (.cons rfl Zc .nil))) (Zeb rfl rfl Yc (ZbD (.cons (ZK Zc3 (Zj rfl Za Za) Zc rfl) .nil))) .nil) (Zm Zki Zc (Zm Xb Za Za)))) .nil)) .nil))) (Zd (ZaI (gens (Zx (Yu.tree (Ym (.cons rfl (Xf PySem.F.plainAttrs_str PySem.F.slot_str_join PySem.F.type_str_join J6 Ze9 rfl rfl JW (.cons rfl Za .nil) (by decide)) (.cons rfl (Zm Xb (Zm Xb (Zj rfl Za Zc) JW) (Zj rfl Za Zc)) .nil)) rfl))) Ye .nil) (Yh h__ellipsis_match (.cons rfl Za (.cons rfl Za .nil)))) (Zk (ZL (Zz (.cons rfl Za (.cons rfl Za (.cons rfl Za (.cons rfl Za (.cons rfl (X4 Za6 Za (Yu.tree (Ym .nil rfl)) rfl) (.cons rfl Za (.cons rfl Za .nil))))))) rfl))))))))
noncomputable def JP : K := { sc := [("coins", .local), ("loans", .local), ("words", .cell), ("base", .local), ("way", .local), ("log", .local), ("size", .cell), ("gift", .cell), ("range", .globalImplicit), ("_law_run", .globalImplicit), ("add_callers", .globalImplicit)], names := ["coins", "loans", "words", "base", "way", "log", "size", "gift"], asg := ["coins", "loans", "words", "base", "way", "log", "size", "gift"], gen := false }
noncomputable def JK (Z4 : VF) (Ze : VF) : DS := (S.q (S.l (I.val (D.c Zw [D.k (.int 5)])) (fun d σ => some (σ.set 6 (some d))) (S.l (I.val (Zy 3 (emL (D.t [D.v 1, D.v 2, D.b Ya (D.b Ya (D.v 9) (D.v 1)) (D.v 2)])) (gs1 (I.val (D.c Zw [D.b YV (D.v 6) (D.k (.int 1))])) (T.all [])) [{ it := (I.val (D.c Zw [D.b Ya (D.b YV (D.v 9) (D.k (.int 1))) (D.v 1)])), tp := false, tgt := (fun d σ => some (σ.set 2 (some d))), ifs := (T.all []) }] (.list []))) (fun d σ => some (σ.set 7 (some d))) (S.q (S.expr (D.meth XC JF (D.v 5) [D.c Z4 [D.c Ze [D.v 0, Zy 2 (emD (D.b Zf (D.v 4) (D.v 1)) (D.un JI (D.b Zf (D.v 9) (D.v 1)))) (gs1 (I.val (D.c Zw [D.k (.int 3)])) (T.all [])) [] (.dict [] [])], D.v 1, D.v 2, D.v 3, D.v 4]])) (S.ite (T.of (D.b Zf (D.b Zf (D.b Zf (D.v 5) (D.un JI (D.k (.int 1)))) (D.k (.int 0))) (D.k (.int 0)))) (S.r (D.b Ya (D.v 6) (D.k (.int 1)))) S.k)) S.k) S.k) (S.r (D.k (.int 4))))
theorem Zhp {G : GC} {H : Nat} {Z4 : VF} {Ze : VF} (TB : ZbV G) (h__law_run : Yo G H "_law_run" Z4) (h_add_callers : Yo G H "add_callers" Ze) : Xa G H JP (bd 17) (JK Z4 Ze) :=
 (Zd (Y6 (Zx (Zl Z8 TB.range (.cons rfl Zc .nil))) rfl Yc (Zk (Y6 (Zx (Yu.tree (Z0 (gens (Zx (Zl Z8 TB.range (.cons rfl (Zm Xb Za Zc) .nil))) Ye (.cons _ _ _ _ Ye (Zs3 (fun _ _ => rfl) (Zx (Zl Z8 TB.range (.cons rfl (Zm Yk (Zm Xb Za Zc) Za) .nil)))) .nil)) (Zz (.cons rfl Za (.cons rfl Za (.cons rfl (Zm Yk (Zm Yk Za Za) Za) .nil))) rfl)))) rfl Yc (Zd (Zdk rfl (Xf PySem.F.plainAttrs_list PySem.F.slot_list_append PySem.F.type_list_append Jx Zcn rfl rfl Za (.cons rfl (Yh h__law_run (.cons rfl (Yh h_add_callers (.cons rfl Za (.cons rfl (Yu.tree (XG (gens (Zx (Zl Z8 TB.range (.cons rfl Zc .nil))) Ye .nil) (Zj rfl Za Za) (ZbB Zat (Zj rfl Za Za)))) .nil))) (.cons rfl Za (.cons rfl Za (.cons rfl Za (.cons rfl Za .nil)))))) .nil) (by decide))) (Zk (Yj (JG rfl (Zj rfl (Zj rfl (Zj rfl Za (ZbB Zat Zc)) Zc) Zc)) (Zk (ZL (Zm Yk Za Zc))) ZF))) ZF (fun _ _ => rfl))) ZF (fun _ _ => rfl)) (Zk (ZL Zc)))
noncomputable def XH : K := { sc := [("row", .local), ("net", .cell), ("words", .cell), ("told", .local), ("text", .local), ("start", .cell), ("turns", .cell), ("owes", .local), ("coins", .local), ("right", .local), ("names", .local), ("due", .local), ("_law_pays", .globalImplicit), ("range", .globalImplicit), ("repr", .globalImplicit), ("len", .globalImplicit), ("count_calls", .globalImplicit), ("sum", .globalImplicit), ("sorted", .globalImplicit), ("zip", .globalImplicit)], names := ["row", "net", "words", "told", "text", "start", "turns", "owes", "coins", "right", "names", "due"], asg := ["row", "net", "words", "told", "text", "start", "turns", "owes", "coins", "right", "names", "due"], gen := false }
noncomputable def JV (ZV : VF) (ZD : VF) : DS := (S.q (S.assigns [3, 4, 5, 6, 7, 8, 9] (D.v 0)) (S.q (S.ite (T.bool false [T.cmp Js (D.b (bv Za5) (D.k (.int 0)) (D.v 6)) (D.v 7), T.cmp Y1 (D.v 7) (D.c ZV [D.v 1, D.v 5])]) (S.r (D.k (.bool false))) S.k) (S.q (S.a 10 (Zy 2 (emL (D.b Zf (D.v 4) (D.v 1))) (gs1 (I.val (D.c Zw [D.k (.int 3)])) (T.all [T.cmp vgt (D.b Zf (D.v 8) (D.v 1)) (D.k (.int 0))])) [] (.list []))) (S.q (S.ite (T.bool false [T.cmp Js (D.v 4) (D.ite (T.of (D.v 10)) (D.meth Xj Zbm (D.k (.str ", ")) [D.v 10]) (D.k (.str "0x0"))), T.cmp Js (D.c Jg [D.v 3]) (D.c Jg [D.list [D.b (bv Y1) (D.c X8 [D.v 10]) (D.k (.int 3)), D.b (bv vgt) (D.b Y2 (D.b Zf (D.v 6) (D.k (.int 0))) (D.b Zf (D.v 6) (D.k (.int 2)))) (D.k (.int 0))]])]) (S.r (D.k (.bool false))) S.k) (S.q (S.a 11 (Zy 2 (emL (D.b Ya (D.b YV (D.b Zf (D.v 7) (D.v 1)) (D.b Y2 (D.c YO [D.b Zf (D.v 3) (D.v 1)]) (D.b Zf (D.v 8) (D.v 1)))) (D.c YO [Zy 2 (emL (D.b Y2 (D.b Zf (D.b Zf (D.v 5) (D.v 3)) (D.v 1)) (D.b Zf (D.v 10) (D.v 1)))) (gs1 (I.val (D.c Zw [D.k (.int 3)])) (T.all [])) [] (.list [])]))) (gs1 (I.val (D.c Zw [D.k (.int 3)])) (T.all [])) [] (.list []))) (S.r (D.boolop true [D.v 9, D.b (bv Y1) (D.c ZD [D.v 8]) (D.c YO [D.v 5]), D.b (bv Y1) (D.sortItems (D.v 8)) (D.sortZip (D.v 2) (D.v 11))])))))))
theorem Zge {G : GC} {H : Nat} {ZV : VF} {ZD : VF} (TB : ZbV G) (h__law_pays : Yo G H "_law_pays" ZV) (h_count_calls : Yo G H "count_calls" ZD) : Xa G H XH (bd 18) (JV ZV ZD) :=
 (Zd (Zcz Za (.cons (.cons (.cons (.cons (.cons (.cons (.cons .nil))))))) (fun env hk hn => rfl)) (Zd (Yj (J7 (.cons (ZK Za6 (X4 Zc8 Zc Za rfl) Za rfl) (.cons (ZK Jy Za (Yh h__law_pays (.cons rfl Za (.cons rfl Za .nil))) rfl) .nil))) (Zk (ZL YK)) ZF) (Zd (ZaI (gens (Zx (Zl Z8 TB.range (.cons rfl Zc .nil))) (Zeb rfl rfl Yc (ZbD (.cons (ZK Zc3 (Zj rfl Za Za) Zc rfl) .nil))) .nil) (Zj rfl Za Za)) (Zd (Yj (J7 (.cons (ZK Za6 Za (ZdS (JG rfl Za) (Xf PySem.F.plainAttrs_str PySem.F.slot_str_join PySem.F.type_str_join J6 Ze9 rfl rfl JW (.cons rfl Za .nil) (by decide)) JW) rfl) (.cons (ZK Za6 (Zl ZaM TB.repr (.cons rfl Za .nil)) (Zl ZaM TB.repr (.cons rfl (Yu.tree (Ym (.cons rfl (X4 Jy (Zl Zbc TB.len (.cons rfl Za .nil)) Zc rfl) (.cons rfl (X4 Zc3 (Zm Xn (Zj rfl Za Zc) (Zj rfl Za Zc)) Zc rfl) .nil)) rfl)) .nil)) rfl) .nil))) (Zk (ZL YK)) ZF) (Zd (ZaI (gens (Zx (Zl Z8 TB.range (.cons rfl Zc .nil))) Ye .nil) (Zm Yk (Zm Xb (Zj rfl Za Za) (Zm Xn (Zl Xk TB.sum (.cons rfl (Zj rfl Za Za) .nil)) (Zj rfl Za Za))) (Zl Xk TB.sum (.cons rfl (Yu.tree (Z0 (gens (Zx (Zl Z8 TB.range (.cons rfl Zc .nil))) Ye .nil) (Zm Xn (Zj rfl (Zj rfl Za Za) Za) (Zj rfl Za Za)))) .nil)))) (Zk (ZL (Zeq (.cons rfl Za (.cons rfl (X4 Jy (Yh h_count_calls (.cons rfl Za .nil)) (Zl Xk TB.sum (.cons rfl Za .nil)) rfl) (.cons rfl (X4 Jy (Zff (by kernel_rfl) TB.sorted rfl rfl Za) (ZhD (by kernel_rfl) (by kernel_rfl) TB.sorted TB.zip rfl rfl Za Za) rfl) .nil)))))))))))
noncomputable def Zhj : K := { sc := [("script", .local), ("cells", .local), ("net", .cell), ("base", .local), ("way", .cell), ("words", .cell), ("loans", .local), ("degree", .local), ("one", .local), ("two", .local), ("coins", .cell), ("calls", .local), ("other", .cell), ("log", .local), ("here", .local), ("there", .local), ("pairs", .local), ("judge", .cell), ("rows", .cell), ("keys", .cell), ("signs", .local), ("_law_cells", .globalImplicit), ("_law_net", .globalImplicit), ("_law_words", .globalImplicit), ("_law_loans", .globalImplicit), ("add_callers", .globalImplicit), ("sum", .globalImplicit), ("_law_rank", .globalImplicit), ("list", .globalImplicit), ("repr", .globalImplicit), ("range", .globalImplicit), ("TupleComp", .globalImplicit)], names := ["script", "cells", "net", "base", "way", "words", "loans", "degree", "one", "two", "coins", "calls", "other", "log", "here", "there", "pairs", "judge", "rows", "keys", "signs"], asg := ["script", "cells", "net", "base", "way", "words", "loans", "degree", "one", "two", "coins", "calls", "other", "log", "here", "there", "pairs", "judge", "rows", "keys", "signs"], gen := false }
noncomputable def Zj0 (ZQ : VF) (ZO : VF) (ZG : VF) (Yb : VF) (ZI : VF) (Z1 : VF) (Ze : VF) (ZH : VF) : DS := (S.q (S.a 1 (D.c ZQ [D.v 0])) (S.q (S.a 2 (D.c Yb [D.v 1])) (S.q (S.assigns [3, 4] (D.t [D.b Y8 (D.b Zf (D.v 1) (D.k (.int 8))) (D.k (.int 30)), D.b Ya (D.k (.int 1)) (D.b Y2 (D.k (.int 2)) (D.b Y8 (D.b Zg6 (D.b Zf (D.v 1) (D.k (.int 8))) (D.k (.int 30))) (D.k (.int 2))))])) (S.q (S.a 5 (D.c Z1 [D.v 3])) (S.q (S.a 6 (D.c ZG [D.v 2, D.v 5])) (S.q (S.a 7 (D.b Ya (D.b Y8 (D.b Zf (D.v 1) (D.k (.int 7))) (D.k (.int 7))) (D.k (.int 1)))) (S.q (S.swapped [8, 9] (D.t [D.b Ya (D.b Y8 (D.b Zf (D.v 1) (D.k (.int 5))) (D.k (.int 5))) (D.k (.int 2)), D.b Ya (D.b Y8 (D.b Zf (D.v 1) (D.k (.int 6))) (D.k (.int 5))) (D.k (.int 2))])) (S.q (S.a 10 (D.c Ze [D.dict [((D.b Zf (D.v 5) (D.k (.int 0))), (D.v 8))], D.dict [((D.b Zf (D.v 5) (D.k (.int 1))), (D.v 9)), ((D.b Zf (D.v 5) (D.k (.int 2))), (D.b Ya (D.b Ya (D.v 7) (D.v 8)) (D.v 9)))]])) (S.q (S.a 11 (D.c Ze [D.dict [((D.b Zf (D.v 5) (D.k (.int 1))), (D.c YO [D.b Zf (D.v 2) (D.k (.int 1))]))], D.dict [((D.b Zf (D.v 5) (D.k (.int 0))), (D.c YO [D.b Zf (D.v 2) (D.k (.int 0))])), ((D.b Zf (D.v 5) (D.k (.int 2))), (D.c YO [D.b Zf (D.v 2) (D.k (.int 2))]))]])) (S.q (S.a 12 (D.c Ze [D.c Ze [D.v 11, Zy 2 (emD (D.v 1) (D.un JI (D.k (.int 2)))) (gs1 (I.val (D.v 5)) (T.all [])) [] (.dict [] [])], Zy 2 (emD (D.v 1) (D.un JI (D.b Zf (D.v 12) (D.v 1)))) (gs1 (I.val (D.v 5)) (T.all [])) [] (.dict [] [])])) (S.q (S.a 13 (Zbx (D.list []))) (S.q (S.a 14 (D.c ZI [D.v 10, D.v 6, D.v 5, D.v 3, D.v 4, D.v 13])) (S.q (S.a 15 (D.c ZI [D.v 12, D.v 6, D.v 5, D.v 3, D.v 4, D.v 13])) (S.q (S.ite (T.cmp Js (D.b Ya (D.v 14) (D.v 15)) (D.b Ya (D.v 7) (D.k (.int 2)))) (S.r (D.k (.bool false))) S.k) (S.q (S.ite (T.bool false [T.cmp Js (Zy 2 (emL (D.v 1)) (gs1 (I.val (D.v 13)) (T.all [T.not (T.of (D.c ZO [D.v 1, D.v 4, D.v 7]))])) [] (.list [])) (D.list []), T.cmp Zk7 (D.v 6) (D.c ZG [D.v 2, D.v 5])]) (S.r (D.k (.bool false))) S.k) (S.q (S.ite (T.cmp Js (D.listItems (D.v 10)) (D.list [D.t [D.b Zf (D.v 5) (D.k (.int 0)), D.v 8], D.t [D.b Zf (D.v 5) (D.k (.int 1)), D.v 9], D.t [D.b Zf (D.v 5) (D.k (.int 2)), D.b Ya (D.b Ya (D.v 7) (D.v 8)) (D.v 9)]])) (S.r (D.k (.bool false))) S.k) (S.q (S.ite (T.cmp Js (D.listItems (D.v 12)) (Zy 2 (emL (D.t [D.b Zf (D.v 7) (D.v 1), D.b Ya (D.b Ya (D.c YO [D.b Zf (D.v 4) (D.v 1)]) (D.k (.int 2))) (D.b Zf (D.v 12) (D.b Zf (D.v 7) (D.v 1)))])) (gs1 (I.val (D.t [D.k (.int 1), D.k (.int 0), D.k (.int 2)])) (T.all [])) [] (.list []))) (S.r (D.k (.bool false))) S.k) (S.q (S.a 16 (D.c Ze [Zy 2 (emD (D.v 1) (D.t [D.b Zf (D.v 12) (D.v 1), D.k (.int 1)])) (gs1 (I.val (D.v 5)) (T.all [])) [] (.dict [] []), Zy 2 (emD (D.v 1) (D.t [D.b Zf (D.v 14) (D.v 1), D.k (.int 1)])) (gs1 (I.val (D.v 12)) (T.all [])) [] (.dict [] [])])) (S.q (S.ite (T.cmp Js (D.c Jg [D.listItems (D.v 16)]) (D.c Jg [Zy 2 (emL (D.t [D.b Zf (D.v 7) (D.v 1), D.t [D.b Ya (D.c YO [D.b Zf (D.v 4) (D.v 1)]) (D.k (.int 2)), D.k (.int 2)]])) (gs1 (I.val (D.c Zw [D.k (.int 3)])) (T.all [])) [] (.list [])])) (S.r (D.k (.bool false))) S.k) (S.q (S.a 17 (D.tcNew (D.t [D.t [D.k (.int 0), D.k (.int 1)], D.t [D.k (.int 1), D.v 4]]))) (S.q (S.a 18 (Zy 2 (emL (D.t [D.b Zf (D.v 14) (D.b Zf (D.v 7) (D.v 1)), D.v 1])) (gs1 (I.val (D.c Zw [D.k (.int 3)])) (T.all [])) [] (.list []))) (S.q (S.a 19 (Zy 3 (emL (D.t [D.v 1, D.b Y2 (D.v 7) (D.v 2)])) { it := (I.val (D.v 18)), tp := false, tgt := (S.parts [1, 2]), ifs := (T.all []) } [] (.list []))) (S.q (S.a 20 (Zy 2 (emL (Zy 2 (emL (D.tcCmp ZH (D.v 21) [D.v 3, D.v 1])) (gs1 (I.val (D.v 20)) (T.all [])) [] (.list []))) (gs1 (I.val (D.v 18)) (T.all [])) [] (.list []))) (S.r (D.b (bv Y1) (D.c Jg [D.v 20]) (D.c Jg [Zy 2 (emL (Zy 2 (emL (D.b Ya (D.b (bv ZmA) (D.v 3) (D.v 1)) (D.b (bv Zh4) (D.v 3) (D.v 1)))) (gs1 (I.val (D.v 21)) (T.all [])) [] (.list []))) (gs1 (I.val (D.v 19)) (T.all [])) [] (.list [])]))))))))))))))))))))))))))
theorem ZsP {G : GC} {H : Nat} {ZQ : VF} {ZO : VF} {ZG : VF} {Yb : VF} {ZI : VF} {Z1 : VF} {Ze : VF} {ZH : VF} (TB : ZbV G) {Kf : PySem.W.Frag} {fI fC : Addr} (TCI : Zfi G Kf fI fC) (TCC : Zke G H fC ZH) (TCN : Zj1 G H Kf fI) (h__law_cells : Yo G H "_law_cells" ZQ) (h__law_holds : Yo G H "_law_holds" ZO) (h__law_loans : Yo G H "_law_loans" ZG) (h__law_net : Yo G H "_law_net" Yb) (h__law_rank : Yo G H "_law_rank" ZI) (h__law_words : Yo G H "_law_words" Z1) (h_add_callers : Yo G H "add_callers" Ze) : Xa G H Zhj (bd 19) (Zj0 ZQ ZO ZG Yb ZI Z1 Ze ZH) :=
 (Zd (Zt (Yh h__law_cells (.cons rfl Za .nil))) (Zd (Zt (Yh h__law_net (.cons rfl Za .nil))) (Zd (Zb4 (Zz (.cons rfl (Zm X5 (Zj rfl Za Zc) Zc) (.cons rfl (Zm Yk Zc (Zm Xn Zc (Zm X5 (Zm ZjS (Zj rfl Za Zc) Zc) Zc))) .nil)) rfl) (.cons (.cons .nil))) (Zd (Zt (Yh h__law_words (.cons rfl Za .nil))) (Zd (Zt (Yh h__law_loans (.cons rfl Za (.cons rfl Za .nil)))) (Zd (Zt (Zm Yk (Zm X5 (Zj rfl Za Zc) Zc) Zc)) (Zd (Jf (Zz (.cons rfl (Zm Yk (Zm X5 (Zj rfl Za Zc) Zc) Zc) (.cons rfl (Zm Yk (Zm X5 (Zj rfl Za Zc) Zc) Zc) .nil)) rfl) (.cons (.cons .nil)) rfl) (Zd (Zt (Yh h_add_callers (.cons rfl (Yu.tree (ZbM (.cons (Zj rfl Za Zc) Za .nil) (by simp) (by decide))) (.cons rfl (Yu.tree (ZbM (.cons (Zj rfl Za Zc) Za (.cons (Zj rfl Za Zc) (Zm Yk (Zm Yk Za Za) Za) .nil)) (by simp) (by decide))) .nil)))) (Zd (Zt (Yh h_add_callers (.cons rfl (Yu.tree (ZbM (.cons (Zj rfl Za Zc) (Zl Xk TB.sum (.cons rfl (Zj rfl Za Zc) .nil)) .nil) (by simp) (by decide))) (.cons rfl (Yu.tree (ZbM (.cons (Zj rfl Za Zc) (Zl Xk TB.sum (.cons rfl (Zj rfl Za Zc) .nil)) (.cons (Zj rfl Za Zc) (Zl Xk TB.sum (.cons rfl (Zj rfl Za Zc) .nil)) .nil)) (by simp) (by decide))) .nil)))) (Zd (Zt (Yh h_add_callers (.cons rfl (Yh h_add_callers (.cons rfl Za (.cons rfl (Yu.tree (XG (gens (Zx Za) Ye .nil) Za (ZbB Zat Zc))) .nil))) (.cons rfl (Yu.tree (XG (gens (Zx Za) Ye .nil) Za (ZbB Zat (Zj rfl Za Za)))) .nil)))) (Zd (Zt (Yu.box (Ym .nil rfl))) (Zd (Zt (Yh h__law_rank (.cons rfl Za (.cons rfl Za (.cons rfl Za (.cons rfl Za (.cons rfl Za (.cons rfl Za .nil)))))))) (Zd (Zt (Yh h__law_rank (.cons rfl Za (.cons rfl Za (.cons rfl Za (.cons rfl Za (.cons rfl Za (.cons rfl Za .nil)))))))) (Zd (Yj (ZK Za6 (Zm Yk Za Za) (Zm Yk Za Zc) rfl) (Zk (ZL YK)) ZF) (Zd (Yj (J7 (.cons (ZK Za6 (Yu.tree (Z0 (gens (Zx Za) (Zeb rfl rfl Yc (ZbD (.cons (Zip (JG rfl (Yh h__law_holds (.cons rfl Za (.cons rfl Za (.cons rfl Za .nil)))))) .nil))) .nil) Za)) (Yu.tree (Ym .nil rfl)) rfl) (.cons (ZK Zqk Za (Yh h__law_loans (.cons rfl Za (.cons rfl Za .nil))) rfl) .nil))) (Zk (ZL YK)) ZF) (Zd (Yj (ZK Za6 (ZaE (by kernel_rfl) TB.list rfl rfl Za) (Yu.tree (Ym (.cons rfl (Zz (.cons rfl (Zj rfl Za Zc) (.cons rfl Za .nil)) rfl) (.cons rfl (Zz (.cons rfl (Zj rfl Za Zc) (.cons rfl Za .nil)) rfl) (.cons rfl (Zz (.cons rfl (Zj rfl Za Zc) (.cons rfl (Zm Yk (Zm Yk Za Za) Za) .nil)) rfl) .nil))) rfl)) rfl) (Zk (ZL YK)) ZF) (Zd (Yj (ZK Za6 (ZaE (by kernel_rfl) TB.list rfl rfl Za) (Yu.tree (Z0 (gens (Zx (Zz (.cons rfl Zc (.cons rfl Zc (.cons rfl Zc .nil))) rfl)) Ye .nil) (Zz (.cons rfl (Zj rfl Za Za) (.cons rfl (Zm Yk (Zm Yk (Zl Xk TB.sum (.cons rfl (Zj rfl Za Za) .nil)) Zc) (Zj rfl Za (Zj rfl Za Za))) .nil)) rfl))) rfl) (Zk (ZL YK)) ZF) (Zd (Zt (Yh h_add_callers (.cons rfl (Yu.tree (XG (gens (Zx Za) Ye .nil) Za (Zz (.cons rfl (Zj rfl Za Za) (.cons rfl Zc .nil)) rfl))) (.cons rfl (Yu.tree (XG (gens (Zx Za) Ye .nil) Za (Zz (.cons rfl (Zj rfl Za Za) (.cons rfl Zc .nil)) rfl))) .nil)))) (Zd (Yj (ZK Za6 (Zl ZaM TB.repr (.cons rfl (ZaE (by kernel_rfl) TB.list rfl rfl Za) .nil)) (Zl ZaM TB.repr (.cons rfl (Yu.tree (Z0 (gens (Zx (Zl Z8 TB.range (.cons rfl Zc .nil))) Ye .nil) (Zz (.cons rfl (Zj rfl Za Za) (.cons rfl (Zz (.cons rfl (Zm Yk (Zl Xk TB.sum (.cons rfl (Zj rfl Za Za) .nil)) Zc) (.cons rfl Zc .nil)) rfl) .nil)) rfl))) .nil)) rfl) (Zk (ZL YK)) ZF) (Zd (Zt (ZfU TCI TCN (by kernel_rfl) rfl (Zz (.cons rfl (Zz (.cons rfl Zc (.cons rfl Zc .nil)) rfl) (.cons rfl (Zz (.cons rfl Zc (.cons rfl Za .nil)) rfl) .nil)) rfl))) (Zd (ZeY (Yu.tree (Z0 (gens (Zx (Zl Z8 TB.range (.cons rfl Zc .nil))) Ye .nil) (Zz (.cons rfl (Zj rfl Za (Zj rfl Za Za)) (.cons rfl Za .nil)) rfl)))) (Zd (ZeY (Yu.tree (Z0 (gens (Zx Za) (Zeb rfl rfl (Zal (.cons (.cons .nil))) (ZbD .nil)) .nil) (Zz (.cons rfl Za (.cons rfl (Zm Xn Za Za) .nil)) rfl)))) (Zd (ZaI (gens (Zx Za) Ye .nil) (Yu.tree (Z0 (gens (Zx Za) Ye .nil) (ZfX TCI TCC rfl rfl Za (.cons rfl Za (.cons rfl Za .nil)) (by simp) (by decide))))) (Zk (ZL (X4 Jy (Zl ZaM TB.repr (.cons rfl Za .nil)) (Zl ZaM TB.repr (.cons rfl (Yu.tree (Z0 (gens (Zx Za) Ye .nil) (Yu.tree (Z0 (gens (Zx Za) Ye .nil) (Zm Yk (X4 Zqq Za Za rfl) (X4 ZjZ Za Za rfl)))))) .nil)) rfl))))))))))))))))))))))))))
noncomputable def ZaK : K := { sc := [("self", .local), ("left", .local), ("right", .local), ("index", .local), ("direction", .local), ("l", .local), ("r", .local)], names := ["self", "left", "right", "index", "direction", "l", "r"], asg := ["self", "left", "right", "index", "direction", "l", "r"], gen := false }
noncomputable def ZbJ : DS := (S.q (S.l (I.val (D.tcGet (D.v 0))) (S.parts [3, 4]) (S.q (S.a 5 (D.b Zf (D.v 1) (D.v 3))) (S.q (S.a 6 (D.b Zf (D.v 2) (D.v 3))) (S.q (S.ite (T.cmp vlt (D.v 5) (D.v 6)) (S.r (D.un JI (D.v 4))) S.k) (S.ite (T.cmp vgt (D.v 5) (D.v 6)) (S.r (D.v 4)) S.k)))) S.k) (S.r (D.k (.int 0))))
theorem Zlu {G : GC} {H : Nat} (TB : ZbV G) {Kf : PySem.W.Frag} {fI fC : Addr} (TCI : Zfi G Kf fI fC) : Xa G H ZaK (bdm) (ZbJ) :=
 (Zd (Y6 (Zx (ZlO TCI Za)) rfl (Zal (.cons (.cons .nil))) (Zd (Zt (Zj rfl Za Za)) (Zd (Zt (Zj rfl Za Za)) (Zd (Yj (ZK Ze1 Za Za rfl) (Zk (ZL (ZbB Zat Za))) ZF) (Zk (Yj (ZK Zc3 Za Za rfl) (Zk (ZL Za)) ZF))))) ZF (fun _ _ => rfl)) (Zk (ZL Zc)))
end Mine
open PySem PySem.W PyProof.Rows
namespace Mine
open PySem.Calls
noncomputable def st (n : Nat) : Option Stmt := PySem.Challenge.pw_xg0032_03.main.body[n]?
noncomputable def sm (n i : Nat) : Option Stmt := match st n with
 | some (.ClassDef _ _ _ b _ _ _ _ _ _ _) => b[i]?
 | _ => none
noncomputable def fp : Option Stmt -> Arguments
 | some (.FunctionDef _ p _ _ _ _ _ _ _ _) => p
 | _ => default
noncomputable def fs : Option Stmt -> Scope
 | some (.FunctionDef _ _ _ _ _ _ s _ _ _) => s
 | _ => default
noncomputable def bdi : List Stmt := match sm 1 0 with
 | some (.FunctionDef _ _ b _ _ _ _ _ _ _) => b
 | _ => []
noncomputable abbrev ke (P : Params) (n : Str) (t : Nat) (v : Value) : DictEntry := { hash := PyData.keyHash P n, key := .str n t, val := v }
noncomputable abbrev fO (nm q : Str) (s : Option Stmt) (b : List Stmt) (m : Str) (t c : Nat) : Obj := { cls := .type "function", data := .func (methDef nm q (fp s) b (fs s) (.str m t) (.ref c) .none) }
noncomputable abbrev cO (nm q : Str) (t l n r : Nat) (x y z : Value) (k : Nat) : Obj := { cls := .type "code", data := .fields #[.str nm t, .str q (t+1), .str "/claim/cut.py" (t+2), .int l 0, .int n 0, .int 0 0, .int 0 0, .int 3 0, .ref r, .bool true, .int 181 0, .ref (r+1), .none, x, y, z, .int k 0, .int l 0, .str "/claim/cut.py" (k+1)] }
noncomputable def K4 (P : Params) : PySem.W.Frag := [
(3, { cls := .type "dict", data := .dict #[ke P "__name__" 165 (.str "law_xg0032_03" 310), ke P "__doc__" 166 (.none), ke P "__package__" 167 (.none), ke P "__loader__" 168 (.builtin "__main__.__loader__#opaque"), ke P "__spec__" 169 (.none), ke P "__annotations__" 170 (.ref 6), ke P "__builtins__" 171 (.ref 4), ke P "__file__" 173 (.str "/claim/cut.py" 172), ke P "__cached__" 174 (.none), ke P "TupleComp" 230 (.ref 38), ke P "add_callers" 241 (.ref 49), ke P "count_calls" 250 (.ref 56), ke P "COMPILER_FLAG_NAMES" 283 (.ref 57), ke P "pretty_flags" 293 (.ref 64), ke P "ELLIPSIS_MARKER" 297 (.str "..." 296), ke P "_ellipsis_match" 309 (.ref 71), ke P "_law_cells" 320 (.ref 78), ke P "_law_net" 326 (.ref 83), ke P "_law_words" 332 (.ref 88), ke P "_law_loans" 338 (.ref 93), ke P "_law_pays" 354 (.ref 100), ke P "_law_run" 360 (.ref 105), ke P "_law_rank" 366 (.ref 110), ke P "_law_holds" 372 (.ref 115), ke P "law" 378 (.ref 120)] 25 }),
 (27, cO "__init__" "TupleComp.__init__" 201 4 2 22 (.ref 24) (.ref 25) (.ref 26) 206),
 (28, fO "__init__" "TupleComp.__init__" (sm 1 0) bdi "cpy313.pstats" 187 27),
 (34, cO "compare" "TupleComp.compare" 209 7 3 29 (.ref 31) (.ref 32) (.ref 33) 219),
 (35, fO "compare" "TupleComp.compare" (sm 1 1) bdm "cpy313.pstats" 187 34),
 (37, { cls := .type "dict", data := .dict #[ke P "__module__" 196 (.str "cpy313.pstats" 187), ke P "__firstlineno__" 200 (.int 2 199), ke P "__init__" 208 (.ref 28), ke P "compare" 221 (.ref 35), ke P "__static_attributes__" 223 (.ref 36), ke P "__dict__" 225 (.ref 39), ke P "__weakref__" 227 (.ref 40), ke P "__doc__" 228 (.none)] 4 }),
 (38, { cls := .type "type", data := .cls { name := "TupleComp", bases := [.type "object"], mro := [.ref 38, .type "object"], ns := 37, qualname := "TupleComp" }, slots := #[none, none, some (.str "TupleComp" 189), some (.str "TupleComp" 197), some (.builtin "object.__new__"), some (.bool true)] }),
 (39, { cls := .type "getset_descriptor", data := .fields #[.str "__dict__" 224, .ref 38, .builtin "function.__dict__", .builtin "function.__dict__#set"] }),
 (40, { cls := .type "getset_descriptor", data := .fields #[.str "__weakref__" 226, .ref 38, .builtin "ExceptionGroup.__weakref__", .none] }),
 (48, cO "add_callers" "add_callers" 231 16 2 43 (.ref 45) (.ref 46) (.ref 47) 239),
 (49, fO "add_callers" "add_callers" (st 2) (bd 2) "cpy313.pstats" 187 48),
 (55, cO "count_calls" "count_calls" 242 29 1 50 (.ref 52) (.ref 53) (.ref 54) 248),
 (56, fO "count_calls" "count_calls" (st 3) (bd 3) "cpy313.pstats" 187 55),
 (57, { cls := .type "dict", data := .dict #[{ hash := 1, key := .int 1 253, val := .str "OPTIMIZED" 254 }, { hash := 2, key := .int 2 255, val := .str "NEWLOCALS" 256 }, { hash := 4, key := .int 4 257, val := .str "VARARGS" 258 }, { hash := 8, key := .int 8 259, val := .str "VARKEYWORDS" 260 }, { hash := 16, key := .int 16 261, val := .str "NESTED" 262 }, { hash := 32, key := .int 32 263, val := .str "GENERATOR" 264 }, { hash := 64, key := .int 64 265, val := .str "NOFREE" 266 }, { hash := 128, key := .int 128 267, val := .str "COROUTINE" 268 }, { hash := 256, key := .int 256 269, val := .str "ITERABLE_COROUTINE" 270 }, { hash := 512, key := .int 512 271, val := .str "ASYNC_GENERATOR" 272 }] 10 }),
 (63, cO "pretty_flags" "pretty_flags" 284 36 1 58 (.ref 60) (.ref 61) (.ref 62) 291),
 (64, fO "pretty_flags" "pretty_flags" (st 6) (bd 6) "cpy313.dis" 251 63),
 (70, cO "_ellipsis_match" "_ellipsis_match" 298 50 2 65 (.ref 67) (.ref 68) (.ref 69) 307),
 (71, fO "_ellipsis_match" "_ellipsis_match" (st 9) (bd 9) "cpy313.doctest" 294 70),
 (77, cO "_law_cells" "_law_cells" 312 79 1 72 (.ref 74) (.ref 75) (.ref 76) 318),
 (78, fO "_law_cells" "_law_cells" (st 11) (bd 11) "law_xg0032_03" 310 77),
 (82, cO "_law_net" "_law_net" 321 84 1 79 .none .none (.ref 81) 324),
 (83, fO "_law_net" "_law_net" (st 12) (bd 12) "law_xg0032_03" 310 82),
 (87, cO "_law_words" "_law_words" 327 89 1 84 .none .none (.ref 86) 330),
 (88, fO "_law_words" "_law_words" (st 13) (bd 13) "law_xg0032_03" 310 87),
 (92, cO "_law_loans" "_law_loans" 333 92 2 89 .none .none (.ref 91) 336),
 (93, fO "_law_loans" "_law_loans" (st 14) (bd 14) "law_xg0032_03" 310 92),
 (99, cO "_law_pays" "_law_pays" 339 94 2 94 (.ref 96) (.ref 97) (.ref 98) 352),
 (100, fO "_law_pays" "_law_pays" (st 15) (bd 15) "law_xg0032_03" 310 99),
 (104, cO "_law_run" "_law_run" 355 103 5 101 .none .none (.ref 103) 358),
 (105, fO "_law_run" "_law_run" (st 16) (bd 16) "law_xg0032_03" 310 104),
 (109, cO "_law_rank" "_law_rank" 361 119 6 106 .none .none (.ref 108) 364),
 (110, fO "_law_rank" "_law_rank" (st 17) (bd 17) "law_xg0032_03" 310 109),
 (114, cO "_law_holds" "_law_holds" 367 126 3 111 .none .none (.ref 113) 370),
 (115, fO "_law_holds" "_law_holds" (st 18) (bd 18) "law_xg0032_03" 310 114),
 (119, cO "law" "law" 373 135 1 116 .none .none (.ref 118) 376),
 (120, fO "law" "law" (st 19) (bd 19) "law_xg0032_03" 310 119)]
noncomputable def a4 : List Addr := [3, 27, 28, 34, 35, 37, 38, 39, 40, 48, 49, 55, 56, 57, 63, 64, 70, 71, 77, 78, 82, 83, 87, 88, 92, 93, 99, 100, 104, 105, 109, 110, 114, 115, 119, 120]
noncomputable def vw : Program := view PySem.Challenge.pw_xg0032_03 [2, 19]
noncomputable def lo : List Str := ["TupleComp", "count_calls", "COMPILER_FLAG_NAMES", "pretty_flags", "ELLIPSIS_MARKER", "_ellipsis_match", "_law_cells", "_law_net", "_law_words", "_law_loans", "_law_pays", "_law_run", "_law_rank", "_law_holds"]
noncomputable def Hk4 : Hook := kHook K4 a4 (fun _ => by kernel_rfl)
theorem Ztg : LeftO PySem.Challenge.pw_xg0032_03 vw lo (fun _ => true) Hk4.obs Hk4.val 2000 :=
 LeftO.of_split "special-get-raises" (fun w => by kernel_rfl)
noncomputable def dr4 : DefRec × List (Str × Expr) := (defOf vw "law").get (by kernel_rfl)
theorem ZsT (call : WalkO vw lo (fun _ _ => True) Hk4.says PySem.Challenge.rw_xg0032_03.row.toRowW dr4.1 [] fun f vs => PySem.call f vs) : PySem.Challenge.rw_xg0032_03.Holds :=
 holds_law (by kernel_rfl) fun said => holds_open (q := vw) (loose := lo) (Xt := fun _ => true) (XP := fun _ _ => True) (N := 2000) Ztg Hk4.of Hk4.keeps (fun _ _ => trivial) (fun _ _ _ _ _ => trivial)
  (by kernel_rfl) (by kernel_rfl) (by kernel_rfl) (fun s _ => recFacts_nil rfl) rfl said (by kernel_rfl) ⟨rfl, rfl, rfl, rfl, rfl, by kernel_rfl⟩ ⟨[.list [.int 1]], by kernel_rfl, by kernel_rfl⟩ call
section
variable {prog : Program} {loose : List Str} {mean : ExcName -> Option Value} {mg mb : Str -> Option Value} {s : Shared} {w : World}
noncomputable abbrev K04 (w : World) := K4 w.params
noncomputable abbrev G04 (w : World) (s : Shared) (mg mb : Str -> Option Value) := mkG PySem.Challenge.pw_xg0032_03 w s mg mb 48 44 38
theorem Zkk (KX : (K04 w).In s.heap) (T : Top vw loose mean mg mb s.heap) : s.heap.IsCode 48 44 #[] /\ s.heap.TableAt 48 44 #[] := by
 obtain ⟨a, o, fd, c, P, h1, h2, h3, h4, h5, h6⟩ := T.tab _ (List.mem_of_find?_eq_some (p := fun e : DefRec => e.name == "add_callers") (a := _) rfl);have e1 := PySem.W.mg_of (n := "add_callers") (v := .ref 49) KX T.g (by kernel_rfl);have e0 : mg ("add_callers" : Str) = some (.ref a) := h1;rw [e1] at e0; cases e0;have e2 := KX 49 _ rfl;rw [h2] at e2; cases e2
 first | exact nn h3 | cases h3
 first | exact nn h4 | cases h4
 have e3 := KX 48 _ rfl;obtain ⟨o, vs, q1, q2, q3, q4⟩ := h6.1;rw [e3] at q1; cases q1
 first | exact nn q3 | cases q3
 first | exact nn q4 | cases q4
 exact ⟨h5, h6⟩
theorem Zsb (KX : (K04 w).In s.heap) (T : Top vw (PySem.W.looseW vw lo) mean mg mb s.heap) : ZbV (G04 w s mg mb) := by
 have ap := Zko (prog := PySem.Challenge.pw_xg0032_03) (w := w) (mg := mg) (mb := mb) (tc := 38) KX (Zkk KX T).2 rfl
 refine ⟨Jp T (by decide +kernel) (by decide +kernel), Jp T (by decide +kernel) (by decide +kernel), Jp T (by decide +kernel) (by decide +kernel), Jp T (by decide +kernel) (by decide +kernel), Jp T (by decide +kernel) (by decide +kernel),
  Jp T (by decide +kernel) (by decide +kernel), Jp T (by decide +kernel) (by decide +kernel), Jp T (by decide +kernel) (by decide +kernel), Jp T (by decide +kernel) (by decide +kernel), Jp T (by decide +kernel) (by decide +kernel),
  Jp T (by decide +kernel) (by decide +kernel), Jp T (by decide +kernel) (by decide +kernel), Jp T (by decide +kernel) (by decide +kernel), Jp T (by decide +kernel) (by decide +kernel), ⟨296, .inl ?_⟩, ?_⟩
 ·exact PySem.W.mg_of (n := "ELLIPSIS_MARKER") KX T.g (by kernel_rfl)
 ·exact ZpJ KX ap (PySem.W.mg_of (n := "COMPILER_FLAG_NAMES") (v := .ref 57) KX T.g (by kernel_rfl)) rfl rfl
theorem Zsg (KX : (K04 w).In s.heap) (T : Top vw loose mean mg mb s.heap) : Zfi (G04 w s mg mb) (K04 w) 28 35 := by
 refine ⟨KX, Zko KX (Zkk KX T).2 rfl, ?_, ?_, ?_, ?_, ?_, ?_, ?_, ?_, ?_, ?_, ?_, ?_⟩ <;> kernel_rfl
theorem join04 {ZH : VF} {Ze : VF} {ZD : VF} {ZB : VF} {Zr : VF} {ZQ : VF} {Yb : VF} {Z1 : VF} {ZG : VF} {ZV : VF} {Z4 : VF} {ZO : VF} {ZI : VF}
  (R_compare : Runs (ZbJ) ZaK ["self", "left", "right"] ZH)
  (R_add_callers : Runs (JH) XR ["target", "source"] Ze)
  (R_count_calls : Runs (JD) XT ["callers"] ZD)
  (R_pretty_flags : Runs (Jn) Xw ["flags"] ZB)
  (R__ellipsis_match : Runs (Xm) Y0 ["want", "got"] Zr)
  (R__law_cells : Runs (J4) Je ["script"] ZQ)
  (R__law_net : Runs (ZaP) Zai ["cells"] Yb)
  (R__law_words : Runs (J1) Jk ["base"] Z1)
  (R__law_loans : Runs (J5) Jj ["net", "words"] ZG)
  (R__law_pays : Runs (Zao) Jb ["net", "coins"] ZV)
  (R__law_run : Runs (ZaS Zr Ze ZB ZH) JA ["coins", "loans", "words", "base", "way"] Z4)
  (R__law_holds : Runs (JV ZV ZD) XH ["row", "net", "words"] ZO)
  (R__law_rank : Runs (JK Z4 Ze) JP ["coins", "loans", "words", "base", "way", "log"] ZI)
  (hlaw : ∀ ns : List Int, ns.length <= 63 -> ∃ σ₁ B', Zj0 ZQ ZO ZG Yb ZI Z1 Ze ZH (JS Zhj ["script"] [.list (ns.map .int)]) [] = some (.ret (.bool true), σ₁, B'))
  (KX : (K04 w).In s.heap) (T : Top vw (PySem.W.looseW vw lo) mean mg mb s.heap) (hg : s.gens = #[]) {ns : List Int} {l : Addr} (hn : ns.length <= 63) (w1 : PySem.W.Well w.params s.heap (.ref l) (PySem.W.ofPy (.list (ns.map .int)))) :
  codeAny (model PySem.Challenge.pw_xg0032_03 w) callerA (.call (.ref 120) ⟨[.ref l], []⟩) (fun r s' => r = .ok (.ret (.bool true)) /\ Wd (G04 w s mg mb) s') s := by
 obtain ⟨hc, ht⟩ := Zkk KX T;have TB := Zsb KX T;have TCI := Zsg KX T (mg := mg) (mb := mb);have ap := TCI.apart;have gok : GOk (G04 w s mg mb) := Zpq T hc ht;have hm : ∀ {n : Str} {v : Value}, PySem.W.nsIn (K04 w) mainGlobals n = some (some v) -> (G04 w s mg mb).mg n = some v := fun e => PySem.W.mg_of KX T.g e;have TCN : ∀ {H : Nat}, Zj1 (G04 w s mg mb) (H + 1) (K04 w) 28 := fun {H} => ⟨.inl (hm (by kernel_rfl)), by kernel_rfl, ⟨false, _, _, _, _, _, _, _, _, Ja KX ap rfl rfl rfl rfl rfl (fun h => by cases h), rfl, rfl, rfl, rfl, rfl, fun _ _ _ _ _ => rfl⟩, by omega⟩;have I_compare : ZaB (G04 w s mg mb) false "compare" "TupleComp.compare" _ bdm _ 35 := Ja KX ap rfl rfl rfl rfl rfl (fun h => by cases h);have C_compare : ∀ {H : Nat}, Zke (G04 w s mg mb) (H + 1) 35 ZH := fun {H} => ⟨1, _, _, _, _, _, _, by omega, I_compare, Zkp (H := 0) (k := ZaK) (ps := ["self", "left", "right"]) I_compare rfl (by decide +kernel) (fun pm cd doc => ZbF.all (n := 3) fun _ _ _ => rfl) (Zlu TB TCI) R_compare⟩;have I_add_callers : ZaB (G04 w s mg mb) true "add_callers" "add_callers" _ (bd 2) _ 49 := Ja KX ap rfl rfl rfl rfl rfl (fun _ => ⟨44, List.mem_singleton.mpr rfl⟩);have C_add_callers : ∀ {H : Nat}, Yo (G04 w s mg mb) (H + 1) "add_callers" Ze := fun {H} => YS (H := 0) (k := XR) (ps := ["target", "source"]) (.inl (hm (by kernel_rfl))) I_add_callers rfl (by decide +kernel) (fun pm cd doc => ZbF.all (n := 2) fun _ _ => rfl) (Zfk TB) R_add_callers (by omega);have I_count_calls : ZaB (G04 w s mg mb) false "count_calls" "count_calls" _ (bd 3) _ 56 := Ja KX ap rfl rfl rfl rfl rfl (fun h => by cases h);have C_count_calls : ∀ {H : Nat}, Yo (G04 w s mg mb) (H + 1) "count_calls" ZD := fun {H} => YS (H := 0) (k := XT) (ps := ["callers"]) (.inl (hm (by kernel_rfl))) I_count_calls rfl (by decide +kernel) (fun pm cd doc => ZbF.all (n := 1) fun _ => rfl) (Zfg TB) R_count_calls (by omega);have I_pretty_flags : ZaB (G04 w s mg mb) false "pretty_flags" "pretty_flags" _ (bd 6) _ 64 := Ja KX ap rfl rfl rfl rfl rfl (fun h => by cases h);have C_pretty_flags : ∀ {H : Nat}, Yo (G04 w s mg mb) (H + 1) "pretty_flags" ZB := fun {H} => YS (H := 0) (k := Xw) (ps := ["flags"]) (.inl (hm (by kernel_rfl))) I_pretty_flags rfl (by decide +kernel) (fun pm cd doc => ZbF.all (n := 1) fun _ => rfl) (ZeQ TB) R_pretty_flags (by omega);have I__ellipsis_match : ZaB (G04 w s mg mb) false "_ellipsis_match" "_ellipsis_match" _ (bd 9) _ 71 := Ja KX ap rfl rfl rfl rfl rfl (fun h => by cases h);have C__ellipsis_match : ∀ {H : Nat}, Yo (G04 w s mg mb) (H + 1) "_ellipsis_match" Zr := fun {H} => YS (H := 0) (k := Y0) (ps := ["want", "got"]) (.inl (hm (by kernel_rfl))) I__ellipsis_match rfl (by decide +kernel) (fun pm cd doc => ZbF.all (n := 2) fun _ _ => rfl) (ZcK TB) R__ellipsis_match (by omega);have I__law_cells : ZaB (G04 w s mg mb) false "_law_cells" "_law_cells" _ (bd 11) _ 78 := Ja KX ap rfl rfl rfl rfl rfl (fun h => by cases h);have C__law_cells : ∀ {H : Nat}, Yo (G04 w s mg mb) (H + 1) "_law_cells" ZQ := fun {H} => YS (H := 0) (k := Je) (ps := ["script"]) (.inl (hm (by kernel_rfl))) I__law_cells rfl (by decide +kernel) (fun pm cd doc => ZbF.all (n := 1) fun _ => rfl) (ZgA TB) R__law_cells (by omega);have I__law_net : ZaB (G04 w s mg mb) false "_law_net" "_law_net" _ (bd 12) _ 83 := Ja KX ap rfl rfl rfl rfl rfl (fun h => by cases h);have C__law_net : ∀ {H : Nat}, Yo (G04 w s mg mb) (H + 1) "_law_net" Yb := fun {H} => YS (H := 0) (k := Zai) (ps := ["cells"]) (.inl (hm (by kernel_rfl))) I__law_net rfl (by decide +kernel) (fun pm cd doc => ZbF.all (n := 1) fun _ => rfl) (Zjg TB) R__law_net (by omega);have I__law_words : ZaB (G04 w s mg mb) false "_law_words" "_law_words" _ (bd 13) _ 88 := Ja KX ap rfl rfl rfl rfl rfl (fun h => by cases h);have C__law_words : ∀ {H : Nat}, Yo (G04 w s mg mb) (H + 1) "_law_words" Z1 := fun {H} => YS (H := 0) (k := Jk) (ps := ["base"]) (.inl (hm (by kernel_rfl))) I__law_words rfl (by decide +kernel) (fun pm cd doc => ZbF.all (n := 1) fun _ => rfl) (Zgk TB) R__law_words (by omega);have I__law_loans : ZaB (G04 w s mg mb) false "_law_loans" "_law_loans" _ (bd 14) _ 93 := Ja KX ap rfl rfl rfl rfl rfl (fun h => by cases h);have C__law_loans : ∀ {H : Nat}, Yo (G04 w s mg mb) (H + 1) "_law_loans" ZG := fun {H} => YS (H := 0) (k := Jj) (ps := ["net", "words"]) (.inl (hm (by kernel_rfl))) I__law_loans rfl (by decide +kernel) (fun pm cd doc => ZbF.all (n := 2) fun _ _ => rfl) (ZgC TB) R__law_loans (by omega);have I__law_pays : ZaB (G04 w s mg mb) false "_law_pays" "_law_pays" _ (bd 15) _ 100 := Ja KX ap rfl rfl rfl rfl rfl (fun h => by cases h);have C__law_pays : ∀ {H : Nat}, Yo (G04 w s mg mb) (H + 1) "_law_pays" ZV := fun {H} => YS (H := 0) (k := Jb) (ps := ["net", "coins"]) (.inl (hm (by kernel_rfl))) I__law_pays rfl (by decide +kernel) (fun pm cd doc => ZbF.all (n := 2) fun _ _ => rfl) (Zih TB) R__law_pays (by omega);have I__law_run : ZaB (G04 w s mg mb) false "_law_run" "_law_run" _ (bd 16) _ 105 := Ja KX ap rfl rfl rfl rfl rfl (fun h => by cases h);have C__law_run : ∀ {H : Nat}, Yo (G04 w s mg mb) (H + 2) "_law_run" Z4 := fun {H} => YS (H := 1) (k := JA) (ps := ["coins", "loans", "words", "base", "way"]) (.inl (hm (by kernel_rfl))) I__law_run rfl (by decide +kernel) (fun pm cd doc => ZbF.all (n := 5) fun _ _ _ _ _ => rfl) (ZiV TB TCI C_compare TCN C__ellipsis_match C_add_callers C_pretty_flags) R__law_run (by omega);have I__law_holds : ZaB (G04 w s mg mb) false "_law_holds" "_law_holds" _ (bd 18) _ 115 := Ja KX ap rfl rfl rfl rfl rfl (fun h => by cases h);have C__law_holds : ∀ {H : Nat}, Yo (G04 w s mg mb) (H + 2) "_law_holds" ZO := fun {H} => YS (H := 1) (k := XH) (ps := ["row", "net", "words"]) (.inl (hm (by kernel_rfl))) I__law_holds rfl (by decide +kernel) (fun pm cd doc => ZbF.all (n := 3) fun _ _ _ => rfl) (Zge TB C__law_pays C_count_calls) R__law_holds (by omega);have I__law_rank : ZaB (G04 w s mg mb) false "_law_rank" "_law_rank" _ (bd 17) _ 110 := Ja KX ap rfl rfl rfl rfl rfl (fun h => by cases h);have C__law_rank : ∀ {H : Nat}, Yo (G04 w s mg mb) (H + 3) "_law_rank" ZI := fun {H} => YS (H := 2) (k := JP) (ps := ["coins", "loans", "words", "base", "way", "log"]) (.inl (hm (by kernel_rfl))) I__law_rank rfl (by decide +kernel) (fun pm cd doc => ZbF.all (n := 6) fun _ _ _ _ _ _ => rfl) (Zhp TB C__law_run C_add_callers) R__law_rank (by omega);have I_law : ZaB (G04 w s mg mb) false "law" "law" _ (bd 19) _ 120 := Ja KX ap rfl rfl rfl rfl rfl (fun h => by cases h);obtain ⟨σ₁, B', hr⟩ := hlaw ns hn
 refine Zm4 (H := 3) (ps := ["script"]) gok (Zrc hc ht hg) (Nat.le_refl _) ⟨rfl, rfl, by decide, by decide⟩ I_law (by decide +kernel) (fun pm cd doc => ZbF.all (n := 1) fun _ => rfl) (ZsP TB TCI C_compare TCN C__law_cells C__law_holds C__law_loans C__law_net C__law_rank C__law_words C_add_callers) hr rfl
  (.cons (Zlz w1 fun q hq o e z => ?_) .nil)
 have hq : q = 44 := by
  rcases hq with h | h
  ·exact Zd9.mp h
  ·first | exact nn h | cases h
 subst hq;have e' : s.heap.get? 44 = some _ := ht.2;rw [e'] at e; cases e; cases z
end
end Mine
open PySem PySem.W PyProof.Rows
namespace Mine
open PySem.Calls
set_option tactic.hygienic true in
theorem Znp {ZH : VF} {Ze : VF} {ZD : VF} {ZB : VF} {Zr : VF} {ZQ : VF} {Yb : VF} {Z1 : VF} {ZG : VF} {ZV : VF} {Z4 : VF} {ZO : VF} {ZI : VF}
  (R_compare : Runs (ZbJ) ZaK ["self", "left", "right"] ZH)
  (R_add_callers : Runs (JH) XR ["target", "source"] Ze)
  (R_count_calls : Runs (JD) XT ["callers"] ZD)
  (R_pretty_flags : Runs (Jn) Xw ["flags"] ZB)
  (R__ellipsis_match : Runs (Xm) Y0 ["want", "got"] Zr)
  (R__law_cells : Runs (J4) Je ["script"] ZQ)
  (R__law_net : Runs (ZaP) Zai ["cells"] Yb)
  (R__law_words : Runs (J1) Jk ["base"] Z1)
  (R__law_loans : Runs (J5) Jj ["net", "words"] ZG)
  (R__law_pays : Runs (Zao) Jb ["net", "coins"] ZV)
  (R__law_run : Runs (ZaS Zr Ze ZB ZH) JA ["coins", "loans", "words", "base", "way"] Z4)
  (R__law_holds : Runs (JV ZV ZD) XH ["row", "net", "words"] ZO)
  (R__law_rank : Runs (JK Z4 Ze) JP ["coins", "loans", "words", "base", "way", "log"] ZI)
  (hlaw : ∀ ns : List Int, ns.length <= 63 -> ∃ σ₁ B', Zj0 ZQ ZO ZG Yb ZI Z1 Ze ZH (JS Zhj ["script"] [.list (ns.map .int)]) [] = some (.ret (.bool true), σ₁, B')) : PySem.Challenge.rw_xg0032_03.Holds := ZsT (by w_on; w_strict (
 intro w s₀ s'1 mg mb G Y fa o pm cd doc dV kV ho hd hcd hD hmg hg args vals as hpre hlay hrd hwl hlo;have KX := kIn_of Y;refine Ground.open G ?_;intro T B D TE TW;have hfa := (mg_of (n := "law") (v := .ref 120) KX (Top.g T) (by kernel_rfl)).symm.trans hmg
 first | exact nn hfa | cases hfa
 clear ho hd hcd hD hmg
 wrow_args hpre hlay hrd hwl hlo
 rename_i ns _ _ _ _ _ _ _ l _ _ _ _ w1 _ _ _ hlen _;refine enter_call ?_;refine codeAny_mono (Mine.join04 R_compare R_add_callers R_count_calls R_pretty_flags R__ellipsis_match R__law_cells R__law_net R__law_words R__law_loans R__law_pays R__law_run R__law_holds R__law_rank hlaw KX T hg (by omega) w1) ?_
 rintro r s' ⟨rfl, W⟩
 refine ⟨.inl ⟨.bool true, .bool true, [], rfl, ?_, ?_, ?_, ?_⟩, W.oldK (Zov (Zkk KX T).2), W.os, W.gens⟩
 ·intro cls; rfl
 ·exact .bool true
 ·exact Zlq _ _
 ·intro h; exact ⟨.nil, by simp⟩))
structure XK (a b c : Int) : Prop where
 a0 : 0 <= a
 b0 : 0 <= b
 c0 : 0 <= c
 sum : a + b + c = 5
 a4 : a <= 4
 b4 : b <= 4
 c4 : c <= 4
structure S6 where
 x0 : Int
 x1 : Int
 x2 : Int
 t0 : Int
 t1 : Int
 t2 : Int
noncomputable def Zan (a b c : Int) (i : Int) (s : S6) : S6 :=
 if i = 0 then ⟨s.x0 + (a + b), s.x1 + -a, s.x2 + -b, s.t0 + 1, s.t1, s.t2⟩
 else if i = 1 then ⟨s.x0 + -a, s.x1 + (a + c), s.x2 + -c, s.t0, s.t1 + 1, s.t2⟩
 else ⟨s.x0 + -b, s.x1 + -c, s.x2 + (b + c), s.t0, s.t1, s.t2 + 1⟩
noncomputable def ZR (s : S6) : List (Int × Int) := [(s.x0, 0), (s.x1, 1), (s.x2, 2)].filter fun p => decide (p.1 < 0)
noncomputable def ltW (way : Int) (p q : Int × Int) : Bool := decide (p.1 < q.1) || (decide (p.1 = q.1) && decide (way * p.2 < way * q.2))
noncomputable def XQ (way : Int) (f o : Int × Int) : Int × Int := if ltW way o f then o else f
noncomputable def Ze5 (way : Int) : List (Int × Int) -> Int × Int
 | [] => (0, 0)
 | f :: l => l.foldl (XQ way) f
noncomputable def Xq (s : S6) : Bool := (ZR s).isEmpty || (decide (s.t0 ≠ 0) && decide (s.t1 ≠ 0) && decide (s.t2 ≠ 0))
noncomputable def Zaq (a b c way : Int) (s : S6) : S6 := Zan a b c (Ze5 way (ZR s)).2 s
noncomputable def goS (a b c way : Int) : Nat -> S6 -> S6
 | 0, s => s
 | n + 1, s => if Xq s then s else goS a b c way n (Zaq a b c way s)
theorem Zgt {way : Int} {p q : Int × Int} : ltW way p q = true ↔ p.1 < q.1 \/ (p.1 = q.1 /\ way * p.2 < way * q.2) := by
 unfold ltW; simp only [Bool.or_eq_true, Bool.and_eq_true, decide_eq_true_eq]
theorem Zr5 {way : Int} {p q : Int × Int} : ltW way p q = false ↔ ¬ (p.1 < q.1 \/ (p.1 = q.1 /\ way * p.2 < way * q.2)) := by
 rw [<- Zgt, Bool.not_eq_true]
theorem Zf3 {way : Int} {o f m : Int × Int} (h1 : ltW way o f = true) (h2 : ltW way f m = true) : ltW way o m = true := by
 rw [Zgt] at *;rcases h1 with h1 | ⟨h1, k1⟩
 ·rcases h2 with h2 | ⟨h2, _⟩
  ·exact .inl (Int.lt_trans h1 h2)
  ·exact .inl (h2 ▸ h1)
 ·rcases h2 with h2 | ⟨h2, k2⟩
  ·exact .inl (h1 ▸ h2)
  ·exact .inr ⟨h1.trans h2, Int.lt_trans k1 k2⟩
theorem Zqf {way : Int} {o f : Int × Int} (h : ltW way o f = false) : ltW way f o = true \/ (o.1 = f.1 /\ way * o.2 = way * f.2) := by
 rw [Zr5] at h;rw [Zgt];rcases Int.lt_trichotomy o.1 f.1 with g | g | g
 ·exact absurd (.inl g) h
 ·rcases Int.lt_trichotomy (way * o.2) (way * f.2) with k | k | k
  ·exact absurd (.inr ⟨g, k⟩) h
  ·exact .inr ⟨g, k⟩
  ·exact .inl (.inr ⟨g.symm, k⟩)
 ·exact .inl (.inl g)
theorem Zr4 {way : Int} {o f m : Int × Int} (h1 : ltW way o f = false) (h2 : ltW way f m = false) : ltW way o m = false :=
 Bool.eq_false_iff.mpr fun h => by
  rcases Zqf h1 with g | ⟨g, k⟩
  ·exact absurd (Zf3 g h) (by rw [h2]; exact Bool.false_ne_true)
  ·unfold ltW at h h2; rw [g, k, h2] at h; exact Bool.false_ne_true h
theorem Zje {way : Int} {o f m : Int × Int} (h1 : ltW way o f = true) (h2 : ltW way o m = false) : ltW way f m = false :=
 Bool.eq_false_iff.mpr fun h => absurd (Zf3 h1 h) (by rw [h2]; exact Bool.false_ne_true)
theorem Zcb {way : Int} (p : Int × Int) : ltW way p p = false := by
 unfold ltW; simp
theorem ZmP {way : Int} : ∀ (l : List (Int × Int)) (f : Int × Int), (l.foldl (XQ way) f ∈ f :: l) /\ ∀ e ∈ f :: l, ltW way e (l.foldl (XQ way) f) = false := by
 intro l
 induction l with
 | nil => intro f; exact ⟨.head _, fun e he => by rw [List.mem_singleton.mp he]; exact Zcb f⟩
 | cons o l ih0 =>
  intro f;have ih := ih0 (XQ way f o);clear ih0
  have hb : XQ way f o = o /\ ltW way o f = true \/ XQ way f o = f /\ ltW way o f = false := by
   unfold XQ
   cases h : ltW way o f with
   | true => exact .inl ⟨if_pos rfl, rfl⟩
   | false => exact .inr ⟨if_neg (by simp), rfl⟩
  show l.foldl (XQ way) (XQ way f o) ∈ _ /\ ∀ e ∈ _, ltW way e (l.foldl (XQ way) (XQ way f o)) = false;generalize l.foldl (XQ way) (XQ way f o) = m at ih;obtain ⟨h1, h2⟩ := ih;rcases hb with ⟨hb, hl⟩ | ⟨hb, hl⟩ <;> rw [hb] at h1 h2
  ·refine ⟨List.mem_cons_of_mem _ h1, fun e he => ?_⟩
   rcases List.mem_cons.mp he with rfl | he
   ·exact Zje hl (h2 o (.head _))
   ·exact h2 e he
  ·refine ⟨?_, fun e he => ?_⟩
   ·rcases List.mem_cons.mp h1 with h | h
    ·rw [h]; exact .head _
    ·exact List.mem_cons_of_mem _ (List.mem_cons_of_mem _ h)
   ·rcases List.mem_cons.mp he with rfl | he
    ·exact h2 _ (.head _)
    ·rcases List.mem_cons.mp he with rfl | he
     ·exact Zr4 hl (h2 f (.head _))
     ·exact h2 e (List.mem_cons_of_mem _ he)
theorem Zdb {way : Int} {s : S6} (h : ZR s ≠ []) : Ze5 way (ZR s) ∈ ZR s /\ ∀ e ∈ ZR s, ltW way e (Ze5 way (ZR s)) = false := by
 cases hl : ZR s with
 | nil => exact absurd hl h
 | cons f l => exact ZmP l f
theorem Zf6 {s : S6} {p : Int × Int} (h : p ∈ ZR s) : p.1 < 0 /\ (p = (s.x0, 0) \/ p = (s.x1, 1) \/ p = (s.x2, 2)) := by
 unfold ZR at h;obtain ⟨h1, h2⟩ := List.mem_filter.mp h;refine ⟨of_decide_eq_true h2, ?_⟩
 simpa using h1
theorem ZlV {s : S6} : ZR s = [] ↔ 0 <= s.x0 /\ 0 <= s.x1 /\ 0 <= s.x2 := by
 unfold ZR;rw [List.filter_eq_nil_iff];simp only [List.mem_cons, List.not_mem_nil, or_false, forall_eq_or_imp, forall_eq, decide_eq_true_eq, Int.not_lt]
theorem Zfa {a b c way : Int} {s : S6} (h : Xq s = false) : (s.x0 < 0 /\ Zaq a b c way s = Zan a b c 0 s) \/ (s.x1 < 0 /\ Zaq a b c way s = Zan a b c 1 s) \/ (s.x2 < 0 /\ Zaq a b c way s = Zan a b c 2 s) := by
 have hn : ZR s ≠ [] := fun e => by unfold Xq at h; rw [e] at h; simp at h
 have hb := Zf6 (Zdb (way := way) hn).1;unfold Zaq;generalize Ze5 way (ZR s) = p at hb;obtain ⟨h1, rfl | rfl | rfl⟩ := hb
 ·exact .inl ⟨h1, rfl⟩
 ·exact .inr (.inl ⟨h1, rfl⟩)
 ·exact .inr (.inr ⟨h1, rfl⟩)
structure Zd3 (a b c p q r : Int) (s : S6) : Prop where
 e0 : s.x0 = p + ((a + b) * s.t0 - a * s.t1 - b * s.t2)
 e1 : s.x1 = q + ((a + c) * s.t1 - a * s.t0 - c * s.t2)
 e2 : s.x2 = r + ((b + c) * s.t2 - b * s.t0 - c * s.t1)
 t0 : 0 <= s.t0
 t1 : 0 <= s.t1
 t2 : 0 <= s.t2
 u0 : s.x0 <= 9
 u1 : s.x1 <= 9
 u2 : s.x2 <= 9
noncomputable def Xd (p q r : Int) : S6 := ⟨p, q, r, 0, 0, 0⟩
structure J0 (p q r : Int) : Prop where
 p9 : p <= 9
 q9 : q <= 9
 r9 : r <= 9
 low : -5 <= p + q + r
theorem Zc6 {a b c p q r : Int} (h : J0 p q r) : Zd3 a b c p q r (Xd p q r) := by
 refine ⟨?_, ?_, ?_, Int.le_refl _, Int.le_refl _, Int.le_refl _, h.p9, h.q9, h.r9⟩ <;> simp [Xd]
theorem Znt {x p k t u v : Int} (h : x = p + (k * t - u - v)) : x + k = p + (k * (t + 1) - u - v) := by rw [h, Int.mul_add, Int.mul_one]; lia
theorem Zso {x p k a t v : Int} (h : x = p + (k - a * t - v)) : x + -a = p + (k - a * (t + 1) - v) := by rw [h, Int.mul_add, Int.mul_one]; lia
theorem Zro {x p k a t v : Int} (h : x = p + (k - v - a * t)) : x + -a = p + (k - v - a * (t + 1)) := by rw [h, Int.mul_add, Int.mul_one]; lia
theorem Zr9 {x k : Int} (h : x < 0) (hk : k <= 9) : x + k <= 9 := by lia
theorem ZlM {x a : Int} (h : x <= 9) (ha : 0 <= a) : x + -a <= 9 := by lia
theorem ZsJ {x y z : Int} : x + 1 + y + z = x + y + z + 1 /\ x + (y + 1) + z = x + y + z + 1 := by lia
theorem ZeH {a b c p q r way : Int} {s : S6} (N : XK a b c) (I : Zd3 a b c p q r s) (hd : Xq s = false) : Zd3 a b c p q r (Zaq a b c way s) /\ (Zaq a b c way s).t0 + (Zaq a b c way s).t1 + (Zaq a b c way s).t2 = s.t0 + s.t1 + s.t2 + 1 := by
 have k : ∀ {x y z : Int}, 0 <= z -> x + y + z = 5 -> x + y <= 9 := by lia
 have hs := N.sum;have i : ∀ {t : Int}, 0 <= t -> 0 <= t + 1 := by lia
 rcases Zfa (a := a) (b := b) (c := c) (way := way) hd with ⟨hx, e⟩ | ⟨hx, e⟩ | ⟨hx, e⟩ <;> rw [e]
 ·rw [show Zan a b c 0 s = _ from if_pos rfl]
  exact ⟨⟨Znt I.e0, Zso I.e1, Zso I.e2, i I.t0, I.t1, I.t2, Zr9 hx (k N.c0 hs), ZlM I.u1 N.a0, ZlM I.u2 N.b0⟩, ZsJ.1⟩
 ·rw [show Zan a b c 1 s = _ from (if_neg (by decide)).trans (if_pos rfl)]
  exact ⟨⟨Zso I.e0, Znt I.e1, Zro I.e2, I.t0, i I.t1, I.t2, ZlM I.u0 N.a0, Zr9 hx (k N.b0 ((Int.add_right_comm ..).trans hs)), ZlM I.u2 N.c0⟩, ZsJ.2⟩
 ·rw [show Zan a b c 2 s = _ from (if_neg (by decide)).trans (if_neg (by decide))]
  exact ⟨⟨Zro I.e0, Zro I.e1, Znt I.e2, I.t0, I.t1, i I.t2, ZlM I.u0 N.b0, ZlM I.u1 N.c0, Zr9 hx (k N.a0 ((Int.add_comm ..).trans ((Int.add_assoc ..).symm.trans hs)))⟩, (Int.add_assoc ..).symm⟩
theorem ZnN {r e t u : Int} (h1 : 1 <= r) (h4 : r <= 4) (hs : r + e = 5) (h : r * u <= 32) (h' : e * t <= 32 + (r + e) * u) : t + u <= 100 := by
 obtain rfl : e = 5 - r := by lia
 obtain rfl | rfl | rfl | rfl : r = 1 \/ r = 2 \/ r = 3 \/ r = 4 := by lia
 all_goals lia
theorem Zjr {p r e t u : Int} (hp : 0 <= p) (hr : 0 <= r) (hs : p + r + e = 5) (hp4 : p <= 4) (hr4 : r <= 4) (he4 : e <= 4) (ht : 0 <= t) (hu : 0 <= u) (h1 : p * t + r * u <= 32) (h2 : e * u <= 32 + (p + e) * t) (h3 : e * t <= 32 + (r + e) * u) : t + u <= 100 := by
 rcases Int.lt_or_eq_of_le hp with h | rfl
 ·rcases Int.lt_or_eq_of_le hr with h' | rfl
  ·have e1 := Int.mul_le_mul_of_nonneg_right (show 1 <= p from h) ht
   have e2 := Int.mul_le_mul_of_nonneg_right (show 1 <= r from h') hu;rw [Int.one_mul] at e1 e2;clear h2 h3 hs;lia
  ·rw [Int.zero_mul, Int.add_zero] at h1
   rw [Int.add_zero] at hs;rw [Int.add_comm]; exact ZnN h hp4 hs h1 h2
 ·rw [Int.zero_mul, Int.zero_add] at h1
  rw [Int.zero_add] at hs;exact ZnN (by lia) hr4 hs h1 h3
theorem ZmM {s : S6} (h : Xq s = false) : s.t0 = 0 \/ s.t1 = 0 \/ s.t2 = 0 := by
 unfold Xq at h;simp only [Bool.or_eq_false_iff, Bool.and_eq_false_iff, decide_eq_false_iff_not, Decidable.not_not] at h;lia
theorem ZiQ {x y z d : Int} (h : x + y + z = d) (hd : -5 <= d) (hy : y <= 9) (hz : z <= 9) : -23 <= x := by lia
theorem Zq7 {x p k u v : Int} (l : -23 <= x) (e : x = p + (k * 0 - u - v)) (h : p <= 9) : u + v <= 32 := by rw [Int.mul_zero] at e; lia
theorem Zss {x p k u v : Int} (l : -23 <= x) (e : x = p + (k - u * 0 - v)) (h : p <= 9) : v <= 32 + k := by rw [Int.mul_zero] at e; lia
theorem Zre {x p k u v : Int} (l : -23 <= x) (e : x = p + (k - u - v * 0)) (h : p <= 9) : u <= 32 + k := by rw [Int.mul_zero] at e; lia
theorem Zg9 {a b c p q r : Int} {s : S6} (N : XK a b c) (S : J0 p q r) (I : Zd3 a b c p q r s) (hd : Xq s = false) : s.t0 + s.t1 + s.t2 <= 100 := by
 have e0 := I.e0;have e1 := I.e1;have e2 := I.e2;have hx : s.x0 + s.x1 + s.x2 = p + q + r := by rw [e0, e1, e2, Int.add_mul, Int.add_mul, Int.add_mul]; clear e0 e1 e2; lia
 have l0 := ZiQ hx S.low I.u1 I.u2;have l1 := ZiQ ((congrArg (· + s.x2) (Int.add_comm ..)).trans hx) S.low I.u0 I.u2;have l2 := ZiQ ((congrArg (· + s.x1) (Int.add_comm ..)).trans ((Int.add_right_comm ..).trans hx)) S.low I.u0 I.u1;rcases ZmM hd with h | h | h <;> rw [h] at e0 e1 e2 ⊢
 ·rw [Int.zero_add]
  exact Zjr N.a0 N.b0 N.sum N.a4 N.b4 N.c4 I.t1 I.t2 (Zq7 l0 e0 S.p9) (Zss l1 e1 S.q9) (Zss l2 e2 S.r9)
 ·rw [Int.add_zero]
  exact Zjr N.a0 N.c0 ((Int.add_right_comm ..).trans N.sum) N.a4 N.c4 N.b4 I.t0 I.t2 (Zq7 l1 e1 S.q9) (Zss l0 e0 S.p9) (by rw [Int.add_comm c b]; exact Zre l2 e2 S.r9)
 ·rw [Int.add_zero]
  exact Zjr N.b0 N.c0 ((Int.add_comm ..).trans ((Int.add_assoc ..).symm.trans N.sum)) N.b4 N.c4 N.a4 I.t0 I.t1 (Zq7 l2 e2 S.r9) (by rw [Int.add_comm b a]; exact Zre l0 e0 S.p9) (by rw [Int.add_comm c a]; exact Zre l1 e1 S.q9)
theorem Zsl {a b c p q r way : Int} (N : XK a b c) (S : J0 p q r) : ∀ (n : Nat) (s : S6), Zd3 a b c p q r s -> 200 <= s.t0 + s.t1 + s.t2 + n + 1 -> Zd3 a b c p q r (goS a b c way n s) /\ Xq (goS a b c way n s) = true := by
 intro n
 induction n with
 | zero =>
  intro s I h;refine ⟨I, ?_⟩
  cases hd : Xq s with
  | true => exact hd
  | false => have := Zg9 N S I hd; lia
 | succ n ih =>
  intro s I h;unfold goS
  cases hd : Xq s with
  | true => exact ⟨I, hd⟩
  | false =>
   obtain ⟨I', ht⟩ := ZeH (way := way) N I hd;exact ih _ I' (by lia)
noncomputable def ZlJ (a b c p q r : Int) : Prop := ∃ u v w : Int, 0 <= p + ((a + b) * u - a * v - b * w) /\ 0 <= q + ((a + c) * v - a * u - c * w) /\ 0 <= r + ((b + c) * w - b * u - c * v)
theorem ZmR {p a b u v w : Int} (m : Int) (h : 0 <= p + ((a + b) * u - a * v - b * w)) : 0 <= p + ((a + b) * (u - m) - a * (v - m) - b * (w - m)) := by
 rw [Int.add_mul] at h;rw [Int.add_mul, Int.mul_sub, Int.mul_sub, Int.mul_sub, Int.mul_sub];lia
theorem Zl5 {a b c p q r : Int} (h : ZlJ a b c p q r) : ∃ u v w : Int, (0 <= u /\ 0 <= v /\ 0 <= w) /\ (u = 0 \/ v = 0 \/ w = 0) /\ 0 <= p + ((a + b) * u - a * v - b * w) /\ 0 <= q + ((a + c) * v - a * u - c * w) /\ 0 <= r + ((b + c) * w - b * u - c * v) := by
 refine YD h fun u v w h0 h1 h2 => ?_
 have k : ∀ {m : Int}, (0 <= u - m /\ 0 <= v - m /\ 0 <= w - m) -> (u - m = 0 \/ v - m = 0 \/ w - m = 0) -> ∃ u v w : Int, (0 <= u /\ 0 <= v /\ 0 <= w) /\ (u = 0 \/ v = 0 \/ w = 0) /\ 0 <= p + ((a + b) * u - a * v - b * w) /\ 0 <= q + ((a + c) * v - a * u - c * w) /\ 0 <= r + ((b + c) * w - b * u - c * v) := fun {m} g g' =>
  ⟨u - m, v - m, w - m, g, g', ZmR m h0, ZmR m h1, ZmR m h2⟩
 have z : ∀ {x y : Int}, x <= y -> 0 <= y - x := Int.sub_nonneg_of_le;rcases Int.le_total u v with h | h
 ·rcases Int.le_total u w with h' | h'
  ·exact k ⟨z (Int.le_refl _), z h, z h'⟩ (.inl (Int.sub_self _))
  ·exact k ⟨z h', z (Int.le_trans h' h), z (Int.le_refl _)⟩ (.inr (.inr (Int.sub_self _)))
 ·rcases Int.le_total v w with h' | h'
  ·exact k ⟨z h, z (Int.le_refl _), z h'⟩ (.inr (.inl (Int.sub_self _)))
  ·exact k ⟨z (Int.le_trans h' h), z h', z (Int.le_refl _)⟩ (.inr (.inr (Int.sub_self _)))
theorem ZrX {x p a b t0 t1 t2 u v w : Int} (ha : 0 <= a) (hb : 0 <= b) (hx : x < 0) (e : x = p + ((a + b) * t0 - a * t1 - b * t2)) (h : 0 <= p + ((a + b) * u - a * v - b * w)) (l0 : t0 <= u) (l1 : t1 <= v) (l2 : t2 <= w) : t0 + 1 <= u := by
 rcases Int.lt_or_eq_of_le l0 with h' | h'
 ·exact h'
 ·have := Int.mul_le_mul_of_nonneg_left l1 ha
  have := Int.mul_le_mul_of_nonneg_left l2 hb;rw [h'] at e;clear l0 l1 l2 h' ha hb;lia
theorem ZiG {a b c p q r way u v w : Int} {s : S6} (N : XK a b c) (I : Zd3 a b c p q r s) (hd : Xq s = false) (h0 : 0 <= p + ((a + b) * u - a * v - b * w)) (h1 : 0 <= q + ((a + c) * v - a * u - c * w)) (h2 : 0 <= r + ((b + c) * w - b * u - c * v))
  (l0 : s.t0 <= u) (l1 : s.t1 <= v) (l2 : s.t2 <= w) : (Zaq a b c way s).t0 <= u /\ (Zaq a b c way s).t1 <= v /\ (Zaq a b c way s).t2 <= w := by
 rcases Zfa (a := a) (b := b) (c := c) (way := way) hd with ⟨hx, e⟩ | ⟨hx, e⟩ | ⟨hx, e⟩ <;> rw [e]
 ·rw [show Zan a b c 0 s = _ from if_pos rfl]
  exact ⟨ZrX N.a0 N.b0 hx I.e0 h0 l0 l1 l2, l1, l2⟩
 ·rw [show Zan a b c 1 s = _ from (if_neg (by decide)).trans (if_pos rfl)]
  exact ⟨l0, ZrX N.a0 N.c0 hx I.e1 h1 l1 l0 l2, l2⟩
 ·rw [show Zan a b c 2 s = _ from (if_neg (by decide)).trans (if_neg (by decide))]
  exact ⟨l0, l1, ZrX N.b0 N.c0 hx I.e2 h2 l2 l0 l1⟩
theorem ZoT {a b c p q r way u v w : Int} (N : XK a b c) (h0 : 0 <= p + ((a + b) * u - a * v - b * w)) (h1 : 0 <= q + ((a + c) * v - a * u - c * w)) (h2 : 0 <= r + ((b + c) * w - b * u - c * v)) :
  ∀ (n : Nat) (s : S6), Zd3 a b c p q r s -> s.t0 <= u -> s.t1 <= v -> s.t2 <= w -> (goS a b c way n s).t0 <= u /\ (goS a b c way n s).t1 <= v /\ (goS a b c way n s).t2 <= w := by
 intro n
 induction n with
 | zero => intro s _ l0 l1 l2; exact ⟨l0, l1, l2⟩
 | succ n ih =>
  intro s I l0 l1 l2;unfold goS
  cases hd : Xq s with
  | true => exact ⟨l0, l1, l2⟩
  | false =>
   obtain ⟨k0, k1, k2⟩ := ZiG (way := way) N I hd h0 h1 h2 l0 l1 l2;exact ih _ (ZeH N I hd).1 k0 k1 k2
noncomputable def Zag (a b c way p q r : Int) : S6 := goS a b c way 199 (Xd p q r)
theorem ZbK {a b c p q r way : Int} (N : XK a b c) (S : J0 p q r) : Zd3 a b c p q r (Zag a b c way p q r) /\ Xq (Zag a b c way p q r) = true :=
 Zsl N S 199 _ (Zc6 S) (by simp [Xd])
theorem ZhO {a b c p q r way : Int} (N : XK a b c) (S : J0 p q r) :
  (ZR (Zag a b c way p q r) = [] /\ ZlJ a b c p q r /\ ¬ ((Zag a b c way p q r).t0 ≠ 0 /\ (Zag a b c way p q r).t1 ≠ 0 /\ (Zag a b c way p q r).t2 ≠ 0)) \/
  (ZR (Zag a b c way p q r) ≠ [] /\ ¬ ZlJ a b c p q r /\ ((Zag a b c way p q r).t0 ≠ 0 /\ (Zag a b c way p q r).t1 ≠ 0 /\ (Zag a b c way p q r).t2 ≠ 0)) := by
 obtain ⟨I, hd⟩ := ZbK (way := way) N S
 have key : ZlJ a b c p q r -> ¬ ((Zag a b c way p q r).t0 ≠ 0 /\ (Zag a b c way p q r).t1 ≠ 0 /\ (Zag a b c way p q r).t2 ≠ 0) := fun h => by
  obtain ⟨u, v, w, ⟨u0, v0, w0⟩, hz, h0, h1, h2⟩ := Zl5 h;obtain ⟨k0, k1, k2⟩ := ZoT (way := way) N h0 h1 h2 199 (Xd p q r) (Zc6 S) u0 v0 w0;have i0 := I.t0; have i1 := I.t1; have i2 := I.t2;unfold Zag at *;lia
 by_cases ho : ZR (Zag a b c way p q r) = []
 ·have hw : ZlJ a b c p q r := by
   obtain ⟨n0, n1, n2⟩ := ZlV.mp ho;exact ⟨_, _, _, I.e0 ▸ n0, I.e1 ▸ n1, I.e2 ▸ n2⟩
  exact .inl ⟨ho, hw, key hw⟩
 ·have ht : (Zag a b c way p q r).t0 ≠ 0 /\ (Zag a b c way p q r).t1 ≠ 0 /\ (Zag a b c way p q r).t2 ≠ 0 := by
   unfold Xq at hd;have hi : (ZR (Zag a b c way p q r)).isEmpty = false := by rw [List.isEmpty_eq_false_iff]; exact ho
   rw [hi] at hd;simp only [Bool.false_or, Bool.and_eq_true, decide_eq_true_eq] at hd;exact ⟨hd.1.1, hd.1.2, hd.2⟩
  exact .inr ⟨ho, fun h => key h ht, ht⟩
noncomputable def Zb0 (a b c : Int) : Int := (a + b) * (a + c) - a * a
noncomputable def Zcw (a b c x y : Int) : Bool := decide (Int.fmod ((a + c) * x + a * y) (Zb0 a b c) = 0) && decide (Int.fmod (a * x + (a + b) * y) (Zb0 a b c) = 0)
noncomputable def Zo5 (a b c p q d : Int) : Prop := ∃ f h : Int, 0 <= f /\ 0 <= h /\ f + h <= d /\ Zcw a b c (p - f) (q - h) = true
theorem Ze0 {a b c : Int} (N : XK a b c) : 0 < Zb0 a b c := by
 have e : Zb0 a b c = a * (b + c) + b * c := by unfold Zb0; grind
 have hs := N.sum;rw [e];rcases Int.lt_or_eq_of_le N.a0 with h | h
 ·have := N.a4
  exact Int.add_pos_of_pos_of_nonneg (Int.mul_pos h (by clear e N; lia)) (Int.mul_nonneg N.b0 N.c0)
 ·have := N.b4; have := N.c4
  rw [<- h, Int.zero_mul, Int.zero_add];exact Int.mul_pos (by clear e N; lia) (by clear e N; lia)
theorem Zii {a b c x y : Int} : Zcw a b c x y = true ↔ Zb0 a b c ∣ (a + c) * x + a * y /\ Zb0 a b c ∣ a * x + (a + b) * y := by
 unfold Zcw;rw [Bool.and_eq_true, decide_eq_true_eq, decide_eq_true_eq];rw [<- Int.dvd_iff_fmod_eq_zero, <- Int.dvd_iff_fmod_eq_zero]
theorem ZsI {a b c p q u v w : Int} : (a + c) * (p - (p + ((a + b) * u - a * v - b * w))) + a * (q - (q + ((a + c) * v - a * u - c * w))) = ((a + b) * (a + c) - a * a) * (w - u) /\ a * (p - (p + ((a + b) * u - a * v - b * w))) + (a + b) * (q - (q + ((a + c) * v - a * u - c * w))) = ((a + b) * (a + c) - a * a) * (w - v) := by
 constructor <;> grind
theorem ZsN {a b c x y : Int} : ((a + b) * (a + c) - a * a) * x = (a + b) * ((a + c) * x + a * y) - a * (a * x + (a + b) * y) /\ ((a + b) * (a + c) - a * a) * y = (a + c) * (a * x + (a + b) * y) - a * ((a + c) * x + a * y) := by
 constructor <;> grind
theorem Zti {a b c p q r u v w : Int} : p + ((a + b) * u - a * v - b * w) + (q + ((a + c) * v - a * u - c * w)) + (r + ((b + c) * w - b * u - c * v)) = p + q + r := by
 rw [Int.add_mul, Int.add_mul, Int.add_mul]; lia
theorem Zdc {a b c p q r : Int} (N : XK a b c) : ZlJ a b c p q r ↔ Zo5 a b c p q (p + q + r) := by
 have hn := Ze0 N
 constructor
 ·intro h
  refine YD h fun u v w h0 h1 h2 => ?_;refine ⟨_, _, h0, h1, ?_, Zii.mpr ⟨⟨w - u, ZsI.1⟩, ⟨w - v, ZsI.2⟩⟩⟩;exact Int.le_trans (Int.le_add_of_nonneg_right h2) (Int.le_of_eq Zti)
 ·intro h
  refine ZbZ h fun f h hf hh hfh hp => ?_;refine ZaN (Zii.mp hp) fun d1 d2 => ?_;refine Zb1 d1 fun u hu => Zb1 d2 fun v hv => ?_;have k1 : p - f = (a + b) * u - a * v := Int.eq_of_mul_eq_mul_left (Int.ne_of_gt hn) (ZsN.1.trans (by rw [hu, hv, Int.mul_sub, Int.mul_left_comm, Int.mul_left_comm a]));have k2 : q - h = (a + c) * v - a * u := Int.eq_of_mul_eq_mul_left (Int.ne_of_gt hn) (ZsN.2.trans (by rw [hu, hv, Int.mul_sub, Int.mul_left_comm, Int.mul_left_comm a]));have w0 : p + ((a + b) * -u - a * -v - b * 0) = f := by rw [Int.mul_neg, Int.mul_neg, Int.mul_zero]; clear hp d1 d2 hu hv hn N k2; lia
  have w1 : q + ((a + c) * -v - a * -u - c * 0) = h := by rw [Int.mul_neg, Int.mul_neg, Int.mul_zero]; clear hp d1 d2 hu hv hn N k1; lia
  have w2 := Zti (a := a) (b := b) (c := c) (p := p) (q := q) (r := r) (u := -u) (v := -v) (w := 0);rw [w0, w1] at w2;refine ⟨-u, -v, 0, w0 ▸ hf, w1 ▸ hh, ?_⟩;clear w0 w1 hp d1 d2 hu hv hn N k1 k2;lia
noncomputable def Zor : List (Nat × Nat × Nat) := ((List.range 5).flatMap fun a => (List.range 5).map fun b => (a, b, 5 - a - b)).filter fun t => Nat.ble (t.1 + t.2.1) 5 && Nat.ble t.2.2 4
noncomputable def Xs (n : Nat) : List (Nat × Nat) := (List.range (n + 1)).flatMap fun i => (List.range (n + 1 - i)).map fun j => (i, j)
noncomputable def Zdp (lost : Nat -> Nat -> Nat -> Bool) : Nat := ((List.range 5).find? fun n => (Xs n).any fun g => lost n g.1 g.2).getD 5
noncomputable def Zm5 (n g0 g1 m g : Nat) : Bool := (List.range m).any fun f => (List.range (m - f)).any fun h => Nat.beq ((g0 * f + g1 * h) % n) g
noncomputable def ZcD (a b c : Nat) : Nat := (a + b) * (a + c) - a * a
noncomputable def Zet (a b c n g0 g1 : Nat) : Bool := (List.range n).all fun x => (List.range n).all fun y => (Nat.beq (((a + c) * x + a * y) % n) 0 && Nat.beq ((a * x + (a + b) * y) % n) 0) == Nat.beq ((g0 * x + g1 * y) % n) 0
noncomputable def ZpS (a b c : Nat) : Nat × Nat := if Zet a b c (ZcD a b c) (a + c) a then (a + c, a) else if Zet a b c (ZcD a b c) a (a + b) then (a, a + b) else (a + c + a, a + (a + b))
noncomputable def cls (n g0 g1 : Nat) (x y : Int) : Nat := (((g0 : Int) * x + g1 * y) % n).toNat
noncomputable def Zoi (n g0 g1 m g : Nat) : Nat := Zdp fun s i j => !Zm5 n g0 g1 (m - s) ((g + (n - g0 * i % n) + (n - g1 * j % n)) % n)
noncomputable def Zhn (a b c : Nat) : Bool :=
 let n := ZcD a b c
 let g0 := (ZpS a b c).1
 let g1 := (ZpS a b c).2
 Zet a b c n g0 g1 && (List.range n).all fun g =>
  let k := (((g0 : Int) * ((a + b : Nat) - 2) + g1 * ((a + c : Nat) - 2) - g) % n).toNat
  (List.range 7).all fun m => Nat.beq (Zoi n g0 g1 m g + 3) (Zoi n g0 g1 (6 - m) k + m)
theorem ZlH : Zor.all (fun t => Zhn t.1 t.2.1 t.2.2) = true := by decide +kernel
theorem Zev (a b c : Nat) : Zb0 a b c = (ZcD a b c : Int) := by
 unfold Zb0 ZcD;have : a * a <= (a + b) * (a + c) := Nat.mul_le_mul (Nat.le_add_right _ _) (Nat.le_add_right _ _);rw [Int.natCast_sub this];simp [Int.natCast_mul, Int.natCast_add]
theorem ZfW {n : Nat} {g : Nat × Nat} (h : g ∈ Xs n) : g.1 + g.2 <= n := by
 unfold Xs at h;simp only [List.mem_flatMap, List.mem_map, List.mem_range] at h;obtain ⟨i, hi, j, hj, rfl⟩ := h;show i + j <= n;lia
theorem Zky {α : Type} {l : List α} {f g : α -> Bool} (h : ∀ x ∈ l, f x = g x) : l.any f = l.any g := by
 induction l with
 | nil => rfl
 | cons x l ih => rw [List.any_cons, List.any_cons, h x (.head _), ih fun y hy => h y (List.mem_cons_of_mem _ hy)]
theorem Zi0 {α : Type} {l : List α} {f g : α -> Bool} (h : ∀ x ∈ l, f x = g x) : l.find? f = l.find? g := by
 induction l with
 | nil => rfl
 | cons x l ih => rw [List.find?_cons, List.find?_cons, h x (.head _), ih fun y hy => h y (List.mem_cons_of_mem _ hy)]
theorem Zdu {f g : Nat -> Nat -> Nat -> Bool} (h : ∀ s i j, s < 5 -> i + j <= s -> f s i j = g s i j) : Zdp f = Zdp g := by
 unfold Zdp;rw [Zi0 fun n hn => Zky fun t ht => h n t.1 t.2 (List.mem_range.mp hn) (ZfW ht)]
section
variable {a b c n g0 g1 : Nat}
theorem XA {n : Nat} (hn : 0 < n) (x : Int) : ((x % (n : Int)).toNat : Int) = x % n := Int.toNat_of_nonneg (Int.emod_nonneg _ (by lia))
theorem ZgS {n A B : Nat} (hn : 0 < n) (x y : Int) : ((A : Int) * x + B * y) % n = ((A * (x % (n : Int)).toNat + B * (y % (n : Int)).toNat) % n : Nat) := by
 rw [Int.natCast_emod, Int.natCast_add, Int.natCast_mul, Int.natCast_mul, XA hn, XA hn, Int.add_emod, Int.mul_emod A x, Int.mul_emod B y, Int.add_emod ((A : Int) * (x % n)), Int.mul_emod A (x % n), Int.mul_emod B (y % n), Int.emod_emod, Int.emod_emod]
theorem ZkW (hn : n = ZcD a b c) (h0 : 0 < n) (hg : Zet a b c n g0 g1 = true) (x y : Int) : Zcw a b c x y = decide (((g0 : Int) * x + g1 * y) % n = 0) := by
 have hx : (x % (n : Int)).toNat < n := by have := Int.emod_lt_of_pos x (show (0 : Int) < n by lia); have := XA h0 x; lia
 have hy : (y % (n : Int)).toNat < n := by have := Int.emod_lt_of_pos y (show (0 : Int) < n by lia); have := XA h0 y; lia
 unfold Zet at hg;rw [List.all_eq_true] at hg;have hg := hg _ (List.mem_range.mpr hx);rw [List.all_eq_true] at hg;have hg := hg _ (List.mem_range.mpr hy);rw [beq_iff_eq] at hg
 have e : ∀ k : Nat, Nat.beq k 0 = decide ((k : Int) = 0) := fun k => by
  cases k with
  | zero => rfl
  | succ k => exact (decide_eq_false (by lia)).symm
 rw [e, e, e, <- ZgS h0, <- ZgS h0, <- ZgS h0, Int.natCast_add, Int.natCast_add] at hg;unfold Zcw;rw [<- hg, Zev, <- hn];have f : ∀ z : Int, Int.fmod z (n : Int) = z % n := fun z => Int.fmod_eq_emod_of_nonneg z (by lia);rw [f, f]
theorem Zsf (h0 : 0 < n) (x y : Int) : cls n g0 g1 x y < n := by
 unfold cls;have := Int.emod_lt_of_pos ((g0 : Int) * x + g1 * y) (show (0 : Int) < n by lia);have := XA h0 ((g0 : Int) * x + g1 * y);lia
theorem Znf (hn : n = ZcD a b c) (h0 : 0 < n) (hg : Zet a b c n g0 g1 = true) {p q d : Int} : Zo5 a b c p q d ↔ Zm5 n g0 g1 (d + 1).toNat (cls n g0 g1 p q) = true := by
 have key : ∀ f h : Nat, Zcw a b c (p - f) (q - h) = true ↔ (g0 * f + g1 * h) % n = cls n g0 g1 p q := fun f h => by
  rw [ZkW hn h0 hg, decide_eq_true_eq]
  have e1 : (g0 : Int) * (p - f) + g1 * (q - h) = ((g0 : Int) * p + g1 * q) - ((g0 * f + g1 * h : Nat) : Int) := by
   rw [Int.natCast_add, Int.natCast_mul, Int.natCast_mul, Int.mul_sub, Int.mul_sub]; lia
  rw [e1, <- Int.emod_eq_emod_iff_emod_sub_eq_zero, <- Int.natCast_emod];have hz := XA h0 ((g0 : Int) * p + g1 * q);unfold cls;clear e1 hg hn;lia
 constructor
 ·rintro ⟨f, h, hf, hh, hfh, hp⟩
  obtain ⟨f, rfl⟩ := Int.eq_ofNat_of_zero_le hf;obtain ⟨h, rfl⟩ := Int.eq_ofNat_of_zero_le hh;unfold Zm5;rw [List.any_eq_true];refine ⟨f, List.mem_range.mpr (by clear hp key hg hn h0 hf; lia), ?_⟩;rw [List.any_eq_true];exact ⟨h, List.mem_range.mpr (by clear hp key hg hn h0 hf; lia), Nat.beq_eq ▸ (key f h).mp hp⟩
 ·intro h
  unfold Zm5 at h;rw [List.any_eq_true] at h;refine Zg h fun f hf h => ?_;rw [List.any_eq_true] at h;refine Zg h fun h' hh he => ?_;clear h;have hf := List.mem_range.mp hf;have hh := List.mem_range.mp hh;exact ⟨f, h', Int.natCast_nonneg _, Int.natCast_nonneg _, by clear he key hg hn h0; lia, (key f h').mpr (Nat.eq_of_beq_eq_true he)⟩
theorem ZlQ (h0 : 0 < n) {p q : Int} (i j : Nat) : cls n g0 g1 (p - i) (q - j) = (cls n g0 g1 p q + (n - g0 * i % n) + (n - g1 * j % n)) % n := by
 have e1 : (g0 : Int) * (p - i) + g1 * (q - j) = ((g0 : Int) * p + g1 * q) - ((g0 * i : Nat) : Int) - ((g1 * j : Nat) : Int) := by
  rw [Int.natCast_mul, Int.natCast_mul, Int.mul_sub, Int.mul_sub]; lia
 have hz := XA h0 ((g0 : Int) * p + g1 * q);have hi : g0 * i % n < n := Nat.mod_lt _ h0;have hj : g1 * j % n < n := Nat.mod_lt _ h0;apply Int.natCast_inj.mp;unfold cls;rw [XA h0, e1, Int.natCast_emod, Int.natCast_add, Int.natCast_add, hz, Int.natCast_sub (Nat.le_of_lt hi), Int.natCast_sub (Nat.le_of_lt hj), Int.natCast_emod, Int.natCast_emod];generalize (g0 : Int) * p + g1 * q = X;generalize ((g0 * i : Nat) : Int) = Y;generalize ((g1 * j : Nat) : Int) = Z;rw [Int.emod_eq_emod_iff_emod_sub_eq_zero];apply Int.emod_eq_zero_of_dvd;refine ⟨X / n - Y / n - Z / n - 2, ?_⟩;have x1 := Int.emod_add_mul_ediv X n;have y1 := Int.emod_add_mul_ediv Y n;have z1 := Int.emod_add_mul_ediv Z n;rw [Int.mul_sub, Int.mul_sub, Int.mul_sub];lia
end
noncomputable def ZkT (s : S6) : Bool := decide (s.t0 ≠ 0) && decide (s.t1 ≠ 0) && decide (s.t2 ≠ 0)
theorem Zg5 {s : S6} : ZkT s = true ↔ s.t0 ≠ 0 /\ s.t1 ≠ 0 /\ s.t2 ≠ 0 := by
 unfold ZkT;simp only [Bool.and_eq_true, decide_eq_true_eq, and_assoc]
theorem Zl6 {a b c p q r way : Int} (N : XK a b c) (S : J0 p q r) : ZkT (Zag a b c way p q r) = true ↔ ¬ Zo5 a b c p q (p + q + r) := by
 rw [<- Zdc N];rcases ZhO (way := way) N S with ⟨_, h2, h3⟩ | ⟨_, h2, h3⟩
 ·exact ⟨fun h => absurd (Zg5.mp h) h3, fun h => absurd h2 h⟩
 ·exact ⟨fun _ => h2, fun _ => Zg5.mpr h3⟩
noncomputable def JE (a b c way p q r : Int) : Nat := Zdp fun s i j => ZkT (Zag a b c way (p - i) (q - j) (r - (s - i - j)))
theorem Znd {a b c : Nat} (N : XK a b c) : (a, b, c) ∈ Zor := by
 obtain ⟨_, _, _, hs, a4, b4, c4⟩ := N;unfold Zor;rw [List.mem_filter];have hc : c = 5 - a - b := by lia
 refine ⟨?_, ?_⟩
 ·rw [List.mem_flatMap]
  exact ⟨a, List.mem_range.mpr (by lia), List.mem_map.mpr ⟨b, List.mem_range.mpr (by lia), by rw [hc]⟩⟩
 ·rw [Bool.and_eq_true]
  exact ⟨Nat.ble_eq.mpr (by show a + b <= 5; lia), Nat.ble_eq.mpr (by show c <= 4; lia)⟩
theorem ZrP {x y : Int} {s : Nat} (h : x + s = y) : x.toNat = y.toNat - s := by
 rw [show x = y - s by lia]; exact Int.toNat_sub' _ _
theorem Zrn {p q r s i j : Int} : p - i + (q - j) + (r - (s - i - j)) + 1 + s = p + q + r + 1 := by lia
theorem Znq {p q r : Int} {s i j : Nat} (hp : p <= 9) (hq : q <= 9) (hr : r <= 9) (hd : -1 <= p + q + r) (hs : s < 5) (hij : i + j <= s) : J0 (p - i) (q - j) (r - (s - i - j)) :=
 ⟨by clear hq hr hd hs hij; lia, by clear hp hr hd hs hij; lia, by clear hp hq hd hs; lia, by clear hp hq hr hij; lia⟩
theorem Ze7 {a b c : Nat} {way p q r : Int} {n g0 g1 : Nat} (N : XK a b c) (hn : n = ZcD a b c) (h0 : 0 < n) (hg : Zet a b c n g0 g1 = true) (hp : p <= 9) (hq : q <= 9) (hr : r <= 9) (hd : -1 <= p + q + r) :
  JE a b c way p q r = Zoi n g0 g1 (p + q + r + 1).toNat (cls n g0 g1 p q) := by
 refine Zdu fun s i j hs hij => ?_;have S : J0 (p - i) (q - j) (r - (s - i - j)) := Znq hp hq hr hd hs hij;have h := Zl6 (way := way) N S;rw [Znf hn h0 hg, ZlQ h0] at h;have e : (p - i + (q - j) + (r - (s - i - j)) + 1 : Int).toNat = (p + q + r + 1).toNat - s := ZrP Zrn;rw [e] at h
 cases hw : Zm5 n g0 g1 ((p + q + r + 1).toNat - s) ((cls n g0 g1 p q + (n - g0 * i % n) + (n - g1 * j % n)) % n) with
 | true => rw [hw] at h; exact Bool.eq_false_iff.mpr fun z => h.mp z rfl
 | false => rw [hw] at h; exact h.mpr (by simp)
theorem Ztu {a b c p q r : Int} (h : a + b + c = 5) (a0 : 0 <= a) (hp : p <= 2) (hq : q <= 2) (hd : -1 <= p + q + r) : b + c - 2 - r <= 9 := by lia
theorem ZrE {x y : Int} (h : x + y = 6) (hy : 0 <= y) : x.toNat = 6 - y.toNat := by
 refine (Int.eq_ofNat_of_zero_le hy).elim fun k hk => ?_;rw [show x = 6 - y by lia, hk]; exact Int.toNat_sub 6 k
theorem Zmz {a b c p q r : Int} (h : a + b + c = 5) : a + b - 2 - p + (a + c - 2 - q) + (b + c - 2 - r) + 1 + (p + q + r + 1) = 6 := by lia
theorem ZsS {a b p : Int} (ha : a <= 4) (hb : b <= 4) (hp : -2 <= p) : a + b - 2 - p <= 9 := by lia
theorem Ztt {x y : Int} (h : x + 1 + (y + 1) = 6) (hy : y <= 5) : -1 <= x := by lia
theorem Zs7 {y : Int} (h : -1 <= y) : 0 <= y + 1 := by lia
theorem Zs6 {p : Int} (h : p <= 2) : p <= 9 := by lia
theorem Zsy {A B C D : Int} : A - B + (C - D) = A + C - (B + D) := by lia
theorem Zgo {a b c : Nat} {way p q r : Int} (N : XK a b c) (hp : -2 <= p /\ p <= 2) (hq : -2 <= q /\ q <= 2) (hd : -1 <= p + q + r /\ p + q + r <= 5) :
  (JE a b c way p q r : Int) + 3 = JE a b c way (a + b - 2 - p) (a + c - 2 - q) (b + c - 2 - r) + (p + q + r + 1) := by
 have hs := N.sum;have ha := N.a4;have hb := N.b4;have hc := N.c4;have hk := ZlH;rw [List.all_eq_true] at hk;have hk := hk _ (Znd N);unfold Zhn at hk;dsimp only at hk;generalize hn : ZcD a b c = n at hk;generalize (ZpS a b c).1 = g0 at hk;generalize (ZpS a b c).2 = g1 at hk;rw [Bool.and_eq_true, List.all_eq_true] at hk;obtain ⟨hg, hk⟩ := hk;have h0 : 0 < n := by have := Ze0 N; rw [Zev, hn] at this; lia
 have hk := hk (cls n g0 g1 p q) (List.mem_range.mpr (Zsf h0 p q));rw [List.all_eq_true] at hk;have hk := Nat.eq_of_beq_eq_true (hk (p + q + r + 1).toNat (List.mem_range.mpr (by have := hd.2; clear hg hk hs ha hb hc hn h0 N; lia)));have hr : r <= 9 := by have := hd.2; have := hp.1; have := hq.1; clear hg hk hs ha hb hc hn h0 N; lia
 rw [Ze7 N hn.symm h0 hg (Zs6 hp.2) (Zs6 hq.2) hr hd.1, Ze7 N hn.symm h0 hg (ZsS ha hb hp.1) (ZsS ha hc hq.1) (Ztu hs N.a0 hp.2 hq.2 hd.1) (Ztt (Zmz hs) hd.2)]
 have e1 : (((g0 : Int) * ((a + b : Nat) - 2) + g1 * ((a + c : Nat) - 2) - cls n g0 g1 p q) % n).toNat = cls n g0 g1 (a + b - 2 - p) (a + c - 2 - q) := by
  have hz := XA h0 ((g0 : Int) * p + g1 * q);unfold cls;rw [hz];congr 1
  have e2 : (g0 : Int) * (a + b - 2 - p) + g1 * (a + c - 2 - q) = ((g0 : Int) * ((a + b : Nat) - 2) + g1 * ((a + c : Nat) - 2)) - ((g0 : Int) * p + g1 * q) := by
   rw [Int.natCast_add, Int.natCast_add, Int.mul_sub _ _ p, Int.mul_sub _ _ q];exact Zsy
  rw [e2, Int.sub_emod, Int.emod_emod, <- Int.sub_emod]
 rw [e1] at hk;rw [ZrE (Zmz hs) (Zs7 hd.1), <- Int.toNat_of_nonneg (show 0 <= p + q + r + 1 from Zs7 hd.1), <- Int.natCast_add];exact congrArg _ hk
noncomputable def Zod (ds : List V) : Sb fun (r : V) => ∃ ks vs, ds = [.dict ks vs] /\ ((YR vs).map fun ns => V.int ns.sum) = some r := match ds with
 | [.dict ks vs] => ⟨(YR vs).map fun ns => .int ns.sum, fun _ h => ⟨ks, vs, rfl, h⟩⟩
 | _ => .no
noncomputable def ZD : VF := Y3 fun _ ds => (Zod ds).1
theorem Za8 : ∀ ns : List Int, YR (ns.map V.int) = some ns
 | [] => rfl
 | n :: ns => by simp [YR, Za8 ns]
theorem XW {f : Bx -> List V -> Option V} {B : Bx} {ds : List V} {d : V} (h : f B ds = some d) : Y3 f B ds = some (d, B) := by simp [Y3, h]
set_option tactic.hygienic true in
theorem Zdi : Runs JD XT ["callers"] ZD := Jc fun B ds d h1 => by
  refine YA ((Zod ds).2 _ h1) fun ks vs e0 h1 => ?_;refine Zp h1 fun ns hns z_2 => ?_;rw [e0, <- z_2, Xh hns]
  refine YA (Za9 (f := V.int) (L := ns) (it := I.values (D.v 0)) (tgt := fun d σ => some (σ.set 2 (some d))) (body := S.aug ZbS 1 (D.v 2)) (els := S.k) (σ := [some (.dict ks (ns.map V.int)), some (.int 0), none]) (B := B)
   (fun Lc σ B' => ∃ (a : Int) (y : Option V), a + Lc.sum = ns.sum /\ σ = [some (.dict ks (ns.map V.int)), some (.int a), y] /\ B' = B)
   (fun i Lc σ B' h => YH h fun a y ha h1 h2 => by rw [h1, h2]; exact ⟨_, _, _, rfl, rfl, a + i, _, by rw [Int.add_assoc]; exact ha, rfl, rfl⟩) rfl ⟨0, none, Int.zero_add _, rfl, rfl⟩) fun σ' B' h e => YH h fun a y ha h1 h2 => ?_
  rw [h1, h2, show a = ns.sum from (Int.add_zero a).symm.trans ha] at e;exact ⟨rfl, [], .int ns.sum, 1, by rw [List.append_nil]; exact Zi rfl (Zi e (Yq rfl)), rfl⟩
noncomputable def ZqK (c : V) : Sb fun (p : Int × Int) => c = .tup [.int p.1, .int p.2] := match c with
 | .tup [.int i, .int d] => .ok (i, d) rfl
 | _ => .no
noncomputable def Zef (B : Bx) (l r : V) : List V -> Option V
 | [] => some (.int 0)
 | c :: cs => (ZqK c).1.bind fun p => (Zf B l (.int p.1)).bind fun x => (Zf B r (.int p.1)).bind fun y => (Zpl x).1.bind fun a => (Zpl y).1.bind fun b =>
  if a < b then some (.int (-p.2)) else if b < a then some (.int p.2) else Zef B l r cs
noncomputable def Zic (B : Bx) (ds : List V) : Sb fun (d : V) => ∃ cs l r, ds = [.tc (.tup cs), l, r] /\ Zef B l r cs = some d := match ds with
 | [.tc (.tup cs), l, r] => ⟨Zef B l r cs, fun _ h => ⟨cs, l, r, rfl, h⟩⟩
 | _ => .no
noncomputable def ZH : VF := Y3 fun B ds => (Zic B ds).1
set_option tactic.hygienic true in
theorem Zes {B : Bx} {l r c d : V} {cs : List V} (h : Zef B l r (c :: cs) = some d) : ∃ i dd a b, c = .tup [.int i, .int dd] /\ Zf B l (.int i) = some (.int a) /\ Zf B r (.int i) = some (.int b) /\ (if a < b then some (.int (-dd)) else if b < a then some (.int dd) else Zef B l r cs) = some d := by
 refine Z6 h fun p hp h => ?_;refine Z6 h fun x hx h => ?_;refine Z6 h fun y hy h => ?_;refine Z6 h fun a ha h => ?_;refine Z6 h fun b hb h => ?_;exact ⟨p.1, p.2, a, b, (ZqK c).2 _ hp, (Zpl x).2 _ ha ▸ hx, (Zpl y).2 _ hb ▸ hy, h⟩
theorem Zl1 {B : Bx} {l r : V} {cs : List V} {d : V} (h : Zef B l r cs = some d) : ∃ i, d = .int i := by
 induction cs with
 | nil => exact ⟨0, (Option.some.inj h).symm⟩
 | cons c cs ih =>
  refine Zcv (Zes h) fun i dd a b _ _ _ h => ?_;exact (Zah h).elim (fun h => ⟨_, (Option.some.inj h.2).symm⟩) fun h => (Zah h.2).elim (fun h => ⟨_, (Option.some.inj h.2).symm⟩) fun h => ih h.2
noncomputable abbrev ZpC : DS := S.q (S.a 5 (D.b Zf (D.v 1) (D.v 3))) (S.q (S.a 6 (D.b Zf (D.v 2) (D.v 3))) (S.q (S.ite (T.cmp vlt (D.v 5) (D.v 6)) (S.r (D.un JI (D.v 4))) S.k) (S.ite (T.cmp vgt (D.v 5) (D.v 6)) (S.r (D.v 4)) S.k)))
noncomputable abbrev O6 := Option V × Option V × Option V × Option V × Option V × Option V
noncomputable abbrev O4 := Option V × Option V × Option V × Option V
noncomputable def Zk3 (t l r : V) (y : O4) : St := [some t, some l, some r, y.1, y.2.1, y.2.2.1, y.2.2.2]
theorem ZnF {t l r : V} {y : O4} {B : Bx} {i dd a b : Int} (ha : Zf B l (.int i) = some (.int a)) (hb : Zf B r (.int i) = some (.int b)) :
  ZpC (Zk3 t l r (some (.int i), some (.int dd), y.2.2)) B = some (if a < b then .ret (.int (-dd)) else if b < a then .ret (.int dd) else .next, Zk3 t l r (some (.int i), some (.int dd), some (.int a), some (.int b)), B) := by
 refine (ZU (σ₁ := Zk3 t l r (some (.int i), some (.int dd), some (.int a), y.2.2.2)) (Zq (Zh rfl rfl ha))).trans ((ZU (Zq (Zh rfl rfl hb))).trans ?_)
 by_cases h1 : a < b
 ·rw [if_pos h1]
  exact ZdL ((JU (Z5 rfl rfl (congrArg some (decide_eq_true h1)))).trans (Zc1 rfl))
 ·rw [if_neg h1]
  refine (ZU ((Xv (Z5 rfl rfl (congrArg some (decide_eq_false h1)))).trans rfl)).trans ?_
  by_cases h2 : b < a
  ·rw [if_pos h2]
   exact (JU (Z5 rfl rfl (congrArg some (decide_eq_true h2)))).trans (Zc1 rfl)
  ·rw [if_neg h2]
   exact (Xv (Z5 rfl rfl (congrArg some (decide_eq_false h2)))).trans rfl
noncomputable def Zto (step : V -> St -> Bx -> Option Out) (els : St -> Bx -> Option Out) (n : Nat) (xs : List V) (σ : St) (B : Bx) : Fl -> Option Out
 | .brk => some (.next, σ, B)
 | .ret d => some (.ret d, σ, B)
 | _ => Y4 step els n (.seq xs) σ B
theorem Jd {step : V -> St -> Bx -> Option Out} {els : St -> Bx -> Option Out} {n : Nat} {x : V} {xs : List V} {σ σ' : St} {B B' : Bx} (f : Fl) (h : step x σ B = some (f, σ', B')) :
  Y4 step els (n + 1) (.seq (x :: xs)) σ B = Zto step els n xs σ' B' f := by
 show (match step x σ B with | some (.next, σ', B') => Y4 step els n (.seq xs) σ' B' | some (.cont, σ', B') => Y4 step els n (.seq xs) σ' B' | some (.brk, σ', B') => some (.next, σ', B') | some (.ret d, σ', B') => some (.ret d, σ', B') | none => none) = _;rw [h]
 cases f <;> rfl
theorem ZnI {t l r d : V} {B : Bx} : ∀ (cs : List V) (n : Nat) (y : O4), Zef B l r cs = some d -> cs.length < n ->
  ∃ σ', Y4 (fun x σ B => match S.parts [3, 4] x σ with | none => none | some σ₁ => ZpC σ₁ B) S.k n (.seq cs) (Zk3 t l r y) B = some (.ret d, σ', B) \/ (d = .int 0 /\ Y4 (fun x σ B => match S.parts [3, 4] x σ with | none => none | some σ₁ => ZpC σ₁ B) S.k n (.seq cs) (Zk3 t l r y) B = some (.next, σ', B)) := by
 intro cs
 induction cs with
 | nil =>
  intro n y h hn
  cases n with
  | zero => cases hn
  | succ n => exact ⟨_, .inr ⟨(Option.some.inj h).symm, rfl⟩⟩
 | cons c cs ih =>
  intro n y h hn
  cases n with
  | zero => cases hn
  | succ n =>
   refine Zcv (Zes h) fun i dd a b hc ha hb h => ?_;rw [hc, Jd _ (show (match S.parts [3, 4] (.tup [.int i, .int dd]) (Zk3 t l r y) with | none => none | some σ₁ => ZpC σ₁ B) = _ from ZnF (t := t) (y := y) (dd := dd) ha hb)]
   by_cases h1 : a < b
   ·rw [if_pos h1] at h ⊢
    rw [Option.some.inj h]; exact ⟨_, .inl rfl⟩
   ·rw [if_neg h1] at h ⊢
    by_cases h2 : b < a
    ·rw [if_pos h2] at h ⊢
     rw [Option.some.inj h]; exact ⟨_, .inl rfl⟩
    ·rw [if_neg h2] at h ⊢
     exact ih n _ h (Nat.lt_of_succ_lt_succ hn)
set_option tactic.hygienic true in
theorem ZgO : Runs ZbJ ZaK ["self", "left", "right"] ZH := Jc fun B ds d h1 => by
  refine Zs4 ((Zic B ds).2 _ h1) fun cs l r e1 h1 => ?_;obtain ⟨i, e0⟩ := Zl1 h1;rw [e1];refine Zb1 (ZnI (t := .tc (.tup cs)) cs (cs.length + 1) (none, none, none, none) h1 (Nat.lt_succ_self _)) fun σ' hs => ?_;rw [e0] at hs ⊢;refine ⟨rfl, [], .int i, 1, ?_, rfl⟩;rw [List.append_nil];exact hs.elim (fun hs => Jz ⟨_, hs⟩) fun hs => by rw [hs.1]; exact Zi hs.2 (Yq rfl)
noncomputable def ZiY : V -> Bool
 | .int _ => true
 | _ => false
noncomputable def JO : V -> Bool
 | .int _ => true
 | .tup xs => xs.all ZiY
 | _ => false
noncomputable def ZsV (c y : V) : Sb fun (d : V) => (∃ xs ys zs, c = .tup xs /\ y = .tup ys /\ zsum xs ys = some zs /\ Zu xs.length = true /\ d = .tup zs) \/ ∃ n m, c = .int n /\ y = .int m /\ d = .int (m + n) := match c, y with
 | .tup xs, .tup ys => .bind (zsum xs ys) fun zs hz => .ite (c := Zu xs.length = true) (.tup zs) fun hs => .inl ⟨xs, ys, zs, rfl, rfl, hz, hs, rfl⟩
 | .int n, .int m => .ok (.int (m + n)) (.inr ⟨n, m, rfl, rfl, rfl⟩)
 | _, _ => .no
noncomputable def Jt (a : List Str × List V) (k : Str) (c : V) : Option V := if a.1.contains k then (Zas a.1 a.2 k).bind fun y => (ZsV c y).1 else some c
noncomputable def Zb2 : List (Str × V) -> List Str × List V -> Option (List Str × List V)
 | [], a => some a
 | (k, c) :: r, a => (Jt a k c).bind fun d => if Zu a.1.length then Zb2 r (Jr a.1 a.2 k d) else none
noncomputable def Zs1 (ds : List V) : Sb fun (r : V) => ∃ ks vs ks' vs', ds = [.dict ks vs, .dict ks' vs'] /\ (ks.Nodup /\ ks.length = vs.length /\ ks.length <= Cap /\ vs.all JO = true /\ vs'.all JO = true) /\ ((Zb2 (ks'.zip vs') (ks, vs)).map fun r => V.dict r.1 r.2) = some r := match ds with
 | [.dict ks vs, .dict ks' vs'] => ⟨if ks.Nodup /\ ks.length = vs.length /\ ks.length <= Cap /\ vs.all JO = true /\ vs'.all JO = true then (Zb2 (ks'.zip vs') (ks, vs)).map fun r => .dict r.1 r.2 else none, fun _ h => ⟨ks, vs, ks', vs', rfl, Yp h⟩⟩
 | _ => .no
noncomputable def Ze : VF := Y3 fun _ ds => (Zs1 ds).1
theorem Ze8 {k : Str} {c d : V} {r : List (Str × V)} {a : List Str × List V} (h : Jt a k c = some d) (hs : Zu a.1.length = true) : Zb2 ((k, c) :: r) a = Zb2 r (Jr a.1 a.2 k d) := by
 show (Jt a k c).bind _ = _;rw [h];exact if_pos hs
theorem ZnE {B : Bx} {ks ks' : List Str} {vs vs' : List V} {r : List Str × List V} (h : ks.Nodup /\ ks.length = vs.length /\ ks.length <= Cap /\ vs.all JO = true /\ vs'.all JO = true) (h2 : Zb2 (ks'.zip vs') (ks, vs) = some r) :
  Ze B [.dict ks vs, .dict ks' vs'] = some (.dict r.1 r.2, B) := by
 show Option.map (·, B) (if _ then Option.map _ _ else none) = _;rw [if_pos h, h2];rfl
theorem Yw {B : Bx} {x : V} : (B ++ [x])[B.length]? = some x := by simp
theorem ZbL {B : Bx} {x y : V} : (B ++ [x]).set B.length y = B ++ [y] := by simp
theorem ZbI {B : Bx} {ks : List Str} {vs : List V} {k : Str} {d : V} (h : Zu ks.length = true) :
  Zck (B ++ [.dict ks vs]) B.length (.str k) d = some (B ++ [.dict (Jr ks vs k d).1 (Jr ks vs k d).2]) := by
 unfold Zck; rw [Yw]; simp only [h, if_true]; rw [ZbL]
set_option tactic.hygienic true in
theorem Zou {n : Nat} {B : Bx} {d : V} (h : JO d = true) (m : Nat) : frz n B (m + 2) d = some d := by
 cases d <;> first | cases h | skip
 ·rfl
 ·rename_i xs
  have : ∀ xs : List V, xs.all ZiY = true -> XB (frz n B (m + 1)) xs = some xs := by
   intro xs
   induction xs with
   | nil => intro _; rfl
   | cons x xs ih =>
    intro hx;simp only [List.all_cons, Bool.and_eq_true] at hx;simp only [XB, (by cases x <;> first | (cases hx.1; done) | rfl : frz n B (m + 1) x = some x), ih hx.2]
  show (XB (frz n B (m + 1)) xs).map V.tup = _;rw [this xs h];rfl
theorem ZkG {n : Nat} {B : Bx} {m : Nat} : ∀ {xs : List V}, xs.all JO = true -> XB (frz n B (m + 2)) xs = some xs := by
 intro xs_
 induction xs_ with
 | nil =>
  intro _;exact rfl
 | cons x xs ih_ =>
  intro h;simp only [List.all_cons, Bool.and_eq_true] at h;simp only [XB, Zou h.1, ih_ h.2]
theorem ZjV {p : V -> Bool} : ∀ {vs : List V} {i : Nat} {d : V}, vs.all p = true -> p d = true -> (vs.set i d).all p = true
 | [], i, d, _, _ => by simp
 | v :: vs, 0, d, h, hd => by simp only [List.all_cons, Bool.and_eq_true] at h; simp only [List.set_cons_zero, List.all_cons, hd, h.2, Bool.and_self]
 | v :: vs, i + 1, d, h, hd => by
  simp only [List.all_cons, Bool.and_eq_true] at h;simp only [List.set_cons_succ, List.all_cons, h.1, Bool.true_and];exact ZjV h.2 hd
theorem ZmV {ks : List Str} {vs : List V} {k : Str} {d : V} {p : V -> Bool} (h : vs.all p = true) (hd : p d = true) : (Jr ks vs k d).2.all p = true := by
 unfold Jr
 split
 ·exact ZjV h hd
 ·simp only [List.all_append, h, List.all_cons, hd, List.all_nil, Bool.and_self]
theorem Zk2 {xs ys zs : List V} (h : zsum xs ys = some zs) : zs.all ZiY = true := by
 refine ZbZ (ZfO h) fun ns ms _ _ _ z_5 => ?_;subst z_5;rw [List.all_map, List.all_eq_true]; intro _ _; rfl
noncomputable def ZqN (p : Str × V) : V := .tup [.str p.1, p.2]
theorem Zjy {ps : List (Str × V)} {k : Str} {d : V} (h : k ∉ ps.map (·.1)) : Jr (ps.map (·.1)) (ps.map (·.2)) k d = ((ps ++ [(k, d)]).map (·.1), (ps ++ [(k, d)]).map (·.2)) := by
 rw [Zew h]; simp
theorem Zfz {a : List Str × List V} {k : Str} {c d : V} (h : Jt a k c = some d) : (a.1.contains k = false /\ d = c) \/ (a.1.contains k = true /\ ((∃ xs ys zs, c = .tup xs /\ Zas a.1 a.2 k = some (.tup ys) /\ zsum xs ys = some zs /\ Zu xs.length = true /\ d = .tup zs) \/
  ∃ n m, c = .int n /\ Zas a.1 a.2 k = some (.int m) /\ d = .int (m + n))) := by
 refine (Zah h).elim (fun h => ZaN h fun hc h => ?_) fun h => .inl ⟨(Bool.not_eq_true _).mp h.1, (Option.some.inj h.2).symm⟩;refine Z6 h fun y hy h => ?_;refine .inr ⟨hc, ((ZsV c y).2 _ h).elim (fun h => Zh2 h fun xs ys zs e1 e2 e3 e4 e5 => ?_) fun h => YH h fun n m e1 e2 e3 => ?_⟩
 ·exact .inl ⟨xs, ys, zs, e1, e2 ▸ hy, e3, e4, e5⟩
 ·exact .inr ⟨n, m, e1, e2 ▸ hy, e3⟩
theorem Zg3 {a : List Str × List V} {k : Str} {c d : V} (hc : JO c = true) (h : Jt a k c = some d) : JO d = true := by
 refine (Zfz h).elim (fun h => h.2 ▸ hc) fun h => h.2.elim (fun h => Zh2 h fun xs ys zs _ _ hz _ e => ?_) fun h => YH h fun n m _ _ e => ?_
 ·rw [e]; exact Zk2 hz
 ·rw [e]; rfl
theorem ZmT {f g : DE} {σ : St} {B B₁ B₂ : Bx} {xs ys zs : List V} (h1 : f σ B = some (.tup xs, B₁)) (h2 : g σ B₁ = some (.tup ys, B₂)) (hz : zsum xs ys = some zs) (hs : Zu xs.length = true) : D.zsum f g σ B = some (.tup zs, B₂) := by
 show (f σ B).bind _ = _;rw [h1];show (g σ B₁).bind _ = _;rw [h2];show (zsum xs ys).bind _ = _;rw [hz];exact if_pos hs
noncomputable abbrev ZgH : DS := S.ite (T.cmp vin (D.v 3) (D.v 2)) (S.ite (T.of (D.isTup (D.v 4))) (S.put (D.zsum (D.v 4) (D.b Zf (D.v 2) (D.v 3))) (D.v 2) (D.v 3)) (S.augput ZbS (D.v 2) (D.v 3) (D.v 4))) (S.put (D.v 4) (D.v 2) (D.v 3))
theorem ZoS {B : Bx} {σ : St} {acc : List Str × List V} {k : Str} {c dd : V} (h2 : σ[2]? = some (some (.box B.length))) (h3 : σ[3]? = some (some (.str k))) (h4 : σ[4]? = some (some c)) (hd : Jt acc k c = some dd) (hs : Zu acc.1.length = true) :
  ZgH σ (B ++ [.dict acc.1 acc.2]) = some (.next, σ, B ++ [.dict (Jr acc.1 acc.2 k dd).1 (Jr acc.1 acc.2 k dd).2]) := by
 have hg : ∀ {d}, Zas acc.1 acc.2 k = some d -> Zf (B ++ [.dict acc.1 acc.2]) (.box B.length) (.str k) = some d := fun hl => (Zb5 (p := acc) (by simp only [JB, Yw])).trans hl;have hin : vin (B ++ [.dict acc.1 acc.2]) (.str k) (.box B.length) = some (acc.1.contains k) := by simp only [vin, JB, Yw]
 rcases Zfz hd with ⟨hc, e⟩ | ⟨hc, ⟨xs, ys, zs, e1, hl, hz, hs2, e⟩ | ⟨n, m, e1, hl, e⟩⟩ <;> rw [hc] at hin <;> rw [e]
 ·exact (Xv (Z5 (Zn h3) (Zn h2) hin)).trans (Zi5 (Zn h4) (Zn h2) (Zn h3) (ZbI hs))
 ·rw [e1] at h4
  refine (JU (Z5 (Zn h3) (Zn h2) hin)).trans ((JU (Jm (B₁ := B ++ [.dict acc.1 acc.2]) (d := .bool true) ?_ rfl)).trans (Zi5 (d₁ := .tup zs) ?_ (Zn h2) (Zn h3) (ZbI hs)))
  ·unfold D.isTup; rw [Zn h4]; rfl
  ·exact ZmT (Zn h4) (Zh (Zn h2) (Zn h3) (hg hl)) hz hs2
 ·rw [e1] at h4
  refine (JU (Z5 (Zn h3) (Zn h2) hin)).trans ((Xv (Jm (B₁ := B ++ [.dict acc.1 acc.2]) (d := .bool false) ?_ rfl)).trans (Zc0 (Zn h2) (Zn h3) (hg hl) (Zn h4) rfl (ZbI hs)));unfold D.isTup; rw [Zn h4]; rfl
theorem ZkQ {B : Bx} {ks ks' : List Str} {vs vs' : List V} (hnd : ks.Nodup) (hlen : ks.length = vs.length) (hcap : ks.length <= Cap) : ∃ y z, S.l (I.items (D.v 0)) (S.parts [3, 4]) (S.put (D.v 4) (D.v 2) (D.v 3)) S.k [some (.dict ks vs), some (.dict ks' vs'), some (.box B.length), none, none] (B ++ [.dict [] []]) =
  some (.next, [some (.dict ks vs), some (.dict ks' vs'), some (.box B.length), y, z], B ++ [.dict ks vs]) := by
 refine YA (Za9 (f := ZqN) (it := I.items (D.v 0)) (tgt := S.parts [3, 4]) (body := S.put (D.v 4) (D.v 2) (D.v 3)) (els := S.k) (σ := [some (.dict ks vs), some (.dict ks' vs'), some (.box B.length), none, none]) (B := B ++ [.dict [] []])
  (fun qs σ B' => ∃ (ps : List (Str × V)) (y z : Option V), ps ++ qs = ks.zip vs /\ σ = [some (.dict ks vs), some (.dict ks' vs'), some (.box B.length), y, z] /\ B' = B ++ [.dict (ps.map (·.1)) (ps.map (·.2))])
  (fun q qs σ B' h => YD h fun ps y z hps hσ hB => by
   rw [hσ, hB]
   have hk : q.1 ∉ ps.map (·.1) := fun hm => by
    have : ((ps ++ q :: qs).map (·.1)).Nodup := by rw [hps, List.map_fst_zip (Nat.le_of_eq hlen)]; exact hnd
    rw [List.map_append, List.nodup_append] at this;exact this.2.2 _ hm _ (.head _) rfl
   have hsz : ps.length <= Cap := by
    have := congrArg List.length hps;rw [List.length_append, List.length_zip] at this;exact Nat.le_trans (Nat.le_add_right _ _) (Nat.le_trans (Nat.le_of_eq this) (Nat.le_trans (Nat.min_le_left _ _) hcap))
   refine ⟨[some (.dict ks vs), some (.dict ks' vs'), some (.box B.length), some (.str q.1), some q.2], _, _, rfl, ?_, ps ++ [q], some (.str q.1), some q.2, by rw [<- hps, List.append_assoc]; rfl, rfl, rfl⟩;have := Zi5 (i := D.v 3) (k := D.v 4) (o := D.v 2) (σ := [some (.dict ks vs), some (.dict ks' vs'), some (.box B.length), some (.str q.1), some q.2]) rfl rfl rfl (ZbI (B := B) (ks := ps.map (·.1)) (vs := ps.map (·.2)) (k := q.1) (d := q.2) (by rw [List.length_map]; exact Yd hsz));rw [Zjy hk] at this;exact this)
  rfl ⟨[], none, none, rfl, rfl, rfl⟩) fun σ' B' h e => YD h fun ps y z hps hσ hB => ⟨y, z, ?_⟩
 rw [List.append_nil] at hps;rw [e, hσ, hB, hps, List.map_fst_zip (Nat.le_of_eq hlen), List.map_snd_zip (Nat.le_of_eq hlen.symm)];rfl
theorem Zmg {B : Bx} {ks ks' : List Str} {vs vs' : List V} {res : List Str × List V} {y z : Option V} (hres : Zb2 (ks'.zip vs') (ks, vs) = some res) (hf : vs.all JO = true) (hf' : vs'.all JO = true) : res.2.all JO = true /\ ∃ y' z', S.l (I.items (D.v 1)) (S.parts [3, 4]) ZgH S.k [some (.dict ks vs), some (.dict ks' vs'), some (.box B.length), y, z] (B ++ [.dict ks vs]) =
  some (.next, [some (.dict ks vs), some (.dict ks' vs'), some (.box B.length), y', z'], B ++ [.dict res.1 res.2]) := by
 refine YA (Za9 (f := ZqN) (it := I.items (D.v 1)) (tgt := S.parts [3, 4]) (body := ZgH) (els := S.k) (σ := [some (.dict ks vs), some (.dict ks' vs'), some (.box B.length), y, z]) (B := B ++ [.dict ks vs])
  (fun qs σ B' => ∃ (acc : List Str × List V) (y z : Option V), Zb2 qs acc = some res /\ acc.2.all JO = true /\ qs.all (fun p => JO p.2) = true /\ σ = [some (.dict ks vs), some (.dict ks' vs'), some (.box B.length), y, z] /\ B' = B ++ [.dict acc.1 acc.2])
  (fun q qs σ B' h => Zh2 h fun acc y z hgo hfa hfq hσ hB => by
   rw [hσ, hB];rw [List.all_cons, Bool.and_eq_true] at hfq;refine Z6 hgo fun dd hd hgo => ?_;obtain ⟨hs, hgo⟩ := Yp hgo;exact ⟨[some (.dict ks vs), some (.dict ks' vs'), some (.box B.length), some (.str q.1), some q.2], _, _, rfl, ZoS rfl rfl rfl hd hs, _, _, _, hgo, ZmV hfa (Zg3 hfq.1 hd), hfq.2, rfl, rfl⟩)
  rfl ⟨(ks, vs), y, z, hres, hf, by
   rw [List.all_eq_true] at hf' ⊢;intro p hp;exact hf' _ (List.of_mem_zip hp).2, rfl, rfl⟩) fun σ' B' h e => Zh2 h fun acc y z hgo hfa _ hσ hB => ?_
 rw [<- Option.some.inj hgo];exact ⟨hfa, y, z, by rw [e, hσ, hB]; rfl⟩
set_option tactic.hygienic true in
theorem Zdh : Runs JH XR ["target", "source"] Ze := Jc fun B ds d h1 => by
 refine ZfQ ((Zs1 ds).2 _ h1) fun ks vs ks' vs' e3 hcond h1 => ?_;rw [e3];refine ZfN hcond fun hnd hlen hcap hf hf' => ?_;refine Zp h1 fun res hres e0 => ?_;rw [<- e0];refine Zbz (ZkQ (B := B) (ks' := ks') (vs' := vs') hnd hlen hcap) fun y z e1 => ?_;refine ZaN (Zmg (B := B) (y := y) (z := z) hres hf hf') fun hfa e2 => Zbz e2 fun y' z' e2 => ?_;refine ⟨rfl, [.dict res.1 res.2], .box B.length, 3, Zi rfl (Zi e1 (Zi e2 (Yq rfl))), ?_⟩;show (if B.length < B.length then _ else _) = _;rw [if_neg (Nat.lt_irrefl _), Yw];show (XB (frz B.length _ 2) res.2).map (V.dict res.1) = _;rw [ZkG (m := 0) hfa];rfl
open Builtin Builtin.Str
noncomputable def ls (x : Str) : List Nat := x.cps.toList
theorem X7 (x : Str) : (ls x).length = x.length := by simp [ls, Str.length]
theorem ZgD {x y : Str} (h : ls x = ls y) : x = y := by
 cases x; cases y
 simp only [ls] at h;rw [Array.toList_inj.mp h]
theorem Zfc (x y : Str) : ls (x ++ y) = ls x ++ ls y := by
 show (x.cps ++ y.cps).toList = _;simp [ls]
theorem ZoW (x y : Str) : (x ++ y).length = x.length + y.length := by rw [<- X7, Zfc, List.length_append, X7, X7]
theorem Zlo (s sub : Str) (i : Nat) : subAt s sub i = true ↔ ((ls s).drop i).take sub.length = ls sub := by
 unfold subAt;rw [beq_iff_eq, <- Array.toList_inj];simp only [Array.toList_extract, List.extract_eq_take_drop, ls];rw [show i + sub.length - i = sub.length by lia]
theorem Zm9 (s : Str) (i j : Nat) : ls (strSub s i j) = ((ls s).drop i).take (j - i) := by
 simp [strSub, ls, List.extract_eq_take_drop]
noncomputable def JQ (sub : List Nat) : Nat -> Nat -> List Nat -> List Nat
 | _, _, [] => []
 | i, 0, c :: r => if sub.isPrefixOf (c :: r) then i :: JQ sub (i + 1) (sub.length - 1) r else JQ sub (i + 1) 0 r
 | i, k + 1, c :: r => JQ sub (i + 1) k r
theorem take_prefix {a b : List Nat} : b.take a.length = a ↔ a.isPrefixOf b = true := by
 rw [List.isPrefixOf_iff_prefix]
 constructor
 ·intro h; rw [<- h]; exact List.take_prefix _ _
 ·rintro ⟨t, rfl⟩; simp
theorem Zhb (s sub : Str) (hs : sub.length ≠ 0) (limit : Nat) : ∀ (n i free : Nat) (found : Array Nat), i + n = s.length + 1 -> found.size + n <= limit ->
  (forIn (List.range' i n) (found, free) (StrLaws.occBody s sub s.length limit)).run.fst.toList = found.toList ++ JQ (ls sub) i (free - i) ((ls s).drop i)
 := by
 intro n
 induction n with
 | zero =>
  intro i free found hi hl;rw [show (ls s).drop i = [] from List.drop_eq_nil_of_le (by rw [X7, show i = _ from hi]; exact Nat.le_succ _)];exact (List.append_nil _).symm
 | succ n ih0 =>
  intro i free found hi hl;have hin : i + n = s.length := Nat.succ.inj hi;have hi1 : i + 1 + n = s.length + 1 := (Nat.succ_add_eq_add_succ i n).trans hi;have hl1 : found.size + n <= limit := Nat.le_of_succ_le hl;have ih := fun free => ih0 (i + 1) free found hi1 hl1;rw [List.range'_succ, List.forIn_cons]
  by_cases hlast : i = s.length
  ·have hd : (ls s).drop i = [] := List.drop_eq_nil_of_le (by rw [X7]; exact Nat.le_of_eq hlast.symm)
   have hn : n = 0 := Nat.add_left_cancel (k := 0) (hin.trans hlast.symm);rw [hn];unfold StrLaws.occBody;rw [if_neg (fun h => hs (Nat.le_zero.mp (Nat.le_of_add_le_add_left (a := i) (Nat.le_trans h.1.2 (Nat.le_of_eq hlast.symm)))))];rw [hd];simp [JQ]
  ·have hlt : i < (ls s).length := by rw [X7]; exact Nat.lt_of_le_of_ne (hin ▸ Nat.le_add_right _ _) hlast
   have hd : (ls s).drop i = (ls s)[i] :: (ls s).drop (i + 1) := List.drop_eq_getElem_cons hlt;have hsub : subAt s sub i = true ↔ (ls sub).isPrefixOf ((ls s).drop i) = true := by rw [Zlo, <- X7 sub]; exact take_prefix
   have hfit : (ls sub).isPrefixOf ((ls s).drop i) = true -> i + sub.length <= s.length := fun h => by
    rw [List.isPrefixOf_iff_prefix] at h;have := h.length_le;rw [List.length_drop, X7, X7] at this;exact Nat.add_le_of_le_sub' (hin ▸ Nat.le_add_right _ _) this
   unfold StrLaws.occBody
   by_cases hfree : free <= i
   ·have h0 : free - i = 0 := Nat.sub_eq_zero_of_le hfree
    rw [h0]
    by_cases hp : (ls sub).isPrefixOf ((ls s).drop i) = true
    ·rw [if_pos ⟨⟨⟨Nat.lt_of_lt_of_le (Nat.lt_add_of_pos_right (Nat.succ_pos n)) hl, hfree⟩, hfit hp⟩, hsub.mpr hp⟩]
     have ih := ih0 (i + 1) (i + sub.length) (found.push i) hi1 (by rw [Array.size_push, Nat.succ_add_eq_add_succ]; exact hl)
     have e : (JQ (ls sub) i 0 ((ls s).drop i)) = i :: JQ (ls sub) (i + 1) ((ls sub).length - 1) ((ls s).drop (i + 1)) := by
      rw [hd] at hp ⊢;simp only [JQ, hp, if_true]
     rw [e];simp only [pure_bind];rw [show (fun (a : Nat) (b : Array Nat × Nat) => if ((b.fst.size < limit /\ b.snd <= a) /\ a + sub.length <= s.length) /\ subAt s sub a = true then (pure (ForInStep.yield (b.fst.push a, a + sub.length)) : Id (ForInStep (Array Nat × Nat))) else pure (ForInStep.yield (b.fst, b.snd))) = StrLaws.occBody s sub s.length limit from rfl];rw [ih];simp only [Array.toList_push, List.append_assoc, List.singleton_append];rw [show i + sub.length - (i + 1) = (ls sub).length - 1 by rw [X7, Nat.add_sub_add_left]]
    ·rw [if_neg (fun h => hp (hsub.mp h.2))]
     have ih := ih free
     have e : (JQ (ls sub) i 0 ((ls s).drop i)) = JQ (ls sub) (i + 1) 0 ((ls s).drop (i + 1)) := by
      rw [hd] at hp ⊢;simp only [JQ, hp, if_false, Bool.false_eq_true]
     rw [e];simp only [pure_bind];rw [show (fun (a : Nat) (b : Array Nat × Nat) => if ((b.fst.size < limit /\ b.snd <= a) /\ a + sub.length <= s.length) /\ subAt s sub a = true then (pure (ForInStep.yield (b.fst.push a, a + sub.length)) : Id (ForInStep (Array Nat × Nat))) else pure (ForInStep.yield (b.fst, b.snd))) = StrLaws.occBody s sub s.length limit from rfl];rw [ih, show free - (i + 1) = 0 from Nat.sub_eq_zero_of_le (Nat.le_succ_of_le hfree)]
   ·rw [if_neg (fun h => hfree h.1.1.2)]
    have ih := ih free;obtain ⟨k, hk⟩ : ∃ k, free - i = k + 1 := Nat.exists_eq_succ_of_ne_zero (Nat.sub_ne_zero_of_lt (Nat.lt_of_not_le hfree));have e : (JQ (ls sub) i (free - i) ((ls s).drop i)) = JQ (ls sub) (i + 1) k ((ls s).drop (i + 1)) := by rw [hd, hk]; rfl
    rw [e];simp only [pure_bind];rw [show (fun (a : Nat) (b : Array Nat × Nat) => if ((b.fst.size < limit /\ b.snd <= a) /\ a + sub.length <= s.length) /\ subAt s sub a = true then (pure (ForInStep.yield (b.fst.push a, a + sub.length)) : Id (ForInStep (Array Nat × Nat))) else pure (ForInStep.yield (b.fst, b.snd))) = StrLaws.occBody s sub s.length limit from rfl];rw [ih, show free - (i + 1) = k by rw [<- Nat.sub_sub, hk]; rfl]
theorem ZmU (s sub : Str) (hs : sub.length ≠ 0) : occurrences s sub 0 s.length (s.length + 1) = JQ (ls sub) 0 0 (ls s) := by
 rw [StrLaws.occ_eq, Zhb s sub hs _ (s.length + 1 - 0) 0 0 #[] (by lia) (by simp)];simp
open Builtin Builtin.Str
theorem ZiM {c : Nat} {t r : List Nat} {d : Nat} (h : d ≠ c) : (c :: t).isPrefixOf (d :: r) = false := by
 simp only [List.isPrefixOf, Bool.and_eq_false_imp, beq_iff_eq];intro e; exact absurd e.symm h
theorem ZfK {c : Nat} {t : List Nat} : ∀ (w : List Nat) (i : Nat) (r : List Nat), c ∉ w -> JQ (c :: t) i 0 (w ++ r) = JQ (c :: t) (i + w.length) 0 r := by
 intro xs_
 induction xs_ with
 | nil =>
  intro i r _;exact rfl
 | cons d w ih_ =>
  intro i r h;have h1 : d ≠ c := fun e => h (by simp [e]);have h2 : c ∉ w := fun e => h (by simp [e]);rw [List.cons_append, JQ, ZiM h1];simp only [Bool.false_eq_true, if_false];rw [ih_ (i + 1) r h2, List.length_cons];congr 1;lia
theorem Zlk {sub : List Nat} : ∀ (w : List Nat) (i : Nat) (r : List Nat), JQ sub i w.length (w ++ r) = JQ sub (i + w.length) 0 r := by
 intro xs_
 induction xs_ with
 | nil =>
  intro i r;exact rfl
 | cons d w ih_ =>
  intro i r;rw [List.cons_append, List.length_cons, JQ, ih_ (i + 1) r];congr 1;lia
theorem ZoG {c : Nat} {t r : List Nat} {i : Nat} : JQ (c :: t) i 0 ((c :: t) ++ r) = i :: JQ (c :: t) (i + (c :: t).length) 0 r := by
 have hp : (c :: t).isPrefixOf (c :: (t ++ r)) = true := by
  rw [List.isPrefixOf_iff_prefix]; exact ⟨r, rfl⟩
 rw [List.cons_append, JQ, hp];simp only [if_true, List.length_cons, Nat.add_sub_cancel];rw [Zlk t (i + 1) r];congr 2;lia
noncomputable def Zbn (sep : List Nat) : List (List Nat) -> List Nat
 | [] => []
 | [x] => x
 | x :: r => x ++ sep ++ Zbn sep r
theorem ZbG (sep x : List Nat) {r : List (List Nat)} (h : r ≠ []) : Zbn sep (x :: r) = x ++ sep ++ Zbn sep r := by
 cases r with
 | nil => exact absurd rfl h
 | cons y r => rfl
theorem ZcM (sep : Str) : ∀ ws : List Str, ls (Txt.join sep ws) = Zbn (ls sep) (ws.map ls) := by
 intro ws;show ls (glued sep ws) = _;rw [StrLaws.glued_eq_join]
 induction ws with
 | nil => rfl
 | cons x r ih =>
  cases r with
  | nil => rfl
  | cons y r =>
   show ls (x ++ sep ++ Str.join sep (y :: r)) = _;rw [Zfc, Zfc, ih];rfl
noncomputable def Zb8 (w : Nat) : Nat -> List (List Nat) -> List Nat
 | _, [] => []
 | _, [_] => []
 | i, x :: r => (i + x.length) :: Zb8 w (i + x.length + w) r
theorem Zbr (w i : Nat) (x : List Nat) {r : List (List Nat)} (h : r ≠ []) : Zb8 w i (x :: r) = (i + x.length) :: Zb8 w (i + x.length + w) r := by
 cases r with
 | nil => exact absurd rfl h
 | cons y r => rfl
theorem ZlX {c : Nat} {t : List Nat} : ∀ (ws : List (List Nat)) (i : Nat), (∀ w ∈ ws, c ∉ w) -> JQ (c :: t) i 0 (Zbn (c :: t) ws) = Zb8 (c :: t).length i ws := by
 intro xs_
 induction xs_ with
 | nil =>
  intro i _;exact rfl
 | cons x r ih_ =>
  intro i h
  by_cases hr : r = []
  ·subst hr
   have := ZfK (t := t) x i [] (h x (.head _));rw [List.append_nil] at this;show JQ _ i 0 x = [];rw [this]; rfl
  ·rw [ZbG _ _ hr, Zbr _ _ _ hr, List.append_assoc, ZfK x i _ (h x (.head _)), ZoG, ih_ _ fun w hw => h w (List.mem_cons_of_mem _ hw)]
theorem Zn6 (s : Str) (w : Nat) (sep : List Nat) (hw : sep.length = w) : ∀ (ws : List Str) (pre : List Nat), ws ≠ [] -> ls s = pre ++ Zbn sep (ws.map ls) ->
  ((pre.length :: (Zb8 w pre.length (ws.map ls)).map (· + w)).zip (Zb8 w pre.length (ws.map ls) ++ [s.length])).map (fun p => strSub s p.1 p.2) = ws := by
 intro xs_
 induction xs_ with
 | nil =>
  intro pre h _;exact absurd rfl h
 | cons x r ih_ =>
  intro pre _ h
  by_cases hr : r = []
  ·subst hr
   show [strSub s pre.length s.length] = [x];congr 1;apply ZgD;rw [Zm9, h]
   have : s.length - pre.length = (ls x).length := by
    rw [<- X7 s, h];simp [Zbn]
   rw [this];simp [Zbn]
  ·have hr' : r.map ls ≠ [] := by simpa using hr
   rw [List.map_cons, Zbr _ _ _ hr'];rw [List.map_cons, ZbG _ _ hr'] at h;have ih := ih_ (pre ++ ls x ++ sep) hr (by rw [h]; simp);have hl : (pre ++ ls x ++ sep).length = pre.length + (ls x).length + w := by simp [hw]; lia
   rw [hl] at ih;simp only [List.map_cons, List.cons_append, List.zip_cons_cons];rw [ih];congr 1;apply ZgD;rw [Zm9, h];rw [show pre.length + (ls x).length - pre.length = (ls x).length by lia];simp
theorem ZmD (x : Str) : 1 <= Builtin.Str.strKind x := by unfold Builtin.Str.strKind; split <;> (try split) <;> lia
theorem Zej {sep : Str} {c : Nat} {t : List Nat} (hs : ls sep = c :: t) (hk : Builtin.Str.strKind sep = 1) {ws : List Str} (hne : ws ≠ []) (h : ∀ w ∈ ws, c ∉ ls w) : Txt.split (Txt.join sep ws) sep = ws := by
 have hsc : occurrences (Txt.join sep ws) sep 0 (Txt.join sep ws).length ((Txt.join sep ws).length + 1) = Zb8 (ls sep).length 0 (ws.map ls) := by
  rw [ZmU _ _ (by rw [<- X7, hs]; simp), ZcM, hs, ZlX];intro w hw;refine Zg (List.mem_map.mp hw) fun x hx z_2 => ?_;subst z_2;exact h x hx
 unfold Txt.split;rw [hsc]
 match ws, hne, h, hsc with
 | [x], _, h, _ =>
  have e : Txt.join sep [x] = x := ZgD (by rw [ZcM]; rfl);rw [e]
  split
  ·rfl
  ·rfl
 | x :: y :: r, _, h, _ =>
  have hl : sep.length <= (Txt.join sep (x :: y :: r)).length := by
   rw [<- X7, <- X7, ZcM, List.map_cons, ZbG _ _ (by simp)];simp; lia
  have hc1 : (decide ((Txt.join sep (x :: y :: r)).length < sep.length) || decide (Builtin.Str.strKind (Txt.join sep (x :: y :: r)) < Builtin.Str.strKind sep)) = false := by
   rw [hk, Bool.or_eq_false_iff];exact ⟨decide_eq_false (by lia), decide_eq_false (by have := ZmD (Txt.join sep (x :: y :: r)); lia)⟩
  rw [hc1];simp only [Bool.false_eq_true, if_false];rw [if_neg (by rw [List.map_cons, Zbr _ _ _ (by simp)]; simp)];have := Zn6 (Txt.join sep (x :: y :: r)) (ls sep).length (ls sep) rfl (x :: y :: r) [] (by simp) (by rw [ZcM]; rfl);unfold partsBetween;rw [<- X7 sep];exact this
noncomputable def Yg (k : Nat) : Str := Zcx (2 ^ k : Nat) (baseText "0x" 16 (2 ^ k : Nat))
noncomputable def Xg (n : Nat) : List Nat := (List.range 32).filter n.testBit
noncomputable def Zap (n : Nat) : Str := if n = 0 then "0x0" else Txt.join ", " ((Xg n).map Yg)
theorem Sb.ite_val {c : Prop} [Decidable c] {α : Type} {P : α -> Prop} {a : α} {h : c -> P a} (hc : c) : (Sb.ite a h).1 = some a := if_pos hc
noncomputable def ZdW (ds : List V) : Sb fun (r : V) => ∃ n, ds = [.int n] /\ (0 <= n /\ n < 2 ^ 32) /\ r = .str (Zap n.toNat) := match ds with
 | [.int n] => .ite (c := 0 <= n /\ n < 2 ^ 32) (.str (Zap n.toNat)) fun h => ⟨n, rfl, h, rfl⟩
 | _ => .no
noncomputable def ZB : VF := Y3 fun _ ds => (ZdW ds).1
theorem Zjs {B : Bx} {n : Nat} (h : n < 2 ^ 32) : ZB B [.int (n : Int)] = some (.str (Zap n), B) := by
 have h2 : 0 <= (n : Int) /\ (n : Int) < 2 ^ 32 := ⟨Int.natCast_nonneg n, by lia⟩;have e : (ZdW [.int (n : Int)]).1 = some (V.str (Zap (n : Int).toNat)) := Sb.ite_val (h := fun h => ⟨n, rfl, h, rfl⟩) h2;rw [Int.toNat_natCast] at e;exact XW (f := fun _ ds => (ZdW ds).1) e
theorem ZkF : ∀ i < 32, Zu (baseText "0x" 16 ((2 ^ i : Nat) : Int)).length = true := by decide +kernel
theorem Zh5 : ∀ i < 32, (Yg i).length <= 18 := by decide +kernel
theorem Zec : ∀ i < 32, (46 : Nat) ∉ ls (Yg i) := by decide +kernel
theorem Zee : ∀ i < 32, ∀ j < 32, Yg i = Yg j -> i = j := by decide +kernel
noncomputable def hiN (n i : Nat) : Nat := n / 2 ^ i * 2 ^ i
theorem ZrO (n i : Nat) : hiN n i &&& 2 ^ i = if n.testBit i then 2 ^ i else 0 := by
 unfold hiN
 have e : n / 2 ^ i * 2 ^ i &&& 1 * 2 ^ i = (n / 2 ^ i &&& 1) * 2 ^ i := by
  rw [<- Nat.shiftLeft_eq, <- Nat.shiftLeft_eq, <- Nat.shiftLeft_eq, Nat.shiftLeft_and_distrib]
 rw [Nat.one_mul] at e;rw [e, Nat.and_one_is_mod];have h : n.testBit i = decide (n / 2 ^ i % 2 = 1) := Nat.testBit_eq_decide_div_mod_eq;rcases Nat.mod_two_eq_zero_or_one (n / 2 ^ i) with h0 | h0 <;> rw [h, h0] <;> simp
theorem Zir (n i : Nat) : n / 2 ^ (i + 1) = n / 2 ^ i / 2 := by rw [Nat.pow_succ, Nat.div_div_eq_div_mul]
theorem Zra {n i : Nat} (h : n.testBit i = true) : hiN n (i + 1) + 2 ^ i = hiN n i := by
 rw [Nat.testBit_eq_decide_div_mod_eq, decide_eq_true_eq] at h;unfold hiN;rw [Zir, Nat.pow_succ];generalize n / 2 ^ i = q at h ⊢;have : q = 2 * (q / 2) + 1 := by lia
 generalize q / 2 = r at this ⊢;subst this;rw [show r * (2 ^ i * 2) = 2 * r * 2 ^ i by rw [Nat.mul_comm (2 ^ i) 2, <- Nat.mul_assoc, Nat.mul_comm r 2], Nat.add_mul, Nat.one_mul]
theorem ZhU {n i : Nat} (h : n.testBit i = false) : hiN n (i + 1) = hiN n i := by
 rw [Nat.testBit_eq_decide_div_mod_eq, decide_eq_false_iff_not] at h;unfold hiN;rw [Zir, Nat.pow_succ];generalize n / 2 ^ i = q at h ⊢;have : q = 2 * (q / 2) := by lia
 generalize q / 2 = r at this ⊢;subst this;rw [Nat.mul_comm (2 ^ i) 2, <- Nat.mul_assoc, Nat.mul_comm r 2]
theorem and_int (n i : Nat) : Builtin.bitAnd (hiN n i : Int) ((1 : Int) * 2 ^ ((0 : Int) + (i : Int)).toNat) = if n.testBit i then ((2 ^ i : Nat) : Int) else 0 := by
 have e : (1 : Int) * 2 ^ ((0 : Int) + (i : Int)).toNat = ((2 ^ i : Nat) : Int) := by
  rw [Int.one_mul, show ((0 : Int) + (i : Int)).toNat = i by lia]; simp
 rw [e, bitAnd_pp (Int.natCast_nonneg _) (Int.natCast_nonneg _), Int.toNat_natCast, Int.toNat_natCast, ZrO]
 split <;> rfl
theorem Zoj {n i : Nat} (h : n.testBit i = true) : Builtin.bitXor (hiN n i : Int) ((1 : Int) * 2 ^ ((0 : Int) + (i : Int)).toNat) = (hiN n (i + 1) : Int) := by
 unfold Builtin.bitXor
 have e : (1 : Int) * 2 ^ ((0 : Int) + (i : Int)).toNat = ((2 ^ i : Nat) : Int) := by
  rw [Int.one_mul, show ((0 : Int) + (i : Int)).toNat = i by lia]; simp
 rw [bitOr_and, and_int, h, e];have := Zra h;simp only [if_true];lia
theorem ZdQ {n i : Nat} : hiN n i = 0 ↔ n / 2 ^ i = 0 := by
 unfold hiN;have : 0 < 2 ^ i := Nat.pow_pos (by decide)
 constructor
 ·intro h
  rcases Nat.mul_eq_zero.mp h with h | h <;> lia
 ·intro h; rw [h, Nat.zero_mul]
noncomputable def ZaF (n i : Nat) : List V := ((List.range i).filter n.testBit).map fun k => V.str (Yg k)
theorem Zf8 (n i : Nat) : ZaF n (i + 1) = if n.testBit i then ZaF n i ++ [.str (Yg i)] else ZaF n i := by
 unfold ZaF;rw [List.range_succ, List.filter_append, List.map_append]
 cases h : n.testBit i <;> simp [h]
theorem Zn1 {n i : Nat} (h : n / 2 ^ i = 0) (hi : i <= 32) : ZaF n i = (Xg n).map fun k => V.str (Yg k) := by
 unfold ZaF Xg;congr 1;have : List.range 32 = List.range i ++ (List.range (32 - i)).map (i + ·) := by rw [<- List.range_add]; congr 1; lia
 rw [this, List.filter_append]
 have e : ((List.range (32 - i)).map (i + ·)).filter n.testBit = [] := by
  rw [List.filter_eq_nil_iff];intro k hk;refine Zg (List.mem_map.mp hk) fun j _ z_2 => ?_;subst z_2;rw [Nat.testBit_eq_decide_div_mod_eq, Nat.pow_add, <- Nat.div_div_eq_div_mul, h];simp
 rw [e, List.append_nil]
theorem Zog (n i : Nat) : (ZaF n i).length <= i := by
 unfold ZaF;rw [List.length_map];exact Nat.le_trans (List.length_filter_le _ _) (by simp)
noncomputable abbrev ZeV : V -> St -> Bx -> Option Out := fun x σ B => match (fun d σ => some (σ.set 2 (some d))) x σ with
 | none => none
 | some σ₁ => (S.q (S.a 3 (D.b Zfj (D.k (.int 1)) (D.v 2))) (S.ite (T.of (D.b Zi9 (D.v 0) (D.v 3))) (S.q (S.expr (D.meth XC JF (D.v 1) [D.flagGet (D.v 3) (D.c Zfr [D.v 3])])) (S.q (S.aug Zl4 0 (D.v 3)) (S.ite (T.not (T.of (D.v 0))) S.brk S.k))) S.k)) σ₁ B
noncomputable abbrev ZqM : DS := S.expr (D.meth XC JF (D.v 1) [D.c Zfr [D.v 0]])
theorem ZiT {B' : Bx} {f b z : Option V} {i : Nat} (hi : i < 32) : S.a 3 (D.b Zfj (D.k (.int 1)) (D.v 2)) [f, b, some (.int (0 + (i : Int))), z] B' =
  some (.next, [f, b, some (.int (0 + (i : Int))), some (.int (1 * 2 ^ ((0 : Int) + (i : Int)).toNat))], B') := by
 refine Zq (Zh rfl rfl ?_);simp only [Zfj];rw [if_pos];simp only [Bool.and_eq_true, decide_eq_true_eq];exact ⟨⟨by lia, by lia⟩, by decide⟩
theorem ZiZ {B' : Bx} {b z : Option V} {n i : Nat} : T.of (D.b Zi9 (D.v 0) (D.v 3)) [some (.int (hiN n i : Int)), b, z, some (.int (1 * 2 ^ ((0 : Int) + (i : Int)).toNat))] B' = some (n.testBit i, B') := by
 refine Jm (d := .int (if n.testBit i then ((2 ^ i : Nat) : Int) else 0)) (Zh rfl rfl (by simp only [Zi9, and_int])) ?_;simp only [Ju]
 cases n.testBit i
 ·rfl
 ·have : 0 < 2 ^ i := Nat.pow_pos (by decide)
  simp only [if_true];congr 1;rw [bne_iff_ne]; lia
theorem Zrv {B : Bx} {f z : Option V} {n i : Nat} {L : List V} (hi : i < 32) (hL : L.length <= 32) :
  S.expr (D.meth XC JF (D.v 1) [D.flagGet (D.v 3) (D.c Zfr [D.v 3])]) [f, some (.box B.length), z, some (.int (1 * 2 ^ ((0 : Int) + (i : Int)).toNat))] (B ++ [.list L]) =
   some (.next, [f, some (.box B.length), z, some (.int (1 * 2 ^ ((0 : Int) + (i : Int)).toNat))], B ++ [.list (L ++ [.str (Yg i)])]) := by
 have e : (1 : Int) * 2 ^ ((0 : Int) + (i : Int)).toNat = ((2 ^ i : Nat) : Int) := by
  rw [Int.one_mul, show ((0 : Int) + (i : Int)).toNat = i by lia]; simp
 rw [e];refine Zgx (d := .none) ?_
 have h1 : D.c Zfr [D.v 3] [f, some (.box B.length), z, some (.int ((2 ^ i : Nat) : Int))] (B ++ [.list L]) = some (.str (baseText "0x" 16 ((2 ^ i : Nat) : Int)), B ++ [.list L]) :=
  ZE rfl (by rw [ZnJ, if_pos (ZkF i hi)]; rfl)
 have h2 : D.flagGet (D.v 3) (D.c Zfr [D.v 3]) [f, some (.box B.length), z, some (.int ((2 ^ i : Nat) : Int))] (B ++ [.list L]) = some (.str (Yg i), B ++ [.list L]) := by
  unfold D.flagGet;simp only [h1, D.v, List.getElem?_cons_succ, List.getElem?_cons_zero];rfl
 unfold D.meth;simp only [D.v, List.getElem?_cons_succ, List.getElem?_cons_zero];rw [if_pos (by unfold XC ZS; simp only [Yw]; rfl)];simp only [D.row, h2];rw [Zbw];unfold Zho;simp only [Yw];rw [if_pos (Yd (by unfold Cap; lia))];simp only [Option.map_some, ZbL]
theorem Zpj {B : Bx} {n : Nat} (hn : n ≠ 0) (h32 : n < 2 ^ 32) : ∀ (m i : Nat) (fuel : Nat) (y z : Option V), i + m = 32 -> n / 2 ^ i ≠ 0 -> m < fuel ->
  ∃ f y' z', Y4 ZeV ZqM fuel (.seq ((List.range' i m).map fun (k : Nat) => .int (0 + (k : Int)))) [some (.int (hiN n i : Int)), some (.box B.length), y, z] (B ++ [.list (ZaF n i)]) =
   some (.next, [f, some (.box B.length), y', z'], B ++ [.list ((Xg n).map fun k => V.str (Yg k))]) := by
 intro m
 induction m with
 | zero =>
  intro i fuel y z hi hq hf;have : i = 32 := by lia
  subst this;exact absurd (Nat.div_eq_of_lt h32) hq
 | succ m ih =>
  intro i fuel y z hi hq hf
  cases fuel with
  | zero => exact absurd hf (Nat.not_lt_zero _)
  | succ fuel =>
   have hi32 : i < 32 := by lia
   rw [List.range'_succ, List.map_cons]
   cases hb : n.testBit i with
   | true =>
    have hx : S.aug Zl4 0 (D.v 3) [some (.int (hiN n i : Int)), some (.box B.length), some (.int (0 + (i : Int))), some (.int (1 * 2 ^ ((0 : Int) + (i : Int)).toNat))] (B ++ [.list (ZaF n i ++ [.str (Yg i)])]) =
      some (.next, [some (.int (hiN n (i + 1) : Int)), some (.box B.length), some (.int (0 + (i : Int))), some (.int (1 * 2 ^ ((0 : Int) + (i : Int)).toNat))], B ++ [.list (ZaF n i ++ [.str (Yg i)])]) := by
     simp only [S.aug, D.v, List.getElem?_cons_succ, List.getElem?_cons_zero, Zl4, Zoj hb, List.set_cons_zero]
    have hl : ZaF n i ++ [.str (Yg i)] = ZaF n (i + 1) := by rw [Zf8, hb]; rfl
    have ht : T.not (T.of (D.v 0)) [some (.int (hiN n (i + 1) : Int)), some (.box B.length), some (.int (0 + (i : Int))), some (.int (1 * 2 ^ ((0 : Int) + (i : Int)).toNat))] (B ++ [.list (ZaF n (i + 1))]) = some (decide (hiN n (i + 1) = 0), B ++ [.list (ZaF n (i + 1))]) := by
     simp only [T.not, T.of, D.v, List.getElem?_cons_zero, Ju, Option.map_some];congr 2
     by_cases h0 : hiN n (i + 1) = 0
     ·rw [h0]; rfl
     ·rw [decide_eq_false h0, Bool.not_eq_false', bne_iff_ne]; lia
    have hs : ZeV (.int (0 + (i : Int))) [some (.int (hiN n i : Int)), some (.box B.length), y, z] (B ++ [.list (ZaF n i)]) =
      S.ite (T.not (T.of (D.v 0))) S.brk S.k [some (.int (hiN n (i + 1) : Int)), some (.box B.length), some (.int (0 + (i : Int))), some (.int (1 * 2 ^ ((0 : Int) + (i : Int)).toNat))] (B ++ [.list (ZaF n (i + 1))]) := by
     show S.q _ _ [some (.int (hiN n i : Int)), some (.box B.length), some (.int (0 + (i : Int))), z] _ = _;rw [ZU (ZiT hi32), JU (by rw [ZiZ, hb]), ZU (Zrv (n := n) hi32 (Nat.le_trans (Zog n i) (by lia))), ZU hx, hl]
    by_cases h0 : hiN n (i + 1) = 0
    ·rw [JU (by rw [ht, decide_eq_true h0])] at hs
     refine ⟨some (.int (hiN n (i + 1) : Int)), some (.int (0 + (i : Int))), some (.int (1 * 2 ^ ((0 : Int) + (i : Int)).toNat)), ?_⟩;simp only [Y4, Src.at, List.head?_cons, hs, S.brk];rw [Zn1 (ZdQ.mp h0) (by lia)]
    ·rw [Xv (by rw [ht, decide_eq_false h0])] at hs
     simp only [Y4, Src.at, List.head?_cons, hs, S.k, Src.adv, List.tail_cons];exact ih (i + 1) fuel _ _ (by lia) (fun z => h0 (ZdQ.mpr z)) (by lia)
   | false =>
    have hs : ZeV (.int (0 + (i : Int))) [some (.int (hiN n i : Int)), some (.box B.length), y, z] (B ++ [.list (ZaF n i)]) =
      some (.next, [some (.int (hiN n i : Int)), some (.box B.length), some (.int (0 + (i : Int))), some (.int (1 * 2 ^ ((0 : Int) + (i : Int)).toNat))], B ++ [.list (ZaF n i)]) := by
     show S.q _ _ [some (.int (hiN n i : Int)), some (.box B.length), some (.int (0 + (i : Int))), z] _ = _;rw [ZU (ZiT hi32), Xv (by rw [ZiZ, hb])];rfl
    have h1 : n / 2 ^ (i + 1) ≠ 0 := by
     intro z;rw [<- ZdQ, ZhU hb, ZdQ] at z;exact hq z
    have hl : ZaF n i = ZaF n (i + 1) := by rw [Zf8, hb]; rfl
    simp only [Y4, Src.at, List.head?_cons, hs, Src.adv, List.tail_cons];rw [hl, <- ZhU hb];exact ih (i + 1) fuel _ _ (by lia) h1 (by lia)
theorem ZhV {B : Bx} : ∀ (m i : Nat) (fuel : Nat) (y z : Option V), i + m = 32 -> m < fuel ->
  ∃ y' z', Y4 ZeV ZqM fuel (.seq ((List.range' i m).map fun (k : Nat) => .int (0 + (k : Int)))) [some (.int 0), some (.box B.length), y, z] (B ++ [.list []]) =
   some (.next, [some (.int 0), some (.box B.length), y', z'], B ++ [.list [.str "0x0"]])
 | 0, i, 0, y, z, hi, hf => absurd hf (by lia)
 | 0, i, fuel + 1, y, z, hi, hf => by
  refine ⟨y, z, ?_⟩;simp only [Y4, Src.at, List.range'_zero, List.map_nil, List.head?_nil];refine Zgx (d := .none) ?_;have h1 : D.c Zfr [D.v 0] [some (.int 0), some (.box B.length), y, z] (B ++ [.list []]) = some (.str "0x0", B ++ [.list []]) := ZE rfl rfl;unfold D.meth;simp only [D.v, List.getElem?_cons_succ, List.getElem?_cons_zero];rw [if_pos (by unfold XC ZS; simp only [Yw]; rfl)];simp only [D.row, h1];rw [Zbw];unfold Zho;simp only [Yw];rw [if_pos (by rfl)];simp only [Option.map_some, ZbL];rfl
 | m + 1, i, 0, y, z, hi, hf => absurd hf (by lia)
 | m + 1, i, fuel + 1, y, z, hi, hf => by
  rw [List.range'_succ, List.map_cons];have h0 : hiN 0 i = 0 := by simp [hiN]
  have ha := ZiZ (B' := B ++ [.list []]) (b := some (.box B.length)) (z := some (.int (0 + (i : Int)))) (n := 0) (i := i);rw [h0, Nat.zero_testBit] at ha;have ha : T.of (D.b Zi9 (D.v 0) (D.v 3)) [some (.int 0), some (.box B.length), some (.int (0 + (i : Int))), some (.int (1 * 2 ^ ((0 : Int) + (i : Int)).toNat))] (B ++ [.list []]) = some (false, B ++ [.list []]) := ha
  have hs : ZeV (.int (0 + (i : Int))) [some (.int 0), some (.box B.length), y, z] (B ++ [.list []]) =
    some (.next, [some (.int 0), some (.box B.length), some (.int (0 + (i : Int))), some (.int (1 * 2 ^ ((0 : Int) + (i : Int)).toNat))], B ++ [.list []]) := by
   show S.q _ _ [some (.int 0), some (.box B.length), some (.int (0 + (i : Int))), z] _ = _;rw [ZU (ZiT (by lia)), Xv ha];rfl
  simp only [Y4, Src.at, List.head?_cons, hs, Src.adv, List.tail_cons];exact ZhV m (i + 1) fuel _ _ (by lia) (by lia)
theorem Zer : ∀ l : List Str, ZaC (l.map V.str) = some l
 | [] => rfl
 | x :: l => by simp [ZaC, Zer l]
theorem Zjd {l : List Nat} {c : Nat} (h : ∀ x ∈ l, x <= c) : l.sum <= l.length * c := by
 induction l with
 | nil => simp
 | cons x l ih =>
  have h1 := h x (.head _);have h2 := ih fun y hy => h y (List.mem_cons_of_mem _ hy);simp only [List.sum_cons, List.length_cons, Nat.add_mul, Nat.one_mul];lia
theorem ZcU {B : Bx} {x : Str} {d : V} {l : List Str} (hd : ZS B d = some (l.map V.str)) (h : (l.map (·.length)).sum + l.length * x.length <= 16777216) : Zbm B [.str x, d] = some (.str (Txt.join x l), B) := by
 exact Zk9 hd (Zer _) h
theorem ZkV {n k : Nat} (h : k ∈ Xg n) : k < 32 := List.mem_range.mp (List.mem_filter.mp h).1
set_option tactic.hygienic true in
theorem ZcS : Runs Jn Xw ["flags"] ZB := Jc fun B ds d h1 => by
 refine XS ((ZdW ds).2 _ h1) fun n e0 hc er => ?_;rw [e0, er];obtain ⟨k, rfl⟩ : ∃ k : Nat, n = k := ⟨n.toNat, by lia⟩;have h32 : k < 2 ^ 32 := by have := hc.2; lia
 rw [Int.toNat_natCast];have hit : I.val (D.c Zw [D.k (.int 32)]) [some (.int (k : Int)), some (.box B.length), none, none] (B ++ [.list []]) = some (.seq ((List.range' 0 32).map fun (k : Nat) => .int (0 + (k : Int))), B ++ [.list []]) := rfl
 by_cases h0 : k = 0
 ·subst h0
  refine Zbz (ZhV (B := B) 32 0 33 none none rfl (by decide)) fun y z e => ?_;refine ⟨rfl, [.list [.str "0x0"]], .str "0x0", 1, Zi rfl (Zi (σ₁ := [some (.int 0), some (.box B.length), y, z]) (B₁ := B ++ [.list [.str "0x0"]]) ?_ (Yq ?_)), rfl⟩
  ·unfold S.l
   erw [hit];exact e
  ·refine Zam rfl rfl rfl ?_
   exact ZcU (l := ["0x0"]) (by unfold ZS; simp only [Yw]; rfl) (by decide +kernel)
 ·have hz : hiN k 0 = k := by simp [hiN]
  refine Zqz (Zpj (B := B) h0 h32 32 0 33 none none rfl (by simpa using h0) (by decide)) fun f y z e => ?_;rw [hz] at e;refine ⟨rfl, [.list ((Xg k).map fun k => V.str (Yg k))], .str (Zap k), 1, Zi rfl (Zi (σ₁ := [f, some (.box B.length), y, z]) (B₁ := B ++ [.list ((Xg k).map fun k => V.str (Yg k))]) ?_ (Yq ?_)), rfl⟩
  ·unfold S.l
   erw [hit];exact e
  ·refine Zam rfl rfl rfl ?_
   unfold Zap;rw [if_neg h0];refine ZcU (l := (Xg k).map Yg) (by unfold ZS; simp only [Yw, List.map_map]; rfl) ?_;have h1 : (Xg k).length <= 32 := Nat.le_trans (List.length_filter_le _ _) (by simp)
   have h2 : (((Xg k).map Yg).map (·.length)).sum <= (((Xg k).map Yg).map (·.length)).length * 18 := Zjd fun x hx => by
    simp only [List.map_map, List.mem_map] at hx;refine Zg hx fun j hj z_2 => ?_;clear hx;subst z_2;exact Zh5 j (ZkV hj)
   have h3 : (Str.ofString ", ").length = 2 := by decide +kernel
   simp only [List.length_map] at h2 ⊢;rw [h3];lia
noncomputable def Zhq (got : Str) : List Str -> Int -> Int -> Bool
 | [], _, _ => true
 | w :: ws, i, j => if findIn got w i j < 0 then false else Zhq got ws (findIn got w i j + (w.length : Int)) j
noncomputable def ZdP (got : Str) (ws : List Str) (i j : Int) : Bool := if j < i then false else Zhq got ws i j
noncomputable def ZbR (got : Str) (ws : List Str) (i : Int) : Bool := match ws.getLast? with
 | none => false
 | some w => if w.length ≠ 0 then (if Txt.endswith got w then ZdP got ws.dropLast i ((got.length : Int) - (w.length : Int)) else false) else ZdP got ws i got.length
noncomputable def ZpN (got : Str) : List Str -> Bool
 | [] => false
 | w :: ws => if w.length ≠ 0 then (if Txt.startswith got w then ZbR got ws w.length else false) else ZbR got (w :: ws) 0
noncomputable def ZeX (want got : Str) : Option V := if Zu (want.length + 2) = true /\ Zu got.length = true then
   if ZaW "..." want = false then some (.bool (want == got)) else
   if 2 <= (Txt.split want "...").length /\ (Txt.split want "...").length <= Cap /\ (Txt.split want "...").all (fun w => Zu w.length) = true then some (.bool (ZpN got (Txt.split want "..."))) else none
  else none
noncomputable def Zr : VF := Y3 fun _ ds => (Zkw ds).1.bind fun p => ZeX p.1 p.2
noncomputable abbrev ZeM : V -> St -> Bx -> Option Out := fun x σ B => match (fun d σ => some (σ.set 5 (some d))) x σ with
 | none => none
 | some σ₁ => (S.q (S.a 3 (D.meth Xj ZfZ (D.v 1) [D.v 5, D.v 3, D.v 4])) (S.q (S.ite (T.cmp vlt (D.v 3) (D.k (.int 0))) (S.r (D.k (.bool false))) S.k) (S.aug ZbS 3 (D.c X8 [D.v 5])))) σ₁ B
theorem ZcH {B : Bx} {w : Str} (h : Zu w.length = true) : X8 B [.str w] = some (.int w.length, B) := by
 simp only [X8, Y3, Zk0, ZS, h, if_true, Option.map_some]
noncomputable def elS (want got : Str) (n : Nat) (a b c : Option V) : St := [some (.str want), some (.str got), some (.box n), a, b, c]
theorem Zmr {B : Bx} {xs : List V} {i : Nat} : Src.at (B ++ [.list xs]) (.box B.length i) = some xs[i]? := by
 simp only [Src.at, Yw]
theorem Zpn {B B1 : Bx} {want got : Str} {L : List Str} {ep : Int} (hB : B1 = B ++ [.list (L.map V.str)]) : ∀ (ws : List Str) (i fuel : Nat) (sp : Int) (y : Option V), L.drop i = ws -> (ws.all fun w => Zu w.length) = true -> ws.length < fuel ->
  (Zhq got ws sp ep = false /\ ∃ σ', Y4 ZeM S.k fuel (.box B.length i) (elS want got B.length (some (.int sp)) (some (.int ep)) y) B1 = some (.ret (.bool false), σ', B1)) \/
  (Zhq got ws sp ep = true /\ ∃ σ', Y4 ZeM S.k fuel (.box B.length i) (elS want got B.length (some (.int sp)) (some (.int ep)) y) B1 = some (.next, σ', B1)) := by
 intro ws
 induction ws with
 | nil =>
  intro i fuel sp y hw _ hf
  cases fuel with
  | zero => exact absurd hf (Nat.lt_irrefl _)
  | succ fuel =>
   have hat : Src.at B1 (.box B.length i) = some none := by
    rw [hB, Zmr, List.getElem?_eq_none (by rw [List.length_map]; exact List.drop_eq_nil_iff.mp hw)]
   exact .inr ⟨rfl, _, by simp only [Y4, hat]; rfl⟩
 | cons w ws ih =>
  intro i fuel sp y hw hs hf
  cases fuel with
  | zero => exact absurd hf (Nat.not_lt_zero _)
  | succ fuel =>
   rw [List.all_cons, Bool.and_eq_true] at hs
   have hat : Src.at B1 (.box B.length i) = some (some (.str w)) := by
    rw [hB, Zmr, List.getElem?_map, show L[i]? = some w by rw [<- List.head?_drop, hw]; rfl]; rfl
   have e1 : S.a 3 (D.meth Xj ZfZ (D.v 1) [D.v 5, D.v 3, D.v 4]) (elS want got B.length (some (.int sp)) (some (.int ep)) (some (.str w))) B1 =
     some (.next, elS want got B.length (some (.int (findIn got w sp ep))) (some (.int ep)) (some (.str w)), B1) :=
    Zq (Zmx rfl rfl rfl rfl rfl rfl)
   unfold Zhq
   by_cases hlt : findIn got w sp ep < 0
   ·rw [if_pos hlt]
    refine .inl ⟨rfl, elS want got B.length (some (.int (findIn got w sp ep))) (some (.int ep)) (some (.str w)), ?_⟩
    have hst : ZeM (.str w) (elS want got B.length (some (.int sp)) (some (.int ep)) y) B1 = some (.ret (.bool false), elS want got B.length (some (.int (findIn got w sp ep))) (some (.int ep)) (some (.str w)), B1) :=
     (ZU e1).trans (ZdL ((JU (Z5 rfl rfl (congrArg some (decide_eq_true hlt)))).trans (Zc1 rfl)))
    simp only [Y4, hat, hst]
   ·rw [if_neg hlt]
    have hst : ZeM (.str w) (elS want got B.length (some (.int sp)) (some (.int ep)) y) B1 = some (.next, elS want got B.length (some (.int (findIn got w sp ep + (w.length : Int)))) (some (.int ep)) (some (.str w)), B1) :=
     (ZU e1).trans ((ZU ((Xv (Z5 rfl rfl (congrArg some (decide_eq_false hlt)))).trans rfl)).trans (ZoK rfl (ZE (F := X8) (f := D.v 5) rfl (ZcH hs.1)) rfl))
    simp only [Y4, hat, hst, Src.adv];exact ih (i + 1) fuel _ _ (by rw [<- List.tail_drop, hw]; rfl) hs.2 (Nat.lt_of_succ_lt_succ hf)
theorem Zch {B : Bx} {x : Str} (h : Zu x.length = true) : Ju B (.str x) = some (x.length != 0) := by simp only [Ju, h, if_true]
theorem ZhX : ZaX 0 = true := by decide
theorem Zlx {B : Bx} {x : V} {xs : List V} : Zf (B ++ [.list (x :: xs)]) (.box B.length) (.int 0) = some x := by
 rw [Zda Yw];simp only [Zb3, ZhX, if_true];rw [show seqIndex? 0 (x :: xs).length = some 0 by unfold seqIndex?; simp];rfl
theorem ZbX {n : Nat} : seqIndex? (-1) (n + 1) = some n := by
 unfold seqIndex?;have h1 : ((-1 : Int) < 0) = True := by simp
 simp only [h1, if_true];rw [if_pos (by simp only [Bool.and_eq_true, decide_eq_true_eq]; lia)];congr 1;lia
theorem ZfT {B : Bx} {xs : List V} (h : xs ≠ []) : Zf (B ++ [.list xs]) (.box B.length) (.int (-1)) = xs.getLast? := by
 rw [Zda Yw];unfold Zb3;obtain ⟨n, hn⟩ : ∃ n, xs.length = n + 1 := ⟨xs.length - 1, by have := List.length_pos_iff.mpr h; lia⟩;rw [if_pos (by decide), hn, ZbX, List.getLast?_eq_getElem?, hn];rfl
theorem Zrt {B : Bx} {x : V} {xs : List V} (h : Zu (x :: xs).length = true) : Zgr (B ++ [.list (x :: xs)]) B.length (.int 0) = some (B ++ [.list xs]) := by
 simp only [Zgr, Yw, h, ZhX, Bool.and_self, if_true];rw [show seqIndex? 0 (x :: xs).length = some 0 by unfold seqIndex?; simp];simp only [Option.map_some, ZbL, List.eraseIdx_cons_zero]
theorem Zsj {B : Bx} {xs : List V} (h : Zu xs.length = true) (hne : xs ≠ []) : Zgr (B ++ [.list xs]) B.length (.int (-1)) = some (B ++ [.list xs.dropLast]) := by
 obtain ⟨n, hn⟩ : ∃ n, xs.length = n + 1 := ⟨xs.length - 1, by have := List.length_pos_iff.mpr hne; lia⟩;simp only [Zgr, Yw, h, show ZaX (-1) = true by decide, Bool.and_self, if_true];rw [hn, ZbX];simp only [Option.map_some, ZbL];rw [show n = xs.length - 1 by lia, List.eraseIdx_length_sub_one]
noncomputable abbrev ZqO : DS := S.q (S.ite (T.cmp vgt (D.v 3) (D.v 4)) (S.r (D.k (.bool false))) S.k) (S.q (S.l (I.val (D.v 2)) (fun d σ => some (σ.set 5 (some d))) (S.q (S.a 3 (D.meth Xj ZfZ (D.v 1) [D.v 5, D.v 3, D.v 4])) (S.q (S.ite (T.cmp vlt (D.v 3) (D.k (.int 0))) (S.r (D.k (.bool false))) S.k) (S.aug ZbS 3 (D.c X8 [D.v 5])))) S.k) (S.r (D.k (.bool true))))
theorem Zms {B : Bx} {want got : Str} {L : List Str} {sp ep : Int} {y : Option V} (hs : (L.all fun w => Zu w.length) = true) :
  Zbj ZqO (elS want got B.length (some (.int sp)) (some (.int ep)) y) (B ++ [.list (L.map V.str)]) (.bool (ZdP got L sp ep)) (B ++ [.list (L.map V.str)]) := by
 unfold ZdP
 by_cases hlt : ep < sp
 ·rw [if_pos hlt]
  exact Jz (Zgi (Z5 rfl rfl (by simp only [vgt, hlt, decide_true])) (Yq rfl))
 ·rw [if_neg hlt]
  refine Zi ((Xv (Z5 rfl rfl (by simp only [vgt, hlt, decide_false]))).trans rfl) ?_
  have hl : ∀ {r : Out}, Y4 ZeM S.k (L.length + 1) (.box B.length 0) (elS want got B.length (some (.int sp)) (some (.int ep)) y) (B ++ [.list (L.map V.str)]) = some r ->
    S.l (I.val (D.v 2)) (fun d σ => some (σ.set 5 (some d))) (S.q (S.a 3 (D.meth Xj ZfZ (D.v 1) [D.v 5, D.v 3, D.v 4])) (S.q (S.ite (T.cmp vlt (D.v 3) (D.k (.int 0))) (S.r (D.k (.bool false))) S.k) (S.aug ZbS 3 (D.c X8 [D.v 5])))) S.k
     (elS want got B.length (some (.int sp)) (some (.int ep)) y) (B ++ [.list (L.map V.str)]) = some r := fun {r} h => by
   have hit : I.val (D.v 2) (elS want got B.length (some (.int sp)) (some (.int ep)) y) (B ++ [.list (L.map V.str)]) = some (.box B.length 0, B ++ [.list (L.map V.str)]) := by
    exact YW (d := .box B.length) rfl (by simp only [Zaa, Yw, Option.map_some])
   unfold S.l;rw [hit];simp only [Src.fuel, Yw, List.length_map];exact h
  rcases Zpn (B := B) (want := want) (got := got) (L := L) (ep := ep) rfl L 0 (L.length + 1) sp y rfl hs (Nat.lt_succ_self _) with ⟨h1, σ', h2⟩ | ⟨h1, σ', h2⟩
  ·rw [h1]; exact Jz ⟨_, hl h2⟩
  ·rw [h1]; exact Zi (hl h2) (Yq rfl)
noncomputable abbrev ZmO : DS := S.q (S.a 5 (D.b Zf (D.v 2) (D.un JI (D.k (.int 1))))) (S.q (S.ite (T.of (D.v 5)) (S.ite (T.of (D.meth Xj Zkd (D.v 1) [D.v 5])) (S.q (S.aug Zpf 4 (D.c X8 [D.v 5])) (S.del (D.v 2) (D.un JI (D.k (.int 1))))) (S.r (D.k (.bool false)))) S.k) ZqO)
theorem ZjN {B : Bx} {want got : Str} {L : List Str} {sp : Int} {y : Option V} (hne : L ≠ []) (hc : L.length <= Cap) (hs : (L.all fun w => Zu w.length) = true) :
  ∃ B', Zbj ZmO (elS want got B.length (some (.int sp)) (some (.int got.length)) y) (B ++ [.list (L.map V.str)]) (.bool (ZbR got L sp)) (B ++ B') := by
 obtain ⟨w, hw⟩ : ∃ w, L.getLast? = some w := by
  cases h : L.getLast? with
  | none => exact absurd (List.getLast?_eq_none_iff.mp h) hne
  | some w => exact ⟨w, rfl⟩
 have hws : Zu w.length = true := by
  rw [List.all_eq_true] at hs;exact hs w (List.mem_of_getLast? hw)
 unfold ZbR;simp only [hw]
 have e1 : S.a 5 (D.b Zf (D.v 2) (D.un JI (D.k (.int 1)))) (elS want got B.length (some (.int sp)) (some (.int got.length)) y) (B ++ [.list (L.map V.str)]) =
   some (.next, elS want got B.length (some (.int sp)) (some (.int got.length)) (some (.str w)), B ++ [.list (L.map V.str)]) := by
  refine Zq (Zh rfl (e := .int (-1)) rfl ?_);rw [ZfT (by simpa using hne), List.getLast?_map, hw]; rfl
 by_cases h0 : w.length ≠ 0
 ·rw [if_pos h0]
  have ht : T.of (D.v 5) (elS want got B.length (some (.int sp)) (some (.int got.length)) (some (.str w))) (B ++ [.list (L.map V.str)]) = some (true, B ++ [.list (L.map V.str)]) :=
   Jm rfl (by rw [Zch hws]; congr 1; rw [bne_iff_ne]; exact h0)
  have hm : D.meth Xj Zkd (D.v 1) [D.v 5] (elS want got B.length (some (.int sp)) (some (.int got.length)) (some (.str w))) (B ++ [.list (L.map V.str)]) = some (.bool (Txt.endswith got w), B ++ [.list (L.map V.str)]) :=
   Zam rfl rfl rfl rfl
  cases he : Txt.endswith got w with
  | true =>
   rw [he] at hm;simp only [if_true]
   have hd : (L.dropLast.all fun w => Zu w.length) = true := by
    rw [List.all_eq_true] at hs ⊢;exact fun x hx => hs x (List.dropLast_subset _ hx)
   refine ⟨[.list (L.dropLast.map V.str)], Zi e1 (Zi ?_ (Zms (want := want) (y := some (.str w)) hd))⟩
   ·rw [JU ht, JU (Jm hm rfl)]
    have e2 := ZE (F := X8) (f := D.v 5) (σ := (elS want got B.length (some (.int sp)) (some (.int got.length)) (some (.str w)))) (B := B ++ [.list (L.map V.str)]) (B₁ := B ++ [.list (L.map V.str)]) rfl (ZcH hws)
    rw [ZU (σ₁ := (elS want got B.length (some (.int sp)) (some (.int ((got.length : Int) - (w.length : Int)))) (some (.str w)))) (B₁ := B ++ [.list (L.map V.str)])
     (by exact ZoK rfl e2 rfl)]
    have h3 := Zsj (B := B) (xs := L.map V.str) (by rw [List.length_map]; exact Yd hc) (by simpa using hne);simp only [elS, S.del, D.v, D.un, D.k, JI, Option.map_some, List.getElem?_cons_succ, List.getElem?_cons_zero, h3];rw [List.map_dropLast]
  | false =>
   rw [he] at hm;simp only [Bool.false_eq_true, if_false];exact ⟨_, Zi e1 (Jz (Zgi ht (Zny (Jm hm rfl) (Yq rfl))))⟩
 ·rw [if_neg h0]
  have ht : T.of (D.v 5) (elS want got B.length (some (.int sp)) (some (.int got.length)) (some (.str w))) (B ++ [.list (L.map V.str)]) = some (false, B ++ [.list (L.map V.str)]) :=
   Jm rfl (by rw [Zch hws]; congr 1; simpa using h0)
  exact ⟨_, Zi e1 (Zi ((Xv ht).trans rfl) (Zms hs))⟩
noncomputable abbrev ZoX : DS := S.q (S.a 5 (D.b Zf (D.v 2) (D.k (.int 0)))) (S.q (S.ite (T.of (D.v 5)) (S.ite (T.of (D.meth Xj ZdY (D.v 1) [D.v 5])) (S.q (S.a 3 (D.c X8 [D.v 5])) (S.del (D.v 2) (D.k (.int 0)))) (S.r (D.k (.bool false)))) S.k) ZmO)
theorem Zne {B : Bx} {want got w x : Str} {L : List Str} (hcap : (w :: x :: L).length <= Cap) (hall : ((w :: x :: L).all fun w => Zu w.length) = true) :
  ∃ B', Zbj ZoX (elS want got B.length (some (.int 0)) (some (.int got.length)) none) (B ++ [.list ((w :: x :: L).map V.str)]) (.bool (if w.length ≠ 0 then (if Txt.startswith got w = true then ZbR got (x :: L) w.length else false) else ZbR got (w :: x :: L) 0)) (B ++ B') := by
 have hws : Zu w.length = true := by rw [List.all_cons, Bool.and_eq_true] at hall; exact hall.1
 have e0 : S.a 5 (D.b Zf (D.v 2) (D.k (.int 0))) (elS want got B.length (some (.int 0)) (some (.int got.length)) none) (B ++ [.list ((w :: x :: L).map V.str)]) =
   some (.next, elS want got B.length (some (.int 0)) (some (.int got.length)) (some (.str w)), B ++ [.list ((w :: x :: L).map V.str)]) :=
  Zq (Zh rfl rfl (Zlx (x := .str w)))
 have ht : T.of (D.v 5) (elS want got B.length (some (.int 0)) (some (.int got.length)) (some (.str w))) (B ++ [.list ((w :: x :: L).map V.str)]) = some (w.length != 0, B ++ [.list ((w :: x :: L).map V.str)]) :=
  Jm rfl (Zch hws)
 by_cases h0 : w.length ≠ 0
 ·rw [bne_iff_ne.mpr h0] at ht
  rw [if_pos h0]
  have hm : D.meth Xj ZdY (D.v 1) [D.v 5] (elS want got B.length (some (.int 0)) (some (.int got.length)) (some (.str w))) (B ++ [.list ((w :: x :: L).map V.str)]) = some (.bool (Txt.startswith got w), B ++ [.list ((w :: x :: L).map V.str)]) :=
   Zam rfl rfl rfl rfl
  cases he : Txt.startswith got w with
  | true =>
   rw [he] at hm;refine Zb1 (ZjN (B := B) (want := want) (got := got) (L := x :: L) (sp := w.length) (y := some (.str w)) (List.cons_ne_nil _ _) (Nat.le_of_succ_le hcap) (by rw [List.all_cons, Bool.and_eq_true] at hall; exact hall.2)) fun B' hB' => ?_;refine ⟨B', Zi e0 (Zi ?_ hB')⟩;rw [JU ht, JU (Jm hm rfl), ZU (Zq (ZE (F := X8) rfl (ZcH hws)))];have h3 := Zrt (B := B) (x := .str w) (xs := (x :: L).map V.str) (by rw [List.length_cons, List.length_map]; exact Yd hcap);show (match Zgr (B ++ [.list (.str w :: (x :: L).map V.str)]) B.length (.int 0) with | none => none | some B₁ => _) = _;rw [h3];rfl
  | false =>
   rw [he] at hm;exact ⟨_, Zi e0 (Jz (Zgi ht (Zny (Jm hm rfl) (Yq rfl))))⟩
 ·rw [Bool.eq_false_iff.mpr (fun z => h0 (bne_iff_ne.mp z))] at ht
  rw [if_neg h0];refine Zb1 (ZjN (B := B) (want := want) (got := got) (L := w :: x :: L) (sp := 0) (y := some (.str w)) (List.cons_ne_nil _ _) hcap hall) fun B' hB' => ?_;exact ⟨B', Zi e0 (Zi ((Xv ht).trans rfl) hB')⟩
theorem Zrr {l : List Str} (h : 2 <= l.length) : ∃ a b r, l = a :: b :: r := by
 cases l with
 | nil => exact absurd h (Nat.not_succ_le_zero 1)
 | cons a l =>
  cases l with
  | nil => exact absurd h (Nat.not_succ_le_self 1)
  | cons b l => exact ⟨a, b, l, rfl⟩
set_option tactic.hygienic true in
theorem ZbU : Runs Xm Y0 ["want", "got"] Zr := Jc fun B ds d h1 => by
 refine Z6 h1 fun p hp h1 => ?_;rw [(Zkw ds).2 _ hp];clear hp;obtain ⟨want, got⟩ := p;refine ZaN (Yp h1) fun hsz h1 => ?_;refine (Zah h1).elim (fun h1 => ZaN h1 fun hsub h1 => ?_) fun h1 => ZaN h1 fun hsub h1 => ?_
 ·rw [<- Option.some.inj h1]
  refine ⟨rfl, [], .bool (want == got), 1, ?_, rfl⟩;rw [List.append_nil];exact Jz (Zgi (Z5 (c := true) rfl rfl (congrArg (fun x => some !x) hsub)) (Yq (Zh rfl rfl rfl)))
 ·refine ZaN (Yp h1) fun hc h1 => ?_
  rw [<- Option.some.inj h1];refine Xx hc fun h2 hcap hall => Zqz (Zrr h2) fun w x L hL => ?_;rw [hL] at hcap hall ⊢;clear hc h1 h2;refine ⟨rfl, Zb1 (Zne (B := B) (want := want) (got := got) hcap hall) fun B' hB' => ?_⟩
  have hsp : S.a 2 (Zbx (D.split (D.v 0) (D.k (.str "...")))) [some (.str want), some (.str got), none, none, none, none] B =
    some (.next, elS want got B.length none none none, B ++ [.list ((w :: x :: L).map V.str)]) := by
   refine Zq (B₁ := B ++ [.list ((w :: x :: L).map V.str)]) ?_;unfold Zbx
   rw [show D.split (D.v 0) (D.k (.str "...")) [some (.str want), some (.str got), none, none, none, none] B = some (.list ((w :: x :: L).map V.str), B) by
    simp only [D.split, D.v, D.k, List.getElem?_cons_zero, hsz.1, <- hL];rfl]
   rfl
  have hlen : D.c X8 [D.v 2] (elS want got B.length none none none) (B ++ [.list ((w :: x :: L).map V.str)]) = some (.int ((w :: x :: L).length : Nat), B ++ [.list ((w :: x :: L).map V.str)]) := by
   refine ZE rfl ?_;simp only [X8, Y3, Zk0, ZS, Yw, List.length_map, Yd hcap, if_true, Option.map_some]
  have hsw : S.swapped [3, 4] (D.t [D.k (.int 0), D.c X8 [D.v 1]]) (elS want got B.length none none none) (B ++ [.list ((w :: x :: L).map V.str)]) =
    some (.next, elS want got B.length (some (.int 0)) (some (.int got.length)) none, B ++ [.list ((w :: x :: L).map V.str)]) := by
   unfold S.swapped;rw [YQ (d := .int 0) (e := .int got.length) rfl (ZE (F := X8) rfl (ZcH hsz.2))];rfl
  refine ⟨B', _, 1, Zi ((Xv (Z5 rfl rfl (congrArg (fun x => some !x) (eq_true_of_ne_false hsub)))).trans rfl) (Zi hsp (Zi (σ₁ := (elS want got B.length none none none)) (B₁ := B ++ [.list ((w :: x :: L).map V.str)]) ?_ (Zi hsw hB'))), rfl⟩;unfold S.assert;rw [Z5 (c := true) hlen rfl (congrArg some (decide_eq_true (Int.ofNat_le.mpr (Nat.le_add_left 2 L.length))))]
noncomputable def Xy (m : Nat) (ns : List Int) (c : List Int) (p : Nat) : List Int := c.set (p % m) (c.getD (p % m) 0 + Int.fmod (ns.getD p 0) 1000000)
noncomputable def Zcd (m : Nat) (init ns : List Int) : List Int := (List.range (min 60 ns.length)).foldl (Xy m ns) init
theorem ZcO (m : Nat) (ns : List Int) : ∀ (l : List Nat) (c : List Int), (l.foldl (Xy m ns) c).length = c.length := by
 intro xs_
 induction xs_ with
 | nil =>
  intro c;exact rfl
 | cons x l ih_ =>
  intro c;rw [List.foldl_cons, ih_]; simp [Xy]
theorem Ziz (m : Nat) (init ns : List Int) : (Zcd m init ns).length = init.length := by
 exact ZcO m ns _ init
theorem ZcE {k n : Nat} (h : k < n) : seqIndex? (k : Int) n = some k := by
 unfold seqIndex?;rw [if_neg (show ¬ ((k : Int) < 0) by lia)];simp only [Int.toNat_natCast];rw [if_pos (by simp only [Bool.and_eq_true, decide_eq_true_eq]; lia)]
theorem ZeI {k : Nat} (h : k < 16777216) : ZaX (k : Int) = true := by
 unfold ZaX;simp only [Bool.and_eq_true, decide_eq_true_eq];lia
theorem ZfF {xs : List V} {k : Nat} (h : k < xs.length) (hk : k < 16777216) : Zb3 xs (k : Int) = xs[k]? := by
 unfold Zb3;rw [if_pos (ZeI hk), ZcE h];rfl
theorem ZcY {B : Bx} {xs : List V} {k : Nat} (h : k < xs.length) (hk : k < 16777216) : Zf B (.list xs) (.int (k : Int)) = xs[k]? := Ziy.trans (ZfF h hk)
theorem ZeD {B : Bx} {xs : List V} {n k : Nat} (hB : B[n]? = some (.list xs)) (h : k < xs.length) (hk : k < 16777216) : Zf B (.box n) (.int (k : Int)) = xs[k]? := by
 rw [Zda hB, ZfF h hk]
theorem Zh8 (a b : Nat) : Int.fmod (a : Int) (b : Int) = ((a % b : Nat) : Int) := by
 rw [Int.fmod_eq_emod_of_nonneg _ (by lia)]; rfl
theorem Zhm {ns : List Int} {k : Nat} (h : k < ns.length) : (ns.map V.int)[k]? = some (.int (ns.getD k 0)) := by
 rw [List.getElem?_map, List.getD_eq_getElem?_getD, List.getElem?_eq_getElem h];rfl
theorem Zkz {B : Bx} {n : Nat} {c : List Int} {k : Nat} {v : Int} (hB : B[n]? = some (.list (c.map V.int))) (h : k < c.length) (hc : c.length <= Cap) : Zck B n (.int (k : Int)) (.int v) = some (B.set n (.list ((c.set k v).map V.int))) := by
 unfold Zck;simp only [hB, List.length_map];rw [if_pos ⟨by lia, by lia, Yd hc⟩, Int.toNat_natCast, List.map_set]
theorem Zc2 {n : Nat} {B : Bx} (h : n <= 1000000) : Zaa B (.range 0 (n : Int)) = some (.seq ((List.range n).map fun (k : Nat) => V.int (k : Int))) := by
 simp only [Zaa]
 have : Za0 0 (n : Int) = true := by
  unfold Za0;simp only [Bool.and_eq_true, decide_eq_true_eq]; lia
 rw [if_pos this];congr 2;rw [show ((n : Int) - 0).toNat = n by lia];apply List.map_congr_left;intro k _;simp
theorem Zi6 {a n : Nat} {B : Bx} (h : a + n <= 1000000) : Zaa B (.range (a : Int) ((a + n : Nat) : Int)) = some (.seq ((List.range n).map fun (k : Nat) => V.int ((a + k : Nat) : Int))) := by
 simp only [Zaa]
 have : Za0 (a : Int) ((a + n : Nat) : Int) = true := by
  unfold Za0;simp only [Bool.and_eq_true, decide_eq_true_eq]; lia
 rw [if_pos this];congr 2;rw [show (((a + n : Nat) : Int) - (a : Int)).toNat = n by lia];apply List.map_congr_left;intro k _;simp
theorem Zst {B : Bx} : ZgI B (.int 10) (.int 6) = some (.int 1000000) := by
 simp only [ZgI];rw [if_pos (by decide)];congr 2
theorem ZlB {B' : Bx} {ns : List Int} {b z : Option V} (hns : ns.length <= 1000000) : I.val (D.c Zw [D.c ZlE [D.k (.int 60), D.c X8 [D.v 0]]]) [some (.list (ns.map V.int)), b, z] B' =
   some (.seq ((List.range (min 60 ns.length)).map fun (k : Nat) => V.int (k : Int)), B') := by
 have h1 : D.c X8 [D.v 0] [some (.list (ns.map V.int)), b, z] B' = some (.int ns.length, B') :=
  ZE rfl (by simp only [X8, Y3, Zk0, ZS, List.length_map, Yd (show ns.length <= Cap by unfold Cap; lia), if_true, Option.map_some])
 have h2 : D.c ZlE [D.k (.int 60), D.c X8 [D.v 0]] [some (.list (ns.map V.int)), b, z] B' = some (.int ((min 60 ns.length : Nat) : Int), B') := by
  refine Y7 rfl h1 ?_;show some (V.int (if (ns.length : Int) < 60 then (ns.length : Int) else 60), B') = _;congr 3
  split <;> lia
 have h3 : D.c Zw [D.c ZlE [D.k (.int 60), D.c X8 [D.v 0]]] [some (.list (ns.map V.int)), b, z] B' = some (.range 0 ((min 60 ns.length : Nat) : Int), B') :=
  ZE h2 rfl
 unfold I.val;simp only [h3, Zc2 (show min 60 ns.length <= 1000000 by lia), Option.map_some]
theorem ZsB {B : Bx} (a : Int) : Y8 B (.int a) (.int 1000000) = some (.int (Int.fmod a 1000000)) := by
 unfold Y8;exact if_neg (show ¬ ((1000000 : Int) = 0) by lia)
theorem Zmp {B' : Bx} {ns : List Int} {b : Option V} {k : Nat} (hk : k < ns.length) (hb : k < 60) : D.b Y8 (D.b Zf (D.v 0) (D.v 2)) (D.b ZgI (D.k (.int 10)) (D.k (.int 6))) [some (.list (ns.map V.int)), b, some (.int (k : Int))] B' =
  some (.int (Int.fmod (ns.getD k 0) 1000000), B') := by
 have h1 : D.b Zf (D.v 0) (D.v 2) [some (.list (ns.map V.int)), b, some (.int (k : Int))] B' = some (.int (ns.getD k 0), B') := Zh rfl rfl (by rw [ZcY (by rw [List.length_map]; exact hk) (by lia), Zhm hk]);have h2 : D.b ZgI (D.k (.int 10)) (D.k (.int 6)) [some (.list (ns.map V.int)), b, some (.int (k : Int))] B' = some (.int 1000000, B') := Zh (d := .int 10) (e := .int 6) rfl rfl Zst;exact Zh h1 h2 (ZsB _)
theorem ZiN {B : Bx} {m : Nat} {init ns : List Int} (hm : init.length = m) (h0 : 0 < m) (hcap : m <= 1000) (hns : ns.length <= 1000000) :
  ∃ y, S.l (I.val (D.c Zw [D.c ZlE [D.k (.int 60), D.c X8 [D.v 0]]])) (fun d σ => some (σ.set 2 (some d))) (S.augput ZbS (D.v 1) (D.b Y8 (D.v 2) (D.k (.int (m : Int)))) (D.b Y8 (D.b Zf (D.v 0) (D.v 2)) (D.b ZgI (D.k (.int 10)) (D.k (.int 6))))) S.k
   [some (.list (ns.map V.int)), some (.box B.length), none] (B ++ [.list (init.map V.int)]) =
   some (.next, [some (.list (ns.map V.int)), some (.box B.length), y], B ++ [.list ((Zcd m init ns).map V.int)]) := by
 exact Zly (tgt := fun d σ => some (σ.set 2 (some d))) (body := S.augput ZbS (D.v 1) (D.b Y8 (D.v 2) (D.k (.int (m : Int)))) (D.b Y8 (D.b Zf (D.v 0) (D.v 2)) (D.b ZgI (D.k (.int 10)) (D.k (.int 6))))) (min 60 ns.length) (fun k => V.int (k : Int)) (fun _ y => [some (.list (ns.map V.int)), some (.box B.length), y]) (fun k => B ++ [.list (((List.range k).foldl (Xy m ns) init).map V.int)]) (y0 := none) (fun k y hk' => by
   have hcl : ((List.range k).foldl (Xy m ns) init).length = m := by
    rw [ZcO, hm]
   have hk : k < ns.length := Nat.lt_of_lt_of_le hk' (Nat.min_le_right _ _);have h60 : k < 60 := Nat.lt_of_lt_of_le hk' (Nat.min_le_left _ _);have hkm : k % m < m := Nat.mod_lt _ h0;refine ⟨_, some (.int (k : Int)), rfl, ?_⟩
   have e1 : D.b Y8 (D.v 2) (D.k (.int (m : Int))) [some (.list (ns.map V.int)), some (.box B.length), some (.int (k : Int))] (B ++ [.list (((List.range k).foldl (Xy m ns) init).map V.int)]) = some (.int ((k % m : Nat) : Int), B ++ [.list (((List.range k).foldl (Xy m ns) init).map V.int)]) := by
    refine Zh rfl rfl ?_;simp only [Y8];rw [if_neg (by lia), Zh8]
   have e2 := Zmp (B' := B ++ [.list (((List.range k).foldl (Xy m ns) init).map V.int)]) (b := some (.box B.length)) hk (by lia);show S.augput ZbS (D.v 1) _ _ [some (.list (ns.map V.int)), some (.box B.length), some (.int (k : Int))] _ = _;have e3 := ZeD (B := B ++ [.list (((List.range k).foldl (Xy m ns) init).map V.int)]) (n := B.length) (k := k % m) Yw (by rw [List.length_map, hcl]; exact hkm) (by lia);rw [Zhm (by rw [hcl]; exact hkm)] at e3;have e4 := Zkz (B := B ++ [.list (((List.range k).foldl (Xy m ns) init).map V.int)]) (n := B.length) (k := k % m) (v := ((List.range k).foldl (Xy m ns) init).getD (k % m) 0 + Int.fmod (ns.getD k 0) 1000000) Yw (by rw [hcl]; exact hkm) (by rw [hcl]; unfold Cap; lia);rw [ZbL] at e4;rw [List.range_succ, List.foldl_append, List.foldl_cons, List.foldl_nil];exact Zc0 rfl e1 e3 e2 rfl e4)
  (ZlB hns)
noncomputable def Zcl : List Int := [0, 1, 2, 1, 2, 4, 1, 5, 7]
noncomputable def Zl8 (ds : List V) : Sb fun (r : V) => ∃ ns, ds = [.list (ns.map V.int)] /\ ns.length <= 1000000 /\ r = .list ((Zcd 9 Zcl ns).map V.int) := match ds with
 | [.list xs] => .bind (YR xs) fun ns h => .ite (c := ns.length <= 1000000) (.list ((Zcd 9 Zcl ns).map V.int)) fun hl => ⟨ns, by rw [Xh h], hl, rfl⟩
 | _ => .no
noncomputable def ZQ : VF := Y3 fun _ ds => (Zl8 ds).1
theorem Zc5 {n : Nat} {B : Bx} {m : Nat} : ∀ ns : List Int, XB (frz n B (m + 1)) (ns.map V.int) = some (ns.map V.int)
 | [] => rfl
 | x :: ns => by simp only [List.map_cons, XB, Zc5 ns]; rfl
theorem Zql {B : Bx} {xs ys : List V} {m : Nat} (h : XB (frz B.length (B ++ [.list xs]) m) xs = some ys) : frz B.length (B ++ [.list xs]) (m + 1) (.box B.length) = some (.list ys) := by
 show (if B.length < B.length then _ else _) = _;rw [if_neg (Nat.lt_irrefl _), Yw];show (XB (frz B.length _ m) xs).map V.list = _;rw [h]; rfl
set_option tactic.hygienic true in
theorem Zey : Runs J4 Je ["script"] ZQ := Jc fun B ds d h1 => by
 refine XS ((Zl8 ds).2 _ h1) fun ns e0 hl er => ?_;rw [e0, er];obtain ⟨y, e⟩ := ZiN (B := B) (m := 9) (init := Zcl) rfl (by decide) (by decide) hl;exact ⟨rfl, [.list ((Zcd 9 Zcl ns).map V.int)], .box B.length, 2, Zi rfl (Zi e (Yq rfl)), Zql (Zc5 _)⟩
noncomputable def Za4 : List V := (List.range 10).map fun k => V.str (Yg k)
theorem Zhu : Txt.words "OPTIMIZED NEWLOCALS VARARGS VARKEYWORDS NESTED GENERATOR NOFREE COROUTINE ITERABLE_COROUTINE ASYNC_GENERATOR" = (List.range 10).map Yg := by decide +kernel
theorem Znh {σ : St} {B : Bx} : D.words (D.k (.str "OPTIMIZED NEWLOCALS VARARGS VARKEYWORDS NESTED GENERATOR NOFREE COROUTINE ITERABLE_COROUTINE ASYNC_GENERATOR")) σ B = some (.list Za4, B) := by
 unfold D.words;simp only [D.k, Zhu, List.map_map];rw [if_pos (by decide +kernel)];rfl
noncomputable def ZcT (k : Nat) : Str := ⟨#[(ls "1248").getD (k % 4) 0]⟩
theorem Znj : ∀ k < 32, 10 <= k -> ((("0x" : Str) ++ ZcT k) ++ Txt.mul "0" ((k / 4 : Nat) : Int)) = Yg k := by decide +kernel
theorem ZmC : ∀ k < 32, Zu ((("0x" : Str)).length + (ZcT k).length) = true := by decide +kernel
theorem Zow : ∀ k < 32, Zu (((("0x" : Str) ++ ZcT k)).length + (Txt.mul "0" ((k / 4 : Nat) : Int)).length) = true := by decide +kernel
theorem Zos {B : Bx} (k : Nat) : Zf B (.str "1248") (.int ((k % 4 : Nat) : Int)) = some (.str (ZcT k)) := by
 have h : k % 4 < 4 := Nat.mod_lt _ (by decide);have hl : (("1248" : Str)).length = 4 := by decide +kernel
 rw [ZlF];unfold Zks;rw [if_pos (ZeI (by lia)), hl, ZcE h];simp only [Option.bind_some];have e : ∀ j < 4, (("1248" : Str)).cps[j]? = some ((ls "1248").getD j 0) := by decide +kernel
 rw [e _ h];rfl
theorem Zom (a b : Nat) : Int.fdiv (a : Int) (b : Int) = ((a / b : Nat) : Int) := by
 rw [Int.fdiv_eq_ediv_of_nonneg _ (by lia)]; rfl
theorem Zgw {B : Bx} {k : Nat} (h : k < 32) : Y2 B (.str "0") (.int ((k / 4 : Nat) : Int)) = some (.str (Txt.mul "0" ((k / 4 : Nat) : Int))) := by
 simp only [Zp6];have hl : (("0" : Str)).length = 1 := by decide +kernel
 rw [if_pos];rw [hl];simp only [Bool.and_eq_true, decide_eq_true_eq];lia
noncomputable abbrev Znz : DE := D.ite (T.cmp vlt (D.v 1) (D.k (.int 10))) (D.b Zf (D.v 3) (D.v 1)) (D.b YV (D.b YV (D.k (.str "0x")) (D.b Zf (D.k (.str "1248")) (D.b Y8 (D.v 1) (D.k (.int 4))))) (D.b Y2 (D.k (.str "0")) (D.b Zg6 (D.v 1) (D.k (.int 4)))))
theorem ZlD {B : Bx} {σ : St} {b : Option V} {k : Nat} (hk : k < 32) : Znz (none :: some (.int (k : Int)) :: b :: some (.list Za4) :: σ) B = some (.str (Yg k), B) := by
 unfold Znz
 by_cases h : k < 10
 ·rw [ZiJ (Z5 rfl rfl (by simp only [vlt]; congr 1; rw [decide_eq_true_eq]; lia))]
  refine Zh rfl rfl ?_;rw [ZcY (by simpa [Za4] using h) (by lia)];unfold Za4;rw [List.getElem?_map, List.getElem?_range h];rfl
 ·rw [Zjf (Z5 rfl rfl (by simp only [vlt]; congr 1; rw [decide_eq_false_iff_not]; lia))]
  have e1 : D.b Y8 (D.v 1) (D.k (.int 4)) (none :: some (.int (k : Int)) :: b :: some (.list Za4) :: σ) B = some (.int ((k % 4 : Nat) : Int), B) :=
   Zh rfl rfl (by simp only [Y8]; rw [if_neg (by lia)]; rw [show (4 : Int) = ((4 : Nat) : Int) from rfl, Zh8])
  have e2 : D.b Zg6 (D.v 1) (D.k (.int 4)) (none :: some (.int (k : Int)) :: b :: some (.list Za4) :: σ) B = some (.int ((k / 4 : Nat) : Int), B) :=
   Zh rfl rfl (by simp only [Zg6]; rw [if_neg (by decide)]; rw [show (4 : Int) = ((4 : Nat) : Int) from rfl, Zom])
  refine Zh (Zh (d := .str "0x") rfl (Zh rfl e1 (Zos k)) (c := .str (("0x" : Str) ++ ZcT k)) ?_) (Zh rfl e2 (Zgw hk)) ?_
  ·simp only [ZdN]; rw [if_pos (ZmC k hk)]
  ·simp only [ZdN]; rw [if_pos (Zow k hk), Znj k hk (by lia)]
noncomputable def Zcc (b n : Nat) : List V := (List.range n).map fun i => V.str (Yg (b + i))
noncomputable def ZnL (ds : List V) : Sb fun (r : V) => ∃ b, ds = [.int b] /\ (0 <= b /\ b <= 29) /\ r = .list (Zcc b.toNat 3) := match ds with
 | [.int b] => .ite (c := 0 <= b /\ b <= 29) (.list (Zcc b.toNat 3)) fun h => ⟨b, rfl, h, rfl⟩
 | _ => .no
noncomputable def Z1 : VF := Y3 fun _ ds => (ZnL ds).1
theorem ZfA {n : Nat} {B : Bx} {m : Nat} : ∀ l : List Str, XB (frz n B (m + 1)) (l.map V.str) = some (l.map V.str)
 | [] => rfl
 | x :: l => by simp only [List.map_cons, XB, ZfA l]; rfl
set_option tactic.hygienic true in
theorem ZeZ : Runs J1 Jk ["base"] Z1 := Jc fun B ds d h1 => by
 refine XS ((ZnL ds).2 _ h1) fun b e0 hb er => ?_;rw [e0, er];obtain ⟨k, rfl⟩ : ∃ k : Nat, b = k := ⟨b.toNat, by lia⟩;rw [Int.toNat_natCast];refine ⟨rfl, [], .list (Zcc k 3), 2, ?_, ?_⟩
 ·rw [List.append_nil]
  refine Zi (Zq Znh) (Yq ?_)
  have hit : I.val (D.c Zw [D.v 0, D.b YV (D.v 0) (D.k (.int 3))]) [some (.int (k : Int)), some (.list Za4)] B = some (.seq ((List.range 3).map fun (i : Nat) => V.int ((k + i : Nat) : Int)), B) := by
   have h1 : D.c Zw [D.v 0, D.b YV (D.v 0) (D.k (.int 3))] [some (.int (k : Int)), some (.list Za4)] B = some (.range (k : Int) ((k + 3 : Nat) : Int), B) := Y7 rfl (Zh rfl rfl rfl) rfl;unfold I.val;simp only [h1, Zi6 (show k + 3 <= 1000000 by lia), Option.map_some]
  have := Zac (f := Znz) (tp := false) (σ := [some (.int (k : Int)), some (.list Za4)]) (B := B) (B₁ := B) (fun _ => true) (fun x => match x with | .int i => .str (Yg i.toNat) | _ => .none) (ifs := T.all []) hit (fun x hx => by
   refine Zg (List.mem_map.mp hx) fun i hi z_2 => ?_;subst z_2;have hi := List.mem_range.mp hi;exact ⟨rfl, fun _ => ZlD (by lia)⟩) (by simp [Cap])
  have e : (((List.range 3).map fun (i : Nat) => V.int ((k + i : Nat) : Int)).filter fun _ => true).map (fun x => match x with | .int i => V.str (Yg i.toNat) | _ => .none) = Zcc k 3 := by
   rw [List.filter_eq_self.mpr (fun _ _ => rfl), List.map_map];rfl
  rw [e] at this;exact this
 ·show (XB (frz B.length (B ++ []) 1) (Zcc k 3)).map V.list = _
  unfold Zcc;rw [show ((List.range 3).map fun i => V.str (Yg (k + i))) = ((List.range 3).map fun i => Yg (k + i)).map V.str by rw [List.map_map]; rfl, ZfA];rfl
noncomputable def ZbA {α : Type} (enc : α -> List V) (res : α -> V) : VF := open Classical in Y3 fun _ ds => if h : ∃ p, ds = enc p then some (res h.choose) else none
theorem ZaJ {α : Type} {enc : α -> List V} {res : α -> V} {B : Bx} {p : α} (hi : ∀ q, enc q = enc p -> res q = res p) : ZbA enc res B (enc p) = some (res p, B) := by
 have h : ∃ q, enc p = enc q := ⟨p, rfl⟩;refine XW ((dif_pos h).trans (congrArg some (hi _ h.choose_spec.symm)))
theorem Zds {α : Type} {enc : α -> List V} {res : α -> V} {f : DS} {k : K} {ps : List Str} (hl : ∀ p, (enc p).length = ps.length) (h : ∀ B p, ∃ B₁ d'0 m, Zbj f (JS k ps (enc p)) B d'0 (B ++ B₁) /\ frz B.length (B ++ B₁) m d'0 = some (res p)) : Runs f k ps (ZbA enc res) :=
 Jc fun B ds d e => by
  by_cases hp : ∃ p, ds = enc p
  ·have e : some (res hp.choose) = some d := (dif_pos hp).symm.trans e
   have hs := hp.choose_spec;generalize hp.choose = p at e hs;rw [<- Option.some.inj e, hs];exact ⟨hl _, h B _⟩
  ·exact nn ((dif_neg hp).symm.trans e)
theorem J2 {α : Type} {enc : α -> List V} {res : α -> V} {f : DS} {k : K} {ps : List Str} (hl : ∀ p, (enc p).length = ps.length) (h : ∀ B p, Zbj f (JS k ps (enc p)) B (res p) B /\ ∃ m, frz B.length B m (res p) = some (res p)) : Runs f k ps (ZbA enc res) :=
 Zds hl fun B p => let ⟨h1, m, h2⟩ := h B p; ⟨[], res p, m, by rw [List.append_nil]; exact h1, by rw [List.append_nil]; exact h2⟩
noncomputable def XF (a b c : Int) : V := .list [.list [.int 0, .int a, .int b], .list [.int a, .int 0, .int c], .list [.int b, .int c, .int 0]]
structure Jh where
 (c0 c1 c2 c3 c4 c5 c6 c7 c8 : Int)
noncomputable def Jh.list (c : Jh) : List Int := [c.c0, c.c1, c.c2, c.c3, c.c4, c.c5, c.c6, c.c7, c.c8]
noncomputable def Jh.kinds (c : Jh) : List Int := [Int.fmod c.c0 3, Int.fmod c.c1 3, Int.fmod c.c2 3, Int.fmod c.c3 3, Int.fmod c.c4 3]
noncomputable def Jh.fix (c : Jh) : List Int := [Int.fmod c.c0 3, Int.fmod c.c1 3, Int.fmod c.c2 3, Int.fmod c.c3 3, Int.fmod (Int.fmod c.c4 3 + (if ((Zbk c.kinds : Nat) : Int) == 1 then 1 else 0)) 3]
noncomputable def Jh.net (c : Jh) : V := XF (c.fix.count 0 : Nat) (c.fix.count 1 : Nat) (c.fix.count 2 : Nat)
theorem ZiC {B : Bx} {c : Jh} {y z u v : Option V} : Zy 2 (emL (D.b Y8 (D.b Zf (D.v 2) (D.v 1)) (D.k (.int 3)))) (gs1 (I.val (D.c Zw [D.k (.int 5)])) (T.all [])) [] (.list []) [some (.list (c.list.map V.int)), y, z, u, v] B = some (.list (c.kinds.map V.int), B) := by
 rfl
theorem Zrf {B : Bx} {c : Jh} {y z u v : Option V} : D.b YV (D.slice Zae (D.v 1) none (some (D.k (.int 4)))) (D.list [D.b Y8 (D.b YV (D.b Zf (D.v 1) (D.k (.int 4))) (D.c Zr8 [D.b (bv Y1) (D.lenSet (D.v 1)) (D.k (.int 1))])) (D.k (.int 3))]) [y, some (.list (c.kinds.map V.int)), z, u, v] B = some (.list (c.fix.map V.int), B) := by
 rfl
noncomputable def Yb : VF := ZbA (fun c : Jh => [.list (c.list.map V.int)]) Jh.net
set_option tactic.hygienic true in
theorem ZgB : Runs ZaP Zai ["cells"] Yb := J2 (fun _ => rfl) fun B c => ⟨Zi (Zq ZiC) (Zi (Zq Zrf) (Zi rfl (Yq rfl))), 3, rfl⟩
noncomputable def V.at (d : V) (i : Nat) : V := match d with
 | .list l => l.getD i .none
 | _ => .none
noncomputable def V.num : V -> Int
 | .int n => n
 | _ => 0
noncomputable def V.txt : V -> Str
 | .str s => s
 | _ => ""
theorem ZaH {t u : DT} {σ : St} {B : Bx} {x y : Bool} (h1 : t σ B = some (x, B)) (h2 : x = false -> u σ B = some (y, B)) : T.bool false [t, u] σ B = some (x || y, B) := by
 cases x with
 | true => simp [T.bool, h1]
 | false => cases y <;> simp [T.bool, h1, h2 rfl]
theorem ZfY {t : DT} {σ : St} {B : Bx} {x : Bool} (h : t σ B = some (x, B)) : T.all [t] σ B = some (x, B) := by
 cases x <;> simp [T.all, h]
theorem Zgp {fk fv : DE} {it : DI} {ifs : DT} {tp : Bool} {σ : St} {B B₁ : Bx} {xs : List V} (b : V -> Bool) (k : V -> Str) (e : V -> V) (hit : it σ B = some (.seq xs, B₁))
  (h : ∀ x ∈ xs, ifs (none :: some x :: σ) B₁ = some (b x, B₁) /\ (b x = true -> fk (none :: some x :: σ) B₁ = some (.str (k x), B₁) /\ fv (none :: some x :: σ) B₁ = some (e x, B₁))) (hn : (xs.map k).Nodup) (hl : xs.length <= Cap) :
  Zy 2 (emD fk fv) { it := it, tp := tp, tgt := fun d σ => some (σ.set 1 (some d)), ifs := ifs } [] (.dict [] []) σ B = some (.dict ((xs.filter b).map k) ((xs.filter b).map e), B₁) := by
 have key : ∀ (xs : List V) (ks : List Str) (vs : List V) (y : Option V) (n : Nat), (∀ x ∈ xs, ifs (none :: some x :: σ) B₁ = some (b x, B₁) /\ (b x = true -> fk (none :: some x :: σ) B₁ = some (.str (k x), B₁) /\ fv (none :: some x :: σ) B₁ = some (e x, B₁))) ->
   (ks ++ xs.map k).Nodup -> ks.length + xs.length <= Cap -> xs.length < n ->
   ∃ y', cl (JL { it := it, tp := tp, tgt := fun d σ => some (σ.set 1 (some d)), ifs := ifs } (cgo (emD fk fv) [])) n (.seq xs) (none :: y :: σ) B₁ (.dict ks vs) = some (none :: y' :: σ, B₁, .dict (ks ++ (xs.filter b).map k) (vs ++ (xs.filter b).map e)) := by
  intro xs
  induction xs with
  | nil =>
   intro ks vs y n _ _ _ hn
   cases n with
   | zero => simp at hn
   | succ n => exact ⟨y, by simp [cl, Src.at]⟩
  | cons x xs ih =>
   intro ks vs y n h hnd hc hn
   cases n with
   | zero => simp at hn
   | succ n =>
    refine ZaN (h x (.head _)) fun h1 h2 => ?_;simp only [List.length_cons] at hc
    cases hb : b x with
    | true =>
     obtain ⟨h2, h3⟩ := h2 hb
     have hx : k x ∉ ks := fun hm => by
      rw [List.nodup_append] at hnd;exact hnd.2.2 _ hm _ (by simp) rfl
     obtain ⟨y', hy⟩ := ih (ks ++ [k x]) (vs ++ [e x]) (some x) n (fun z hz => h z (List.mem_cons_of_mem _ hz)) (by simpa using hnd) (by simp at hc ⊢; lia) (by simpa using hn);refine ⟨y', ?_⟩;rw [hb] at h1;simp only [cl, Src.at, List.head?_cons, JL, List.set_cons_succ, List.set_cons_zero, h1, Zma h2 h3 (Yd (show ks.length <= Cap by lia)), Zew hx, Src.adv, List.tail_cons, List.filter_cons_of_pos hb, List.map_cons];rw [hy];simp
    | false =>
     obtain ⟨y', hy⟩ := ih ks vs (some x) n (fun z hz => h z (List.mem_cons_of_mem _ hz)) (by
      rw [List.map_cons] at hnd;exact hnd.sublist (List.Sublist.append_left (List.sublist_cons_self _ _) _)) (by lia) (by simpa using hn)
     refine ⟨y', ?_⟩;rw [hb] at h1;have hf : (x :: xs).filter b = xs.filter b := List.filter_cons_of_neg (by rw [hb]; simp);simp only [cl, Src.at, List.head?_cons, JL, List.set_cons_succ, List.set_cons_zero, h1, Src.adv, List.tail_cons, hf];rw [hy]
 obtain ⟨y', hy⟩ := key xs [] [] none (xs.length + 1) h (by simpa using hn) (by simpa using hl) (Nat.lt_succ_self _);unfold Zy;simp only [hit, Src.fuel];rw [show List.replicate 2 (none : Option V) ++ σ = none :: none :: σ from rfl, hy];simp
noncomputable def wd (base k : Nat) : Str := Yg (base + k)
noncomputable def X2 (base : Nat) : V := .list [.str (wd base 0), .str (wd base 1), .str (wd base 2)]
theorem ZcF {base i j : Nat} (h : base <= 29) (hi : i < 3) (hj : j < 3) (hij : i ≠ j) : wd base i ≠ wd base j := fun e => hij (by have := Zee _ (show base + i < 32 by lia) _ (show base + j < 32 by lia) e; lia)
theorem Zd5 {base : Nat} (h : base <= 29) : [wd base 0, wd base 1, wd base 2].Nodup := by
 simp [ZcF h (show 0 < 3 by decide) (show 1 < 3 by decide) (by decide), ZcF h (show 0 < 3 by decide) (show 2 < 3 by decide) (by decide), ZcF h (show 1 < 3 by decide) (show 2 < 3 by decide) (by decide)]
noncomputable def ent (a b c : Int) (i j : Nat) : Int := (([[0, a, b], [a, 0, c], [b, c, 0]] : List (List Int)).getD i []).getD j 0
noncomputable def YM (a b c : Int) (i : Nat) : Int := (([[0, a, b], [a, 0, c], [b, c, 0]] : List (List Int)).getD i []).sum
noncomputable def Zcq (a b c : Int) (i j : Nat) : Bool := ((i : Int) == (j : Int)) || decide (ent a b c i j > 0)
noncomputable def Zif (a b c : Int) (i j : Nat) : Int := if ((i : Int) == (j : Int)) then YM a b c i else -(ent a b c i j)
noncomputable def Zb7 (a b c : Int) (base i : Nat) : List Str × List Int := ((([0, 1, 2] : List Nat).filter (Zcq a b c i)).map (wd base), (([0, 1, 2] : List Nat).filter (Zcq a b c i)).map (Zif a b c i))
noncomputable def YP (a b c : Int) (base : Nat) : V := .list (([0, 1, 2] : List Nat).map fun i => dv (Zb7 a b c base i))
noncomputable abbrev ZjG : DE := Zy 2 (emD (D.b Zf (D.v 5) (D.v 1)) (D.ite (T.cmp Y1 (D.v 3) (D.v 1)) (D.c YO [D.b Zf (D.v 4) (D.v 3)]) (D.un JI (D.b Zf (D.b Zf (D.v 4) (D.v 3)) (D.v 1))))) (gs1 (I.val (D.c Zw [D.k (.int 3)])) (T.all [T.bool false [T.cmp Y1 (D.v 3) (D.v 1), T.cmp vgt (D.b Zf (D.b Zf (D.v 4) (D.v 3)) (D.v 1)) (D.k (.int 0))]])) [] (.dict [] [])
noncomputable def YF : V -> Nat
 | .int i => i.toNat
 | _ => 0
theorem Yv {P : Nat -> Prop} (h0 : P 0) (h1 : P 1) (h2 : P 2) : ∀ i < 3, P i := fun i hi => by
 match i, hi with
 | 0, _ => exact h0
 | 1, _ => exact h1
 | 2, _ => exact h2
noncomputable def ZbT : List V := ([0, 1, 2] : List Nat).map fun (k : Nat) => V.int (k : Int)
theorem XU {x : V} (h : x ∈ ZbT) : ∃ k < 3, x = V.int (k : Nat) := by
 refine Zg (List.mem_map.mp h) fun k hk e => ?_;exact ⟨k, by simp at hk; lia, e.symm⟩
theorem Zbd (p : Nat -> Bool) : (ZbT.filter fun x => p (YF x)) = (([0, 1, 2] : List Nat).filter p).map fun (k : Nat) => V.int (k : Int) := by
 unfold ZbT;rw [List.filter_map];rfl
noncomputable abbrev ZqL : DT := T.cmp vgt (D.b Zf (D.b Zf (D.v 4) (D.v 3)) (D.v 1)) (D.k (.int 0))
noncomputable abbrev ZqX : DE := D.ite (T.cmp Y1 (D.v 3) (D.v 1)) (D.c YO [D.b Zf (D.v 4) (D.v 3)]) (D.un JI (D.b Zf (D.b Zf (D.v 4) (D.v 3)) (D.v 1)))
section
variable {a b c : Int} {base : Nat} {σ : St} {B : Bx}
theorem Zrk : ∀ i < 3, ∀ j < 3, ZqL (none :: some (.int ((j : Nat) : Int)) :: none :: some (.int ((i : Nat) : Int)) :: some (XF a b c) :: σ) B = some (decide (ent a b c i j > 0), B) :=
 Yv (Yv rfl rfl rfl) (Yv rfl rfl rfl) (Yv rfl rfl rfl)
theorem Zru {z u v : Option V} : ∀ j < 3, D.b Zf (D.v 5) (D.v 1) (none :: some (.int ((j : Nat) : Int)) :: z :: u :: v :: some (X2 base) :: σ) B = some (.str (wd base j), B) :=
 Yv rfl rfl rfl
theorem Zsq : ∀ i < 3, ∀ j < 3, ZqX (none :: some (.int ((j : Nat) : Int)) :: none :: some (.int ((i : Nat) : Int)) :: some (XF a b c) :: σ) B = some (.int (Zif a b c i j), B) :=
 Yv (Yv rfl rfl rfl) (Yv rfl rfl rfl) (Yv rfl rfl rfl)
theorem Zmd (hb : base <= 29) {i : Nat} (hi : i < 3) : ZjG (none :: some (.int (i : Int)) :: some (XF a b c) :: some (X2 base) :: σ) B = some (dv (Zb7 a b c base i), B) := by
 have := Zgp (σ := none :: some (.int (i : Int)) :: some (XF a b c) :: some (X2 base) :: σ) (B := B) (B₁ := B) (tp := false) (xs := ZbT) (it := I.val (D.c Zw [D.k (.int 3)])) (fun x => Zcq a b c i (YF x)) (fun x => wd base (YF x)) (fun x => .int (Zif a b c i (YF x)))
  (fk := D.b Zf (D.v 5) (D.v 1)) (fv := ZqX) (ifs := T.all [T.bool false [T.cmp Y1 (D.v 3) (D.v 1), ZqL]]) rfl (fun x hx => by
   refine Zg (XU hx) fun j hj z_2 => ?_;subst z_2;exact ⟨ZfY (ZaH (x := (i : Int) == (j : Int)) (y := decide (ent a b c i j > 0)) rfl fun _ => Zrk i hi j hj), fun _ => ⟨Zru j hj, Zsq i hi j hj⟩⟩) (show [wd base 0, wd base 1, wd base 2].Nodup from Zd5 hb) (by decide)
 rw [Zbd, List.map_map, List.map_map] at this;refine this.trans ?_;unfold Zb7 dv;rw [List.map_map];rfl
theorem Zml {n m : Nat} (p : List Str × List Int) : frz n B (m + 2) (dv p) = some (dv p) := by
 show (XB (frz n B (m + 1)) (p.2.map V.int)).map (V.dict p.1) = _;rw [Zc5]; rfl
theorem Zk4 {n m : Nat} : frz n B (m + 3) (YP a b c base) = some (YP a b c base) := by
 show (XB (frz n B (m + 2)) [dv (Zb7 a b c base 0), dv (Zb7 a b c base 1), dv (Zb7 a b c base 2)]).map V.list = _;simp only [XB, Zml];rfl
structure ZgQ where
 (a b c : Int)
 base : Nat
 hb : base <= 29
noncomputable def ZG : VF := ZbA (fun p : ZgQ => [XF p.a p.b p.c, X2 p.base]) (fun p => YP p.a p.b p.c p.base)
theorem ZeK : Runs J5 Jj ["net", "words"] ZG := J2 (fun _ => rfl) fun B p => ⟨Yq (by
  have := Zac (f := ZjG) (ifs := T.all []) (tp := false) (σ := [some (XF p.a p.b p.c), some (X2 p.base)]) (B := B) (B₁ := B) (xs := ZbT) (it := I.val (D.c Zw [D.k (.int 3)])) (fun _ => true) (fun x => dv (Zb7 p.a p.b p.c p.base (YF x))) rfl (fun x hx => by
   refine Zg (XU hx) fun i hi z_2 => ?_;subst z_2;exact ⟨rfl, fun _ => Zmd p.hb hi⟩) (by decide)
  exact this), 3, Zk4 (m := 0)⟩
end
theorem ZnD {α : Type} {step : V -> St -> Bx -> Option Out} {els : St -> Bx -> Option Out} {B : Bx} {d : V} (f : α -> V) (p : α -> Bool) (I : St -> Prop) : ∀ (xs : List α) (n : Nat) (σ : St),
  (∀ x ∈ xs, ∀ σ, I σ -> (p x = true /\ ∃ σ', step (f x) σ B = some (.ret d, σ', B)) \/ (p x = false /\ ∃ σ', I σ' /\ step (f x) σ B = some (.next, σ', B))) -> I σ -> xs.length < n ->
  (xs.any p = true /\ ∃ σ', Y4 step els n (.seq (xs.map f)) σ B = some (.ret d, σ', B)) \/ (xs.any p = false /\ ∃ σ', I σ' /\ Y4 step els n (.seq (xs.map f)) σ B = els σ' B) := by
 intro xs
 induction xs with
 | nil =>
  intro n σ _ hI hn
  cases n with
  | zero => exact absurd hn (Nat.lt_irrefl _)
  | succ n => exact .inr ⟨rfl, σ, hI, rfl⟩
 | cons x xs ih =>
  intro n σ h hI hn
  cases n with
  | zero => exact absurd hn (Nat.not_lt_zero _)
  | succ n =>
   rw [List.any_cons];rcases h x (.head _) σ hI with ⟨hp, σ', e⟩ | ⟨hp, σ', hI', e⟩
   ·exact .inl ⟨by rw [hp]; rfl, σ', Jd (.ret d) e⟩
   ·rw [hp, show Y4 step els (n + 1) (.seq ((x :: xs).map f)) σ B = Y4 step els n (.seq (xs.map f)) σ' B from Jd .next e]
    exact ih n σ' (fun y hy => h y (List.mem_cons_of_mem _ hy)) hI' (Nat.lt_of_succ_lt_succ hn)
set_option tactic.hygienic true in
theorem Zfu {α : Type} {it : DI} {tgt : V -> St -> Option St} {body els : DS} {σ : St} {B : Bx} {d : V} (f : α -> V) (p : α -> Bool) (I : St -> Prop) (xs : List α) (hit : it σ B = some (.seq (xs.map f), B))
  (h : ∀ x ∈ xs, ∀ σ, I σ -> ∃ σ₁, tgt (f x) σ = some σ₁ /\ ((p x = true /\ ∃ σ', body σ₁ B = some (.ret d, σ', B)) \/ (p x = false /\ ∃ σ', I σ' /\ body σ₁ B = some (.next, σ', B)))) (hI : I σ) :
  (xs.any p = true /\ ∃ σ', S.l it tgt body els σ B = some (.ret d, σ', B)) \/ (xs.any p = false /\ ∃ σ', I σ' /\ S.l it tgt body els σ B = els σ' B) := by
 have := ZnD (step := fun x σ B => match tgt x σ with | none => none | some σ₁ => body σ₁ B) (els := els) (B := B) (d := d) f p I xs (xs.length + 1) σ (fun x hx σ hI => by
  refine Zg (h x hx σ hI) fun σ₁ ht h => ?_;simp only [ht];exact h) hI (Nat.lt_succ_self _)
 have e : S.l it tgt body els σ B = Y4 (fun x σ B => match tgt x σ with | none => none | some σ₁ => body σ₁ B) els (xs.length + 1) (.seq (xs.map f)) σ B := by
  unfold S.l;simp only [hit, Src.fuel, List.length_map]; try rfl
 rw [e];exact this
theorem ZaZ {m : Int} {B : Bx} (h : -1000 <= m /\ m <= 1000) : Zaa B (.range 0 m) = some (.seq ((List.range m.toNat).map fun (k : Nat) => V.int (k : Int))) := by
 have hs : Za0 0 m = true := by
  unfold Za0;simp only [Bool.and_eq_true, decide_eq_true_eq]; lia
 simp only [Zaa, hs, if_true, Int.sub_zero, Int.zero_add]
theorem Y5 {B : Bx} {x y : Int} (h : small x = true) : Y2 B (.int x) (.int y) = some (.int (x * y)) := by simp only [Zo9, h, if_true]
theorem YU {x : Int} (h : -1000 <= x /\ x <= 1000) : small x = true := by
 unfold small;simp only [Bool.and_eq_true, decide_eq_true_eq]; lia
theorem ZaY {B : Bx} {a b : Int} (h : b ≠ 0) : Y8 B (.int a) (.int b) = some (.int (Int.fmod a b)) := if_neg h
structure Zga where
 (a b c p q r : Int)
 net : XK a b c
 low : -1000 <= p + q + r
 high : p + q + r <= 100
noncomputable def ZbC (a b c p q d : Int) : Bool := (List.range (d + 1).toNat).any fun f => (List.range (d + 1 - f).toNat).any fun h => Zcw a b c (p - f) (q - h)
theorem ZeE {a b c p q d : Int} : ZbC a b c p q d = true ↔ Zo5 a b c p q d := by
 unfold ZbC;rw [List.any_eq_true]
 constructor
 ·rintro ⟨f, hf, h⟩
  rw [List.any_eq_true] at h;refine Zg h fun h' hh hp => ?_;clear h;have := List.mem_range.mp hf;have := List.mem_range.mp hh;exact ⟨f, h', by lia, by lia, by lia, hp⟩
 ·rintro ⟨f, h, hf, hh, hfh, hp⟩
  obtain ⟨f, rfl⟩ := Int.eq_ofNat_of_zero_le hf;obtain ⟨h, rfl⟩ := Int.eq_ofNat_of_zero_le hh;refine ⟨f, List.mem_range.mpr (by lia), ?_⟩;rw [List.any_eq_true];exact ⟨h, List.mem_range.mpr (by lia), hp⟩
noncomputable def Zbh (P : Zga) (y : O4) : St := [some (XF P.a P.b P.c), some (.list [.int P.p, .int P.q, .int P.r]), some (.int (P.a + P.b)), some (.int (P.a + P.c)), some (.int P.a), some (.int (Zb0 P.a P.b P.c)), y.1, y.2.1, y.2.2.1, y.2.2.2]
noncomputable abbrev ZoM : DS := S.q (S.swapped [8, 9] (D.t [D.b Ya (D.b Zf (D.v 1) (D.k (.int 0))) (D.v 6), D.b Ya (D.b Zf (D.v 1) (D.k (.int 1))) (D.v 7)])) (S.ite (T.bool true [T.cmp Y1 (D.b Y8 (D.b YV (D.b Y2 (D.v 3) (D.v 8)) (D.b Y2 (D.v 4) (D.v 9))) (D.v 5)) (D.k (.int 0)), T.cmp Y1 (D.b Y8 (D.b YV (D.b Y2 (D.v 4) (D.v 8)) (D.b Y2 (D.v 2) (D.v 9))) (D.v 5)) (D.k (.int 0))]) (S.r (D.k (.bool true))) S.k)
theorem Zlw {t u : DT} {σ : St} {B : Bx} {x y : Bool} (h1 : t σ B = some (x, B)) (h2 : u σ B = some (y, B)) : T.bool true [t, u] σ B = some (x && y, B) := by
 cases x <;> cases y <;> simp [T.bool, h1, h2]
theorem Zmt {P : Zga} {B : Bx} {f h : Nat} {y z : Option V} : ∃ σ', ZoM (Zbh P (some (.int (f : Int)), some (.int (h : Int)), y, z)) B = some (if Zcw P.a P.b P.c (P.p - f) (P.q - h) then .ret (.bool true) else .next, σ', B) /\ (Zcw P.a P.b P.c (P.p - f) (P.q - h) = false -> ∃ y z, σ' = Zbh P (some (.int (f : Int)), some (.int (h : Int)), y, z)) := by
 have hn := Ze0 P.net;have N := P.net;have s1 : small (P.a + P.c) = true := YU ⟨by have := N.a0; have := N.c0; lia, by have := N.a4; have := N.c4; lia⟩;have s2 : small (P.a + P.b) = true := YU ⟨by have := N.a0; have := N.b0; lia, by have := N.a4; have := N.b4; lia⟩;have s3 : small P.a = true := YU ⟨by have := N.a0; lia, by have := N.a4; lia⟩;have e0 : S.swapped [8, 9] (D.t [D.b Ya (D.b Zf (D.v 1) (D.k (.int 0))) (D.v 6), D.b Ya (D.b Zf (D.v 1) (D.k (.int 1))) (D.v 7)]) (Zbh P (some (.int (f : Int)), some (.int (h : Int)), y, z)) B = some (.next, Zbh P (some (.int (f : Int)), some (.int (h : Int)), some (.int (P.p - f)), some (.int (P.q - h))), B) := rfl
 have t0 : ∀ v : Int, Y1 B (.int v) (.int 0) = some (decide (v = 0)) := fun v => by
  show some (v == 0) = _;congr 1
 have t1 : T.bool true [T.cmp Y1 (D.b Y8 (D.b YV (D.b Y2 (D.v 3) (D.v 8)) (D.b Y2 (D.v 4) (D.v 9))) (D.v 5)) (D.k (.int 0)), T.cmp Y1 (D.b Y8 (D.b YV (D.b Y2 (D.v 4) (D.v 8)) (D.b Y2 (D.v 2) (D.v 9))) (D.v 5)) (D.k (.int 0))]
   (Zbh P (some (.int (f : Int)), some (.int (h : Int)), some (.int (P.p - f)), some (.int (P.q - h)))) B = some (Zcw P.a P.b P.c (P.p - f) (P.q - h), B) :=
  Zlw (Z5 (Zh (Zh (Zh rfl rfl (Y5 s1)) (Zh rfl rfl (Y5 s3)) rfl) rfl (ZaY (Int.ne_of_gt hn))) rfl (t0 _)) (Z5 (Zh (Zh (Zh rfl rfl (Y5 s3)) (Zh rfl rfl (Y5 s2)) rfl) rfl (ZaY (Int.ne_of_gt hn))) rfl (t0 _))
 cases hp : Zcw P.a P.b P.c (P.p - f) (P.q - h) with
 | true =>
  rw [hp] at t1;exact ⟨_, (ZU e0).trans ((JU t1).trans rfl), fun z => nomatch z⟩
 | false =>
  rw [hp] at t1;exact ⟨_, (ZU e0).trans ((Xv t1).trans rfl), fun _ => ⟨_, _, rfl⟩⟩
noncomputable def ZV : VF := ZbA (fun P : Zga => [XF P.a P.b P.c, .list [.int P.p, .int P.q, .int P.r]]) (fun P => .bool (ZbC P.a P.b P.c P.p P.q (P.p + P.q + P.r)))
theorem ZlK {a : Int} (h : 0 <= a) (h' : a <= 4) : -1000 <= a /\ a <= 1000 := by lia
theorem Zjc {a b : Int} (h : 0 <= a) (h' : a <= 4) (k : 0 <= b) (k' : b <= 4) : -1000 <= a + b /\ a + b <= 1000 := by lia
theorem Zpb {d : Int} (h : -1000 <= d) (h' : d <= 100) : -1000 <= d + 1 /\ d + 1 <= 1000 := by lia
theorem ZnO {d : Int} {f : Nat} (h : -1000 <= d) (h' : d <= 100) (hf : f < (d + 1).toNat) : -1000 <= d + 1 - f /\ d + 1 - f <= 1000 := by lia
theorem Zfh : Runs Zao Jb ["net", "coins"] ZV := J2 (fun _ => rfl) fun B P => ⟨by
 have N := P.net;have r0 : ([0, P.a, P.b] : List Int).sum = P.a + P.b := by show 0 + (P.a + (P.b + 0)) = _; rw [Int.add_zero, Int.zero_add]
 have r1 : ([P.a, 0, P.c] : List Int).sum = P.a + P.c := by show P.a + (0 + (P.c + 0)) = _; rw [Int.add_zero, Int.zero_add]
 have hs : ([P.p, P.q, P.r] : List Int).sum = P.p + P.q + P.r := by show P.p + (P.q + (P.r + 0)) = _; rw [Int.add_zero, <- Int.add_assoc]
 have s3 : small P.a = true := YU (ZlK N.a0 N.a4);have s2 : small ([0, P.a, P.b] : List Int).sum = true := YU (by rw [r0]; exact Zjc N.a0 N.a4 N.b0 N.b4);have hlow := P.low;have hhigh := P.high
 have e0 : S.swapped [2, 3, 4] (D.t [D.c YO [D.b Zf (D.v 0) (D.k (.int 0))], D.c YO [D.b Zf (D.v 0) (D.k (.int 1))], D.b Zf (D.b Zf (D.v 0) (D.k (.int 0))) (D.k (.int 1))]) (JS Jb ["net", "coins"] [XF P.a P.b P.c, .list [.int P.p, .int P.q, .int P.r]]) B =
   some (.next, [some (XF P.a P.b P.c), some (.list [.int P.p, .int P.q, .int P.r]), some (.int ([0, P.a, P.b] : List Int).sum), some (.int ([P.a, 0, P.c] : List Int).sum), some (.int P.a), none, none, none, none, none], B) := rfl
 refine Zi e0 ?_;refine Zi (Zq (Zh (Zh rfl rfl (Y5 s2)) (Zh rfl rfl (Y5 s3)) rfl)) ?_;rw [r0, r1];refine (?_ : Zbj _ (Zbh P (none, none, none, none)) B _ B);have hi : ∀ σ : St, (∃ y, σ = Zbh P y) -> D.c YO [D.v 1] σ B = some (.int (P.p + P.q + P.r), B) := fun σ ⟨y, hy⟩ => by rw [hy, <- hs]; rfl
 have hit : ∀ σ : St, (∃ y, σ = Zbh P y) -> I.val (D.c Zw [D.b YV (D.c YO [D.v 1]) (D.k (.int 1))]) σ B = some (.seq ((List.range (P.p + P.q + P.r + 1).toNat).map fun (k : Nat) => V.int (k : Int)), B) := fun σ hσ =>
  YW (ZE (Zh (hi σ hσ) rfl rfl) rfl) (ZaZ (Zpb hlow hhigh))
 have main := Zfu (it := I.val (D.c Zw [D.b YV (D.c YO [D.v 1]) (D.k (.int 1))])) (tgt := fun d σ => some (σ.set 6 (some d))) (els := S.k) (d := .bool true) (σ := Zbh P (none, none, none, none)) (B := B) (fun (k : Nat) => V.int (k : Int))
  (fun f => (List.range (P.p + P.q + P.r + 1 - f).toNat).any fun h => Zcw P.a P.b P.c (P.p - f) (P.q - h)) (fun σ => ∃ y, σ = Zbh P y) (List.range (P.p + P.q + P.r + 1).toNat)
  (body := S.l (I.val (D.c Zw [D.b Ya (D.b YV (D.c YO [D.v 1]) (D.k (.int 1))) (D.v 6)])) (fun d σ => some (σ.set 7 (some d))) ZoM S.k) (hit _ ⟨_, rfl⟩) (fun f hf σ hσ => by
   obtain ⟨y, rfl⟩ := hσ;have hf := List.mem_range.mp hf;refine ⟨_, rfl, ?_⟩
   have hit2 : I.val (D.c Zw [D.b Ya (D.b YV (D.c YO [D.v 1]) (D.k (.int 1))) (D.v 6)]) (Zbh P (some (.int (f : Int)), y.2)) B = some (.seq ((List.range (P.p + P.q + P.r + 1 - f).toNat).map fun (k : Nat) => V.int (k : Int)), B) :=
    YW (ZE (Zh (Zh (hi _ ⟨_, rfl⟩) rfl rfl) rfl rfl) rfl) (ZaZ (ZnO hlow hhigh hf))
   have inner := Zfu (it := I.val (D.c Zw [D.b Ya (D.b YV (D.c YO [D.v 1]) (D.k (.int 1))) (D.v 6)])) (tgt := fun d σ => some (σ.set 7 (some d))) (els := S.k) (d := .bool true) (body := ZoM) (B := B) (fun (k : Nat) => V.int (k : Int)) (fun h => Zcw P.a P.b P.c (P.p - f) (P.q - h)) (fun σ => ∃ y, σ = Zbh P (some (.int (f : Int)), y)) _ hit2
    (fun h hh σ hσ => by
     obtain ⟨⟨y1, y2, y3⟩, rfl⟩ := hσ;refine Zg (Zmt (P := P) (B := B) (f := f) (h := h) (y := y2) (z := y3)) fun σ' e he => ?_;refine ⟨_, rfl, ?_⟩
     cases hp : Zcw P.a P.b P.c (P.p - f) (P.q - h) with
     | true => rw [hp] at e; exact .inl ⟨rfl, σ', e⟩
     | false => rw [hp] at e; obtain ⟨u, v, hu⟩ := he hp; exact .inr ⟨rfl, σ', ⟨_, hu⟩, e⟩) ⟨y.2, rfl⟩
   rcases inner with ⟨h1, σ', h2⟩ | ⟨h1, σ', ⟨z, hz⟩, h2⟩
   ·exact .inl ⟨h1, σ', h2⟩
   ·exact .inr ⟨h1, σ', ⟨_, hz⟩, h2⟩) ⟨_, rfl⟩
 unfold ZbC;rcases main with ⟨h1, σ', h2⟩ | ⟨h1, σ', _, h2⟩
 ·rw [h1]; exact Jz ⟨σ', h2⟩
 ·rw [h1]; exact Zi h2 (Yq rfl), 1, rfl⟩
theorem JM {w : Nat -> Str} {l : List Nat} {k : Nat} (h : ∀ s ∈ l, w s = w k -> s = k) : w k ∈ l.map w ↔ k ∈ l := by
 constructor
 ·intro hm
  refine Zg (List.mem_map.mp hm) fun s hs e => ?_;rw [<- h s hs e]; exact hs
 ·exact List.mem_map_of_mem
theorem Zay {w : Nat -> Str} : ∀ {l : List Nat} {k : Nat}, (∀ s ∈ l, w s = w k -> s = k) -> k ∈ l -> (l.map w).idxOf (w k) = l.idxOf k
 | s :: l, k, h, hk => by
  rw [List.map_cons, List.idxOf_cons, List.idxOf_cons]
  by_cases e : s = k
  ·subst e; simp
  ·have h1 : (w s == w k) = false := beq_eq_false_iff_ne.mpr fun z => e (h s (.head _) z)
   have h2 : (s == k) = false := beq_eq_false_iff_ne.mpr e;rw [h1, h2];simp only [cond_false];rw [Zay (fun t ht => h t (List.mem_cons_of_mem _ ht)) ((List.mem_cons.mp hk).resolve_left fun z => e z.symm)]
theorem Zd8 {β : Type} (g g' : Nat -> β) : ∀ {l : List Nat} {k : Nat}, l.Nodup -> k ∈ l -> (∀ s ∈ l, s ≠ k -> g s = g' s) -> (l.map g).set (l.idxOf k) (g' k) = l.map g'
 | s :: l, k, hn, hk, h => by
  rw [List.idxOf_cons]
  by_cases e : s = k
  ·subst e
   simp only [beq_self_eq_true, cond_true, List.map_cons, List.set_cons_zero];congr 1;apply List.map_congr_left;intro t ht;exact h t (List.mem_cons_of_mem _ ht) fun z => (List.nodup_cons.mp hn).1 (z ▸ ht)
  ·have h2 : (s == k) = false := beq_eq_false_iff_ne.mpr e
   rw [h2];simp only [cond_false, List.map_cons, List.set_cons_succ];rw [Zd8 g g' (List.nodup_cons.mp hn).2 ((List.mem_cons.mp hk).resolve_left fun z => e z.symm) fun t ht hne => h t (List.mem_cons_of_mem _ ht) hne, h s (.head _) e]
theorem Zfe {w : Nat -> Str} {β : Nat -> V} {l : List Nat} {k : Nat} (h : ∀ s ∈ l, w s = w k -> s = k) (hk : k ∈ l) : Zas (l.map w) (l.map β) (w k) = some (β k) := by
 unfold Zas;rw [if_pos (by simpa using (JM h).mpr hk), Zay h hk, List.getElem?_map]
 have : l[l.idxOf k]? = some k := by
  rw [List.getElem?_eq_getElem (List.idxOf_lt_length_iff.mpr hk), List.getElem_idxOf]
 rw [this]; rfl
theorem ZaR {α β : Type} {f : α -> β} : ∀ {l : List α}, (∀ s ∈ l, ∀ t ∈ l, f s = f t -> s = t) -> l.Nodup -> (l.map f).Nodup := by
 intro xs_
 induction xs_ with
 | nil =>
  intro _ _;exact List.nodup_nil
 | cons a l ih_ =>
  intro h hn;rw [List.map_cons, List.nodup_cons];rw [List.nodup_cons] at hn;refine ⟨fun hm => ?_, ih_ (fun s hs t ht => h s (List.mem_cons_of_mem _ hs) t (List.mem_cons_of_mem _ ht)) hn.2⟩;refine Zg (List.mem_map.mp hm) fun t ht e => ?_;have := h t (List.mem_cons_of_mem _ ht) a (.head _) e;exact hn.1 (this ▸ ht)
noncomputable def Zci {A : Type} (w : Nat -> Str) (val : A -> V) (add : A -> A -> A) (f f' : Nat -> A) (o p : List Nat) : List Str × List V :=
 ((o ++ p.filter (· ∉ o)).map w, (o ++ p.filter (· ∉ o)).map fun s => val (if s ∈ p then add (f s) (f' s) else f s))
section
variable {A : Type} {w : Nat -> Str} {val : A -> V} {add : A -> A -> A} {f f' : Nat -> A} {o p : List Nat} {k : Nat}
theorem ZoB (ho : o.Nodup) (hp : p.Nodup) (hkp : k ∉ p) (hko : k ∈ o) (hwk : ∀ s ∈ o ++ p.filter (· ∉ o), w s = w k -> s = k) :
  Jr (Zci w val add f f' o p).1 (Zci w val add f f' o p).2 (w k) (val (add (f k) (f' k))) = Zci w val add f f' o (p ++ [k]) := by
 have hin : k ∈ o ++ p.filter (· ∉ o) := List.mem_append_left _ hko;have hkeys : (o ++ p.filter (· ∉ o)).Nodup := List.nodup_append.mpr ⟨ho, hp.filter _, fun a ha b hb e => of_decide_eq_true (List.mem_filter.mp hb).2 (e ▸ ha)⟩
 have hf : (p ++ [k]).filter (· ∉ o) = p.filter (· ∉ o) := by
  rw [List.filter_append, List.filter_cons_of_neg (by rw [decide_eq_true_eq]; exact fun z => z hko)];exact List.append_nil _
 unfold Zci;rw [hf, ZmJ ((JM hwk).mpr hin), Zay hwk hin];have hset := Zd8 (fun s => val (if s ∈ p then add (f s) (f' s) else f s)) (fun s => val (if s ∈ p ++ [k] then add (f s) (f' s) else f s)) hkeys hin (fun s _ hne => by simp [hne]);rw [show val (if k ∈ p ++ [k] then add (f k) (f' k) else f k) = _ from congrArg val (if_pos (List.mem_append_right _ (.head _)))] at hset;rw [hset]
theorem Zn8 (hz : add (f k) (f' k) = f' k) (hko : k ∉ o) (hnk : k ∉ o ++ p.filter (· ∉ o)) (hwk : ∀ s ∈ o ++ p.filter (· ∉ o), w s = w k -> s = k) :
  Jr (Zci w val add f f' o p).1 (Zci w val add f f' o p).2 (w k) (val (f' k)) = Zci w val add f f' o (p ++ [k]) := by
 have hf : (p ++ [k]).filter (· ∉ o) = p.filter (· ∉ o) ++ [k] := by
  rw [List.filter_append];simp [hko]
 unfold Zci;rw [hf, Zew fun z => hnk ((JM hwk).mp z), <- List.append_assoc];refine congr (congrArg Prod.mk (List.map_append (l₂ := [k])).symm) (Eq.trans ?_ (List.map_append (l₂ := [k])).symm);refine congr (congrArg _ (List.map_congr_left fun s hs => congrArg val ?_)) (congrArg (· :: []) ?_)
 ·have hne : s ≠ k := fun e => hnk (e ▸ hs)
  simp [hne]
 ·exact congrArg val ((if_pos (List.mem_append_right _ (.head _))).trans hz).symm
theorem ZlL (hcomb : ∀ (a b : A) (ks : List Str) (vs : List V) (k : Str), ks.contains k = true -> Zas ks vs k = some (val a) -> Jt (ks, vs) k (val b) = some (val (add a b)))
  (ho : o.Nodup) (hz : ∀ s, s ∉ o -> add (f s) (f' s) = f' s) (q : List Nat) :
  ∀ p : List Nat, (p ++ q).Nodup -> (∀ s ∈ o ++ (p ++ q), ∀ t ∈ o ++ (p ++ q), w s = w t -> s = t) -> (o ++ (p ++ q)).length <= Cap ->
   Zb2 ((q.map w).zip (q.map fun s => val (f' s))) (Zci w val add f f' o p) = some (Zci w val add f f' o (p ++ q)) := by
 induction q with
 | nil => intro p _ _ _; rw [List.append_nil]; rfl
 | cons k q ih =>
  intro p hn hw hc;have happ : p ++ k :: q = (p ++ [k]) ++ q := (List.append_assoc p [k] q).symm;obtain ⟨hp, _, hd⟩ := List.nodup_append.mp hn;have hkp : k ∉ p := fun h => hd k h k (.head _) rfl;have hsub : ∀ s ∈ o ++ p.filter (· ∉ o), s ∈ o ++ (p ++ k :: q) := fun s hs => (List.mem_append.mp hs).elim (List.mem_append_left _) fun h => List.mem_append_right _ (List.mem_append_left _ (List.mem_filter.mp h).1);have hwk : ∀ s ∈ o ++ p.filter (· ∉ o), w s = w k -> s = k := fun s hs => hw s (hsub s hs) k (List.mem_append_right _ (List.mem_append_right _ (.head _)))
  have hlen : Zu (Zci w val add f f' o p).1.length = true := by
   refine Yd (Nat.le_trans ?_ hc);unfold Zci;rw [List.length_map, List.length_append, List.length_append, List.length_append];have := List.length_filter_le (fun x => decide (x ∉ o)) p;lia
  have := ih (p ++ [k]);rw [<- happ] at this;rw [List.map_cons, List.map_cons, List.zip_cons_cons, <- this hn hw hc]
  by_cases hko : k ∈ o
  ·have hin : k ∈ o ++ p.filter (· ∉ o) := List.mem_append_left _ hko
   rw [Ze8 (a := Zci w val add f f' o p) (hcomb (f k) (f' k) _ _ _ (List.contains_iff_mem.mpr ((JM hwk).mpr hin)) (by rw [Zfe hwk hin, if_neg hkp])) hlen, ZoB ho hp hkp hko hwk]
  ·have hnk : k ∉ o ++ p.filter (· ∉ o) := fun z => (List.mem_append.mp z).elim hko fun z => hkp (List.mem_filter.mp z).1
   rw [Ze8 (a := Zci w val add f f' o p) (d := val (f' k)) (if_neg fun z => hnk ((JM hwk).mp (List.contains_iff_mem.mp z))) hlen, Zn8 (hz k hko) hko hnk hwk]
end
theorem Zk6 {A : Type} (w : Nat -> Str) (val : A -> V) (add : A -> A -> A) (f f' : Nat -> A) (o o' : List Nat)
  (hcomb : ∀ (a b : A) (ks : List Str) (vs : List V) (k : Str), ks.contains k = true -> Zas ks vs k = some (val a) -> Jt (ks, vs) k (val b) = some (val (add a b)))
  (ho : o.Nodup) (ho' : o'.Nodup) (hz : ∀ s, s ∉ o -> add (f s) (f' s) = f' s) (hz' : ∀ s, s ∉ o' -> add (f s) (f' s) = f s) (hw : ∀ s ∈ o ++ o', ∀ t ∈ o ++ o', w s = w t -> s = t) (hc : (o ++ o').length <= Cap) :
  Zb2 ((o'.map w).zip (o'.map fun s => val (f' s))) (o.map w, o.map fun s => val (f s)) =
   some ((o ++ o'.filter (· ∉ o)).map w, (o ++ o'.filter (· ∉ o)).map fun s => val (add (f s) (f' s))) := by
 have := ZlL (add := add) (f := f) (f' := f') hcomb ho hz o' [] ho' hw hc;unfold Zci at this;rw [List.filter_nil, List.append_nil, List.nil_append] at this;refine this.trans (congrArg some (Prod.ext rfl (List.map_congr_left fun s hs => congrArg val ?_)))
 by_cases h : s ∈ o'
 ·exact if_pos h
 ·rw [if_neg h, hz' s h]
theorem ZmX : ∀ (a b : Int) (ks : List Str) (vs : List V) (k : Str), ks.contains k = true -> Zas ks vs k = some (.int a) -> Jt (ks, vs) k (.int b) = some (.int (a + b)) := fun a b ks vs k h1 h2 => by
 unfold Jt;rw [if_pos h1, h2];rfl
theorem ZkN : ∀ (a b : Int × Int) (ks : List Str) (vs : List V) (k : Str), ks.contains k = true -> Zas ks vs k = some (.tup [.int a.1, .int a.2]) -> Jt (ks, vs) k (.tup [.int b.1, .int b.2]) = some (.tup [.int (b.1 + a.1), .int (b.2 + a.2)]) := fun a b ks vs k h1 h2 => by
 unfold Jt;rw [if_pos h1, h2];rfl
theorem Zbg {l : List Nat} {n : Nat} (hn : l.Nodup) (h : ∀ s ∈ l, s < n) : l.length <= n := by
 have : l ⊆ List.range n := fun s hs => List.mem_range.mpr (h s hs);have := List.Nodup.length_le_of_subset hn this
 simpa using this
theorem ZfD {A : Type} {w : Nat -> Str} (val : A -> V) (add : A -> A -> A) (f f' : Nat -> A) (o o' : List Nat)
  (hcomb : ∀ (a b : A) (ks : List Str) (vs : List V) (k : Str), ks.contains k = true -> Zas ks vs k = some (val a) -> Jt (ks, vs) k (val b) = some (val (add a b))) (hv : ∀ a, JO (val a) = true)
  (ho : o.Nodup) (ho' : o'.Nodup) (hl : ∀ s ∈ o, s < 3) (hl' : ∀ s ∈ o', s < 3) (hz : ∀ s, s ∉ o -> add (f s) (f' s) = f' s) (hz' : ∀ s, s ∉ o' -> add (f s) (f' s) = f s) (hw : ∀ s < 3, ∀ t < 3, w s = w t -> s = t) {B : Bx} :
  Ze B [.dict (o.map w) (o.map fun s => val (f s)), .dict (o'.map w) (o'.map fun s => val (f' s))] = some (.dict ((o ++ o'.filter (· ∉ o)).map w) ((o ++ o'.filter (· ∉ o)).map fun s => val (add (f s) (f' s))), B) := by
 have l1 := Zbg ho hl;have l2 := Zbg ho' hl'
 have hf : ∀ (l : List Nat) (g : Nat -> A), (l.map fun s => val (g s)).all JO = true := fun l g => by
  rw [List.all_map];exact List.all_eq_true.mpr fun s _ => hv _
 refine ZnE ⟨ZaR (fun s hs t ht => hw s (hl s hs) t (hl t ht)) ho, by rw [List.length_map, List.length_map], by rw [List.length_map]; exact Nat.le_trans l1 (by decide), hf _ _, hf _ _⟩
  (Zk6 w val add f f' o o' hcomb ho ho' hz hz' (fun s hs t ht => hw s ?_ t ?_) (by rw [List.length_append]; exact Nat.le_trans (Nat.add_le_add l1 l2) (by decide)))
 ·exact (List.mem_append.mp hs).elim (hl s) (hl' s)
 ·exact (List.mem_append.mp ht).elim (hl t) (hl' t)
noncomputable def vec (x y z : Int) : Nat -> Int
 | 0 => x
 | 1 => y
 | 2 => z
 | _ => 0
noncomputable def cdV (base : Nat) (o : List Nat) (f : Nat -> Int) : V := .dict (o.map (wd base)) (o.map fun s => .int (f s))
structure ZaD (o : List Nat) : Prop where
 is : o = [0, 1, 2] \/ o = [1, 0, 2]
theorem ZaD.nodup {o : List Nat} (h : ZaD o) : o.Nodup := by rcases h.is with rfl | rfl <;> decide
theorem ZaD.mem {o : List Nat} (h : ZaD o) {k : Nat} : k ∈ o ↔ k < 3 := by
 rcases h.is with rfl | rfl <;> simp <;> lia
theorem Zdj {base : Nat} (h : base <= 29) : ∀ s < 3, ∀ t < 3, wd base s = wd base t -> s = t := fun s hs t ht e => by
 have := Zee _ (show base + s < 32 by lia) _ (show base + t < 32 by lia) e;lia
theorem Zc7 {base : Nat} {o : List Nat} {f g : Nat -> Int} (h : ∀ s ∈ o, f s = g s) : cdV base o f = cdV base o g := by
 unfold cdV;rw [List.map_congr_left fun s hs => congrArg V.int (h s hs)]
theorem XI {base k : Nat} {o : List Nat} {f : Nat -> Int} {B : Bx} (hb : base <= 29) (ho : ZaD o) (hk : k < 3) : Zf B (cdV base o f) (.str (wd base k)) = some (.int (f k)) :=
 (Zb5 (p := (o.map (wd base), o.map fun s => V.int (f s))) rfl).trans (Zfe (β := fun s => V.int (f s)) (fun s hs e => Zdj hb s (ho.mem.mp hs) k hk e) (ho.mem.mpr hk))
theorem Zh6 {base : Nat} {o o' : List Nat} {f f' : Nat -> Int} {B : Bx} (hb : base <= 29) (hn : o.Nodup) (hn' : o'.Nodup) (hl : ∀ s ∈ o, s < 3) (hl' : ∀ s ∈ o', s < 3) (hz : ∀ s, s ∉ o -> f s = 0) (hz' : ∀ s, s ∉ o' -> f' s = 0) :
  Ze B [cdV base o f, cdV base o' f'] = some (cdV base (o ++ o'.filter (· ∉ o)) (fun s => f s + f' s), B) :=
 ZfD V.int (· + ·) f f' o o' ZmX (fun _ => rfl) hn hn' hl hl' (fun s hs => by rw [hz s hs]; exact Int.zero_add _) (fun s hs => by rw [hz' s hs]; exact Int.add_zero _) (Zdj hb)
theorem Zed {base : Nat} {o o' : List Nat} {f f' : Nat -> Int} {B : Bx} (hb : base <= 29) (ho : ZaD o) (hn' : o'.Nodup) (hl' : ∀ s ∈ o', s < 3) (hz : ∀ s, 3 <= s -> f s = 0) (hz' : ∀ s, s ∉ o' -> f' s = 0) :
  Ze B [cdV base o f, cdV base o' f'] = some (cdV base o (fun s => f s + f' s), B) := by
 have := Zh6 (B := B) hb ho.nodup hn' (fun s hs => ho.mem.mp hs) hl' (fun s hs => hz s (Nat.le_of_not_lt fun h => hs (ho.mem.mpr h))) hz';rw [List.filter_eq_nil_iff.mpr (fun s hs => by simpa using ho.mem.mpr (hl' s hs)), List.append_nil] at this;exact this
theorem ZcL {x y z : Int} : ∀ s, 3 <= s -> vec x y z s = 0 := fun s h => by
 match s, h with
 | s + 3, _ => rfl
noncomputable def xv (s : S6) : Nat -> Int := vec s.x0 s.x1 s.x2
theorem Zmc {a b c : Int} {base i : Nat} : dv (Zb7 a b c base i) = cdV base (([0, 1, 2] : List Nat).filter (Zcq a b c i)) (fun s => if s ∈ ([0, 1, 2] : List Nat).filter (Zcq a b c i) then Zif a b c i s else 0) := by
 unfold dv Zb7 cdV;rw [List.map_map];exact congrArg _ (List.map_congr_left fun s hs => congrArg V.int (if_pos hs).symm)
theorem Zqe {a b c : Int} {i j : Nat} (N : XK a b c) (hi : i < 3) (hj : j < 3) (h : j ∉ ([0, 1, 2] : List Nat).filter (Zcq a b c i)) : i ≠ j /\ ent a b c i j = 0 := by
 have hm : j ∈ ([0, 1, 2] : List Nat) := by simp; lia
 have hh : Zcq a b c i j = false := by
  cases hc : Zcq a b c i j with
  | false => rfl
  | true => exact absurd (List.mem_filter.mpr ⟨hm, hc⟩) h
 unfold Zcq at hh;rw [Bool.or_eq_false_iff, decide_eq_false_iff_not] at hh;refine ⟨fun e => by rw [e] at hh; simp at hh, ?_⟩;have hge : ∀ i < 3, ∀ j < 3, 0 <= ent a b c i j := Yv (Yv (Int.le_refl _) N.a0 N.b0) (Yv N.a0 (Int.le_refl _) N.c0) (Yv N.b0 N.c0 (Int.le_refl _));have := hge i hi j hj;lia
theorem Zjz {a b c : Int} {base i : Nat} {o : List Nat} {s : S6} {B : Bx} (N : XK a b c) (hb : base <= 29) (ho : ZaD o) (hi : i < 3) :
  Ze B [cdV base o (xv s), dv (Zb7 a b c base i)] = some (cdV base o (xv (Zan a b c i s)), B) := by
 rw [Zmc];refine (Zed (f := xv s) hb ho ((by decide : ([0, 1, 2] : List Nat).Nodup).filter _) (fun s hs => by have := (List.mem_filter.mp hs).1; simp at this; lia) ZcL (fun s hs => if_neg hs)).trans ?_;refine congrArg some (congrArg (·, B) (Zc7 fun k hk => ?_));have hk := ho.mem.mp hk
 have key : (if k ∈ ([0, 1, 2] : List Nat).filter (Zcq a b c i) then Zif a b c i k else 0) = if i = k then YM a b c i else -(ent a b c i k) := by
  by_cases h : k ∈ ([0, 1, 2] : List Nat).filter (Zcq a b c i)
  ·rw [if_pos h]
   unfold Zif
   by_cases e : i = k
   ·rw [if_pos e, if_pos (by rw [e]; simp)]
   ·rw [if_neg e, if_neg (by simp; lia)]
  ·obtain ⟨h1, h2⟩ := Zqe N hi hk h
   rw [if_neg h, if_neg h1, h2]; rfl
 rw [key];clear key
 revert i
 have r0 : YM a b c 0 = a + b := by show 0 + (a + (b + 0)) = _; lia
 have r1 : YM a b c 1 = a + c := by show a + (0 + (c + 0)) = _; lia
 have r2 : YM a b c 2 = b + c := by show b + (c + (0 + 0)) = _; lia
 intro i hi
 have t : ∀ i < 3, ∀ k < 3, xv s k + (if i = k then YM a b c i else -(ent a b c i k)) = xv (Zan a b c i s) k := by
  refine Yv (Yv ?_ rfl rfl) (Yv rfl ?_ rfl) (Yv rfl rfl ?_)
  ·rw [if_pos rfl, r0]; rfl
  ·rw [if_pos rfl, r1]; rfl
  ·rw [if_pos rfl, r2]; rfl
 exact t i hi k hk
noncomputable def prV (p : Int × Int) : V := .tup [.int p.1, .int p.2]
noncomputable def JR (way : Int) : V := .tc (.tup [.tup [.int 0, .int 1], .tup [.int 1, .int way]])
noncomputable def Zft (way : Int) (l r : Int × Int) : Int := if l.1 < r.1 then -1 else if r.1 < l.1 then 1 else if l.2 < r.2 then -way else if r.2 < l.2 then way else 0
theorem Zhw {way : Int} {l r : Int × Int} {B : Bx} : ZH B [JR way, prV l, prV r] = some (.int (Zft way l r), B) := by
 refine XW ?_;show (if l.1 < r.1 then some (V.int (-1)) else if r.1 < l.1 then some (V.int 1) else if l.2 < r.2 then some (V.int (-way)) else if r.2 < l.2 then some (V.int way) else some (V.int 0)) = _;unfold Zft
 split
 ·rfl
 ·split
  ·rfl
  ·split
   ·rfl
   ·split <;> rfl
theorem Zkq {way : Int} {l r : Int × Int} (hw : way = 1 \/ way = -1) : Zft way l r = (if ltW way r l = true then 1 else 0) - (if ltW way l r = true then 1 else 0) := by
 have e1 : ∀ {x y : Int × Int}, x.1 < y.1 -> ltW way x y = true := fun h => by unfold ltW; rw [decide_eq_true h]; rfl
 have e2 : ∀ {x y : Int × Int}, x.1 = y.1 -> ltW way x y = decide (way * x.2 < way * y.2) := fun h => by unfold ltW; rw [h, decide_eq_false (Int.lt_irrefl _), decide_eq_true rfl]; rfl
 have e3 : ∀ {x y : Int × Int}, x.1 < y.1 -> ltW way y x = false := fun h => Zje (e1 h) (Zcb _)
 have w : ∀ {x y : Int}, x < y -> (way = 1 /\ decide (way * x < way * y) = true /\ decide (way * y < way * x) = false) \/ (way = -1 /\ decide (way * x < way * y) = false /\ decide (way * y < way * x) = true) := fun {x y} h => by
  rcases hw with hw | hw <;> rw [hw]
  ·rw [Int.one_mul, Int.one_mul]; exact .inl ⟨rfl, decide_eq_true h, decide_eq_false (Int.lt_asymm h)⟩
  ·rw [Int.neg_mul, Int.neg_mul, Int.one_mul, Int.one_mul]; exact .inr ⟨rfl, decide_eq_false (Int.lt_asymm (Int.neg_lt_neg h)), decide_eq_true (Int.neg_lt_neg h)⟩
 unfold Zft;rcases Int.lt_trichotomy l.1 r.1 with h | h | h
 ·rw [if_pos h, e3 h, e1 h]; rfl
 ·rw [if_neg (h ▸ Int.lt_irrefl _), if_neg (h ▸ Int.lt_irrefl _), e2 h.symm, e2 h]
  rcases Int.lt_trichotomy l.2 r.2 with g | g | g
  ·rw [if_pos g]; rcases w g with ⟨e, f, f'⟩ | ⟨e, f, f'⟩ <;> rw [f, f', e] <;> rfl
  ·rw [g, if_neg (Int.lt_irrefl _), if_neg (Int.lt_irrefl _)]; exact (Int.sub_self _).symm
  ·rw [if_neg (Int.lt_asymm g), if_pos g]; rcases w g with ⟨e, f, f'⟩ | ⟨e, f, f'⟩ <;> rw [f, f', e] <;> rfl
 ·rw [if_neg (Int.lt_asymm h), if_pos h, e3 h, e1 h]; rfl
theorem Zng {way : Int} {l r : Int × Int} (hw : way = 1 \/ way = -1) : decide (Zft way l r < 0) = ltW way l r := by
 rw [Zkq hw]
 cases h : ltW way l r with
 | true => rw [Zje h (Zcb _)]; rfl
 | false => cases ltW way r l <;> rfl
structure RunP where
 (a b c : Int)
 base : Nat
 way : Int
 o : List Nat
 net : XK a b c
 hb : base <= 29
 hw : way = 1 \/ way = -1
 ho : ZaD o
noncomputable def RunP.step (P : RunP) (s : S6) : S6 := Zaq P.a P.b P.c P.way s
noncomputable def ZP (s : S6) : V := .list [.int s.t0, .int s.t1, .int s.t2]
noncomputable def Zad (s : S6) : V := .list ((ZR s).map prV)
noncomputable def Yx (P : RunP) (st : V) (n : Nat) (s : S6) (y : O6) : St :=
 [some (cdV P.base P.o (xv s)), some (YP P.a P.b P.c P.base), some (X2 P.base), some (.int (P.base : Int)), some (.int P.way), some (JR P.way), some st, some (.box n), some (.bool true), y.1, y.2.1, y.2.2.1, y.2.2.2.1, y.2.2.2.2.1, y.2.2.2.2.2]
section
variable {P : RunP} {st : V} {s : S6} {y : O6} {B : Bx} {n : Nat}
theorem ZdU {σ : St} : ∀ k < 3, Zf B (X2 P.base) (.int ((k : Nat) : Int)) = some (.str (wd P.base k)) := Yv rfl rfl rfl
theorem Zm3 : ((ZbT.filter fun x => decide (xv s (YF x) < 0)).map fun x => prV (xv s (YF x), (YF x : Int))) = (ZR s).map prV := by
 rw [Zbd fun k => decide (xv s k < 0), List.map_map];unfold ZR;rw [show [(s.x0, (0 : Int)), (s.x1, 1), (s.x2, 2)] = ([0, 1, 2] : List Nat).map fun k => (xv s k, (k : Int)) from rfl, List.filter_map, List.map_map];rfl
noncomputable abbrev Zjx : DE := Zy 2 (emL (D.t [D.b Zf (D.v 2) (D.b Zf (D.v 4) (D.v 1)), D.v 1])) (gs1 (I.val (D.c Zw [D.k (.int 3)])) (T.all [T.cmp vlt (D.b Zf (D.v 2) (D.b Zf (D.v 4) (D.v 1))) (D.k (.int 0))])) [] (.list [])
theorem Zeo : Zjx (Yx P st n s y) B = some (Zad s, B) := by
 have := Zac (f := D.t [D.b Zf (D.v 2) (D.b Zf (D.v 4) (D.v 1)), D.v 1]) (tp := false) (ifs := T.all [T.cmp vlt (D.b Zf (D.v 2) (D.b Zf (D.v 4) (D.v 1))) (D.k (.int 0))])
  (it := I.val (D.c Zw [D.k (.int 3)])) (σ := Yx P st n s y) (B := B) (B₁ := B) (xs := ZbT) (fun x => decide (xv s (YF x) < 0)) (fun x => prV (xv s (YF x), (YF x : Int))) rfl (fun x hx => by
   refine Zg (XU hx) fun k hk z_2 => ?_;subst z_2
   have h1 : D.b Zf (D.v 2) (D.b Zf (D.v 4) (D.v 1)) (none :: some (V.int (k : Int)) :: Yx P st n s y) B = some (.int (xv s k), B) :=
    Zh rfl (Zh rfl rfl (ZdU (σ := []) k hk)) (XI P.hb P.ho hk)
   exact ⟨ZfY (Z5 h1 rfl rfl), fun _ => YQ h1 rfl⟩) (by decide)
 rw [Zm3] at this;exact this
theorem ZjH {l : List V} : Y1 B (.list l) (.list []) = some l.isEmpty := by
 cases l with
 | nil => rfl
 | cons x l => rfl
theorem Zf7 (hB : B[n]? = some (ZP s)) (h10 : y.2.1 = some (Zad s)) : T.bool false [T.cmp Y1 (D.v 10) (D.list []), T.cmp Za5 (D.k (.int 0)) (D.v 7)] (Yx P st n s y) B = some (Xq s, B) := by
 refine ZaH (x := (ZR s).isEmpty) (y := decide (s.t0 ≠ 0) && decide (s.t1 ≠ 0) && decide (s.t2 ≠ 0)) ?_ fun _ => ?_
 ·refine Z5 (Zn (show _ = some (some (Zad s)) from congrArg some h10)) rfl ?_
  rw [show Zad s = .list ((ZR s).map prV) from rfl, ZjH]
  cases ZR s <;> rfl
 ·refine Z5 rfl (Zn rfl) ?_
  have : vin B (.int 0) (.box n) = some ((s.t0 == 0) || ((s.t1 == 0) || ((s.t2 == 0) || false))) := by
   have h1 : JB B (.box n) = none := by unfold JB; simp only [hB, ZP]
   have h2 : ZS B (.box n) = some [.int s.t0, .int s.t1, .int s.t2] := by unfold ZS; simp only [hB, ZP]
   show (match JB B (.box n) with | some (ks, _) => _ | none => ZkR B (.int 0) (.box n)) = _;rw [h1];show ZkR B (.int 0) (.box n) = _;unfold ZkR;rw [h2];rfl
  unfold Za5;rw [this];show some _ = some _;congr 1;simp only [Bool.or_false, Bool.not_or]
  have e : ∀ x : Int, (!(x == 0)) = decide (x ≠ 0) := fun x => by
   cases h : x == 0 with
   | true => simp at h; simp [h]
   | false => simp at h; simp [h]
  rw [e, e, e, Bool.and_assoc]
end
theorem Zta {α : Type} (x : α) : ∀ l : List α, l.length <= 2 -> ZeP (x :: l) (some 1) none = l
 | [], _ => rfl
 | [_], _ => by kernel_rfl
 | [_, _], _ => by kernel_rfl
 | _ :: _ :: _ :: _, h => by simp at h
theorem ZlC {s : S6} : (ZR s).length <= 3 := List.length_filter_le _ _
theorem Zl3 {σ : St} {B : Bx} {i : Nat} {x : V} {l : List V} (h : σ[i]? = some (some (.list (x :: l)))) (hl : l.length <= 2) : D.slice Zae (D.v i) (some (D.k (.int 1))) none σ B = some (.list l, B) := by
 unfold D.slice;rw [Zn h];show (Zae B (.list (x :: l)) (some 1) none).map (·, B) = _;have : Zae B (.list (x :: l)) (some 1) none = if Zu (x :: l).length then some (.list (ZeP (x :: l) (some 1) none)) else none := rfl;rw [this, if_pos (Yd (by simp only [List.length_cons]; unfold Cap; lia)), Zta x l hl];rfl
theorem ZhW {F : VF} {f : DE} {g k : DE} {σ : St} {B : Bx} {c d e r : V} (h1 : f σ B = some (.tc c, B)) (h2 : g σ B = some (d, B)) (h3 : k σ B = some (e, B)) (hF : F B [.tc c, d, e] = some (r, B)) : D.tcCmp F f [g, k] σ B = some (r, B) := by
 unfold D.tcCmp;simp [h1, D.row, h2, h3, hF]
theorem ZjE {B : Bx} {a b c d : Int} : Zh4 B (.tup [.int a, .int b]) (.tup [.int c, .int d]) = some (decide (a < c) || (decide (a = c) && decide (b < d))) := by
 show some (if a = c then decide (b < d) else decide (a < c)) = some _;congr 1
 by_cases h : a = c
 ·rw [if_pos h, h, decide_eq_false (Int.lt_irrefl _), decide_eq_true rfl]; rfl
 ·rw [if_neg h, decide_eq_false h, Bool.false_and, Bool.or_false]
theorem ZpB {f g : DE} {σ : St} {B : Bx} {d : V} (h : f σ B = some (.bool true, B)) (h2 : g σ B = some (d, B)) : D.boolop true [f, g] σ B = some (d, B) := by
 simp [D.boolop, h, h2, Ju]
section
variable {P : RunP} {st : V} {s : S6} {B : Bx} {n : Nat}
noncomputable abbrev Zj4 : DS := S.a 11 (D.ite (T.cmp vlt (D.tcCmp ZH (D.v 5) [D.v 12, D.v 11]) (D.k (.int 0))) (D.v 12) (D.v 11))
theorem Zlm {y1 y2 y5 y6 : Option V} {g c : Int × Int} : Zj4 (Yx P st n s (y1, y2, some (prV g), some (prV c), y5, y6)) B = some (.next, Yx P st n s (y1, y2, some (prV (XQ P.way g c)), some (prV c), y5, y6), B) := by
 have h : T.cmp vlt (D.tcCmp ZH (D.v 5) [D.v 12, D.v 11]) (D.k (.int 0)) (Yx P st n s (y1, y2, some (prV g), some (prV c), y5, y6)) B = some (ltW P.way c g, B) :=
  Z5 (ZhW (f := D.v 5) (c := .tup [.tup [.int 0, .int 1], .tup [.int 1, .int P.way]]) (d := prV c) (e := prV g) rfl rfl rfl Zhw) rfl (by
   show some (decide (Zft P.way c g < 0)) = _;rw [Zng P.hw])
 unfold XQ
 cases hl : ltW P.way c g with
 | true => rw [hl] at h; exact Zq ((ZiJ h).trans rfl)
 | false => rw [hl] at h; exact Zq ((Zjf h).trans rfl)
theorem ZlI {y1 y4 y5 y6 : Option V} {f : Int × Int} {l : List (Int × Int)} (hl : l.length <= 2) :
  ∃ y4', S.l (I.val (D.slice Zae (D.v 10) (some (D.k (.int 1))) none)) (fun d σ => some (σ.set 12 (some d))) Zj4 S.k (Yx P st n s (y1, some (.list ((f :: l).map prV)), some (prV f), y4, y5, y6)) B =
   some (.next, Yx P st n s (y1, some (.list ((f :: l).map prV)), some (prV (l.foldl (XQ P.way) f)), y4', y5, y6), B) := by
 obtain ⟨σ', B', h, e⟩ := Za9 (it := I.val (D.slice Zae (D.v 10) (some (D.k (.int 1))) none)) (tgt := fun d σ => some (σ.set 12 (some d))) (body := Zj4) (els := S.k) (B := B) (L := l) prV
  (fun Lc σ B' => ∃ g z, Lc.foldl (XQ P.way) g = l.foldl (XQ P.way) f /\ σ = Yx P st n s (y1, some (.list ((f :: l).map prV)), some (prV g), z, y5, y6) /\ B' = B)
  (fun c Lc σ B' ⟨g, z, h1, h2, h3⟩ => by
   rw [h2, h3];exact ⟨_, _, _, rfl, Zlm, XQ P.way g c, some (prV c), h1, rfl, rfl⟩)
  (YW (Zl3 (x := prV f) (l := l.map prV) rfl (by rw [List.length_map]; exact hl)) rfl) ⟨f, y4, rfl, rfl, rfl⟩
 refine YH h fun g z h1 h2 h3 => ?_;clear h;rw [e, h2, h3, <- h1];exact ⟨z, rfl⟩
noncomputable abbrev ZnR : DE := D.boolop true [D.v 8, D.b (bv Y1) (Zy 2 (emL (D.v 1)) (gs1 (I.val (D.v 10)) (T.all [T.cmp Zh4 (D.t [D.b Zf (D.v 1) (D.k (.int 0)), D.b Y2 (D.v 6) (D.b Zf (D.v 1) (D.k (.int 1)))]) (D.t [D.b Zf (D.v 13) (D.k (.int 0)), D.b Y2 (D.v 6) (D.b Zf (D.v 13) (D.k (.int 1)))])])) [] (.list [])) (D.list [])]
noncomputable def ZpF : V -> Int × Int
 | .tup [.int a, .int b] => (a, b)
 | _ => (0, 0)
theorem ZnT {y1 y4 y5 y6 : Option V} {m : Int × Int} {l : List (Int × Int)} (hl : l.length <= 3) (hm : ∀ e ∈ l, ltW P.way e m = false) : ZnR (Yx P st n s (y1, some (.list (l.map prV)), some (prV m), y4, y5, y6)) B = some (.bool true, B) := by
 have hs : small P.way = true := YU (by rcases P.hw with h | h <;> rw [h] <;> decide)
 have := Zac (f := D.v 1) (tp := false) (ifs := T.all [T.cmp Zh4 (D.t [D.b Zf (D.v 1) (D.k (.int 0)), D.b Y2 (D.v 6) (D.b Zf (D.v 1) (D.k (.int 1)))]) (D.t [D.b Zf (D.v 13) (D.k (.int 0)), D.b Y2 (D.v 6) (D.b Zf (D.v 13) (D.k (.int 1)))])])
  (it := I.val (D.v 10)) (σ := Yx P st n s (y1, some (.list (l.map prV)), some (prV m), y4, y5, y6)) (B := B) (B₁ := B) (xs := l.map prV) (fun x => ltW P.way (ZpF x) m) (fun x => x) rfl (fun x hx => by
   refine Zg (List.mem_map.mp hx) fun p hp z_2 => ?_;subst z_2;exact ⟨ZfY (Z5 (YQ rfl (Zh rfl rfl (Y5 hs))) (YQ rfl (Zh rfl rfl (Y5 hs))) ZjE), fun _ => rfl⟩) (by rw [List.length_map]; unfold Cap; lia)
 rw [List.filter_eq_nil_iff.mpr (fun x hx => by
  refine Zg (List.mem_map.mp hx) fun p hp z_2 => ?_;subst z_2;have : ltW P.way (ZpF (prV p)) m = false := hm p hp;rw [this]; simp)] at this
 exact ZpB rfl (Zh this rfl rfl)
theorem ZlN : ∀ (i : Nat), i < 3 -> Zf B (YP P.a P.b P.c P.base) (.int (i : Int)) = some (dv (Zb7 P.a P.b P.c P.base i)) :=
 Yv rfl rfl rfl
noncomputable def Ztf (i : Nat) (s : S6) : V := match i with
 | 0 => .list [.int (s.t0 + 1), .int s.t1, .int s.t2]
 | 1 => .list [.int s.t0, .int (s.t1 + 1), .int s.t2]
 | _ => .list [.int s.t0, .int s.t1, .int (s.t2 + 1)]
theorem ZoF : ∀ (i : Nat), i < 3 -> Ztf i s = ZP (Zan P.a P.b P.c i s) :=
 Yv rfl rfl rfl
theorem ZkC (hB : B[n]? = some (ZP s)) : ∀ (i : Nat), i < 3 -> ∃ t : Int, Zf B (.box n) (.int (i : Int)) = some (.int t) /\ Zck B n (.int (i : Int)) (.int (t + 1)) = some (B.set n (Ztf i s)) := by
 have h1 : ∀ i < 3, Zf B (.box n) (.int ((i : Nat) : Int)) = ([V.int s.t0, .int s.t1, .int s.t2] : List V)[i]? := fun i hi => ZeD hB hi (by lia)
 have h2 : ∀ (k : Int) (d : V), 0 <= k -> k < 3 -> Zck B n (.int k) d = some (B.set n (.list (([.int s.t0, .int s.t1, .int s.t2] : List V).set k.toNat d))) := fun k d h0 h3 => by
  unfold Zck;rw [hB];exact if_pos ⟨h0, h3, rfl⟩
 refine Yv ⟨s.t0, h1 0 (by decide), h2 0 _ (by decide) (by decide)⟩ ⟨s.t1, h1 1 (by decide), h2 1 _ (by decide) (by decide)⟩ ⟨s.t2, h1 2 (by decide), h2 2 _ (by decide) (by decide)⟩
end
section
variable {P : RunP} {st : V} {s : S6} {B : Bx} {n : Nat}
noncomputable abbrev Zty : DE := D.c Ze [D.v 0, D.b Zf (D.v 1) (D.b Zf (D.v 11) (D.k (.int 1)))]
noncomputable abbrev ZdR : DS := S.q (S.a 10 Zjx) (S.q (S.ite (T.bool false [T.cmp Y1 (D.v 10) (D.list []), T.cmp Za5 (D.k (.int 0)) (D.v 7)]) S.brk S.k) (S.q (S.a 11 (D.b Zf (D.v 10) (D.k (.int 0))))
 (S.q (S.l (I.val (D.slice Zae (D.v 10) (some (D.k (.int 1))) none)) (fun d σ => some (σ.set 12 (some d))) Zj4 S.k) (S.q (S.a 8 ZnR) (S.q (S.a 0 Zty) (S.augput ZbS (D.v 7) (D.b Zf (D.v 11) (D.k (.int 1))) (D.k (.int 1))))))))
theorem ZhI {y : O6} (hB : B[n]? = some (ZP s)) (hd : Xq s = true) : ∃ σ', ZdR (Yx P st n s y) B = some (.brk, σ', B) /\ ∃ z, z.2.1 = some (Zad s) /\ σ' = Yx P st n s z := by
 refine ⟨_, (ZU (Zq Zeo)).trans (Zo4 ((JU ?_).trans rfl)), (y.1, some (Zad s), y.2.2), rfl, rfl⟩;have := Zf7 (P := P) (st := st) (y := (y.1, some (Zad s), y.2.2)) hB rfl;rw [hd] at this;exact this
theorem Zpt {i : Nat} (hi : i < 3) (h : (Ze5 P.way (ZR s)).2 = (i : Int)) : P.step s = Zan P.a P.b P.c i s := by
 unfold RunP.step Zaq;rw [h]
theorem Zp1 (hd : Xq s = false) : ∃ f l, ZR s = f :: l /\ ∃ i < 3, (Ze5 P.way (ZR s)).2 = ((i : Nat) : Int) := by
 have hn : ZR s ≠ [] := fun e => by unfold Xq at hd; rw [e] at hd; simp at hd
 have hb := Zf6 (Zdb (way := P.way) hn).1
 cases hl : ZR s with
 | nil => exact absurd hl hn
 | cons f l =>
  refine ⟨f, l, rfl, ?_⟩;rw [<- hl];rcases hb.2 with e | e | e <;> rw [e]
  ·exact ⟨0, by decide, rfl⟩
  ·exact ⟨1, by decide, rfl⟩
  ·exact ⟨2, by decide, rfl⟩
theorem ZmF {y : O6} (hB : B[n]? = some (ZP s)) (hd : Xq s = false) : ∃ z, ZdR (Yx P st n s y) B = some (.next, Yx P st n (P.step s) z, B.set n (ZP (P.step s))) := by
 obtain ⟨f, l, hl, i, hi, hbi⟩ := Zp1 (P := P) hd;have hmin := (Zdb (way := P.way) (s := s) (by rw [hl]; simp)).2;have hlen := ZlC (s := s);have hstep : P.step s = Zan P.a P.b P.c i s := Zpt hi hbi;rw [hl] at hmin hlen hbi;have e1 : S.a 10 Zjx (Yx P st n s y) B = some (.next, Yx P st n s (y.1, some (Zad s), y.2.2), B) := Zq Zeo;have hov : Zad s = .list ((f :: l).map prV) := by unfold Zad; rw [hl]
 have t2 := Zf7 (P := P) (st := st) (y := (y.1, some (Zad s), y.2.2)) hB rfl;rw [hd] at t2;rw [hov] at e1 t2;obtain ⟨y4, e4⟩ := ZlI (P := P) (st := st) (s := s) (B := B) (n := n) (y1 := y.1) (y4 := y.2.2.2.1) (y5 := y.2.2.2.2.1) (y6 := y.2.2.2.2.2) (f := f) (l := l) (by simpa using hlen);have hm : Ze5 P.way (f :: l) = l.foldl (XQ P.way) f := rfl;rw [hm] at hmin hbi;generalize l.foldl (XQ P.way) f = m at *;have e5 := ZnT (P := P) (st := st) (s := s) (B := B) (n := n) (y1 := y.1) (y4 := y4) (y5 := y.2.2.2.2.1) (y6 := y.2.2.2.2.2) (m := m) (l := f :: l) hlen hmin;refine Zg (ZkC hB i hi) fun t g1 g2 => ?_;have hm2 : prV m = .tup [.int m.1, .int (i : Int)] := by unfold prV; rw [hbi]
 rw [hm2] at e4 e5;rw [hstep, <- ZoF i hi];refine ⟨(y.1, some (.list ((f :: l).map prV)), some (.tup [.int m.1, .int (i : Int)]), y4, y.2.2.2.2), ?_⟩;refine (ZU e1).trans ((ZU ((Xv t2).trans rfl)).trans ((ZU (Zq (i := 11) (d := prV f) (Zh rfl rfl (ZcY (k := 0) (by simp) (by decide))))).trans ((ZU e4).trans ((ZU (Zq e5)).trans ((ZU (Zq (Y7 rfl (Zh rfl (Zh rfl rfl rfl) (ZlN i hi)) (Zjz P.net P.hb P.ho hi)))).trans ?_)))));exact Zc0 rfl (Zh rfl rfl rfl) g1 rfl rfl g2
end
noncomputable def Zpa : List (List Nat) := [[79, 80, 84, 73, 77, 73, 90, 69, 68], [78, 69, 87, 76, 79, 67, 65, 76, 83], [86, 65, 82, 65, 82, 71, 83], [86, 65, 82, 75, 69, 89, 87, 79, 82, 68, 83], [78, 69, 83, 84, 69, 68], [71, 69, 78, 69, 82, 65, 84, 79, 82], [78, 79, 70, 82, 69, 69], [67, 79, 82, 79, 85, 84, 73, 78, 69], [73, 84, 69, 82, 65, 66, 76, 69, 95, 67, 79, 82, 79, 85, 84, 73, 78, 69], [65, 83, 89, 78, 67, 95, 71, 69, 78, 69, 82, 65, 84, 79, 82], [48, 120, 52, 48, 48], [48, 120, 56, 48, 48], [48, 120, 49, 48, 48, 48], [48, 120, 50, 48, 48, 48], [48, 120, 52, 48, 48, 48], [48, 120, 56, 48, 48, 48], [48, 120, 49, 48, 48, 48, 48], [48, 120, 50, 48, 48, 48, 48], [48, 120, 52, 48, 48, 48, 48], [48, 120, 56, 48, 48, 48, 48], [48, 120, 49, 48, 48, 48, 48, 48], [48, 120, 50, 48, 48, 48, 48, 48], [48, 120, 52, 48, 48, 48, 48, 48], [48, 120, 56, 48, 48, 48, 48, 48], [48, 120, 49, 48, 48, 48, 48, 48, 48], [48, 120, 50, 48, 48, 48, 48, 48, 48], [48, 120, 52, 48, 48, 48, 48, 48, 48], [48, 120, 56, 48, 48, 48, 48, 48, 48], [48, 120, 49, 48, 48, 48, 48, 48, 48, 48], [48, 120, 50, 48, 48, 48, 48, 48, 48, 48], [48, 120, 52, 48, 48, 48, 48, 48, 48, 48], [48, 120, 56, 48, 48, 48, 48, 48, 48, 48]]
noncomputable def wT (k : Nat) : Str := ⟨(Zpa.getD k []).toArray⟩
noncomputable def ZsM : Str := ⟨#[44, 32]⟩
noncomputable def ZiO : Str := ⟨#[46, 46, 46]⟩
noncomputable def ZqU : Str := ⟨#[48, 120, 48]⟩
theorem ZpU : (", " : Str) = ZsM := by decide +kernel
theorem Zkv : ("..." : Str) = ZiO := by decide +kernel
theorem Zob : ("0x0" : Str) = ZqU := by decide +kernel
theorem ZrG : (List.range 32).all (fun k => Yg k == wT k) = true := by decide +kernel
theorem Ztn {k : Nat} (h : k < 32) : Yg k = wT k := by
 have := ZrG;rw [List.all_eq_true] at this;exact eq_of_beq (this k (List.mem_range.mpr h))
noncomputable def Zbs (base : Nat) (g0 g1 g2 : Bool) : List Str := (if g0 then [wd base 0] else []) ++ ((if g1 then [wd base 1] else []) ++ (if g2 then [wd base 2] else []))
noncomputable def ZfP (base : Nat) (g0 g1 g2 : Bool) : Nat := (if g0 then 2 ^ base else 0) + ((if g1 then 2 ^ (base + 1) else 0) + (if g2 then 2 ^ (base + 2) else 0))
noncomputable def Jo (base : Nat) (g0 g1 g2 : Bool) : Str := if (Zbs base g0 g1 g2).isEmpty then "0x0" else Txt.join ", " (Zbs base g0 g1 g2)
noncomputable def Zgs (base : Nat) (g0 g1 g2 : Bool) : List Str := (if g0 then [wT base] else []) ++ ((if g1 then [wT (base + 1)] else []) ++ (if g2 then [wT (base + 2)] else []))
noncomputable def Zh3 (base : Nat) (g0 g1 g2 : Bool) : Str := if (Zgs base g0 g1 g2).isEmpty then ZqU else Txt.join ZsM (Zgs base g0 g1 g2)
theorem Zaz {base k : Nat} (h : base <= 29) (hk : k < 3) : wd base k = wT (base + k) := Ztn (by lia)
theorem Zpk {base : Nat} (h : base <= 29) (g0 g1 g2 : Bool) : Zbs base g0 g1 g2 = Zgs base g0 g1 g2 := by
 unfold Zbs Zgs;rw [Zaz h (by decide), Zaz h (by decide), Zaz h (by decide), Nat.add_zero]
theorem Zjm {base : Nat} (h : base <= 29) (g0 g1 g2 : Bool) : Jo base g0 g1 g2 = Zh3 base g0 g1 g2 := by
 unfold Jo Zh3;rw [Zpk h, ZpU, Zob]
noncomputable def Zlf (f : Nat -> Bool -> Bool -> Bool -> Bool) : Bool := (List.range 30).all fun base => [true, false].all fun g0 => [true, false].all fun g1 => [true, false].all fun g2 => f base g0 g1 g2
theorem ZdV {f : Nat -> Bool -> Bool -> Bool -> Bool} (h : Zlf f = true) {base : Nat} (hb : base <= 29) (g0 g1 g2 : Bool) : f base g0 g1 g2 = true := by
 unfold Zlf at h;rw [List.all_eq_true] at h;have h := h base (List.mem_range.mpr (by lia));rw [List.all_eq_true] at h;have h := h g0 (by cases g0 <;> simp);rw [List.all_eq_true] at h;have h := h g1 (by cases g1 <;> simp);rw [List.all_eq_true] at h;exact h g2 (by cases g2 <;> simp)
theorem Zjl : Zlf (fun base g0 g1 g2 => (Xg (ZfP base g0 g1 g2) == (if g0 then [base] else []) ++ ((if g1 then [base + 1] else []) ++ (if g2 then [base + 2] else []))) && Nat.blt (ZfP base g0 g1 g2) (2 ^ 32) && Nat.beq (ZfP base g0 g1 g2) 0 == !(g0 || g1 || g2)) = true := by decide +kernel
theorem Zpo : (List.range 30).all (fun base => ZaW ZiO (Txt.join ZiO [wT base, wT (base + 1), wT (base + 2)]) && ZaW ZiO ((wT base ++ ZiO) ++ wT (base + 2))) = true := by decide +kernel
theorem ZpZ : Zlf (fun base g0 g1 g2 => Zu ((Txt.join ZiO [wT base, wT (base + 1), wT (base + 2)]).length + 2) && Zu (((wT base ++ ZiO) ++ wT (base + 2)).length + 2) && Zu (Zh3 base g0 g1 g2).length && [wT base, wT (base + 1), wT (base + 2)].all (fun w => Zu w.length)) = true := by decide +kernel
theorem Znb : Zlf (fun base g0 g1 g2 => ZpN (Zh3 base g0 g1 g2) [wT base, wT (base + 1), wT (base + 2)] == (g0 && g1 && g2)) = true := by decide +kernel
theorem Zn3 : Zlf (fun base g0 g1 g2 => ZpN (Zh3 base g0 g1 g2) [wT base, wT (base + 2)] == (g0 && g2)) = true := by decide +kernel
theorem Zs9 : ls ("..." : Str) = 46 :: [46, 46] := by rfl
theorem Zgb : Builtin.Str.strKind "..." = 1 := by decide +kernel
theorem Zq2 {base : Nat} (h : base <= 29) : Txt.split (Txt.join "..." [wd base 0, wd base 1, wd base 2]) "..." = [wd base 0, wd base 1, wd base 2] :=
 Zej Zs9 Zgb (by simp) fun w hw => by
  simp only [List.mem_cons, List.not_mem_nil, or_false] at hw;rcases hw with rfl | rfl | rfl <;> exact Zec _ (by lia)
theorem Ztj (x y s : Str) : Txt.join s [x, y] = (x ++ s) ++ y := by
 apply ZgD;rw [ZcM, Zfc, Zfc];rfl
theorem Zsm {base : Nat} (h : base <= 29) : Txt.split ((wd base 0 ++ "...") ++ wd base 2) "..." = [wd base 0, wd base 2] := by
 rw [<- Ztj]
 exact Zej Zs9 Zgb (by simp) fun w hw => by
  simp only [List.mem_cons, List.not_mem_nil, or_false] at hw;rcases hw with rfl | rfl <;> exact Zec _ (by lia)
theorem Zmk {want got : Str} {ws : List Str} {b : Bool} (h1 : Zu (want.length + 2) = true) (h2 : Zu got.length = true) (h3 : ZaW "..." want = true) (h4 : Txt.split want "..." = ws) (h5 : 2 <= ws.length /\ ws.length <= 3) (h6 : (ws.all fun w => Zu w.length) = true) (h7 : ZpN got ws = b) : ZeX want got = some (.bool b) := by
 unfold ZeX;rw [if_pos ⟨h1, h2⟩, if_neg (by rw [h3]; simp), h4, if_pos ⟨h5.1, Nat.le_trans h5.2 (by decide), h6⟩, h7]
section
variable {base : Nat} {g0 g1 g2 : Bool}
theorem ZoR (h : base <= 29) (g0 g1 g2 : Bool) : Zu ((Txt.join "..." [wd base 0, wd base 1, wd base 2]).length + 2) = true /\ Zu (((wd base 0 ++ "...") ++ wd base 2).length + 2) = true /\ Zu (Jo base g0 g1 g2).length = true /\ ([wd base 0, wd base 1, wd base 2].all fun w => Zu w.length) = true := by
 have := ZdV ZpZ h g0 g1 g2;rw [Bool.and_eq_true, Bool.and_eq_true, Bool.and_eq_true] at this;rw [Zjm h, Zaz h (by decide), Zaz h (by decide), Zaz h (by decide), Zkv, Nat.add_zero];exact ⟨this.1.1.1, this.1.1.2, this.1.2, this.2⟩
theorem Zna (h : base <= 29) : ZaW "..." (Txt.join "..." [wd base 0, wd base 1, wd base 2]) = true /\ ZaW "..." ((wd base 0 ++ "...") ++ wd base 2) = true := by
 have := Zpo;rw [List.all_eq_true] at this;have := this base (List.mem_range.mpr (by lia));rw [Bool.and_eq_true] at this;rw [Zaz h (by decide), Zaz h (by decide), Zaz h (by decide), Zkv, Nat.add_zero];exact this
theorem Ztq (h : base <= 29) (g0 g1 g2 : Bool) : ZeX (Txt.join "..." [wd base 0, wd base 1, wd base 2]) (Jo base g0 g1 g2) = some (.bool (g0 && g1 && g2)) := by
 have l := ZoR h g0 g1 g2;refine Zmk l.1 l.2.2.1 (Zna h).1 (Zq2 h) ⟨by simp, by simp⟩ l.2.2.2 ?_;rw [Zjm h, Zaz h (by decide), Zaz h (by decide), Zaz h (by decide), Nat.add_zero];exact eq_of_beq (ZdV Znb h g0 g1 g2)
theorem Ztp (h : base <= 29) (g0 g1 g2 : Bool) : ZeX ((wd base 0 ++ "...") ++ wd base 2) (Jo base g0 g1 g2) = some (.bool (g0 && g2)) := by
 have l := ZoR h g0 g1 g2;refine Zmk l.2.1 l.2.2.1 (Zna h).2 (Zsm h) ⟨by simp, by simp⟩ ?_ ?_
 ·have := l.2.2.2
  simp only [List.all_cons, List.all_nil, Bool.and_true, Bool.and_eq_true] at this ⊢;exact ⟨this.1, this.2.2⟩
 ·rw [Zjm h, Zaz h (by decide), Zaz h (by decide), Nat.add_zero]
  exact eq_of_beq (ZdV Zn3 h g0 g1 g2)
theorem Zhx (h : base <= 29) (g0 g1 g2 : Bool) : Zap (ZfP base g0 g1 g2) = Jo base g0 g1 g2 /\ ZfP base g0 g1 g2 < 2 ^ 32 := by
 have := ZdV Zjl h g0 g1 g2;rw [Bool.and_eq_true, Bool.and_eq_true, beq_iff_eq, beq_iff_eq] at this;obtain ⟨⟨h1, h2⟩, h3⟩ := this;refine ⟨?_, Nat.blt_eq.mp h2⟩;unfold Zap;rw [h1];clear h1 h2
 cases hg : g0 || g1 || g2 with
 | false =>
  cases g0 <;> cases g1 <;> cases g2 <;> first | rfl | (cases hg; done)
 | true =>
  refine (if_neg fun e => ?_).trans ?_
  ·rw [e, hg] at h3; exact nomatch h3
  ·cases g0 <;> cases g1 <;> cases g2 <;> first | rfl | (cases hg; done)
end
section
variable {P : RunP} {st : V} {s : S6} {B : Bx} {n : Nat}
noncomputable def RunP.go (P : RunP) (m : Nat) (s : S6) : S6 := goS P.a P.b P.c P.way m s
noncomputable abbrev Zo6 : V -> St -> Bx -> Option Out := fun x σ B => match (fun d σ => some (σ.set 9 (some d))) x σ with | none => none | some σ₁ => ZdR σ₁ B
theorem Zil {x : V} (h : B[n]? = some x) : B.set n x = B := by
 apply List.ext_getElem?;intro i;rw [List.getElem?_set]
 split
 ·rename_i e
  subst e
  split
  ·exact h.symm
  ·rename_i hn; rw [List.getElem?_eq_none (Nat.le_of_not_lt hn)]
 ·rfl
theorem ZnH : ∀ (m : Nat) (xs : List V) (s : S6) (B : Bx) (y : O6) (fuel : Nat), xs.length = m + 1 -> m + 1 < fuel -> B[n]? = some (ZP s) -> Xq (P.go m s) = true ->
  ∃ z, z.2.1 = some (Zad (P.go m s)) /\ Y4 Zo6 S.k fuel (.seq xs) (Yx P st n s y) B = some (.next, Yx P st n (P.go m s) z, B.set n (ZP (P.go m s))) := by
 intro m
 induction m with
 | zero =>
  intro xs s B y fuel hx hf hB hd
  obtain ⟨x, xs, rfl⟩ : ∃ x l, xs = x :: l := by cases xs with
   | nil => cases hx
   | cons x l => exact ⟨x, l, rfl⟩
  obtain ⟨fuel, rfl⟩ : ∃ k, fuel = k + 1 := ⟨fuel - 1, by lia⟩;obtain ⟨σ', e, z, hz, rfl⟩ := ZhI (P := P) (st := st) (y := (some x, y.2)) hB hd;refine ⟨z, hz, ?_⟩;show _ = some (Fl.next, Yx P st n s z, B.set n (ZP s));rw [Zil hB];exact Jd .brk e
 | succ m ih =>
  intro xs s B y fuel hx hf hB hd
  obtain ⟨x, xs, rfl⟩ : ∃ x l, xs = x :: l := by cases xs with
   | nil => cases hx
   | cons x l => exact ⟨x, l, rfl⟩
  obtain ⟨fuel, rfl⟩ : ∃ k, fuel = k + 1 := ⟨fuel - 1, by lia⟩;have hgo : P.go (m + 1) s = if Xq s then s else P.go m (P.step s) := rfl
  cases hs : Xq s with
  | true =>
   rw [hs, if_pos rfl] at hgo;rw [hgo] at hd ⊢;obtain ⟨σ', e, z, hz, rfl⟩ := ZhI (P := P) (st := st) (y := (some x, y.2)) hB hd;refine ⟨z, hz, ?_⟩;rw [Zil hB];exact Jd .brk e
  | false =>
   rw [hs, if_neg (by simp)] at hgo;rw [hgo] at hd ⊢;obtain ⟨z, e⟩ := ZmF (P := P) (st := st) (y := (some x, y.2)) hB hs;have hn : n < B.length := (List.getElem?_eq_some_iff.mp hB).1;refine Zg (ih xs (P.step s) (B.set n (ZP (P.step s))) z fuel (by simpa using hx) (by lia) (by rw [List.getElem?_set_self hn]) hd) fun z' hz' e' => ?_;rw [List.set_set] at e';exact ⟨z', hz', (Jd .next e).trans e'⟩
noncomputable def gB (t : Int) : Bool := decide (t > 0)
noncomputable def gS (s : S6) (k : Nat) : Bool := gB (vec s.t0 s.t1 s.t2 k)
noncomputable abbrev ZqW : DE := Zy 2 (emL (D.b Zfj (D.k (.int 1)) (D.b YV (D.v 5) (D.v 1)))) (gs1 (I.val (D.c Zw [D.k (.int 3)])) (T.all [T.cmp vgt (D.b Zf (D.v 9) (D.v 1)) (D.k (.int 0))])) [] (.list [])
theorem Zlt (hB : B[n]? = some (ZP s)) : ∀ k < 3, Zf B (.box n) (.int ((k : Nat) : Int)) = some (.int (vec s.t0 s.t1 s.t2 k)) := by
 have h1 : ∀ i < 3, Zf B (.box n) (.int ((i : Nat) : Int)) = ([V.int s.t0, .int s.t1, .int s.t2] : List V)[i]? := fun i hi => ZeD hB hi (by lia);exact Yv (h1 0 (by decide)) (h1 1 (by decide)) (h1 2 (by decide))
theorem ZrB {i : Nat} (h : i <= 100) : Zfj B (.int 1) (.int (i : Int)) = some (.int ((2 ^ i : Nat) : Int)) := by
 have h1 : (decide (0 <= (i : Int)) && decide ((i : Int) <= 1000000) && small 1) = true := by
  have : small 1 = true := by decide
  rw [this];simp only [Bool.and_true, Bool.and_eq_true, decide_eq_true_eq]; lia
 show (if (decide (0 <= (i : Int)) && decide ((i : Int) <= 1000000) && small 1) = true then some (V.int (1 * 2 ^ (i : Int).toNat)) else none) = _;rw [if_pos h1, Int.toNat_natCast, Int.one_mul];simp
theorem Znx {y : O6} (hB : B[n]? = some (ZP s)) : D.c YO [ZqW] (Yx P st n s y) B = some (.int (ZfP P.base (gS s 0) (gS s 1) (gS s 2) : Nat), B) := by
 have := Zac (f := D.b Zfj (D.k (.int 1)) (D.b YV (D.v 5) (D.v 1))) (tp := false) (ifs := T.all [T.cmp vgt (D.b Zf (D.v 9) (D.v 1)) (D.k (.int 0))]) (it := I.val (D.c Zw [D.k (.int 3)])) (σ := Yx P st n s y) (B := B) (B₁ := B) (xs := ZbT)
  (fun x => gS s (YF x)) (fun x => .int ((2 ^ (P.base + YF x) : Nat) : Int)) rfl (fun x hx => by
   refine Zg (XU hx) fun k hk z_2 => ?_;subst z_2;exact ⟨ZfY (Z5 (Zh rfl rfl (Zlt hB k hk)) rfl rfl), fun _ => Zh rfl (Zh (c := .int ((P.base + k : Nat) : Int)) rfl rfl rfl) (ZrB (by have := P.hb; lia))⟩) (by decide)
 rw [Zbd, List.map_map] at this;refine ZE this (XW ?_);show (YR (((([0, 1, 2] : List Nat).filter (gS s)).map ((fun x => V.int ((2 ^ (P.base + YF x) : Nat) : Int)) ∘ fun (k : Nat) => V.int (k : Int))))).map (fun ns => V.int ns.sum) = _
 have e : ((([0, 1, 2] : List Nat).filter (gS s)).map ((fun x => V.int ((2 ^ (P.base + YF x) : Nat) : Int)) ∘ fun (k : Nat) => V.int (k : Int))) = ((([0, 1, 2] : List Nat).filter (gS s)).map fun k => ((2 ^ (P.base + k) : Nat) : Int)).map V.int := by
  rw [List.map_map]; rfl
 rw [e, Za8];show some (V.int _) = some (V.int _);congr 2
 have hc : ∀ f : Nat -> Bool, (([0, 1, 2] : List Nat).filter f).map (fun k => ((2 ^ (P.base + k) : Nat) : Int)) = (if f 0 then [((2 ^ P.base : Nat) : Int)] else []) ++ ((if f 1 then [((2 ^ (P.base + 1) : Nat) : Int)] else []) ++ (if f 2 then [((2 ^ (P.base + 2) : Nat) : Int)] else [])) := fun f => by
  rw [List.filter_cons, List.filter_cons, List.filter_cons, List.filter_nil]
  cases f 0 <;> cases f 1 <;> cases f 2 <;> rfl
 rw [hc];have hb : ∀ (g : Bool) (x : Nat), (if g = true then [((x : Nat) : Int)] else []).sum = ((if g = true then x else 0 : Nat) : Int) := fun g x => by cases g <;> simp
 rw [List.sum_append, List.sum_append, hb, hb, hb];rfl
theorem Zpy {y : O6} (hB : B[n]? = some (ZP s)) : D.c ZB [D.c YO [ZqW]] (Yx P st n s y) B = some (.str (Jo P.base (gS s 0) (gS s 1) (gS s 2)), B) := by
 obtain ⟨h1, h2⟩ := Zhx P.hb (gS s 0) (gS s 1) (gS s 2);rw [<- h1];exact ZE (Znx hB) (Zjs h2)
end
theorem ZhG {f g : DE} {σ : St} {B : Bx} {d e : V} (h1 : f σ B = some (d, B)) (h2 : g σ B = some (e, B)) : D.list [f, g] σ B = some (.list [d, e], B) := by
 simp [D.list, D.row, h1, h2]
theorem Zqm {f1 f2 f3 f4 f5 f6 f7 : DE} {σ : St} {B : Bx} {d1 d2 d3 d4 d5 d6 d7 : V} (h1 : f1 σ B = some (d1, B)) (h2 : f2 σ B = some (d2, B)) (h3 : f3 σ B = some (d3, B)) (h4 : f4 σ B = some (d4, B)) (h5 : f5 σ B = some (d5, B)) (h6 : f6 σ B = some (d6, B)) (h7 : f7 σ B = some (d7, B)) :
  D.t [f1, f2, f3, f4, f5, f6, f7] σ B = some (.tup [d1, d2, d3, d4, d5, d6, d7], B) := by
 simp [D.t, D.row, h1, h2, h3, h4, h5, h6, h7]
section
variable {P : RunP} {st : V} {s : S6} {B : Bx} {n : Nat}
noncomputable def ZfR (base : Nat) : Str := Txt.join "..." [wd base 0, wd base 1, wd base 2]
noncomputable def Zg4 (base : Nat) : Str := (wd base 0 ++ "...") ++ wd base 2
noncomputable abbrev Ziv : DE := D.list [D.meth Xj Zbm (D.k (.str "...")) [D.v 2], D.b YV (D.b YV (D.b Zf (D.v 2) (D.k (.int 0))) (D.k (.str "..."))) (D.b Zf (D.v 2) (D.k (.int 2)))]
noncomputable abbrev ZsE : DE := Zy 2 (emL (D.c Zr [D.v 1, D.v 15])) (gs1 (I.val Ziv) (T.all [])) [] (.list [])
theorem Zel {base k : Nat} (h : base <= 29) (hk : k < 3) : (wd base k).length <= 18 := Zh5 _ (by lia)
theorem ZeS : ("..." : Str).length = 3 := by rfl
theorem Zoz {y : O6} : Ziv (Yx P st n s y) B = some (.list [.str (ZfR P.base), .str (Zg4 P.base)], B) := by
 have l0 := Zel P.hb (show 0 < 3 by decide);have l1 := Zel P.hb (show 1 < 3 by decide);have l2 := Zel P.hb (show 2 < 3 by decide)
 have hj : Zbm B [.str "...", X2 P.base] = some (.str (ZfR P.base), B) := ZcU (l := [wd P.base 0, wd P.base 1, wd P.base 2]) rfl (by
  simp only [List.map_cons, List.map_nil, List.sum_cons, List.sum_nil, List.length_cons, List.length_nil, ZeS]; lia)
 have h1 : D.meth Xj Zbm (D.k (.str "...")) [D.v 2] (Yx P st n s y) B = some (.str (ZfR P.base), B) := Zam rfl rfl rfl hj
 have h2 : D.b YV (D.b YV (D.b Zf (D.v 2) (D.k (.int 0))) (D.k (.str "..."))) (D.b Zf (D.v 2) (D.k (.int 2))) (Yx P st n s y) B = some (.str (Zg4 P.base), B) :=
  Zh (Zh (Zh rfl rfl rfl) rfl (by rw [ZdN, if_pos (Yd (by rw [ZeS]; unfold Cap; lia))])) (Zh rfl rfl rfl) (by rw [ZdN, if_pos (Yd (by rw [ZoW, ZeS]; unfold Cap; lia))]; rfl)
 exact ZhG h1 h2
noncomputable def Zbi (base : Nat) (s : S6) : V := .list [.bool (gS s 0 && gS s 1 && gS s 2), .bool (gS s 0 && gS s 2)]
theorem ZpO {y : O6} (h13 : y.2.2.2.2.1 = some (.str (Jo P.base (gS s 0) (gS s 1) (gS s 2)))) : ZsE (Yx P st n s y) B = some (Zbi P.base s, B) := by
 have e3 := Ztq P.hb (gS s 0) (gS s 1) (gS s 2);have e2 := Ztp P.hb (gS s 0) (gS s 1) (gS s 2)
 have := Zac (f := D.c Zr [D.v 1, D.v 15]) (tp := false) (ifs := T.all []) (it := I.val Ziv) (σ := Yx P st n s y) (B := B) (B₁ := B) (xs := [.str (ZfR P.base), .str (Zg4 P.base)])
  (fun _ => true) (fun x => match x with | .str w => (ZeX w (Jo P.base (gS s 0) (gS s 1) (gS s 2))).getD .none | _ => .none) (YW Zoz rfl) (fun x hx => by
   have hv : ∀ w d, ZeX w (Jo P.base (gS s 0) (gS s 1) (gS s 2)) = some d -> D.c Zr [D.v 1, D.v 15] (none :: some (.str w) :: Yx P st n s y) B = some (d, B) := fun w d hd =>
    Y7 rfl (Zn (show _ = some (some (V.str (Jo P.base (gS s 0) (gS s 1) (gS s 2)))) from congrArg some h13)) (XW hd)
   refine ⟨rfl, fun _ => ?_⟩;simp only [List.mem_cons, List.not_mem_nil, or_false] at hx;rcases hx with rfl | rfl
   ·exact (hv _ _ e3).trans (by show some _ = some (_, _); simp only [ZfR, e3]; rfl)
   ·exact (hv _ _ e2).trans (by show some _ = some (_, _); simp only [Zg4, e2]; rfl)) (show 2 <= Cap by decide)
 rw [List.filter_eq_self.mpr (fun _ _ => rfl)] at this;refine this.trans ?_;simp only [List.map_cons, List.map_nil, ZfR, Zg4, e3, e2];rfl
end
structure Yr extends RunP where
 (p q r : Int)
 start : J0 p q r
noncomputable def Yr.fin (R : Yr) : S6 := Zag R.a R.b R.c R.way R.p R.q R.r
noncomputable def YB (R : Yr) : V := .tup [Zbi R.base R.fin, .str (Jo R.base (gS R.fin 0) (gS R.fin 1) (gS R.fin 2)), .list [.int R.p, .int R.q, .int R.r], ZP R.fin, .bool (!(ZR R.fin).isEmpty), cdV R.base R.o (xv R.fin), .bool true]
noncomputable def Yr.enc (R : Yr) : List V := [cdV R.base R.o (vec R.p R.q R.r), YP R.a R.b R.c R.base, X2 R.base, .int (R.base : Int), .int R.way]
noncomputable def Z4 : VF := ZbA Yr.enc YB
theorem ZmZ {base : Nat} {o : List Nat} {f : Nat -> Int} {n m : Nat} {B : Bx} : frz n B (m + 2) (cdV base o f) = some (cdV base o f) := by
 have : cdV base o f = dv (o.map (wd base), o.map f) := by unfold cdV dv; rw [List.map_map]; rfl
 rw [this];exact Zml _
theorem Zgf : Runs (ZaS Zr Ze ZB ZH) JA ["coins", "loans", "words", "base", "way"] Z4 := Zds (fun _ => rfl) fun B R => by
 have hB : ∀ x : V, (B ++ [x])[B.length]? = some x := fun x => by simp
 have hend := (ZbK (way := R.way) R.net R.start).2;refine ⟨[ZP R.fin], .tup [Zbi R.base R.fin, .str (Jo R.base (gS R.fin 0) (gS R.fin 1) (gS R.fin 2)), .list [.int R.p, .int R.q, .int R.r], .box B.length, .bool (!(ZR R.fin).isEmpty), cdV R.base R.o (xv R.fin), .bool true], 5, ?_, ?_⟩
 ·have e1 : S.a 5 (D.tcNew (D.t [D.t [D.k (.int 0), D.k (.int 1)], D.t [D.k (.int 1), D.v 4]])) (JS JA ["coins", "loans", "words", "base", "way"] R.enc) B =
    some (.next, [some (cdV R.base R.o (vec R.p R.q R.r)), some (YP R.a R.b R.c R.base), some (X2 R.base), some (.int (R.base : Int)), some (.int R.way), some (JR R.way), none, none, none, none, none, none, none, none, none], B) := rfl
  refine Zi e1 ?_
  have e2 : Zy 2 (emL (D.b Zf (D.v 2) (D.v 1))) (gs1 (I.val (D.v 2)) (T.all [])) [] (.list []) [some (cdV R.base R.o (vec R.p R.q R.r)), some (YP R.a R.b R.c R.base), some (X2 R.base), some (.int (R.base : Int)), some (.int R.way), some (JR R.way), none, none, none, none, none, none, none, none, none] B =
    some (.list [.int R.p, .int R.q, .int R.r], B) := by
   have := Zac (f := D.b Zf (D.v 2) (D.v 1)) (tp := false) (ifs := T.all []) (it := I.val (D.v 2)) (σ := [some (cdV R.base R.o (vec R.p R.q R.r)), some (YP R.a R.b R.c R.base), some (X2 R.base), some (.int (R.base : Int)), some (.int R.way), some (JR R.way), none, none, none, none, none, none, none, none, none]) (B := B) (B₁ := B)
    (xs := [.str (wd R.base 0), .str (wd R.base 1), .str (wd R.base 2)]) (fun _ => true) (fun x => (Zf B (cdV R.base R.o (vec R.p R.q R.r)) x).getD .none) rfl (fun x hx => by
     refine ⟨rfl, fun _ => ?_⟩
     have h : ∀ k < 3, x = .str (wd R.base k) -> D.b Zf (D.v 2) (D.v 1) (none :: some x :: [some (cdV R.base R.o (vec R.p R.q R.r)), some (YP R.a R.b R.c R.base), some (X2 R.base), some (.int (R.base : Int)), some (.int R.way), some (JR R.way), none, none, none, none, none, none, none, none, none]) B = some ((Zf B (cdV R.base R.o (vec R.p R.q R.r)) x).getD .none, B) := fun k hk e => by
      rw [e, XI R.hb R.ho hk];exact Zh rfl rfl (XI R.hb R.ho hk)
     simp only [List.mem_cons, List.not_mem_nil, or_false] at hx;rcases hx with e | e | e
     ·exact h 0 (by decide) e
     ·exact h 1 (by decide) e
     ·exact h 2 (by decide) e) (show 3 <= Cap by decide)
   rw [List.filter_eq_self.mpr (fun _ _ => rfl)] at this;refine this.trans ?_;simp only [List.map_cons, List.map_nil];rw [XI R.hb R.ho (by decide), XI R.hb R.ho (by decide), XI R.hb R.ho (by decide)];rfl
  have e3 : S.assigns [6, 7, 8] (D.t [Zy 2 (emL (D.b Zf (D.v 2) (D.v 1))) (gs1 (I.val (D.v 2)) (T.all [])) [] (.list []), Zbx (D.list [D.k (.int 0), D.k (.int 0), D.k (.int 0)]), D.k (.bool true)])
    [some (cdV R.base R.o (vec R.p R.q R.r)), some (YP R.a R.b R.c R.base), some (X2 R.base), some (.int (R.base : Int)), some (.int R.way), some (JR R.way), none, none, none, none, none, none, none, none, none] B =
    some (.next, Yx R.toRunP (.list [.int R.p, .int R.q, .int R.r]) B.length (Xd R.p R.q R.r) (none, none, none, none, none, none), B ++ [ZP (Xd R.p R.q R.r)]) := by
   unfold S.assigns
   rw [show D.t [Zy 2 (emL (D.b Zf (D.v 2) (D.v 1))) (gs1 (I.val (D.v 2)) (T.all [])) [] (.list []), Zbx (D.list [D.k (.int 0), D.k (.int 0), D.k (.int 0)]), D.k (.bool true)] [some (cdV R.base R.o (vec R.p R.q R.r)), some (YP R.a R.b R.c R.base), some (X2 R.base), some (.int (R.base : Int)), some (.int R.way), some (JR R.way), none, none, none, none, none, none, none, none, none] B =
    some (.tup [.list [.int R.p, .int R.q, .int R.r], .box B.length, .bool true], B ++ [ZP (Xd R.p R.q R.r)]) from Zj6 e2 rfl rfl]
   rfl
  refine Zi e3 ?_
  have hit : I.val (D.c Zw [D.k (.int 200)]) (Yx R.toRunP (.list [.int R.p, .int R.q, .int R.r]) B.length (Xd R.p R.q R.r) (none, none, none, none, none, none)) (B ++ [ZP (Xd R.p R.q R.r)]) = some (.seq ((List.range 200).map fun (k : Nat) => V.int (k : Int)), B ++ [ZP (Xd R.p R.q R.r)]) :=
   YW (ZE rfl rfl) (ZaZ (m := 200) ⟨by decide, by decide⟩)
  refine Zg (ZnH (P := R.toRunP) (st := .list [.int R.p, .int R.q, .int R.r]) (n := B.length) 199 ((List.range 200).map fun (k : Nat) => V.int (k : Int)) (Xd R.p R.q R.r) (B ++ [ZP (Xd R.p R.q R.r)]) (none, none, none, none, none, none) 201 (by rw [List.length_map, List.length_range]) (by decide) (hB _) hend) fun z hz e4 => ?_;rw [show R.toRunP.go 199 (Xd R.p R.q R.r) = R.fin from rfl] at hz e4;rw [show (B ++ [ZP (Xd R.p R.q R.r)]).set B.length (ZP R.fin) = B ++ [ZP R.fin] by simp] at e4
  have e5 : S.l (I.val (D.c Zw [D.k (.int 200)])) (fun d σ => some (σ.set 9 (some d))) ZdR S.k (Yx R.toRunP (.list [.int R.p, .int R.q, .int R.r]) B.length (Xd R.p R.q R.r) (none, none, none, none, none, none)) (B ++ [ZP (Xd R.p R.q R.r)]) = some (.next, Yx R.toRunP (.list [.int R.p, .int R.q, .int R.r]) B.length R.fin z, B ++ [ZP R.fin]) := by
   unfold S.l;rw [hit];simp only [Src.fuel, List.length_map, List.length_range];exact e4
  refine Zi e5 ?_;have e6 := Zpy (P := R.toRunP) (st := .list [.int R.p, .int R.q, .int R.r]) (s := R.fin) (B := B ++ [ZP R.fin]) (n := B.length) (y := z) (hB _);refine Zi (Zq e6) ?_;have e7 := ZpO (P := R.toRunP) (st := .list [.int R.p, .int R.q, .int R.r]) (s := R.fin) (B := B ++ [ZP R.fin]) (n := B.length) (y := (z.1, z.2.1, z.2.2.1, z.2.2.2.1, some (.str (Jo R.base (gS R.fin 0) (gS R.fin 1) (gS R.fin 2))), z.2.2.2.2.2)) rfl;refine Zi (Zq e7) ?_;refine Yq ?_
  have e8 : D.b (bv Js) (D.v 10) (D.list []) (Yx R.toRunP (.list [.int R.p, .int R.q, .int R.r]) B.length R.fin (z.1, z.2.1, z.2.2.1, z.2.2.2.1, some (.str (Jo R.base (gS R.fin 0) (gS R.fin 1) (gS R.fin 2))), some (Zbi R.base R.fin))) (B ++ [ZP R.fin]) = some (.bool (!(ZR R.fin).isEmpty), B ++ [ZP R.fin]) := by
   refine Zh (Zn (show _ = some (some (Zad R.fin)) from congrArg some hz)) rfl ?_;show ((Y1 _ (Zad R.fin) (.list [])).map (!·)).map V.bool = _;rw [show Zad R.fin = .list ((ZR R.fin).map prV) from rfl, ZjH]
   cases ZR R.fin <;> rfl
  exact Zqm rfl rfl rfl rfl e8 rfl rfl
 ·have hb : frz B.length (B ++ [ZP R.fin]) 4 (.box B.length) = some (ZP R.fin) := by
   show (if B.length < B.length then _ else _) = _;rw [if_neg (Nat.lt_irrefl _), hB];rfl
  have hc : frz B.length (B ++ [ZP R.fin]) 4 (cdV R.base R.o (xv R.fin)) = _ := ZmZ (m := 2);show (XB (frz B.length (B ++ [ZP R.fin]) 4) [Zbi R.base R.fin, .str (Jo R.base (gS R.fin 0) (gS R.fin 1) (gS R.fin 2)), .list [.int R.p, .int R.q, .int R.r], .box B.length, .bool (!(ZR R.fin).isEmpty), cdV R.base R.o (xv R.fin), .bool true]).map V.tup = _;have ht : frz B.length (B ++ [ZP R.fin]) 4 (Zbi R.base R.fin) = some (Zbi R.base R.fin) := rfl;have hs : frz B.length (B ++ [ZP R.fin]) 4 (.list [.int R.p, .int R.q, .int R.r]) = some (.list [.int R.p, .int R.q, .int R.r]) := rfl;have hx : ∀ x : Str, frz B.length (B ++ [ZP R.fin]) 4 (.str x) = some (.str x) := fun _ => rfl;have hy : ∀ x : Bool, frz B.length (B ++ [ZP R.fin]) 4 (.bool x) = some (.bool x) := fun _ => rfl;simp only [XB, ht, hx, hs, hb, hy, hc];rfl
noncomputable def ZbE {α : Type} (p : α -> Bool) : List α -> List α
 | [] => []
 | x :: l => x :: (if p x then [] else ZbE p l)
theorem ZhJ {α : Type} {p : α -> Bool} {x : α} : ∀ {l : List α}, x ∈ ZbE p l -> x ∈ l
 | y :: l, h => by
  unfold ZbE at h;rcases List.mem_cons.mp h with rfl | h
  ·exact .head _
  ·split at h
   ·nomatch h
   ·exact List.mem_cons_of_mem _ (ZhJ h)
theorem Zct {α : Type} {p : α -> Bool} : ∀ {l : List α}, (ZbE p l).length <= l.length
 | [] => Nat.le_refl _
 | y :: l => by
  unfold ZbE
  split
  ·simp
  ·have := Zct (p := p) (l := l); simp only [List.length_cons]; lia
theorem Zoo {α β : Type} {step : V -> St -> Bx -> Option Out} {els : St -> Bx -> Option Out} (f : α -> V) (p : α -> Bool) (dd : α -> V) (I : St -> Prop) (Bf : List β -> Bx) (g : α -> List β) (M : Nat) : ∀ (xs : List α) (n : Nat) (σ : St) (acc : List β),
  (∀ x ∈ xs, ∀ σ acc, I σ -> acc.length + (g x).length <= M -> (p x = true /\ ∃ σ', step (f x) σ (Bf acc) = some (.ret (dd x), σ', Bf (acc ++ g x))) \/ (p x = false /\ ∃ σ', I σ' /\ step (f x) σ (Bf acc) = some (.next, σ', Bf (acc ++ g x)))) -> I σ -> xs.length < n ->
  acc.length + (xs.flatMap g).length <= M ->
  (∃ x, xs.find? p = some x /\ ∃ σ', Y4 step els n (.seq (xs.map f)) σ (Bf acc) = some (.ret (dd x), σ', Bf (acc ++ (ZbE p xs).flatMap g))) \/
   (xs.find? p = none /\ ∃ σ', I σ' /\ Y4 step els n (.seq (xs.map f)) σ (Bf acc) = els σ' (Bf (acc ++ (ZbE p xs).flatMap g))) := by
 intro xs
 induction xs with
 | nil =>
  intro n σ acc _ hI hn _
  cases n with
  | zero => exact absurd hn (Nat.lt_irrefl _)
  | succ n => exact .inr ⟨rfl, σ, hI, congrArg (fun z => els σ (Bf z)) (List.append_nil acc).symm⟩
 | cons x xs ih =>
  intro n σ acc h hI hn hM
  cases n with
  | zero => exact absurd hn (Nat.not_lt_zero _)
  | succ n =>
   rw [List.flatMap_cons, List.length_append, <- Nat.add_assoc] at hM;rw [List.find?_cons];rcases h x (.head _) σ acc hI (Nat.le_trans (Nat.le_add_right _ _) hM) with ⟨hp, σ', e⟩ | ⟨hp, σ', hI', e⟩
   ·refine .inl ⟨x, by rw [hp], σ', ?_⟩
    rw [show ZbE p (x :: xs) = [x] from congrArg (x :: ·) (if_pos hp), List.flatMap_cons, List.flatMap_nil, List.append_nil];exact Jd (.ret (dd x)) e
   ·rw [hp]
    rw [show ZbE p (x :: xs) = x :: ZbE p xs from congrArg (x :: ·) (if_neg (by rw [hp]; exact Bool.false_ne_true)), List.flatMap_cons, <- List.append_assoc,
     show Y4 step els (n + 1) (.seq ((x :: xs).map f)) σ (Bf acc) = Y4 step els n (.seq (xs.map f)) σ' (Bf (acc ++ g x)) from Jd .next e]
    exact ih n σ' (acc ++ g x) (fun y hy => h y (List.mem_cons_of_mem _ hy)) hI' (Nat.lt_of_succ_lt_succ hn) (by rw [List.length_append]; exact hM)
set_option tactic.hygienic true in
theorem ZfM {α β : Type} {it : DI} {tgt : V -> St -> Option St} {body els : DS} {σ : St} (f : α -> V) (p : α -> Bool) (dd : α -> V) (I : St -> Prop) (Bf : List β -> Bx) (g : α -> List β) (M : Nat) (xs : List α) (acc : List β) (hit : it σ (Bf acc) = some (.seq (xs.map f), Bf acc))
  (h : ∀ x ∈ xs, ∀ σ acc, I σ -> acc.length + (g x).length <= M -> ∃ σ₁, tgt (f x) σ = some σ₁ /\ ((p x = true /\ ∃ σ', body σ₁ (Bf acc) = some (.ret (dd x), σ', Bf (acc ++ g x))) \/ (p x = false /\ ∃ σ', I σ' /\ body σ₁ (Bf acc) = some (.next, σ', Bf (acc ++ g x))))) (hI : I σ) (hM : acc.length + (xs.flatMap g).length <= M) :
  (∃ x, xs.find? p = some x /\ ∃ σ', S.l it tgt body els σ (Bf acc) = some (.ret (dd x), σ', Bf (acc ++ (ZbE p xs).flatMap g))) \/
   (xs.find? p = none /\ ∃ σ', I σ' /\ S.l it tgt body els σ (Bf acc) = els σ' (Bf (acc ++ (ZbE p xs).flatMap g))) := by
 have := Zoo (step := fun x σ B => match tgt x σ with | none => none | some σ₁ => body σ₁ B) (els := els) f p dd I Bf g M xs (xs.length + 1) σ acc (fun x hx σ acc hI hl => by
  refine Zg (h x hx σ acc hI hl) fun σ₁ ht h => ?_;simp only [ht];exact h) hI (Nat.lt_succ_self _) hM
 have e : S.l it tgt body els σ (Bf acc) = Y4 (fun x σ B => match tgt x σ with | none => none | some σ₁ => body σ₁ B) els (xs.length + 1) (.seq (xs.map f)) σ (Bf acc) := by
  unfold S.l;simp only [hit, Src.fuel, List.length_map]; try rfl
 rw [e];exact this
theorem ZhC {a b c : Int} {base i : Nat} {B : Bx} (hb : base <= 29) (hi : i < 3) : Zf B (dv (Zb7 a b c base i)) (.str (wd base i)) = some (.int (YM a b c i)) := by
 rw [Zmc];have hm : i ∈ ([0, 1, 2] : List Nat).filter (Zcq a b c i) := List.mem_filter.mpr ⟨by simp; lia, by unfold Zcq; simp⟩;refine (Zb5 (p := (_, _)) rfl).trans ((Zfe (β := fun s => V.int (if s ∈ ([0, 1, 2] : List Nat).filter (Zcq a b c i) then Zif a b c i s else 0)) (fun s hs e => Zdj hb s (by have := (List.mem_filter.mp hs).1; simp at this; lia) i hi e) hm).trans ?_);rw [if_pos hm];unfold Zif;rw [if_pos (by simp)]
theorem Zf4 {a b c a' b' c' : Int} {base : Nat} (N : XK a b c) (N' : XK a' b' c') (hb : base <= 29) (h : YP a b c base = YP a' b' c' base) : a = a' /\ b = b' /\ c = c' := by
 have h : ([0, 1, 2] : List Nat).map (fun i => dv (Zb7 a b c base i)) = ([0, 1, 2] : List Nat).map (fun i => dv (Zb7 a' b' c' base i)) := V.list.inj h
 have key : ∀ i < 3, YM a b c i = YM a' b' c' i := fun i hi => by
  have e := congrArg (fun l : List V => (l[i]?).bind fun d => Zf [] d (.str (wd base i))) h;simp only [List.getElem?_map] at e
  have hg : ([0, 1, 2] : List Nat)[i]? = some i := by
   match i, hi with
   | 0, _ => rfl
   | 1, _ => rfl
   | 2, _ => rfl
  rw [hg] at e;simp only [Option.map_some, Option.bind_some] at e;rw [ZhC hb hi, ZhC hb hi] at e;exact V.int.inj (Option.some.inj e)
 have k0 : 0 + (a + (b + 0)) = 0 + (a' + (b' + 0)) := key 0 (by decide);have k1 : a + (0 + (c + 0)) = a' + (0 + (c' + 0)) := key 1 (by decide);have k2 : b + (c + (0 + 0)) = b' + (c' + (0 + 0)) := key 2 (by decide);have := N.sum;have := N'.sum;lia
theorem ZnG {base : Nat} {o o' : List Nat} {x y z x' y' z' : Int} (hb : base <= 29) (ho : ZaD o) (ho' : ZaD o') (h : cdV base o (vec x y z) = cdV base o' (vec x' y' z')) : o = o' /\ x = x' /\ y = y' /\ z = z' := by
 have h1 := (V.dict.inj h).1
 have hoo : o = o' := by
  have hne := ZcF hb (show 0 < 3 by decide) (show 1 < 3 by decide) (by decide);rcases ho.is with rfl | rfl <;> rcases ho'.is with rfl | rfl
  ·rfl
  ·exact absurd (List.cons.inj h1).1 hne
  ·exact absurd (List.cons.inj h1).1.symm hne
  ·rfl
 subst hoo
 have key : ∀ k < 3, vec x y z k = vec x' y' z' k := fun k hk => by
  have e := XI (B := []) (f := vec x y z) hb ho hk;rw [h, XI hb ho hk] at e;exact (V.int.inj (Option.some.inj e)).symm
 exact ⟨rfl, key 0 (by decide), key 1 (by decide), key 2 (by decide)⟩
theorem ZoL {R : Yr} {B : Bx} : Z4 B R.enc = some (YB R, B) := by
 refine ZaJ fun Q h => ?_;obtain ⟨⟨a, b, c, base, way, o, net, hb, hw, ho⟩, p, q, r, hs⟩ := Q;obtain ⟨⟨a', b', c', base', way', o', net', hb', hw', ho'⟩, p', q', r', hs'⟩ := R;unfold Yr.enc at h;simp only [List.cons.injEq, V.int.injEq, and_true] at h;refine ZfN h fun h1 h2 h3 h4 h5 => ?_;clear h;obtain rfl : base = base' := by lia
 subst h5;refine ZcR (ZnG hb ho ho' h1) fun z_0 z_1 z_2 z_3 => ?_;subst z_0;subst z_1;subst z_2;subst z_3;refine Xx (Zf4 net net' hb h2) fun z_0 z_1 z_2 => ?_;subst z_0;subst z_1;subst z_2;rfl
structure ZM extends RunP where
 (p q r : Int)
 L : List Yr
 hp : p <= 9
 hq : q <= 9
 hr : r <= 9
 hd : -1 <= p + q + r
 hL : L.length <= 100
noncomputable def ZM.at (K : ZM) (t : Nat × Nat × Nat) : Yr :=
 if h : t.1 < 5 /\ t.2.1 + t.2.2 <= t.1 then { toRunP := K.toRunP, p := K.p - t.2.1, q := K.q - t.2.2, r := K.r - (t.1 - t.2.1 - t.2.2), start := ⟨by have := K.hp; lia, by have := K.hq; lia, by have := K.hr; lia, by have := K.hd; lia⟩ }
 else { toRunP := K.toRunP, p := K.p, q := K.q, r := K.r, start := ⟨K.hp, K.hq, K.hr, by have := K.hd; lia⟩ }
theorem ZM.at_eq {K : ZM} {n i j : Nat} (hn : n < 5) (h : i + j <= n) : K.at (n, i, j) = { toRunP := K.toRunP, p := K.p - i, q := K.q - j, r := K.r - (n - i - j), start := ⟨by have := K.hp; lia, by have := K.hq; lia, by have := K.hr; lia, by have := K.hd; lia⟩ } := dif_pos ⟨hn, h⟩
theorem ZM.at_P {K : ZM} {t : Nat × Nat × Nat} : (K.at t).toRunP = K.toRunP := by
 unfold ZM.at
 split <;> rfl
noncomputable def Zfv (R : Yr) : Bool := gS R.fin 0 && gS R.fin 1 && gS R.fin 2
noncomputable def ZM.lost (K : ZM) (n : Nat) (g : Nat × Nat) : Bool := Zfv (K.at (n, g))
noncomputable def ZM.rows (K : ZM) : List (Nat × Nat × Nat) := (ZbE (fun n => (Xs n).any (K.lost n)) (List.range 5)).flatMap fun n => (ZbE (K.lost n) (Xs n)).map fun g => (n, g)
noncomputable def ZM.rank (K : ZM) : Nat := Zdp fun n i j => K.lost n (i, j)
noncomputable def XO (K : ZM) (acc : List (Nat × Nat × Nat)) : Bx := [.list (K.L.map YB ++ acc.map fun t => YB (K.at t))]
noncomputable def gV (n : Nat) (g : Nat × Nat) : V := .tup [.int (g.1 : Int), .int (g.2 : Int), .int ((n : Int) - g.1 - g.2)]
noncomputable def XM (K : ZM) (y : Option V × Option V) : St := [some (cdV K.base K.o (vec K.p K.q K.r)), some (YP K.a K.b K.c K.base), some (X2 K.base), some (.int (K.base : Int)), some (.int K.way), some (.box 0), y.1, y.2]
noncomputable abbrev Znk : DE := Zy 3 (emL (D.t [D.v 1, D.v 2, D.b Ya (D.b Ya (D.v 9) (D.v 1)) (D.v 2)])) (gs1 (I.val (D.c Zw [D.b YV (D.v 6) (D.k (.int 1))])) (T.all [])) [{ it := (I.val (D.c Zw [D.b Ya (D.b YV (D.v 9) (D.k (.int 1))) (D.v 1)])), tp := false, tgt := (fun d σ => some (σ.set 2 (some d))), ifs := (T.all []) }] (.list [])
noncomputable def ixs (n : Nat) : List V := (List.range n).map fun (k : Nat) => V.int (k : Int)
theorem Zkj {n : Nat} {x : V} (h : x ∈ ixs n) : ∃ k < n, x = V.int ((k : Nat) : Int) := by
 refine Zg (List.mem_map.mp h) fun k hk e => ?_;exact ⟨k, List.mem_range.mp hk, e.symm⟩
theorem Zei {α β : Type} {g : α -> List β} {m : Nat} : ∀ l : List α, (∀ x ∈ l, (g x).length <= m) -> (l.flatMap g).length <= m * l.length := fun l => by
 induction l with
 | nil => intro _; exact Nat.zero_le _
 | cons x l ih =>
  intro h;have := ih fun y hy => h y (List.mem_cons_of_mem _ hy);have := h x (.head _);rw [List.flatMap_cons, List.length_append, List.length_cons, Nat.mul_succ]; lia
theorem Zj5 {n : Nat} : (ixs n).length = n := by unfold ixs; rw [List.length_map, List.length_range]
theorem ZkD {s0 s1 s2 s3 s4 s5 y : Option V} {B : Bx} {n : Nat} (hn : n < 5) : Znk [s0, s1, s2, s3, s4, s5, some (.int ((n : Nat) : Int)), y] B = some (.list ((Xs n).map (gV n)), B) := by
 have := ZrY (f := D.t [D.v 1, D.v 2, D.b Ya (D.b Ya (D.v 9) (D.v 1)) (D.v 2)]) (tp := false) (tp2 := false) (ifs := T.all []) (ifs2 := T.all []) (it := I.val (D.c Zw [D.b YV (D.v 6) (D.k (.int 1))])) (it2 := I.val (D.c Zw [D.b Ya (D.b YV (D.v 9) (D.k (.int 1))) (D.v 1)]))
  (σ := [s0, s1, s2, s3, s4, s5, some (.int ((n : Nat) : Int)), y]) (B := B) (B₁ := B) (xs := ixs (n + 1)) (fun x => ixs (n + 1 - YF x)) (fun x z => .tup [x, z, .int ((n : Int) - YF x - YF z)])
  (YW (ZE (Zh (c := .int ((n + 1 : Nat) : Int)) rfl rfl rfl) rfl) (Zc2 (by lia))) (fun x hx => by
   refine Zg (Zkj hx) fun i hi z_2 => ?_;subst z_2;refine ⟨rfl, fun z => ⟨rfl, ?_⟩, fun z hz => ?_⟩
   ·refine YW (ZE (Zh (c := .int ((n + 1 - i : Nat) : Int)) (Zh rfl rfl rfl) rfl ?_) rfl) (Zc2 (by lia))
    show some (V.int ((n : Int) + 1 - (i : Int))) = _;congr 2; lia
   ·refine Zg (Zkj hz) fun j hj z_2 => ?_
    subst z_2;exact ⟨rfl, Zj6 rfl rfl (Zh (Zh rfl rfl rfl) rfl rfl)⟩) (by
   have := Zei (g := fun x => ixs (n + 1 - YF x)) (m := 5) (ixs (n + 1)) fun x _ => by rw [Zj5]; exact Nat.le_trans (Nat.sub_le _ _) hn
   rw [Zj5] at this;exact Nat.le_trans this (Nat.le_trans (Nat.mul_le_mul_left 5 hn) (by decide)))
 refine this.trans (congrArg some (congrArg (·, B) (congrArg V.list ?_)));unfold Xs ixs;rw [List.flatMap_map, List.map_flatMap];refine congrArg (fun f => (List.range (n + 1)).flatMap f) (funext fun i => ?_);show (((List.range (n + 1 - i)).map fun (k : Nat) => V.int (k : Int)).map _) = ((List.range (n + 1 - i)).map fun j => (i, j)).map (gV n);rw [List.map_map, List.map_map];rfl
theorem ZqQ {op : Bx -> V -> Option V} {f : DE} {σ : St} {B : Bx} {d c : V} (h : f σ B = some (d, B)) (ho : op B d = some c) : D.un op f σ B = some (c, B) := by simp [D.un, h, ho]
section
variable {K : ZM} {B : Bx} {n i j : Nat}
noncomputable abbrev Znc : DE := D.c Ze [D.v 0, Zy 2 (emD (D.b Zf (D.v 4) (D.v 1)) (D.un JI (D.b Zf (D.v 9) (D.v 1)))) (gs1 (I.val (D.c Zw [D.k (.int 3)])) (T.all [])) [] (.dict [] [])]
theorem Zmm : ∀ k < 3, Zf B (gV n (i, j)) (.int ((k : Nat) : Int)) = some (.int (vec (i : Int) (j : Int) ((n : Int) - i - j) k)) := Yv rfl rfl rfl
theorem Zof (hn : n < 5) (h : i + j <= n) : Znc (XM K (some (.int (n : Int)), some (gV n (i, j)))) B = some (cdV K.base K.o (vec (K.at (n, i, j)).p (K.at (n, i, j)).q (K.at (n, i, j)).r), B) := by
 have hc := Zgp (fk := D.b Zf (D.v 4) (D.v 1)) (fv := D.un JI (D.b Zf (D.v 9) (D.v 1))) (ifs := T.all []) (tp := false) (it := I.val (D.c Zw [D.k (.int 3)])) (σ := XM K (some (.int (n : Int)), some (gV n (i, j)))) (B := B) (B₁ := B) (xs := ZbT)
  (fun _ => true) (fun x => wd K.base (YF x)) (fun x => .int (-(vec (i : Int) (j : Int) ((n : Int) - i - j) (YF x)))) rfl (fun x hx => by
   refine Zg (XU hx) fun k hk z_2 => ?_;subst z_2;refine ⟨rfl, fun _ => ⟨Zh rfl rfl (ZdU (P := K.toRunP) (σ := []) k hk), ?_⟩⟩;have h1 : D.b Zf (D.v 9) (D.v 1) (none :: some (V.int (k : Int)) :: XM K (some (.int (n : Int)), some (gV n (i, j)))) B = some (.int (vec (i : Int) (j : Int) ((n : Int) - i - j) k), B) := Zh rfl rfl (Zmm k hk);exact ZqQ h1 rfl) (show [wd K.base 0, wd K.base 1, wd K.base 2].Nodup from Zd5 K.hb) (by decide)
 rw [List.filter_eq_self.mpr (fun _ _ => rfl)] at hc;have e : V.dict (ZbT.map fun x => wd K.base (YF x)) (ZbT.map fun x => .int (-(vec (i : Int) (j : Int) ((n : Int) - i - j) (YF x)))) = cdV K.base [0, 1, 2] (vec (-(i : Int)) (-(j : Int)) (-((n : Int) - i - j))) := rfl;rw [e] at hc;refine Y7 rfl hc ((Zed K.hb K.ho (by decide) (fun s hs => by simp at hs; lia) ZcL fun s hs => ZcL s (by simp at hs; lia)).trans (congrArg some (congrArg (·, B) (Zc7 fun s hs => ?_))));have hs := K.ho.mem.mp hs;rw [ZM.at_eq hn h]
 revert s
 intro s _ hs;have t : ∀ s < 3, vec K.p K.q K.r s + vec (-(i : Int)) (-(j : Int)) (-((n : Int) - i - j)) s = vec (K.p - i) (K.q - j) (K.r - (n - i - j)) s := Yv (by show K.p + -(i : Int) = _; exact Int.sub_eq_add_neg.symm) (by show K.q + -(j : Int) = _; exact Int.sub_eq_add_neg.symm) (by show K.r + -((n : Int) - i - j) = _; exact Int.sub_eq_add_neg.symm);exact t s hs
noncomputable abbrev ZsG : DE := D.meth XC JF (D.v 5) [D.c Z4 [Znc, D.v 1, D.v 2, D.v 3, D.v 4]]
theorem ZnP {F : VF} {f1 f2 f3 f4 f5 : DE} {σ : St} {B : Bx} {d1 d2 d3 d4 d5 r : V} (h1 : f1 σ B = some (d1, B)) (h2 : f2 σ B = some (d2, B)) (h3 : f3 σ B = some (d3, B)) (h4 : f4 σ B = some (d4, B)) (h5 : f5 σ B = some (d5, B)) (hF : F B [d1, d2, d3, d4, d5] = some (r, B)) : D.c F [f1, f2, f3, f4, f5] σ B = some (r, B) := by
 simp [D.c, D.row, h1, h2, h3, h4, h5, hF]
theorem Zrh {acc : List (Nat × Nat × Nat)} (hn : n < 5) (h : i + j <= n) (hl : acc.length <= 100) : ZsG (XM K (some (.int (n : Int)), some (gV n (i, j)))) (XO K acc) = some (.none, XO K (acc ++ [(n, i, j)])) := by
 have e1 : D.c Z4 [Znc, D.v 1, D.v 2, D.v 3, D.v 4] (XM K (some (.int (n : Int)), some (gV n (i, j)))) (XO K acc) = some (YB (K.at (n, i, j)), XO K acc) := by
  refine ZnP (Zof hn h) rfl rfl rfl rfl ?_;have := ZoL (R := K.at (n, i, j)) (B := XO K acc);unfold Yr.enc at this;rw [ZM.at_P] at this;exact this
 have e2 : JF (XO K acc) [.box 0, YB (K.at (n, i, j))] = some (.none, XO K (acc ++ [(n, i, j)])) := by
  rw [Zbw];have : Zho (XO K acc) 0 (YB (K.at (n, i, j))) = if Zu (K.L.map YB ++ acc.map fun t => YB (K.at t)).length then some [.list ((K.L.map YB ++ acc.map fun t => YB (K.at t)) ++ [YB (K.at (n, i, j))])] else none := rfl;rw [this, if_pos (Yd (by rw [List.length_append, List.length_map, List.length_map]; have := K.hL; unfold Cap; lia))];unfold XO;rw [List.map_append, List.append_assoc];rfl
 exact Zam (o := .box 0) rfl rfl e1 e2
end
noncomputable def Zr6 {α : Type} (enc : α -> Bx × List V) (out : α -> V × Bx) : VF := open Classical in fun B ds => if h : ∃ a, (B, ds) = enc a then some (out h.choose) else none
theorem ZpE {α : Type} {enc : α -> Bx × List V} {out : α -> V × Bx} {p : α} {B : Bx} {ds : List V} (he : enc p = (B, ds)) (hi : ∀ q, enc q = enc p -> out q = out p) : Zr6 enc out B ds = some (out p) := by
 have h : ∃ q, (B, ds) = enc q := ⟨p, he.symm⟩;exact (dif_pos h).trans (congrArg some (hi _ (h.choose_spec.symm.trans he.symm)))
theorem Zlv {α : Type} {enc : α -> Bx × List V} {out : α -> V × Bx} {f : DS} {k : K} {ps : List Str} (h : ∀ p, (enc p).2.length = ps.length /\ ∃ d σ₁ B' m, f (JS k ps (enc p).2) (enc p).1 = some (.ret d, σ₁, B') /\ frz (enc p).1.length B' m d = some (out p).1 /\ Zcm (enc p).1.length (enc p).1 B' (out p).2) : Runs f k ps (Zr6 enc out) :=
 ⟨fun B ds d₁ B'' e => by
  by_cases hp : ∃ a, (B, ds) = enc a
  ·have e : some (out hp.choose) = some (d₁, B'') := (dif_pos hp).symm.trans e
   have hs := hp.choose_spec;generalize hp.choose = p at e hs;have hh := h p;rw [<- hs, Option.some.inj e] at hh;exact hh
  ·exact nn ((dif_neg hp).symm.trans e)⟩
theorem ZhM {α β : Type} (f : α -> β) : ∀ l : List α, (l.flatMap fun x => [f x]) = l.map f := fun l => by
 induction l with
 | nil => rfl
 | cons x l ih => rw [List.flatMap_cons, ih]; rfl
theorem Zc9 : ∀ n < 5, (Xs n).length <= 15 := by decide
section
variable {K : ZM} {B : Bx} {n : Nat}
noncomputable abbrev Zmb : DS := S.q (S.expr ZsG) (S.ite (T.of (D.b Zf (D.b Zf (D.b Zf (D.v 5) (D.un JI (D.k (.int 1)))) (D.k (.int 0))) (D.k (.int 0)))) (S.r (D.b Ya (D.v 6) (D.k (.int 1)))) S.k)
noncomputable abbrev Zl7 : DS := S.l (I.val Znk) (fun d σ => some (σ.set 7 (some d))) Zmb S.k
theorem Zlg {y : Option V × Option V} {acc : List (Nat × Nat × Nat)} {t : Nat × Nat × Nat} : T.of (D.b Zf (D.b Zf (D.b Zf (D.v 5) (D.un JI (D.k (.int 1)))) (D.k (.int 0))) (D.k (.int 0))) (XM K y) (XO K (acc ++ [t])) = some (Zfv (K.at t), XO K (acc ++ [t])) := by
 have h1 : Zf (XO K (acc ++ [t])) (.box 0) (.int (-1)) = some (YB (K.at t)) := by
  have := ZfT (B := []) (xs := K.L.map YB ++ (acc ++ [t]).map fun t => YB (K.at t)) (by simp);refine this.trans ?_;rw [List.map_append, <- List.append_assoc];simp
 exact Jm (d := .bool (Zfv (K.at t))) (Zh (Zh (Zh rfl rfl h1) rfl rfl) rfl rfl) rfl
theorem ZkL {acc : List (Nat × Nat × Nat)} {g : Nat × Nat} (hn : n < 5) (h : g.1 + g.2 <= n) (hl : acc.length <= 100) :
  Zmb (XM K (some (.int (n : Int)), some (gV n g))) (XO K acc) = some (if K.lost n g then .ret (.int ((n : Int) - 1)) else .next, XM K (some (.int (n : Int)), some (gV n g)), XO K (acc ++ [(n, g)])) := by
 have e1 := Zgx (Zrh (K := K) (acc := acc) hn h hl);have e2 := Zlg (K := K) (y := (some (.int (n : Int)), some (gV n g))) (acc := acc) (t := (n, g));unfold ZM.lost
 cases hp : Zfv (K.at (n, g)) with
 | true => rw [hp] at e2; exact (ZU e1).trans ((JU e2).trans (Zc1 rfl))
 | false => rw [hp] at e2; exact (ZU e1).trans ((Xv e2).trans rfl)
theorem ZlZ {acc : List (Nat × Nat × Nat)} {y : Option V} (hn : n < 5) (hl : acc.length + 15 <= 100) :
  ((Xs n).any (K.lost n) = true /\ ∃ σ', Zl7 (XM K (some (.int (n : Int)), y)) (XO K acc) = some (.ret (.int ((n : Int) - 1)), σ', XO K (acc ++ (ZbE (K.lost n) (Xs n)).map fun g => (n, g)))) \/
   ((Xs n).any (K.lost n) = false /\ ∃ y', Zl7 (XM K (some (.int (n : Int)), y)) (XO K acc) = some (.next, XM K (some (.int (n : Int)), y'), XO K (acc ++ (ZbE (K.lost n) (Xs n)).map fun g => (n, g)))) := by
 have main := ZfM (it := I.val Znk) (tgt := fun d σ => some (σ.set 7 (some d))) (body := Zmb) (els := S.k) (σ := XM K (some (.int (n : Int)), y)) (gV n) (K.lost n) (fun _ => .int ((n : Int) - 1)) (fun σ => ∃ y', σ = XM K (some (.int (n : Int)), y')) (XO K) (fun g => [(n, g)]) 100 (Xs n) acc
  (YW (ZkD hn) rfl) (fun g hg σ acc hσ hl => by
   obtain ⟨y', rfl⟩ := hσ;have e := ZkL (K := K) (acc := acc) hn (ZfW hg) (Nat.le_trans (Nat.le_add_right _ _) hl);refine ⟨_, rfl, ?_⟩
   cases hp : K.lost n g with
   | true => rw [hp] at e; exact .inl ⟨rfl, _, e⟩
   | false => rw [hp] at e; exact .inr ⟨rfl, _, ⟨_, rfl⟩, e⟩) ⟨y, rfl⟩ (by
   rw [ZhM, List.length_map]; have := Zc9 n hn; lia)
 rw [ZhM] at main;rcases main with ⟨x, hx, σ', e⟩ | ⟨hx, σ', ⟨y', rfl⟩, e⟩
 ·exact .inl ⟨List.any_eq_true.mpr ⟨x, List.mem_of_find?_eq_some hx, List.find?_some hx⟩, σ', e⟩
 ·refine .inr ⟨?_, y', e⟩
  rw [List.find?_eq_none] at hx
  cases ha : (Xs n).any (K.lost n) with
  | false => rfl
  | true => obtain ⟨g, h1, h2⟩ := List.any_eq_true.mp ha; exact absurd h2 (hx g h1)
end
noncomputable def ZM.enc (K : ZM) : Bx × List V := ([.list (K.L.map YB)], [cdV K.base K.o (vec K.p K.q K.r), YP K.a K.b K.c K.base, X2 K.base, .int (K.base : Int), .int K.way, .box 0])
noncomputable def ZM.out (K : ZM) : V × Bx := (.int ((K.rank : Int) - 1), XO K K.rows)
noncomputable def ZI : VF := Zr6 ZM.enc ZM.out
theorem Zpd {R : Yr} {B : Bx} {n m : Nat} : frz n B (m + 5) (YB R) = some (YB R) := by
 have hc : frz n B (m + 4) (cdV R.base R.o (xv R.fin)) = _ := ZmZ (m := m + 2);show (XB (frz n B (m + 4)) [Zbi R.base R.fin, .str (Jo R.base (gS R.fin 0) (gS R.fin 1) (gS R.fin 2)), .list [.int R.p, .int R.q, .int R.r], ZP R.fin, .bool (!(ZR R.fin).isEmpty), cdV R.base R.o (xv R.fin), .bool true]).map V.tup = _;have ht : frz n B (m + 4) (Zbi R.base R.fin) = some (Zbi R.base R.fin) := rfl;have hs : frz n B (m + 4) (.list [.int R.p, .int R.q, .int R.r]) = some (.list [.int R.p, .int R.q, .int R.r]) := rfl;have hu : frz n B (m + 4) (ZP R.fin) = some (ZP R.fin) := rfl;have hx : ∀ x : Str, frz n B (m + 4) (.str x) = some (.str x) := fun _ => rfl;have hy : ∀ x : Bool, frz n B (m + 4) (.bool x) = some (.bool x) := fun _ => rfl;simp only [XB, ht, hx, hs, hu, hy, hc];rfl
theorem Zf2 {B : Bx} {n m : Nat} : ∀ L : List Yr, XB (frz n B (m + 5)) (L.map YB) = some (L.map YB)
 | [] => rfl
 | R :: L => by simp only [List.map_cons, XB, Zpd, Zf2 L]
theorem Zfl : Runs (JK Z4 Ze) JP ["coins", "loans", "words", "base", "way", "log"] ZI := Zlv fun K => by
 have hx : K.enc.1 = XO K [] := by unfold ZM.enc XO; rw [List.map_nil, List.append_nil]
 have main := ZfM (it := I.val (D.c Zw [D.k (.int 5)])) (tgt := fun d σ => some (σ.set 6 (some d))) (body := Zl7) (els := S.k) (σ := XM K (none, none)) (fun (k : Nat) => V.int (k : Int)) (fun n => (Xs n).any (K.lost n)) (fun n => .int ((n : Int) - 1)) (fun σ => ∃ y, σ = XM K y) (XO K)
  (fun n => (ZbE (K.lost n) (Xs n)).map fun g => (n, g)) 75 (List.range 5) [] (YW (ZE rfl rfl) (ZaZ (m := 5) ⟨by decide, by decide⟩)) (fun n hn σ acc hσ hl => by
   obtain ⟨y, rfl⟩ := hσ;refine ⟨_, rfl, ?_⟩;rcases ZlZ (K := K) (n := n) (acc := acc) (y := y.2) (List.mem_range.mp hn) (by lia) with ⟨h1, σ', e⟩ | ⟨h1, y', e⟩
   ·exact .inl ⟨h1, σ', e⟩
   ·exact .inr ⟨h1, _, ⟨_, rfl⟩, e⟩) ⟨_, rfl⟩ (by
   refine Nat.le_trans (Nat.le_of_eq (Nat.zero_add _)) (Zei (m := 15) (List.range 5) fun n hn => ?_);rw [List.length_map];exact Nat.le_trans Zct (Zc9 n (List.mem_range.mp hn)))
 rw [List.nil_append] at main
 have hback : Zcm 1 [.list (K.L.map YB)] (XO K K.rows) (XO K K.rows) := by
  refine ⟨rfl, rfl, fun i hi => .inr ?_⟩;obtain rfl : i = 0 := by lia
  refine ⟨6, _, _, rfl, rfl, ?_, rfl⟩;show (XB (frz 1 (XO K K.rows) 5) (K.L.map YB ++ K.rows.map fun t => YB (K.at t))).map V.list = _;have : K.L.map YB ++ K.rows.map (fun t => YB (K.at t)) = (K.L ++ K.rows.map K.at).map YB := by rw [List.map_append, List.map_map]; rfl
  rw [this, Zf2 (m := 0)];rfl
 refine ⟨rfl, ?_⟩;show ∃ d σ₁ B' m, JK Z4 Ze (XM K (none, none)) K.enc.1 = some (.ret d, σ₁, B') /\ frz 1 B' m d = some (.int ((K.rank : Int) - 1)) /\ Zcm 1 K.enc.1 B' (XO K K.rows);have hy : XO K [] = [.list (K.L.map YB)] := hx.symm;rw [hx];have hr : ∀ k : Nat, (List.range 5).find? (fun n => (Xs n).any (K.lost n)) = some k -> K.rank = k := fun k h => by unfold ZM.rank Zdp; rw [h]; rfl
 rcases main with ⟨n, hn, σ', e⟩ | ⟨hn, σ', ⟨y, rfl⟩, e⟩
 ·refine ⟨.int ((n : Int) - 1), σ', _, 1, ZdL e, by rw [hr n hn]; rfl, ?_⟩
  rw [hy]; exact hback
 ·refine ⟨.int 4, _, _, 1, (ZU e).trans (Zc1 rfl), ?_, ?_⟩
  ·have : K.rank = 5 := by unfold ZM.rank Zdp; rw [hn]; rfl
   rw [this]; rfl
  ·rw [hy]; exact hback
theorem Zgd {K : ZM} : ZI K.enc.1 K.enc.2 = some K.out := by
 refine ZpE rfl fun Q h => ?_;obtain ⟨⟨a, b, c, base, way, o, net, hb, hw, ho⟩, p, q, r, L, hp, hq, hr, hd, hL⟩ := Q;obtain ⟨⟨a', b', c', base', way', o', net', hb', hw', ho'⟩, p', q', r', L', hp', hq', hr', hd', hL'⟩ := K;unfold ZM.enc at h;simp only [Prod.mk.injEq, List.cons.injEq, V.list.injEq, V.int.injEq, and_true] at h;refine Ztc h fun h0 h1 h2 h3 h4 h5 => ?_;clear h;obtain rfl : base = base' := by lia
 subst h5;refine ZcR (ZnG hb ho ho' h1) fun z_0 z_1 z_2 z_3 => ?_;subst z_0;subst z_1;subst z_2;subst z_3;refine Xx (Zf4 net net' hb h2) fun z_0 z_1 z_2 => ?_;subst z_0;subst z_1;subst z_2;unfold ZM.out XO;rw [show (List.map YB L) = List.map YB L' from h0];rfl
noncomputable def Zbp (base : Nat) (o : List Nat) : List Nat := (ZgL (fun i j => Zka (wT (base + o.getD i 0)) (wT (base + o.getD j 0))) (PySem.W.kas_sort 3)).toList
theorem ZnS : (List.range 30).all (fun base => ((Zbp base [1, 0, 2]).map (fun i => ([1, 0, 2] : List Nat).getD i 3) == Zbp base [0, 1, 2]) && (Zbp base [0, 1, 2]).all (fun i => Nat.blt i 3)) = true := by decide +kernel
theorem Zcj {α : Type} {n : Nat} {lt lt' : Nat -> Nat -> Bool} (h : ∀ i < n, ∀ j < n, lt i j = lt' i j) : ∀ T : PySem.W.KasT α, okT n T = true -> ZgL lt T = ZgL lt' T
 | .ret a, _ => rfl
 | .ask i j k, ho => by
  simp only [okT, Bool.and_eq_true, Nat.blt_eq, Bool.not_eq_true'] at ho;obtain ⟨⟨⟨⟨h1, h2⟩, h3⟩, h4⟩, h5⟩ := ho;unfold ZgL;rw [h i h1 j h2]
  cases lt' i j with
  | true => exact Zcj h (k true) h4
  | false => exact Zcj h (k false) h5
section
variable {base : Nat} {B : Bx}
theorem ZdC (hb : base <= 29) {o : List Nat} (ho : ZaD o) : J9 (o.map (wd base)) = Zbp base o := by
 unfold J9 Zbp;refine congrArg Array.toList (Zcj (n := 3) (fun i hi j hj => ?_) _ Zj3)
 have key : ∀ i < 3, (o.map (wd base)).getD i "" = wT (base + o.getD i 0) := by
  rcases ho.is with rfl | rfl
  ·exact Yv (Zaz hb (by decide)) (Zaz hb (by decide)) (Zaz hb (by decide))
  ·exact Yv (Zaz hb (by decide)) (Zaz hb (by decide)) (Zaz hb (by decide))
 rw [key i hi, key j hj]
theorem Zp4 (hb : base <= 29) : (Zbp base [1, 0, 2]).map (fun i => ([1, 0, 2] : List Nat).getD i 3) = Zbp base [0, 1, 2] /\ ∀ i ∈ Zbp base [0, 1, 2], i < 3 := by
 have := ZnS;rw [List.all_eq_true] at this;have := this base (List.mem_range.mpr (by lia));rw [Bool.and_eq_true, beq_iff_eq, List.all_eq_true] at this;exact ⟨this.1, fun i hi => Nat.blt_eq.mp (this.2 i hi)⟩
noncomputable def Za3 (base : Nat) (f : Nat -> Int) : List V := (Zbp base [0, 1, 2]).map fun i => Ji (wd base i) (.int (f i))
theorem ZjI (hb : base <= 29) {o : List Nat} (ho : ZaD o) {f : Nat -> Int} : Zdl (o.map (wd base)) (o.map fun s => V.int (f s)) = some (Za3 base f) := by
 obtain ⟨h1, h2⟩ := Zp4 hb;have h012 : ZaD [0, 1, 2] := ⟨.inl rfl⟩;have k0 := ZdC hb h012;have main : ∀ i < 3, ([Ji (wd base 0) (.int (f 0)), Ji (wd base 1) (.int (f 1)), Ji (wd base 2) (.int (f 2))] : List V).getD i .none = Ji (wd base i) (.int (f i)) := Yv rfl rfl rfl;rcases ho.is with rfl | rfl
 ·refine (if_pos (Zd5 hb)).trans (congrArg some ?_)
  unfold Zh1 Za3;rw [show J9 [wd base 0, wd base 1, wd base 2] = Zbp base [0, 1, 2] from k0];exact List.map_congr_left fun i hi => main i (h2 i hi)
 ·have k1 := ZdC hb ho
  have hn : [wd base 1, wd base 0, wd base 2].Nodup := ZaR (f := wd base) (l := [1, 0, 2]) (fun s hs t ht e => Zdj hb s (ho.mem.mp hs) t (ho.mem.mp ht) e) (by decide);refine (if_pos hn).trans (congrArg some ?_);unfold Zh1 Za3;rw [show J9 [wd base 1, wd base 0, wd base 2] = Zbp base [1, 0, 2] from k1, <- h1, List.map_map];refine List.map_congr_left fun i hi => ?_;have hj : ([1, 0, 2] : List Nat).getD i 3 < 3 := h2 _ (by rw [<- h1]; exact List.mem_map.mpr ⟨i, hi, rfl⟩)
  match i, hj with
  | 0, _ => rfl
  | 1, _ => rfl
  | 2, _ => rfl
  | i + 3, h => exact absurd h (by show ¬ 3 < 3; lia)
theorem ZeW {f : V -> V -> Option Bool} : ∀ {xs : List V}, (∀ x ∈ xs, f x x = some true) -> eqs f xs xs = some true
 | [], _ => rfl
 | x :: xs, h => by
  show (match f x x, eqs f xs xs with | some a, some b => some (a && b) | _, _ => none) = _;rw [h x (.head _), ZeW fun y hy => h y (List.mem_cons_of_mem _ hy)];rfl
theorem ZmH {n : Nat} {xs : List V} (h : ∀ x ∈ xs, veq n x x = some true) : veq (n + 1) (.list xs) (.list xs) = some true := (if_pos rfl).trans (ZeW h)
theorem ZpQ {n : Nat} {xs : List V} (h : ∀ x ∈ xs, veq n x x = some true) : veq (n + 1) (.tup xs) (.tup xs) = some true := (if_pos rfl).trans (ZeW h)
theorem Zqi {n : Nat} {x : Str} : veq n (.str x) (.str x) = some true := by
 cases n <;> exact congrArg some (beq_self_eq_true x)
theorem Zqn {n : Nat} {x : Int} : veq n (.int x) (.int x) = some true := by
 cases n <;> exact congrArg some (beq_self_eq_true x)
theorem Zep {n : Nat} {k : Str} {x : Int} : veq (n + 1) (Ji k (.int x)) (Ji k (.int x)) = some true := ZpQ fun y hy => by
 simp only [List.mem_cons, List.not_mem_nil, or_false] at hy;rcases hy with rfl | rfl
 ·exact Zqi
 ·exact Zqn
theorem ZfH {xs : List V} (h : ∀ x ∈ xs, veq 11 x x = some true) : Y1 B (.list xs) (.list xs) = some true := ZmH h
theorem Ziu {f : Nat -> Int} : Y1 B (.list (Za3 base f)) (.list (Za3 base f)) = some true := ZfH fun x hx => by
 refine Zg (List.mem_map.mp hx) fun i _ z_2 => ?_;subst z_2;exact Zep
end
noncomputable def Yr.text (R : Yr) : Str := Jo R.base (gS R.fin 0) (gS R.fin 1) (gS R.fin 2)
noncomputable def YL (R : Yr) (y : Option V × Option V) : St := [some (YB R), some (XF R.a R.b R.c), some (X2 R.base), some (Zbi R.base R.fin), some (.str R.text), some (.list [.int R.p, .int R.q, .int R.r]), some (ZP R.fin), some (.bool (!(ZR R.fin).isEmpty)), some (cdV R.base R.o (xv R.fin)), some (.bool true), y.1, y.2]
section
variable {R : Yr} {B : Bx} {y : Option V × Option V}
noncomputable def Yr.pay (R : Yr) : Zga := { a := R.a, b := R.b, c := R.c, p := R.p, q := R.q, r := R.r, net := R.net, low := by have := R.start.low; lia, high := by have := R.start.p9; have := R.start.q9; have := R.start.r9; lia }
theorem ZkJ {P : Zga} : ZV B [XF P.a P.b P.c, .list [.int P.p, .int P.q, .int P.r]] = some (.bool (ZbC P.a P.b P.c P.p P.q (P.p + P.q + P.r)), B) :=
 ZaJ (enc := fun P : Zga => [XF P.a P.b P.c, .list [.int P.p, .int P.q, .int P.r]]) fun Q h => by
  have g : ∀ F : V -> V -> Int, F (XF Q.a Q.b Q.c) (.list [.int Q.p, .int Q.q, .int Q.r]) = F (XF P.a P.b P.c) (.list [.int P.p, .int P.q, .int P.r]) := fun F => congrArg (fun l : List V => F (l.getD 0 .none) (l.getD 1 .none)) h;have ha : Q.a = P.a := g fun n _ => ((n.at 0).at 1).num;have hb : Q.b = P.b := g fun n _ => ((n.at 0).at 2).num;have hc : Q.c = P.c := g fun n _ => ((n.at 1).at 2).num;have hp : Q.p = P.p := g fun _ n => (n.at 0).num;have hq : Q.q = P.q := g fun _ n => (n.at 1).num;have hr : Q.r = P.r := g fun _ n => (n.at 2).num;rw [ha, hb, hc, hp, hq, hr]
theorem ZkE : (ZR R.fin = [] /\ ZbC R.a R.b R.c R.p R.q (R.p + R.q + R.r) = true /\ (!((R.fin.t0 == 0) || ((R.fin.t1 == 0) || ((R.fin.t2 == 0) || false)))) = false) \/
  (ZR R.fin ≠ [] /\ ZbC R.a R.b R.c R.p R.q (R.p + R.q + R.r) = false /\ (!((R.fin.t0 == 0) || ((R.fin.t1 == 0) || ((R.fin.t2 == 0) || false)))) = true) := by
 rcases ZhO (way := R.way) R.net R.start with ⟨h1, h2, h3⟩ | ⟨h1, h2, h3⟩
 ·refine .inl ⟨h1, ZeE.mpr ((Zdc R.net).mp h2), ?_⟩
  rw [Bool.not_eq_false'];simp only [Bool.or_false, Bool.or_eq_true, beq_iff_eq];unfold Yr.fin;lia
 ·refine .inr ⟨h1, Bool.eq_false_iff.mpr fun h => h2 ((Zdc R.net).mpr (ZeE.mp h)), ?_⟩
  rw [Bool.not_eq_true'];simp only [Bool.or_false, Bool.or_eq_false_iff, beq_eq_false_iff_ne];exact h3
theorem ZoY : T.bool false [T.cmp Js (D.b (bv Za5) (D.k (.int 0)) (D.v 6)) (D.v 7), T.cmp Y1 (D.v 7) (D.c ZV [D.v 1, D.v 5])] (YL R y) B = some (false, B) := by
 have hp : D.c ZV [D.v 1, D.v 5] (YL R y) B = some (.bool (ZbC R.a R.b R.c R.p R.q (R.p + R.q + R.r)), B) := Y7 rfl rfl (ZkJ (P := R.pay));have hv : D.b (bv Za5) (D.k (.int 0)) (D.v 6) (YL R y) B = some (.bool (!((R.fin.t0 == 0) || ((R.fin.t1 == 0) || ((R.fin.t2 == 0) || false)))), B) := Zh rfl rfl rfl;have h7 : D.v 7 (YL R y) B = some (.bool (!(ZR R.fin).isEmpty), B) := rfl;rcases ZkE (R := R) with ⟨h1, h2, h3⟩ | ⟨h1, h2, h3⟩
 ·rw [h2] at hp
  rw [h3] at hv;rw [h1] at h7;exact ZaH (x := false) (y := false) (Z5 hv h7 rfl) fun _ => Z5 h7 hp rfl
 ·have he : (ZR R.fin).isEmpty = false := by rw [List.isEmpty_eq_false_iff]; exact h1
  rw [h2] at hp;rw [h3] at hv;rw [he] at h7;exact ZaH (x := false) (y := false) (Z5 hv h7 rfl) fun _ => Z5 h7 hp rfl
noncomputable def Yr.names (R : Yr) : List Str := Zbs R.base (gS R.fin 0) (gS R.fin 1) (gS R.fin 2)
noncomputable abbrev ZrH : DE := Zy 2 (emL (D.b Zf (D.v 4) (D.v 1))) (gs1 (I.val (D.c Zw [D.k (.int 3)])) (T.all [T.cmp vgt (D.b Zf (D.v 8) (D.v 1)) (D.k (.int 0))])) [] (.list [])
theorem Zeh : ∀ k < 3, Zf B (ZP R.fin) (.int ((k : Nat) : Int)) = some (.int (vec R.fin.t0 R.fin.t1 R.fin.t2 k)) := Yv rfl rfl rfl
theorem ZlR {base : Nat} {f : Nat -> Bool} : Zbs base (f 0) (f 1) (f 2) = (([0, 1, 2] : List Nat).filter f).map (wd base) := by
 rw [List.filter_cons, List.filter_cons, List.filter_cons, List.filter_nil];unfold Zbs
 cases f 0 <;> cases f 1 <;> cases f 2 <;> rfl
theorem Zea : R.names = (([0, 1, 2] : List Nat).filter (gS R.fin)).map (wd R.base) := ZlR
theorem ZjK : R.names.length <= 3 := by
 rw [Zea, List.length_map]; exact List.length_filter_le _ _
theorem Zmq : ZrH (YL R y) B = some (.list (R.names.map V.str), B) := by
 have := Zac (f := D.b Zf (D.v 4) (D.v 1)) (tp := false) (ifs := T.all [T.cmp vgt (D.b Zf (D.v 8) (D.v 1)) (D.k (.int 0))]) (it := I.val (D.c Zw [D.k (.int 3)])) (σ := YL R y) (B := B) (B₁ := B) (xs := ZbT)
  (fun x => gS R.fin (YF x)) (fun x => .str (wd R.base (YF x))) rfl (fun x hx => by
   obtain ⟨k, hk, rfl⟩ := XU hx;exact ⟨ZfY (Z5 (Zh rfl rfl (Zeh k hk)) rfl rfl), fun _ => Zh rfl rfl (ZdU (P := R.toRunP) (σ := []) k hk)⟩) (by decide)
 rw [Zbd, List.map_map] at this;refine this.trans (congrArg some (congrArg (·, B) (congrArg V.list ?_)));rw [Zea, List.map_map];rfl
theorem Zf9 : (R.names.map V.str).length = R.names.length := List.length_map ..
theorem ZdE : Zu (R.names.map V.str).length = true := Yd (by rw [Zf9]; exact Nat.le_trans ZjK (by decide))
theorem Zlj {xs : List V} (h : Zu xs.length = true) : X8 B [.list xs] = some (.int (xs.length : Int), B) := by
 refine XW ?_;show (if Zu xs.length = true then some (xs.length : Int) else none).map V.int = _;rw [if_pos h]; rfl
noncomputable abbrev ZqC : DE := D.ite (T.of (D.v 10)) (D.meth Xj Zbm (D.k (.str ", ")) [D.v 10]) (D.k (.str "0x0"))
theorem Zk5 : (", " : Str).length = 2 := by rfl
theorem ZhP : (R.names.map (·.length)).sum + R.names.length * (", " : Str).length <= 16777216 := by
 have h := Zjd (l := R.names.map (·.length)) (c := 18) fun x hx => by
  refine Zg (List.mem_map.mp hx) fun s hs e => ?_;rw [Zea] at hs;refine Zg (List.mem_map.mp hs) fun k hk e' => ?_;rw [<- e, <- e'];exact Zel R.hb ((show ZaD [0, 1, 2] from ⟨.inl rfl⟩).mem.mp (List.mem_filter.mp hk).1)
 rw [List.length_map] at h;rw [Zk5];have := ZjK (R := R);lia
theorem ZpD : ZqC (YL R (some (.list (R.names.map V.str)), y.2)) B = some (.str R.text, B) := by
 have h10 : D.v 10 (YL R (some (.list (R.names.map V.str)), y.2)) B = some (.list (R.names.map V.str), B) := rfl;have hj : Zbm B [.str ", ", .list (R.names.map V.str)] = some (.str (Txt.join ", " R.names), B) := ZcU rfl ZhP;unfold Yr.text Jo;show _ = some (V.str (if R.names.isEmpty then "0x0" else Txt.join ", " R.names), B)
 cases hn : R.names with
 | nil =>
  rw [hn] at h10;exact (Zjf (Jm (c := false) h10 rfl)).trans rfl
 | cons x l =>
  rw [hn] at h10 hj;refine (ZiJ (Jm (c := true) h10 ?_)).trans (Zam rfl rfl h10 hj);have hl := ZdE (R := R);rw [hn] at hl;exact if_pos hl
theorem ZnB (a b : Bool) : ∃ s, Jg B [.list [.bool a, .bool b]] = some (.str s, B) := by
 cases a <;> cases b <;> exact ⟨_, rfl⟩
theorem Zau : 0 <= R.fin.t0 /\ 0 <= R.fin.t1 /\ 0 <= R.fin.t2 := by
 have I := (ZbK (way := R.way) R.net R.start).1;exact ⟨I.t0, I.t1, I.t2⟩
theorem Zmo {x z : Int} (hx : 0 <= x) (hz : 0 <= z) : decide (x * z > 0) = (gB x && gB z) := by
 unfold gB
 by_cases h1 : x > 0
 ·by_cases h2 : z > 0
  ·rw [decide_eq_true h1, decide_eq_true h2]; exact decide_eq_true (Int.mul_pos h1 h2)
  ·have : z = 0 := by lia
   subst this; simp
 ·have : x = 0 := by lia
  subst this; simp
theorem Zig : (((R.names.map V.str).length : Int) == 3) = (gS R.fin 0 && gS R.fin 1 && gS R.fin 2) := by
 rw [Zf9]; unfold Yr.names Zbs
 cases gS R.fin 0 <;> cases gS R.fin 1 <;> cases gS R.fin 2 <;> rfl
theorem Zq8 {a b c p q r way : Int} (N : XK a b c) : ∀ (n : Nat) (s : S6), Zd3 a b c p q r s -> (goS a b c way n s).t0 + (goS a b c way n s).t1 + (goS a b c way n s).t2 <= s.t0 + s.t1 + s.t2 + n := by
 intro n
 induction n with
 | zero => intro s _; show s.t0 + s.t1 + s.t2 <= _; lia
 | succ n ih =>
  intro s I;unfold goS
  cases hd : Xq s with
  | true => simp only [if_true]; lia
  | false =>
   obtain ⟨I', ht⟩ := ZeH (way := way) N I hd;have := ih _ I';simp only [Bool.false_eq_true, if_false];lia
theorem Zjn : R.fin.t0 <= 199 /\ R.fin.t1 <= 199 /\ R.fin.t2 <= 199 := by
 have := Zq8 (way := R.way) R.net 199 (Xd R.p R.q R.r) (Zc6 R.start);have h0 := Zau (R := R);unfold Yr.fin Zag at *;simp only [Xd] at *;lia
noncomputable abbrev ZqY : DE := D.list [D.b (bv Y1) (D.c X8 [D.v 10]) (D.k (.int 3)), D.b (bv vgt) (D.b Y2 (D.b Zf (D.v 6) (D.k (.int 0))) (D.b Zf (D.v 6) (D.k (.int 2)))) (D.k (.int 0))]
theorem Zns : ZqY (YL R (some (.list (R.names.map V.str)), y.2)) B = some (Zbi R.base R.fin, B) := by
 have h1 : D.b (bv Y1) (D.c X8 [D.v 10]) (D.k (.int 3)) (YL R (some (.list (R.names.map V.str)), y.2)) B = some (.bool (((R.names.map V.str).length : Int) == 3), B) := by
  refine Zh (ZE (d := .list (R.names.map V.str)) rfl (d' := .int ((R.names.map V.str).length : Int)) (Zlj ZdE)) rfl rfl
 have h2 : D.b (bv vgt) (D.b Y2 (D.b Zf (D.v 6) (D.k (.int 0))) (D.b Zf (D.v 6) (D.k (.int 2)))) (D.k (.int 0)) (YL R (some (.list (R.names.map V.str)), y.2)) B = some (.bool (decide (R.fin.t0 * R.fin.t2 > 0)), B) :=
  Zh (Zh (Zh rfl rfl rfl) (Zh rfl rfl rfl) (Y5 (YU ⟨by have := Zau (R := R); lia, by have := Zjn (R := R); lia⟩))) rfl rfl
 have := ZhG h1 h2;rw [Zig, Zmo Zau.1 Zau.2.2] at this;exact this
theorem ZgM {x : Str} : Js B (.str x) (.str x) = some false := by
 show (some (x == x)).map (!·) = _;rw [beq_self_eq_true]; rfl
theorem ZpX : T.bool false [T.cmp Js (D.v 4) ZqC, T.cmp Js (D.c Jg [D.v 3]) (D.c Jg [ZqY])] (YL R (some (.list (R.names.map V.str)), y.2)) B = some (false, B) := by
 obtain ⟨x, hx⟩ := ZnB (B := B) (gS R.fin 0 && gS R.fin 1 && gS R.fin 2) (gS R.fin 0 && gS R.fin 2);exact ZaH (x := false) (y := false) (Z5 rfl ZpD ZgM) fun _ => Z5 (ZE rfl hx) (ZE Zns hx) ZgM
noncomputable abbrev Zn9 : DE := D.c YO [Zy 2 (emL (D.b Y2 (D.b Zf (D.b Zf (D.v 5) (D.v 3)) (D.v 1)) (D.b Zf (D.v 10) (D.v 1)))) (gs1 (I.val (D.c Zw [D.k (.int 3)])) (T.all [])) [] (.list [])]
noncomputable abbrev Ztw : DE := Zy 2 (emL (D.b Ya (D.b YV (D.b Zf (D.v 7) (D.v 1)) (D.b Y2 (D.c YO [D.b Zf (D.v 3) (D.v 1)]) (D.b Zf (D.v 8) (D.v 1)))) Zn9)) (gs1 (I.val (D.c Zw [D.k (.int 3)])) (T.all [])) [] (.list [])
theorem Zlr : ∀ k < 3, ∀ j < 3, small (ent R.a R.b R.c k j) = true := by
 have N := R.net;have a0 := N.a0; have b0 := N.b0; have c0 := N.c0; have a4 := N.a4; have b4 := N.b4; have c4 := N.c4;have z : small 0 = true := by decide
 have ha : small R.a = true := YU ⟨by lia, by lia⟩;have hb : small R.b = true := YU ⟨by lia, by lia⟩;have hc : small R.c = true := YU ⟨by lia, by lia⟩;exact Yv (Yv z ha hb) (Yv ha z hc) (Yv hb hc z)
theorem Zlh : ∀ k < 3, small (YM R.a R.b R.c k) = true := by
 have N := R.net;have a0 := N.a0; have b0 := N.b0; have c0 := N.c0; have a4 := N.a4; have b4 := N.b4; have c4 := N.c4;refine Yv (YU ?_) (YU ?_) (YU ?_)
 ·show -1000 <= 0 + (R.a + (R.b + 0)) /\ 0 + (R.a + (R.b + 0)) <= 1000; lia
 ·show -1000 <= R.a + (0 + (R.c + 0)) /\ R.a + (0 + (R.c + 0)) <= 1000; lia
 ·show -1000 <= R.b + (R.c + (0 + 0)) /\ R.b + (R.c + (0 + 0)) <= 1000; lia
noncomputable def ZaO (R : Yr) (k : Nat) : Int := vec R.p R.q R.r k + YM R.a R.b R.c k * vec R.fin.t0 R.fin.t1 R.fin.t2 k - ([ent R.a R.b R.c k 0 * R.fin.t0, ent R.a R.b R.c k 1 * R.fin.t1, ent R.a R.b R.c k 2 * R.fin.t2] : List Int).sum
theorem Zr1 {k : Nat} (hk : k < 3) : Zn9 (none :: some (.int (k : Int)) :: YL R y) B = some (.int ([ent R.a R.b R.c k 0 * R.fin.t0, ent R.a R.b R.c k 1 * R.fin.t1, ent R.a R.b R.c k 2 * R.fin.t2] : List Int).sum, B) := by
 have net_at : ∀ k < 3, ∀ j < 3, (Zf B (XF R.a R.b R.c) (.int ((k : Nat) : Int))).bind (fun r => Zf B r (.int ((j : Nat) : Int))) = some (.int (ent R.a R.b R.c k j)) := Yv (Yv rfl rfl rfl) (Yv rfl rfl rfl) (Yv rfl rfl rfl)
 have := Zac (f := D.b Y2 (D.b Zf (D.b Zf (D.v 5) (D.v 3)) (D.v 1)) (D.b Zf (D.v 10) (D.v 1))) (tp := false) (ifs := T.all []) (it := I.val (D.c Zw [D.k (.int 3)])) (σ := none :: some (.int (k : Int)) :: YL R y) (B := B) (B₁ := B) (xs := ZbT)
  (fun _ => true) (fun x => .int (ent R.a R.b R.c k (YF x) * vec R.fin.t0 R.fin.t1 R.fin.t2 (YF x))) rfl (fun x hx => by
   obtain ⟨j, hj, rfl⟩ := XU hx;refine ⟨rfl, fun _ => ?_⟩;have e := net_at k hk j hj;obtain ⟨r, e1, e2⟩ := Option.bind_eq_some_iff.mp e;exact Zh (Zh (Zh rfl rfl e1) rfl e2) (Zh rfl rfl (Zeh j hj)) (Y5 (Zlr k hk j hj))) (by decide)
 rw [List.filter_eq_self.mpr (fun _ _ => rfl)] at this;exact ZE this rfl
theorem ZsA : Ztw (YL R y) B = some (.list [.int (ZaO R 0), .int (ZaO R 1), .int (ZaO R 2)], B) := by
 have sums : ∀ k < 3, D.c YO [D.b Zf (D.v 3) (D.v 1)] (none :: some (.int ((k : Nat) : Int)) :: YL R y) B = some (.int (YM R.a R.b R.c k), B) := Yv rfl rfl rfl;have starts : ∀ k < 3, Zf B (.list [.int R.p, .int R.q, .int R.r]) (.int ((k : Nat) : Int)) = some (.int (vec R.p R.q R.r k)) := Yv rfl rfl rfl
 have := Zac (f := D.b Ya (D.b YV (D.b Zf (D.v 7) (D.v 1)) (D.b Y2 (D.c YO [D.b Zf (D.v 3) (D.v 1)]) (D.b Zf (D.v 8) (D.v 1)))) Zn9) (tp := false) (ifs := T.all []) (it := I.val (D.c Zw [D.k (.int 3)])) (σ := YL R y) (B := B) (B₁ := B) (xs := ZbT)
  (fun _ => true) (fun x => .int (ZaO R (YF x))) rfl (fun x hx => by
   obtain ⟨k, hk, rfl⟩ := XU hx;refine ⟨rfl, fun _ => ?_⟩;exact Zh (Zh (Zh rfl rfl (starts k hk)) (Zh (sums k hk) (Zh rfl rfl (Zeh k hk)) (Y5 (Zlh k hk))) rfl) (Zr1 hk) rfl) (by decide)
 rw [List.filter_eq_self.mpr (fun _ _ => rfl)] at this;exact this
theorem Zix : ∀ k < 3, ZaO R k = xv R.fin k := by
 have I := (ZbK (way := R.way) R.net R.start).1;have e0 := I.e0; have e1 := I.e1; have e2 := I.e2;simp only [Int.add_mul] at e0 e1 e2;refine Yv ?_ ?_ ?_
 ·show R.p + (0 + (R.a + (R.b + 0))) * R.fin.t0 - (0 * R.fin.t0 + (R.a * R.fin.t1 + (R.b * R.fin.t2 + 0))) = R.fin.x0
  unfold Yr.fin;rw [e0];simp only [Int.zero_add, Int.add_zero, Int.add_mul, Int.zero_mul]; lia
 ·show R.q + (R.a + (0 + (R.c + 0))) * R.fin.t1 - (R.a * R.fin.t0 + (0 * R.fin.t1 + (R.c * R.fin.t2 + 0))) = R.fin.x1
  unfold Yr.fin;rw [e1];simp only [Int.zero_add, Int.add_zero, Int.add_mul, Int.zero_mul]; lia
 ·show R.r + (R.b + (R.c + (0 + 0))) * R.fin.t2 - (R.b * R.fin.t0 + (R.c * R.fin.t1 + (0 * R.fin.t2 + 0))) = R.fin.x2
  unfold Yr.fin;rw [e2];simp only [Int.zero_add, Int.add_zero, Int.add_mul, Int.zero_mul]; lia
theorem Zp7 : R.fin.x0 + R.fin.x1 + R.fin.x2 = R.p + R.q + R.r := by
 have I := (ZbK (way := R.way) R.net R.start).1;have e0 := I.e0; have e1 := I.e1; have e2 := I.e2;simp only [Int.add_mul] at e0 e1 e2;unfold Yr.fin;lia
theorem Zpe {f g k : DE} {σ : St} {d : V} (h : f σ B = some (.bool true, B)) (h2 : g σ B = some (.bool true, B)) (h3 : k σ B = some (d, B)) : D.boolop true [f, g, k] σ B = some (d, B) := by
 simp [D.boolop, h, h2, h3, Ju]
theorem Znw : ZD B [cdV R.base R.o (xv R.fin)] = some (.int (R.p + R.q + R.r), B) := by
 refine XW ?_;show (YR (R.o.map fun s => V.int (xv R.fin s))).map (fun ns => V.int ns.sum) = _;rw [show (R.o.map fun s => V.int (xv R.fin s)) = (R.o.map (xv R.fin)).map V.int by rw [List.map_map]; rfl, Za8];show some (V.int _) = _;congr 2;have := Zp7 (R := R);rcases R.ho.is with e | e <;> rw [e]
 ·show R.fin.x0 + (R.fin.x1 + (R.fin.x2 + 0)) = _; lia
 ·show R.fin.x1 + (R.fin.x0 + (R.fin.x2 + 0)) = _; lia
theorem Zot {y10 : Option V} : D.boolop true [D.v 9, D.b (bv Y1) (D.c ZD [D.v 8]) (D.c YO [D.v 5]), D.b (bv Y1) (D.sortItems (D.v 8)) (D.sortZip (D.v 2) (D.v 11))] (YL R (y10, some (.list [.int (ZaO R 0), .int (ZaO R 1), .int (ZaO R 2)]))) B = some (.bool true, B) := by
 have h1 : D.b (bv Y1) (D.c ZD [D.v 8]) (D.c YO [D.v 5]) (YL R (y10, some (.list [.int (ZaO R 0), .int (ZaO R 1), .int (ZaO R 2)]))) B = some (.bool true, B) := by
  refine Zh (ZE rfl Znw) (ZE (d' := .int (R.p + R.q + R.r)) rfl ?_) ?_
  ·show some (V.int (R.p + (R.q + (R.r + 0))), B) = _
   congr 3; lia
  ·show (some (R.p + R.q + R.r == R.p + R.q + R.r)).map V.bool = _
   rw [beq_self_eq_true]; rfl
 have h2 : D.sortItems (D.v 8) (YL R (y10, some (.list [.int (ZaO R 0), .int (ZaO R 1), .int (ZaO R 2)]))) B = some (.list (Za3 R.base (xv R.fin)), B) := by
  show (Zdl (R.o.map (wd R.base)) (R.o.map fun s => V.int (xv R.fin s))).map (fun xs => (V.list xs, B)) = _;rw [ZjI R.hb R.ho]; rfl
 have h3 : D.sortZip (D.v 2) (D.v 11) (YL R (y10, some (.list [.int (ZaO R 0), .int (ZaO R 1), .int (ZaO R 2)]))) B = some (.list (Za3 R.base (xv R.fin)), B) := by
  show (Zdl ([0, 1, 2].map (wd R.base)) [.int (ZaO R 0), .int (ZaO R 1), .int (ZaO R 2)]).map (fun xs => (V.list xs, B)) = _;rw [Zix 0 (by decide), Zix 1 (by decide), Zix 2 (by decide)];rw [show ([V.int (xv R.fin 0), .int (xv R.fin 1), .int (xv R.fin 2)] : List V) = ([0, 1, 2] : List Nat).map fun s => V.int (xv R.fin s) from rfl, ZjI R.hb ⟨.inl rfl⟩]; rfl
 refine Zpe rfl h1 (Zh h2 h3 ?_);show (Y1 B _ _).map V.bool = _;rw [Ziu]; rfl
end
noncomputable def ZO : VF := ZbA (fun R : Yr => [YB R, XF R.a R.b R.c, X2 R.base]) (fun _ => .bool true)
theorem Zjh {R : Yr} {B : Bx} : ZO B [YB R, XF R.a R.b R.c, X2 R.base] = some (.bool true, B) := ZaJ (enc := fun R : Yr => [YB R, XF R.a R.b R.c, X2 R.base]) fun _ _ => rfl
theorem ZeR : Runs (JV ZV ZD) XH ["row", "net", "words"] ZO := J2 (fun _ => rfl) fun B R => ⟨by
 have e1 : S.assigns [3, 4, 5, 6, 7, 8, 9] (D.v 0) (JS XH ["row", "net", "words"] [YB R, XF R.a R.b R.c, X2 R.base]) B = some (.next, YL R (none, none), B) := rfl;refine Zi e1 (Zi ((Xv ZoY).trans rfl) (Zi (Zq Zmq) ?_));refine Zi (σ₁ := YL R (some (.list (R.names.map V.str)), none)) ((Xv (ZpX (y := (none, none)))).trans rfl) (Zi (Zq ZsA) (Yq Zot)), 1, rfl⟩
structure Jv (v : V) (dep len : Nat) : Prop where
 is : ∃ p, ZjA v = some p /\ p.showable = true /\ p.depth <= dep /\ p.shown.length <= len
theorem ZkU : (List.range 61).all (fun k => Nat.ble (PyData.shown (.int ((k : Int) - 30))).length 5 && PyData.showable (.int ((k : Int) - 30))) = true := by decide +kernel
theorem Jv.int {i : Int} (h : -30 <= i /\ i <= 30) : Jv (.int i) 0 5 := by
 have := ZkU;rw [List.all_eq_true] at this;have := this (i + 30).toNat (List.mem_range.mpr (by lia));rw [Bool.and_eq_true, show (((i + 30).toNat : Int) - 30) = i by lia] at this;exact ⟨.int i, rfl, this.2, Nat.le_of_eq (by simp [PyData.depth]), Nat.ble_eq.mp this.1⟩
theorem Jv.str {x : Str} (h1 : x.length <= 18) (h2 : ∀ c ∈ ls x, c < 16 ^ 8) : Jv (.str x) 0 182 :=
 ⟨.str x, rfl, by simp [PyData.showable], Nat.le_of_eq (by simp [PyData.depth]), by
  have := PySem.StrLaws.reprText_len x h2;simp only [PyData.shown];lia⟩
theorem Zd6 {d l : Nat} : ∀ {xs : List V}, (∀ x ∈ xs, Jv x d l) -> ∃ ps, Zdv xs = some ps /\ PyData.showableAll ps = true /\ PyData.depthAll ps <= d /\ (∀ t ∈ PyData.shownAll ps, t.length <= l) /\ (PyData.shownAll ps).length = xs.length
 | [], _ => ⟨[], by simp [Zdv], by simp [PyData.showableAll], by simp [PyData.depthAll], by simp [PyData.shownAll], by simp [PyData.shownAll]⟩
 | x :: xs, h => by
  refine ZnW (Zd6 fun y hy => h y (List.mem_cons_of_mem _ hy)) fun ps h1 h2 h3 h4 h5 => ?_;refine Zbf ((h x (.head _)).is) fun p g1 g2 g3 g4 => ?_;refine ⟨p :: ps, by simp [Zdv, g1, h1], by simp [PyData.showableAll, g2, h2], by simp only [PyData.depthAll]; exact Nat.max_le.mpr ⟨g3, h3⟩, ?_, by simp [PyData.shownAll, h5]⟩;intro t ht;simp only [PyData.shownAll] at ht;rcases List.mem_cons.mp ht with rfl | ht
  ·exact g4
  ·exact h4 t ht
theorem Zg2 {ts : List Str} {n k : Nat} (hn : ts.length = n) (hk : ∀ t ∈ ts, t.length <= k) : (ts.map (·.length)).sum + 2 * ts.length + 3 <= n * k + 2 * n + 3 := by
 have h2 := Zjd (l := ts.map (·.length)) (c := k) (fun x hx => by
  refine Zg (List.mem_map.mp hx) fun t ht z_2 => ?_;subst z_2;exact hk t ht)
 rw [List.length_map, hn] at h2;lia
theorem Jv.list {xs : List V} {d l : Nat} (h : ∀ x ∈ xs, Jv x d l) : Jv (.list xs) (d + 1) (xs.length * l + 2 * xs.length + 3) := by
 refine ZnW (Zd6 h) fun ps h1 h2 h3 h4 h5 => ?_;refine ⟨.list ps, by simp [ZjA, h1], by simp [PyData.showable, h2], ?_, ?_⟩
 ·simp only [PyData.depth]; lia
 ·simp only [PyData.shown]
  exact Nat.le_trans (listText_len_le _) (Zg2 h5 h4)
theorem Jv.tup {xs : List V} {d l : Nat} (h : ∀ x ∈ xs, Jv x d l) : Jv (.tup xs) (d + 1) (xs.length * l + 2 * xs.length + 3) := by
 refine ZnW (Zd6 h) fun ps h1 h2 h3 h4 h5 => ?_;refine ⟨.tuple ps, by simp [ZjA, h1], by simp [PyData.showable, h2], ?_, ?_⟩
 ·simp only [PyData.depth]; lia
 ·simp only [PyData.shown]
  exact Nat.le_trans (tupleText_len_le _) (Zg2 h5 h4)
theorem Jv.mono {v : V} {d d' l l' : Nat} (h : Jv v d l) (hd : d <= d') (hl : l <= l') : Jv v d' l' :=
 let ⟨p, a, b, c, e⟩ := h.is; ⟨p, a, b, Nat.le_trans c hd, Nat.le_trans e hl⟩
theorem Zj7 {xs : List V} {d l : Nat} {B : Bx} (h : Jv (.list xs) d l) (hd : d <= 400) (hl : l <= 100000) : ∃ s, Jg B [.list xs] = some (.str s, B) := by
 refine Zbf h.is fun p a b c e => ?_;refine ⟨p.shown, XW ?_⟩;show (ZhE (.list xs)).map V.str = _;unfold ZhE;rw [a];simp only [b, decide_eq_true (Nat.le_trans c hd), Yd (Nat.le_trans e (Nat.le_trans hl (show 100000 <= Cap by decide))), Bool.and_self, if_true];rfl
theorem ZiL : (List.range 32).all (fun k => (ls (wT k)).all fun c => Nat.blt c (16 ^ 8)) = true := by decide +kernel
theorem Jv.word {base k : Nat} (h : base <= 29) (hk : k < 3) : Jv (.str (wd base k)) 0 182 := Jv.str (Zel h hk) fun c hc => by
 have := ZiL;rw [List.all_eq_true] at this;have := this (base + k) (List.mem_range.mpr (by lia));rw [List.all_eq_true] at this;rw [Zaz h hk] at hc;exact Nat.blt_eq.mp (this c hc)
theorem ZrN {f : DE} {it : DI} {ifs : DT} {tp : Bool} {σ : St} {B B₁ : Bx} {src : Src} {xs : List V} (b : V -> Bool) (e : V -> V) (hit : it σ B = some (src, B₁)) (hs : ZkX B₁ src xs) (hfu : src.fuel B₁ = xs.length + 1)
  (h : ∀ x ∈ xs, ifs (none :: some x :: σ) B₁ = some (b x, B₁) /\ (b x = true -> f (none :: some x :: σ) B₁ = some (e x, B₁))) (hl : xs.length <= Cap) :
  Zy 2 (emL f) { it := it, tp := tp, tgt := fun d σ => some (σ.set 1 (some d)), ifs := ifs } [] (.list []) σ B = some (.list ((xs.filter b).map e), B₁) := by
 have key : xs.flatMap (fun x => if b x then [e x] else []) = (xs.filter b).map e := by
  clear h hit hl hs hfu
  induction xs with
  | nil => rfl
  | cons x xs ih => cases hb : b x <;> simp [hb, ih]
 obtain ⟨σ', _, h2⟩ := Zht (S := { it := it, tp := tp, tgt := fun d σ => some (σ.set 1 (some d)), ifs := ifs }) (inner := cgo (emL f) []) (B := B₁) (fun τ => ∃ y, τ = none :: y :: σ) b (fun x => [e x]) xs src hs
  (fun x hx τ ⟨y, hy⟩ => by
   subst hy;refine ⟨none :: some x :: σ, rfl, (h x hx).1, fun _ => ⟨_, rfl⟩, fun hb acc hc => ⟨_, ⟨_, rfl⟩, ZdX ((h x hx).2 hb) (by simp at hc; lia)⟩⟩)
  [] (none :: none :: σ) (xs.length + 1) ⟨_, rfl⟩ (Nat.lt_succ_self _) (by
   rw [key]; simp only [List.length_nil, List.length_map]; have := List.length_filter_le b xs; lia)
 unfold Zy;simp only [hit, hfu];rw [show List.replicate 2 (none : Option V) ++ σ = none :: none :: σ from rfl, h2, key];simp
structure Lw where
 (a b c : Int)
 base : Nat
 (way one two deg : Int)
 net : XK a b c
 hb : base <= 29
 hw : way = 1 \/ way = -1
 h1 : -2 <= one /\ one <= 2
 h2 : -2 <= two /\ two <= 2
 hd : -1 <= deg /\ deg <= 5
noncomputable def Lw.P0 (W : Lw) : RunP := { a := W.a, b := W.b, c := W.c, base := W.base, way := W.way, o := [0, 1, 2], net := W.net, hb := W.hb, hw := W.hw, ho := ⟨.inl rfl⟩ }
noncomputable def Lw.P1 (W : Lw) : RunP := { a := W.a, b := W.b, c := W.c, base := W.base, way := W.way, o := [1, 0, 2], net := W.net, hb := W.hb, hw := W.hw, ho := ⟨.inr rfl⟩ }
noncomputable def Lw.r (W : Lw) : Int := W.deg - W.one - W.two
noncomputable def Lw.K0 (W : Lw) : ZM := { toRunP := W.P0, p := W.one, q := W.two, r := W.r, L := [], hp := by have := W.h1; lia, hq := by have := W.h2; lia, hr := by have := W.h1; have := W.h2; have := W.hd; unfold Lw.r; lia, hd := by have := W.hd; unfold Lw.r; lia, hL := by simp }
theorem ZeT (K : ZM) : K.rows.length <= 75 := by
 unfold ZM.rows;refine Nat.le_trans (Zei (m := 15) _ fun n hn => ?_) (Nat.mul_le_mul_left 15 (Zct (l := List.range 5)));rw [List.length_map];exact Nat.le_trans Zct (Zc9 n (List.mem_range.mp (ZhJ hn)))
noncomputable def Lw.L1 (W : Lw) : List Yr := W.K0.rows.map W.K0.at
noncomputable def Lw.K1 (W : Lw) : ZM := {
 toRunP := W.P1, p := W.a + W.b - 2 - W.one, q := W.a + W.c - 2 - W.two, r := W.b + W.c - 2 - W.r, L := W.L1,
 hp := (by have := W.h1; have := W.net.c0; have := W.net.sum; lia),
 hq := (by have := W.h2; have := W.net.b0; have := W.net.sum; lia),
 hr := (by have := W.h1; have := W.h2; have := W.hd; have := W.net.a0; have := W.net.sum; unfold Lw.r; lia),
 hd := (by have := W.hd; have := W.net.sum; unfold Lw.r; lia),
 hL := (by unfold Lw.L1; rw [List.length_map]; exact Nat.le_trans (ZeT _) (by decide)) }
noncomputable def Lw.L2 (W : Lw) : List Yr := W.L1 ++ W.K1.rows.map W.K1.at
theorem Zf0 (K : ZM) : XO K K.rows = [.list ((K.L ++ K.rows.map K.at).map YB)] := by
 unfold XO;rw [List.map_append, List.map_map];rfl
theorem Zsh (W : Lw) : XO W.K0 W.K0.rows = [.list (W.L1.map YB)] := Zf0 _
theorem Zsu (W : Lw) : XO W.K1 W.K1.rows = [.list (W.L2.map YB)] := Zf0 _
theorem Zrs (W : Lw) : W.L2.length <= 150 := by
 unfold Lw.L2 Lw.L1;rw [List.length_append, List.length_map, List.length_map];have := ZeT W.K0;have := ZeT W.K1;lia
theorem Zr2 (W : Lw) : ∀ R ∈ W.L2, R.a = W.a /\ R.b = W.b /\ R.c = W.c /\ R.base = W.base := fun R hR => by
 have key : ∀ (K : ZM) t, (K.at t).a = K.a /\ (K.at t).b = K.b /\ (K.at t).c = K.c /\ (K.at t).base = K.base := fun K t => by rw [ZM.at_P]; exact ⟨rfl, rfl, rfl, rfl⟩
 unfold Lw.L2 Lw.L1 at hR;rcases List.mem_append.mp hR with h | h
 ·obtain ⟨t, _, rfl⟩ := List.mem_map.mp h; exact key W.K0 t
 ·obtain ⟨t, _, rfl⟩ := List.mem_map.mp h; exact key W.K1 t
theorem Zmv {R : Yr} : Zfv R = ZkT R.fin := by
 have I : Zd3 R.a R.b R.c R.p R.q R.r R.fin := (ZbK (way := R.way) R.net R.start).1
 have e : ∀ t : Int, 0 <= t -> gB t = decide (t ≠ 0) := fun t ht => by
  unfold gB
  by_cases h : t > 0
  ·rw [decide_eq_true h]; exact (decide_eq_true (by lia)).symm
  ·rw [decide_eq_false h]; exact (decide_eq_false (by lia)).symm
 unfold Zfv ZkT gS;show (gB R.fin.t0 && gB R.fin.t1 && gB R.fin.t2) = _;rw [e _ I.t0, e _ I.t1, e _ I.t2]
theorem Zib (K : ZM) : K.rank = JE K.a K.b K.c K.way K.p K.q K.r := by
 refine Zdu fun n i j hn hij => ?_;unfold ZM.lost;rw [Zmv, ZM.at_eq hn hij];rfl
theorem ZrS {x y d e : Int} (h : x + 3 = y + (e + 1)) (h' : e = d) : x - 1 - (y - 1) = d - 2 := by lia
theorem Lw.r_is {W : Lw} : W.one + W.two + W.r = W.deg := by unfold Lw.r; lia
theorem ZrF (W : Lw) : (W.K0.rank : Int) - 1 - ((W.K1.rank : Int) - 1) = W.deg - 2 := by
 obtain ⟨a, ha⟩ := Int.eq_ofNat_of_zero_le W.net.a0;obtain ⟨b, hb⟩ := Int.eq_ofNat_of_zero_le W.net.b0;obtain ⟨c, hc⟩ := Int.eq_ofNat_of_zero_le W.net.c0;have N := W.net;rw [ha, hb, hc] at N;have := Zgo (way := W.way) (p := W.one) (q := W.two) (r := W.r) N W.h1 W.h2 (by have := W.hd; unfold Lw.r; lia);rw [Zib, Zib]
 have e0 : JE W.K0.a W.K0.b W.K0.c W.K0.way W.K0.p W.K0.q W.K0.r = JE a b c W.way W.one W.two W.r := by
  show JE W.a W.b W.c W.way W.one W.two W.r = _; rw [ha, hb, hc]
 have e1 : JE W.K1.a W.K1.b W.K1.c W.K1.way W.K1.p W.K1.q W.K1.r = JE a b c W.way (a + b - 2 - W.one) (a + c - 2 - W.two) (b + c - 2 - W.r) := by
  show JE W.a W.b W.c W.way (W.a + W.b - 2 - W.one) (W.a + W.c - 2 - W.two) (W.b + W.c - 2 - W.r) = _; rw [ha, hb, hc]
 rw [e0, e1];exact ZrS this Lw.r_is
theorem Zav (x : Int) (m : Nat) (hm : 0 < m) : ∃ k : Nat, k < m /\ Int.fmod x (m : Int) = (k : Int) :=
 have h2 := Int.fmod_lt_of_pos x (Int.ofNat_lt.mpr hm)
 (Int.eq_ofNat_of_zero_le (Int.fmod_nonneg_of_pos x (Int.ofNat_lt.mpr hm))).elim fun k hk => ⟨k, Int.ofNat_lt.mp (by rw [hk] at h2; exact h2), hk⟩
theorem Zjq {ns : List Int} (h : ns.length <= 63) {B : Bx} : ZQ B [.list (ns.map V.int)] = some (.list ((Zcd 9 Zcl ns).map V.int), B) := by
 refine XW ?_;show (Sb.bind (YR (ns.map V.int)) _).1 = _;rw [Sb.bind_eq (Za8 ns)];exact if_pos (Nat.le_trans h (by decide))
theorem Za1 {l : List Int} {n : Nat} (h : l.length = n + 1) : ∃ x r, l = x :: r /\ r.length = n := by
 cases l with
 | nil => cases h
 | cons x r => exact ⟨x, r, rfl, Nat.succ.inj h⟩
theorem ZoV (ns : List Int) : ∃ c : Jh, Zcd 9 Zcl ns = c.list :=
 YA (Za1 (Ziz 9 Zcl ns)) fun c0 _ e0 h => YA (Za1 h) fun c1 _ e1 h => YA (Za1 h) fun c2 _ e2 h => YA (Za1 h) fun c3 _ e3 h => YA (Za1 h) fun c4 _ e4 h => YA (Za1 h) fun c5 _ e5 h => YA (Za1 h) fun c6 _ e6 h =>
  YA (Za1 h) fun c7 _ e7 h => YA (Za1 h) fun c8 _ e8 h => ⟨⟨c0, c1, c2, c3, c4, c5, c6, c7, c8⟩, by rw [e0, e1, e2, e3, e4, e5, e6, e7, e8, List.eq_nil_of_length_eq_zero h]; rfl⟩
theorem ZoH {c : Jh} {B : Bx} : Yb B [.list (c.list.map V.int)] = some (c.net, B) :=
 ZaJ (enc := fun c : Jh => [.list (c.list.map V.int)]) fun q h =>
  congrArg (fun l : List V => (Jh.mk ((l.getD 0 .none).at 0).num ((l.getD 0 .none).at 1).num ((l.getD 0 .none).at 2).num ((l.getD 0 .none).at 3).num ((l.getD 0 .none).at 4).num ((l.getD 0 .none).at 5).num ((l.getD 0 .none).at 6).num ((l.getD 0 .none).at 7).num ((l.getD 0 .none).at 8).num).net) h
theorem Zox : (List.range 3).all (fun r0 => (List.range 3).all fun r1 => (List.range 3).all fun r2 => (List.range 3).all fun r3 => (List.range 3).all fun r4 =>
  let l : List Int := [(r0 : Int), r1, r2, r3, Int.fmod ((r4 : Int) + (if ((Zbk [(r0 : Int), r1, r2, r3, r4] : Nat) : Int) == 1 then 1 else 0)) 3]
  Nat.beq (l.count 0 + l.count 1 + l.count 2) 5 && Nat.ble (l.count 0) 4 && Nat.ble (l.count 1) 4 && Nat.ble (l.count 2) 4) = true := by decide +kernel
theorem Zsz (c : Jh) : XK (c.fix.count 0 : Nat) (c.fix.count 1 : Nat) (c.fix.count 2 : Nat) := by
 obtain ⟨r0, h0, e0⟩ := Zav c.c0 3 (by decide);obtain ⟨r1, h1, e1⟩ := Zav c.c1 3 (by decide);obtain ⟨r2, h2, e2⟩ := Zav c.c2 3 (by decide);obtain ⟨r3, h3, e3⟩ := Zav c.c3 3 (by decide);obtain ⟨r4, h4, e4⟩ := Zav c.c4 3 (by decide);have hk := Zox;rw [List.all_eq_true] at hk;have hk := hk r0 (List.mem_range.mpr h0);rw [List.all_eq_true] at hk;have hk := hk r1 (List.mem_range.mpr h1);rw [List.all_eq_true] at hk;have hk := hk r2 (List.mem_range.mpr h2);rw [List.all_eq_true] at hk;have hk := hk r3 (List.mem_range.mpr h3);rw [List.all_eq_true] at hk;have hk := hk r4 (List.mem_range.mpr h4)
 have hf : c.fix = [(r0 : Int), r1, r2, r3, Int.fmod ((r4 : Int) + (if ((Zbk [(r0 : Int), r1, r2, r3, r4] : Nat) : Int) == 1 then 1 else 0)) 3] := by
  unfold Jh.fix Jh.kinds;rw [show (3 : Int) = ((3 : Nat) : Int) from rfl, e0, e1, e2, e3, e4]
 dsimp only at hk;rw [<- hf] at hk;simp only [Bool.and_eq_true, Nat.ble_eq] at hk;obtain ⟨⟨⟨k1, k2⟩, k3⟩, k4⟩ := hk;have k1 := Nat.eq_of_beq_eq_true k1;exact ⟨by lia, by lia, by lia, by lia, by lia, by lia, by lia⟩
theorem ZjB {b : Nat} (h : b <= 29) {B : Bx} : Z1 B [.int (b : Int)] = some (X2 b, B) := by
 refine XW ?_;show (if 0 <= (b : Int) /\ (b : Int) <= 29 then some (V.list (Zcc (b : Int).toNat 3)) else none) = _;rw [if_pos ⟨by lia, by lia⟩, Int.toNat_natCast];rfl
theorem Zem {p : ZgQ} {B : Bx} : ZG B [XF p.a p.b p.c, X2 p.base] = some (YP p.a p.b p.c p.base, B) :=
 ZaJ (enc := fun p : ZgQ => [XF p.a p.b p.c, X2 p.base]) fun q h => by
  have g : ∀ F : V -> Int, F (XF q.a q.b q.c) = F (XF p.a p.b p.c) := fun F => congrArg (fun l : List V => F (l.getD 0 .none)) h;have ha : q.a = p.a := g fun n => ((n.at 0).at 1).num;have hb : q.b = p.b := g fun n => ((n.at 0).at 2).num;have hc : q.c = p.c := g fun n => ((n.at 1).at 2).num;have hw : wd q.base 0 = wd p.base 0 := congrArg (fun l : List V => ((l.getD 1 .none).at 0).txt) h
  have hd : q.base = p.base := by
   have h1 := q.hb;have h2 := p.hb;exact Zee _ (show q.base + 0 < 32 by clear hw ha hb hc g h; lia) _ (show p.base + 0 < 32 by clear hw ha hb hc g h; lia) hw
  rw [ha, hb, hc, hd]
section
variable {base : Nat} {σ : St} {B : Bx}
noncomputable def eW (base : Nat) (g : Nat -> V) : V -> V
 | .str s => if s = wd base 0 then g 0 else if s = wd base 1 then g 1 else g 2
 | _ => .none
theorem Zqw (hb : base <= 29) {g : Nat -> V} : ∀ k < 3, eW base g (.str (wd base k)) = g k := by
 have n10 := ZcF hb (show 1 < 3 by decide) (show 0 < 3 by decide) (by decide);have n20 := ZcF hb (show 2 < 3 by decide) (show 0 < 3 by decide) (by decide);have n21 := ZcF hb (show 2 < 3 by decide) (show 1 < 3 by decide) (by decide);refine Yv (if_pos rfl) ((if_neg n10).trans (if_pos rfl)) ((if_neg n20).trans (if_neg n21))
noncomputable def ZqB : V -> Str
 | .str s => s
 | _ => ""
noncomputable def wL (base : Nat) (o : List Nat) : List V := o.map fun k => V.str (wd base k)
theorem Zgy {fv : DE} {it : DI} {tp : Bool} {o : List Nat} (hb : base <= 29) (ho : ZaD o) (g : Nat -> V) (hit : it σ B = some (.seq (wL base o), B)) (h : ∀ k < 3, fv (none :: some (.str (wd base k)) :: σ) B = some (g k, B)) :
  Zy 2 (emD (D.v 1) fv) { it := it, tp := tp, tgt := fun d σ => some (σ.set 1 (some d)), ifs := T.all [] } [] (.dict [] []) σ B = some (.dict (o.map (wd base)) (o.map g), B) := by
 have hk : (wL base o).map ZqB = o.map (wd base) := by unfold wL; rw [List.map_map]; rfl
 have he : (wL base o).map (eW base g) = o.map g := by
  unfold wL; rw [List.map_map];exact List.map_congr_left fun k hk => Zqw hb k (ho.mem.mp hk)
 have := Zgp (fk := D.v 1) (fv := fv) (ifs := T.all []) (tp := tp) (it := it) (σ := σ) (B := B) (B₁ := B) (xs := wL base o) (fun _ => true) ZqB (eW base g) hit (fun x hx => by
  refine Zg (List.mem_map.mp hx) fun k hk z_2 => ?_;subst z_2;have hk := ho.mem.mp hk
  exact ⟨rfl, fun _ => ⟨rfl, by rw [Zqw hb k hk]; exact h k hk⟩⟩) (by rw [hk]; exact ZaR (fun s hs t ht e => Zdj hb s (ho.mem.mp hs) t (ho.mem.mp ht) e) ho.nodup) (by
   unfold wL; rw [List.length_map]; rcases ho.is with rfl | rfl <;> decide)
 rw [List.filter_eq_self.mpr (fun _ _ => rfl), hk, he] at this;exact this
theorem ZdK {o o' : List Nat} {x y z x' y' z' : Int} (hb : base <= 29) (hn : o.Nodup) (hn' : o'.Nodup) (hl : ∀ s ∈ o, s < 3) (hl' : ∀ s ∈ o', s < 3) (hz : ∀ s < 3, s ∉ o -> vec x y z s = 0) (hz' : ∀ s < 3, s ∉ o' -> vec x' y' z' s = 0) :
  Ze B [cdV base o (vec x y z), cdV base o' (vec x' y' z')] = some (cdV base (o ++ o'.filter (· ∉ o)) (vec (x + x') (y + y') (z + z')), B) := by
 have z3 : ∀ {x y z : Int} {o : List Nat}, (∀ s < 3, s ∉ o -> vec x y z s = 0) -> ∀ s, s ∉ o -> vec x y z s = 0 := fun h s hs => by
  by_cases h3 : s < 3
  ·exact h s h3 hs
  ·exact ZcL s (by lia)
 rw [Zh6 hb hn hn' hl hl' (z3 hz) (z3 hz')];refine congrArg some (congrArg (·, B) (Zc7 fun s _ => ?_))
 match s with
 | 0 => rfl
 | 1 => rfl
 | 2 => rfl
 | s + 3 => rfl
theorem ZgG (h5 : σ[5]? = some (some (X2 base))) : ∀ k < 3, D.b Zf (D.v 5) (D.k (.int ((k : Nat) : Int))) σ B = some (.str (wd base k), B) := fun k hk => by
 have : ∀ k < 3, Zf B (X2 base) (.int ((k : Nat) : Int)) = some (.str (wd base k)) := Yv rfl rfl rfl;exact Zh (Zn h5) rfl (this k hk)
theorem Zpi {a b c : Int} {i : Nat} (h2 : σ[i]? = some (some (XF a b c))) : ∀ k < 3, D.c YO [D.b Zf (D.v i) (D.k (.int ((k : Nat) : Int)))] σ B = some (.int (YM a b c k), B) := fun k hk => by
 have : ∀ k < 3, ∃ r, Zf B (XF a b c) (.int ((k : Nat) : Int)) = some r /\ YO B [r] = some (.int (YM a b c k), B) := Yv ⟨_, rfl, rfl⟩ ⟨_, rfl, rfl⟩ ⟨_, rfl, rfl⟩;refine Zg (this k hk) fun r e1 e2 => ?_;exact ZE (Zh (Zn h2) rfl e1) e2
theorem rs0 {a b c : Int} : YM a b c 0 = a + b := by show 0 + (a + (b + 0)) = _; lia
theorem rs1 {a b c : Int} : YM a b c 1 = a + c := by show a + (0 + (c + 0)) = _; lia
theorem rs2 {a b c : Int} : YM a b c 2 = b + c := by show b + (c + (0 + 0)) = _; lia
noncomputable abbrev wE (k : Int) : DE := D.b Zf (D.v 5) (D.k (.int k))
noncomputable abbrev Zrd : DE := D.c Ze [D.dict [(wE 0, (D.v 8))], D.dict [(wE 1, (D.v 9)), (wE 2, (D.b Ya (D.b Ya (D.v 7) (D.v 8)) (D.v 9)))]]
theorem Zn5 {one two deg : Int} (hb : base <= 29) (h5 : σ[5]? = some (some (X2 base))) (h7 : σ[7]? = some (some (.int deg))) (h8 : σ[8]? = some (some (.int one))) (h9 : σ[9]? = some (some (.int two))) :
  Zrd σ B = some (cdV base [0, 1, 2] (vec one two (deg - one - two)), B) := by
 have w := ZgG (B := B) h5;have n12 := ZcF hb (show 1 < 3 by decide) (show 2 < 3 by decide) (by decide);have e1 : D.dict [(wE 0, (D.v 8))] σ B = some (cdV base [0] (vec one 0 0), B) := Zik (w 0 (by decide)) (Zn h8)
 have e2 : D.dict [(wE 1, (D.v 9)), (wE 2, (D.b Ya (D.b Ya (D.v 7) (D.v 8)) (D.v 9)))] σ B = some (cdV base [1, 2] (vec 0 two (deg - one - two)), B) :=
  ZgY (w 1 (by decide)) (Zn h9) (w 2 (by decide)) (Zh (Zh (Zn h7) (Zn h8) rfl) (Zn h9) rfl) n12
 refine Y7 e1 e2 ?_;have := ZdK (B := B) (o := [0]) (o' := [1, 2]) (x := one) (y := 0) (z := 0) (x' := 0) (y' := two) (z' := deg - one - two) hb (by decide) (by decide) (by decide) (by decide) (Yv (fun h => absurd (.head _) h) (fun _ => rfl) (fun _ => rfl)) (Yv (fun _ => rfl) (fun h => absurd (by decide) h) (fun h => absurd (by decide) h));rw [Int.add_zero, Int.zero_add, Int.zero_add] at this;exact this
noncomputable abbrev Zsi : DE := D.c Ze [D.dict [(wE 1, (D.c YO [D.b Zf (D.v 2) (D.k (.int 1))]))], D.dict [(wE 0, (D.c YO [D.b Zf (D.v 2) (D.k (.int 0))])), (wE 2, (D.c YO [D.b Zf (D.v 2) (D.k (.int 2))]))]]
theorem ZmB {a b c : Int} (hb : base <= 29) (h5 : σ[5]? = some (some (X2 base))) (h2 : σ[2]? = some (some (XF a b c))) : Zsi σ B = some (cdV base [1, 0, 2] (vec (a + b) (a + c) (b + c)), B) := by
 have w := ZgG (B := B) h5;have s := Zpi (B := B) h2;have n02 := ZcF hb (show 0 < 3 by decide) (show 2 < 3 by decide) (by decide);have e1 : D.dict [(wE 1, (D.c YO [D.b Zf (D.v 2) (D.k (.int 1))]))] σ B = some (cdV base [1] (vec 0 (YM a b c 1) 0), B) := Zik (w 1 (by decide)) (s 1 (by decide))
 have e2 : D.dict [(wE 0, (D.c YO [D.b Zf (D.v 2) (D.k (.int 0))])), (wE 2, (D.c YO [D.b Zf (D.v 2) (D.k (.int 2))]))] σ B = some (cdV base [0, 2] (vec (YM a b c 0) 0 (YM a b c 2)), B) :=
  ZgY (w 0 (by decide)) (s 0 (by decide)) (w 2 (by decide)) (s 2 (by decide)) n02
 rw [rs1] at e1;rw [rs0, rs2] at e2;refine Y7 e1 e2 ?_;have := ZdK (B := B) (o := [1]) (o' := [0, 2]) (x := 0) (y := a + c) (z := 0) (x' := a + b) (y' := 0) (z' := b + c) hb (by decide) (by decide) (by decide) (by decide) (Yv (fun _ => rfl) (fun h => absurd (.head _) h) (fun _ => rfl)) (Yv (fun h => absurd (by decide) h) (fun _ => rfl) (fun h => absurd (by decide) h));rw [Int.zero_add, Int.add_zero, Int.zero_add] at this;exact this
noncomputable abbrev Zrx : DE := D.c Ze [D.c Ze [D.v 11, Zy 2 (emD (D.v 1) (D.un JI (D.k (.int 2)))) (gs1 (I.val (D.v 5)) (T.all [])) [] (.dict [] [])], Zy 2 (emD (D.v 1) (D.un JI (D.b Zf (D.v 12) (D.v 1)))) (gs1 (I.val (D.v 5)) (T.all [])) [] (.dict [] [])]
theorem Zax {x y : Option V} {i : Nat} {d : V} (h : σ[i]? = some (some d)) : (x :: y :: σ)[i + 2]? = some (some d) := h
theorem ZoU {a b c one two r : Int} (hb : base <= 29) (h5 : σ[5]? = some (some (X2 base))) (h10 : σ[10]? = some (some (cdV base [0, 1, 2] (vec one two r)))) (h11 : σ[11]? = some (some (cdV base [1, 0, 2] (vec (a + b) (a + c) (b + c))))) :
  Zrx σ B = some (cdV base [1, 0, 2] (vec (a + b - 2 - one) (a + c - 2 - two) (b + c - 2 - r)), B) := by
 have h012 : ZaD [0, 1, 2] := ⟨.inl rfl⟩;have hit : I.val (D.v 5) σ B = some (.seq (wL base [0, 1, 2]), B) := YW (Zn h5) rfl;have c1 := Zgy (tp := false) (fv := D.un JI (D.k (.int 2))) (σ := σ) (B := B) hb h012 (fun k => .int (vec (-2) (-2) (-2) k)) hit (Yv rfl rfl rfl)
 have c2 := Zgy (tp := false) (fv := D.un JI (D.b Zf (D.v 12) (D.v 1))) (σ := σ) (B := B) hb h012 (fun k => .int (vec (-one) (-two) (-r) k)) hit (fun k hk => by
  have e : Zf B (cdV base [0, 1, 2] (vec one two r)) (.str (wd base k)) = some (.int (vec one two r k)) := XI hb h012 hk;have : D.un JI (D.b Zf (D.v 12) (D.v 1)) (none :: some (.str (wd base k)) :: σ) B = some (.int (-(vec one two r k)), B) := ZqQ (Zh (Zn (Zax h10)) rfl e) rfl;rw [this]
  revert k
  exact Yv (fun _ _ => rfl) (fun _ _ => rfl) (fun _ _ => rfl))
 have m3 : ∀ {x y z : Int}, ∀ s < 3, s ∉ ([0, 1, 2] : List Nat) -> vec x y z s = 0 := fun s hs h => absurd (h012.mem.mpr hs) h;have m3' : ∀ {x y z : Int}, ∀ s < 3, s ∉ ([1, 0, 2] : List Nat) -> vec x y z s = 0 := fun s hs h => absurd ((show ZaD [1, 0, 2] from ⟨.inr rfl⟩).mem.mpr hs) h;have a1 := ZdK (B := B) (o := [1, 0, 2]) (o' := [0, 1, 2]) (x := a + b) (y := a + c) (z := b + c) (x' := -2) (y' := -2) (z' := -2) hb (by decide) (by decide) (by decide) (by decide) m3' m3;have a2 := ZdK (B := B) (o := [1, 0, 2]) (o' := [0, 1, 2]) (x := a + b + -2) (y := a + c + -2) (z := b + c + -2) (x' := -one) (y' := -two) (z' := -r) hb (by decide) (by decide) (by decide) (by decide) m3' m3;refine (Y7 (Y7 (Zn h11) c1 a1) c2 a2).trans ?_;have e : ∀ x y : Int, x + -2 + -y = x - 2 - y := fun x y => by lia
 rw [e, e, e];rfl
end
noncomputable def Lw.coins (W : Lw) : V := cdV W.base [0, 1, 2] (vec W.one W.two W.r)
noncomputable def Lw.other (W : Lw) : V := cdV W.base [1, 0, 2] (vec (W.a + W.b - 2 - W.one) (W.a + W.c - 2 - W.two) (W.b + W.c - 2 - W.r))
structure LSt (W : Lw) (σ : St) : Prop where
 h2 : σ[2]? = some (some (XF W.a W.b W.c))
 h3 : σ[3]? = some (some (.int (W.base : Int)))
 h4 : σ[4]? = some (some (.int W.way))
 h5 : σ[5]? = some (some (X2 W.base))
 h6 : σ[6]? = some (some (YP W.a W.b W.c W.base))
 h7 : σ[7]? = some (some (.int W.deg))
 h8 : σ[8]? = some (some (.int W.one))
 h9 : σ[9]? = some (some (.int W.two))
 h10 : σ[10]? = some (some W.coins)
 h12 : σ[12]? = some (some W.other)
 h13 : σ[13]? = some (some (.box 0))
 len : σ.length = 21
theorem LSt.set {W : Lw} {σ : St} {i : Nat} {x : Option V} (h : LSt W σ) (hi : 14 <= i) : LSt W (σ.set i x) := by
 have e : ∀ j, j < 14 -> (σ.set i x)[j]? = σ[j]? := fun j hj => List.getElem?_set_ne (by lia);exact ⟨(e 2 (by decide)).trans h.h2, (e 3 (by decide)).trans h.h3, (e 4 (by decide)).trans h.h4, (e 5 (by decide)).trans h.h5, (e 6 (by decide)).trans h.h6, (e 7 (by decide)).trans h.h7, (e 8 (by decide)).trans h.h8, (e 9 (by decide)).trans h.h9, (e 10 (by decide)).trans h.h10, (e 12 (by decide)).trans h.h12, (e 13 (by decide)).trans h.h13, by rw [List.length_set]; exact h.len⟩
theorem Za2 {σ : St} {i : Nat} {x : Option V} (h : σ.length = 21) (hi : i < 21) : (σ.set i x)[i]? = some x := by rw [List.getElem?_set_self (by lia)]
section
variable {W : Lw} {σ : St} {B : Bx}
theorem Zij {F : VF} {f1 f2 f3 f4 f5 f6 : DE} {d1 d2 d3 d4 d5 d6 r : V} {B' : Bx} (h1 : f1 σ B = some (d1, B)) (h2 : f2 σ B = some (d2, B)) (h3 : f3 σ B = some (d3, B)) (h4 : f4 σ B = some (d4, B)) (h5 : f5 σ B = some (d5, B)) (h6 : f6 σ B = some (d6, B)) (hF : F B [d1, d2, d3, d4, d5, d6] = some (r, B')) : D.c F [f1, f2, f3, f4, f5, f6] σ B = some (r, B') := by
 simp [D.c, D.row, h1, h2, h3, h4, h5, h6, hF]
theorem Zme (h : LSt W σ) : D.c ZI [D.v 10, D.v 6, D.v 5, D.v 3, D.v 4, D.v 13] σ [.list []] = some (.int ((W.K0.rank : Int) - 1), [.list (W.L1.map YB)]) :=
 Zij (Zn h.h10) (Zn h.h6) (Zn h.h5) (Zn h.h3) (Zn h.h4) (Zn h.h13) ((Zgd (K := W.K0)).trans (by unfold ZM.out; rw [Zsh]))
theorem Zm6 (h : LSt W σ) : D.c ZI [D.v 12, D.v 6, D.v 5, D.v 3, D.v 4, D.v 13] σ [.list (W.L1.map YB)] = some (.int ((W.K1.rank : Int) - 1), [.list (W.L2.map YB)]) :=
 Zij (Zn h.h12) (Zn h.h6) (Zn h.h5) (Zn h.h3) (Zn h.h4) (Zn h.h13) ((Zgd (K := W.K1)).trans (by unfold ZM.out; rw [Zsu]))
theorem Zqb {x y : Int} (h : x = y) : Js B (.int x) (.int y) = some false := by
 subst h;show (some (x == x)).map (!·) = _;rw [beq_self_eq_true]; rfl
theorem Zmy (h : LSt W σ) (h14 : σ[14]? = some (some (.int ((W.K0.rank : Int) - 1)))) (h15 : σ[15]? = some (some (.int ((W.K1.rank : Int) - 1)))) : T.cmp Js (D.b Ya (D.v 14) (D.v 15)) (D.b Ya (D.v 7) (D.k (.int 2))) σ B = some (false, B) :=
 Z5 (Zh (Zn h14) (Zn h15) rfl) (Zh (Zn h.h7) rfl rfl) (Zqb (ZrF W))
noncomputable abbrev ZoQ : DE := Zy 2 (emL (D.v 1)) (gs1 (I.val (D.v 13)) (T.all [T.not (T.of (D.c ZO [D.v 1, D.v 4, D.v 7]))])) [] (.list [])
theorem ZpM {t : DT} {x : Bool} (h : t σ B = some (x, B)) : T.not t σ B = some (!x, B) := by simp [T.not, h]
theorem ZpA (h : LSt W σ) : ZoQ σ [.list (W.L2.map YB)] = some (.list [], [.list (W.L2.map YB)]) := by
 have := ZrN (f := D.v 1) (ifs := T.all [T.not (T.of (D.c ZO [D.v 1, D.v 4, D.v 7]))]) (tp := false) (it := I.val (D.v 13)) (σ := σ) (B := [.list (W.L2.map YB)]) (B₁ := [.list (W.L2.map YB)]) (src := .box 0 0) (xs := W.L2.map YB) (fun _ => false) (fun x => x)
  (YW (Zn h.h13) rfl) ⟨_, rfl, rfl⟩ (by show (W.L2.map YB).length + 1 = _; rfl) (fun x hx => by
   refine Zg (List.mem_map.mp hx) fun R hR z_2 => ?_;subst z_2;refine ZcR (Zr2 W R hR) fun ea eb ec ed => ?_;have e := Zjh (R := R) (B := [.list (W.L2.map YB)]);rw [ea, eb, ec, ed] at e;exact ⟨ZfY (ZpM (x := true) (Jm (d := .bool true) (Zmj rfl (Zn (Zax h.h2)) (Zn (Zax h.h5)) e) rfl)), fun z => nomatch z⟩) (by rw [List.length_map]; exact Nat.le_trans (Zrs W) (by decide))
 have hf : ∀ l : List V, l.filter (fun _ => false) = [] := fun l => List.filter_eq_nil_iff.mpr (fun _ _ => by simp);rw [hf] at this;exact this
noncomputable def Lw.loan (W : Lw) : ZgQ := { a := W.a, b := W.b, c := W.c, base := W.base, hb := W.hb }
theorem Zmh {a b c : Int} {base : Nat} : YP a b c base = .list ((([0, 1, 2] : List Nat).map (Zb7 a b c base)).map dv) := by
 unfold YP;rw [List.map_map]; rfl
theorem Zoq (h : LSt W σ) : T.bool false [T.cmp Js ZoQ (D.list []), T.cmp Zk7 (D.v 6) (D.c ZG [D.v 2, D.v 5])] σ [.list (W.L2.map YB)] = some (false, [.list (W.L2.map YB)]) :=
 ZaH (x := false) (y := false) (Z5 (ZpA h) rfl rfl) fun _ => Z5 (Zn h.h6) (Y7 (Zn h.h2) (Zn h.h5) (Zem (p := W.loan))) (by
  show Zk7 _ (YP W.a W.b W.c W.base) (YP W.a W.b W.c W.base) = _;rw [Zmh]; exact Zp0 _)
theorem ZhH {xs : List V} (h : ∀ x ∈ xs, veq 11 x x = some true) : Js B (.list xs) (.list xs) = some false := by
 unfold Js;rw [ZfH h]; rfl
theorem ZhZ {f : DE} {base : Nat} {o : List Nat} {g : Nat -> Int} (ho : o.length <= 3) (hf : f σ B = some (cdV base o g, B)) : D.listItems f σ B = some (.list (o.map fun k => Ji (wd base k) (.int (g k))), B) := by
 unfold D.listItems;rw [hf];show (if Zu (o.map (wd base)).length then some (V.list (Zba (o.map (wd base)) (o.map fun s => V.int (g s))), B) else none) = _;rw [if_pos (Yd (by rw [List.length_map]; exact Nat.le_trans ho (by decide)))];unfold Zba;rw [List.zip_map', List.map_map];rfl
theorem Zon (h : LSt W σ) : T.cmp Js (D.listItems (D.v 10)) (D.list [D.t [wE 0, D.v 8], D.t [wE 1, D.v 9], D.t [wE 2, D.b Ya (D.b Ya (D.v 7) (D.v 8)) (D.v 9)]]) σ B = some (false, B) := by
 have w := ZgG (B := B) h.h5;have e1 : D.listItems (D.v 10) σ B = some (.list (([0, 1, 2] : List Nat).map fun k => Ji (wd W.base k) (.int (vec W.one W.two W.r k))), B) := ZhZ (by decide) (Zn h.h10)
 have e2 : D.list [D.t [wE 0, D.v 8], D.t [wE 1, D.v 9], D.t [wE 2, D.b Ya (D.b Ya (D.v 7) (D.v 8)) (D.v 9)]] σ B = some (.list (([0, 1, 2] : List Nat).map fun k => Ji (wd W.base k) (.int (vec W.one W.two W.r k))), B) := by
  have a0 : D.t [wE 0, D.v 8] σ B = _ := YQ (w 0 (by decide)) (Zn h.h8);have a1 : D.t [wE 1, D.v 9] σ B = _ := YQ (w 1 (by decide)) (Zn h.h9);have a2 : D.t [wE 2, D.b Ya (D.b Ya (D.v 7) (D.v 8)) (D.v 9)] σ B = _ := YQ (w 2 (by decide)) (Zh (Zh (Zn h.h7) (Zn h.h8) rfl) (Zn h.h9) rfl);unfold D.list;simp only [D.row, a0, a1, a2];rfl
 exact Z5 e1 e2 (ZhH fun x hx => by
  refine Zg (List.mem_map.mp hx) fun k _ z_2 => ?_;subst z_2;exact Zep)
noncomputable abbrev ZnU : DE := Zy 2 (emL (D.t [D.b Zf (D.v 7) (D.v 1), D.b Ya (D.b Ya (D.c YO [D.b Zf (D.v 4) (D.v 1)]) (D.k (.int 2))) (D.b Zf (D.v 12) (D.b Zf (D.v 7) (D.v 1)))])) (gs1 (I.val (D.t [D.k (.int 1), D.k (.int 0), D.k (.int 2)])) (T.all [])) [] (.list [])
noncomputable def Lw.ov (W : Lw) : Nat -> Int := vec (W.a + W.b - 2 - W.one) (W.a + W.c - 2 - W.two) (W.b + W.c - 2 - W.r)
theorem Zf5 (h : LSt W σ) : ∀ k < 3, D.c YO [D.b Zf (D.v 4) (D.v 1)] (none :: some (.int ((k : Nat) : Int)) :: σ) B = some (.int (YM W.a W.b W.c k), B) := fun k hk => by
 have : ∀ k < 3, ∃ r, Zf B (XF W.a W.b W.c) (.int ((k : Nat) : Int)) = some r /\ YO B [r] = some (.int (YM W.a W.b W.c k), B) := Yv ⟨_, rfl, rfl⟩ ⟨_, rfl, rfl⟩ ⟨_, rfl, rfl⟩;refine Zg (this k hk) fun r e1 e2 => ?_;exact ZE (Zh (Zn (Zax h.h2)) rfl e1) e2
theorem ZcQ (h : LSt W σ) : ∀ k < 3, D.b Zf (D.v 7) (D.v 1) (none :: some (.int ((k : Nat) : Int)) :: σ) B = some (.str (wd W.base k), B) := fun k hk =>
 Zh (Zn (Zax h.h5)) rfl (ZdU (P := W.P0) (σ := []) k hk)
theorem ZfL : ∀ k < 3, YM W.a W.b W.c k = vec (W.a + W.b) (W.a + W.c) (W.b + W.c) k := Yv rs0 rs1 rs2
theorem ZnK (h : LSt W σ) : T.cmp Js (D.listItems (D.v 12)) ZnU σ B = some (false, B) := by
 have e1 : D.listItems (D.v 12) σ B = some (.list (([1, 0, 2] : List Nat).map fun k => Ji (wd W.base k) (.int (W.ov k))), B) := ZhZ (by decide) (Zn h.h12);have h012 : ZaD [0, 1, 2] := ⟨.inl rfl⟩
 have := Zac (f := D.t [D.b Zf (D.v 7) (D.v 1), D.b Ya (D.b Ya (D.c YO [D.b Zf (D.v 4) (D.v 1)]) (D.k (.int 2))) (D.b Zf (D.v 12) (D.b Zf (D.v 7) (D.v 1)))]) (tp := false) (ifs := T.all []) (it := I.val (D.t [D.k (.int 1), D.k (.int 0), D.k (.int 2)])) (σ := σ) (B := B) (B₁ := B) (xs := ([1, 0, 2] : List Nat).map fun (k : Nat) => V.int (k : Int))
  (fun _ => true) (fun x => Ji (wd W.base (YF x)) (.int (W.ov (YF x)))) rfl (fun x hx => by
   refine Zg (List.mem_map.mp hx) fun k hk z_2 => ?_;subst z_2;have hk : k < 3 := by simp at hk; lia
   refine ⟨rfl, fun _ => YQ (ZcQ h k hk) ?_⟩;refine (Zh (Zh (Zf5 h k hk) rfl rfl) (Zh (Zn (Zax h.h10)) (ZcQ h k hk) (XI W.hb h012 hk)) rfl).trans ?_;rw [ZfL k hk];have t : ∀ k < 3, vec (W.a + W.b) (W.a + W.c) (W.b + W.c) k - 2 - vec W.one W.two W.r k = W.ov k := Yv rfl rfl rfl;rw [t k hk];rfl) (by decide)
 rw [List.filter_eq_self.mpr (fun _ _ => rfl), List.map_map] at this
 exact Z5 e1 this (ZhH fun x hx => by
  refine Zg (List.mem_map.mp hx) fun k _ z_2 => ?_;subst z_2;exact Zep)
end
section
variable {W : Lw} {σ : St} {B : Bx}
theorem Zpu {f : DE} {base : Nat} {o : List Nat} {g : Nat -> V} (ho : o.length <= 3) (hf : f σ B = some (.dict (o.map (wd base)) (o.map g), B)) : D.listItems f σ B = some (.list (o.map fun k => Ji (wd base k) (g k)), B) := by
 unfold D.listItems;rw [hf];show (if Zu (o.map (wd base)).length then some (V.list (Zba (o.map (wd base)) (o.map g)), B) else none) = _;rw [if_pos (Yd (by rw [List.length_map]; exact Nat.le_trans ho (by decide)))];unfold Zba;rw [List.zip_map', List.map_map];rfl
noncomputable abbrev Zoh : DE := D.c Ze [Zy 2 (emD (D.v 1) (D.t [D.b Zf (D.v 12) (D.v 1), D.k (.int 1)])) (gs1 (I.val (D.v 5)) (T.all [])) [] (.dict [] []), Zy 2 (emD (D.v 1) (D.t [D.b Zf (D.v 14) (D.v 1), D.k (.int 1)])) (gs1 (I.val (D.v 12)) (T.all [])) [] (.dict [] [])]
noncomputable def ZoI (p : Int × Int) : V := .tup [.int p.1, .int p.2]
noncomputable def Lw.pv (W : Lw) (k : Nat) : V := ZoI (vec (W.a + W.b) (W.a + W.c) (W.b + W.c) k - 2, 2)
theorem ZnX (h : LSt W σ) : Zoh σ B = some (.dict (([0, 1, 2] : List Nat).map (wd W.base)) (([0, 1, 2] : List Nat).map W.pv), B) := by
 have h012 : ZaD [0, 1, 2] := ⟨.inl rfl⟩;have h102 : ZaD [1, 0, 2] := ⟨.inr rfl⟩
 have c1 := Zgy (tp := false) (fv := D.t [D.b Zf (D.v 12) (D.v 1), D.k (.int 1)]) (σ := σ) (B := B) W.hb h012 (fun k => ZoI (vec W.one W.two W.r k, 1)) (it := I.val (D.v 5)) (YW (Zn h.h5) rfl) (fun k hk =>
  YQ (Zh (Zn (Zax h.h10)) rfl (XI W.hb h012 hk)) rfl)
 have c2 := Zgy (tp := false) (fv := D.t [D.b Zf (D.v 14) (D.v 1), D.k (.int 1)]) (σ := σ) (B := B) W.hb h102 (fun k => ZoI (W.ov k, 1)) (it := I.val (D.v 12)) (YW (Zn h.h12) rfl) (fun k hk =>
  YQ (Zh (Zn (Zax h.h12)) rfl (XI W.hb h102 hk)) rfl)
 have add := ZfD (B := B) (w := wd W.base) ZoI (fun a b => (b.1 + a.1, b.2 + a.2)) (fun s => if s < 3 then (vec W.one W.two W.r s, 1) else (0, 0)) (fun s => if s < 3 then (W.ov s, 1) else (0, 0)) [0, 1, 2] [1, 0, 2] ZkN (fun _ => rfl) (by decide) (by decide) (by decide) (by decide)
  (fun s hs => by have hn : ¬ s < 3 := fun z => hs (h012.mem.mpr z); simp only [if_neg hn]; rfl)
  (fun s hs => by have hn : ¬ s < 3 := fun z => hs (h102.mem.mpr z); simp only [if_neg hn]; rfl) (Zdj W.hb)
 refine (Y7 c1 c2 add).trans (congrArg some (congrArg (·, B) ?_));show V.dict _ (([0, 1, 2] : List Nat).map _) = _;refine congrArg (V.dict _) (List.map_congr_left fun s hs => congrArg ZoI ?_);have hs := h012.mem.mp hs;rw [if_pos hs, if_pos hs]
 have t : ∀ k < 3, W.ov k + vec W.one W.two W.r k = vec (W.a + W.b) (W.a + W.c) (W.b + W.c) k - 2 := by
  refine Yv ?_ ?_ ?_
  ·show W.a + W.b - 2 - W.one + W.one = W.a + W.b - 2; lia
  ·show W.a + W.c - 2 - W.two + W.two = W.a + W.c - 2; lia
  ·show W.b + W.c - 2 - W.r + W.r = W.b + W.c - 2; lia
 exact Prod.ext (t s hs) rfl
noncomputable abbrev Ziw : DE := Zy 2 (emL (D.t [D.b Zf (D.v 7) (D.v 1), D.t [D.b Ya (D.c YO [D.b Zf (D.v 4) (D.v 1)]) (D.k (.int 2)), D.k (.int 2)]])) (gs1 (I.val (D.c Zw [D.k (.int 3)])) (T.all [])) [] (.list [])
noncomputable def Lw.pl (W : Lw) : List V := ([0, 1, 2] : List Nat).map fun k => Ji (wd W.base k) (W.pv k)
theorem ZkP (h : LSt W σ) : Ziw σ B = some (.list W.pl, B) := by
 have := Zac (f := D.t [D.b Zf (D.v 7) (D.v 1), D.t [D.b Ya (D.c YO [D.b Zf (D.v 4) (D.v 1)]) (D.k (.int 2)), D.k (.int 2)]]) (tp := false) (ifs := T.all []) (it := I.val (D.c Zw [D.k (.int 3)])) (σ := σ) (B := B) (B₁ := B) (xs := ZbT)
  (fun _ => true) (fun x => Ji (wd W.base (YF x)) (W.pv (YF x))) rfl (fun x hx => by
   refine Zg (XU hx) fun k hk z_2 => ?_;subst z_2;refine ⟨rfl, fun _ => YQ (ZcQ h k hk) (YQ ?_ rfl)⟩;refine (Zh (Zf5 h k hk) rfl rfl).trans ?_;rw [ZfL k hk];rfl) (by decide)
 rw [List.filter_eq_self.mpr (fun _ _ => rfl)] at this;exact this
theorem Zpr : ∃ s, Jg B [.list W.pl] = some (.str s, B) := by
 have N := W.net;have a0 := N.a0; have b0 := N.b0; have c0 := N.c0; have a4 := N.a4; have b4 := N.b4; have c4 := N.c4
 have hk : ∀ k < 3, -30 <= vec (W.a + W.b) (W.a + W.c) (W.b + W.c) k - 2 /\ vec (W.a + W.b) (W.a + W.c) (W.b + W.c) k - 2 <= 30 := by
  refine Yv ?_ ?_ ?_
  ·show -30 <= W.a + W.b - 2 /\ W.a + W.b - 2 <= 30; lia
  ·show -30 <= W.a + W.c - 2 /\ W.a + W.c - 2 <= 30; lia
  ·show -30 <= W.b + W.c - 2 /\ W.b + W.c - 2 <= 30; lia
 refine Zj7 (d := 3) (l := 3 * 371 + 2 * 3 + 3) (Jv.list (xs := W.pl) (d := 2) (l := 371) fun x hx => ?_) (by decide) (by decide);refine Zg (List.mem_map.mp hx) fun k hm z_2 => ?_;subst z_2;have hk3 : k < 3 := by simp at hm; lia
 refine Jv.tup (xs := [.str (wd W.base k), W.pv k]) (d := 1) (l := 182) fun y hy => ?_;simp only [List.mem_cons, List.not_mem_nil, or_false] at hy;rcases hy with rfl | rfl
 ·exact (Jv.word W.hb hk3).mono (by decide) (Nat.le_refl _)
 ·refine (Jv.tup (xs := [.int (vec (W.a + W.b) (W.a + W.c) (W.b + W.c) k - 2), .int 2]) (d := 0) (l := 5) fun z hz => ?_).mono (Nat.le_refl _) (show 2 * 5 + 2 * 2 + 3 <= 182 by decide)
  simp only [List.mem_cons, List.not_mem_nil, or_false] at hz;rcases hz with rfl | rfl
  ·exact Jv.int (hk k hk3)
  ·exact Jv.int ⟨by decide, by decide⟩
theorem ZoJ (h : LSt W σ) (h16 : σ[16]? = some (some (.dict (([0, 1, 2] : List Nat).map (wd W.base)) (([0, 1, 2] : List Nat).map W.pv)))) : T.cmp Js (D.c Jg [D.listItems (D.v 16)]) (D.c Jg [Ziw]) σ B = some (false, B) := by
 obtain ⟨s, hs⟩ := Zpr (W := W) (B := B);exact Z5 (ZE (Zpu (by decide) (Zn h16)) hs) (ZE (ZkP h) hs) ZgM
noncomputable def Lw.pr (W : Lw) (k : Nat) : Int × Int := (W.ov k, (k : Int))
noncomputable def Lw.rows (W : Lw) : List (Int × Int) := ([0, 1, 2] : List Nat).map W.pr
noncomputable abbrev ZqI : DE := Zy 2 (emL (D.t [D.b Zf (D.v 14) (D.b Zf (D.v 7) (D.v 1)), D.v 1])) (gs1 (I.val (D.c Zw [D.k (.int 3)])) (T.all [])) [] (.list [])
theorem Zo0 (h : LSt W σ) : ZqI σ B = some (.list (W.rows.map prV), B) := by
 have h102 : ZaD [1, 0, 2] := ⟨.inr rfl⟩
 have := Zac (f := D.t [D.b Zf (D.v 14) (D.b Zf (D.v 7) (D.v 1)), D.v 1]) (tp := false) (ifs := T.all []) (it := I.val (D.c Zw [D.k (.int 3)])) (σ := σ) (B := B) (B₁ := B) (xs := ZbT)
  (fun _ => true) (fun x => prV (W.pr (YF x))) rfl (fun x hx => by
   refine Zg (XU hx) fun k hk z_2 => ?_;subst z_2;exact ⟨rfl, fun _ => YQ (Zh (Zn (Zax h.h12)) (ZcQ h k hk) (XI W.hb h102 hk)) rfl⟩) (by decide)
 rw [List.filter_eq_self.mpr (fun _ _ => rfl)] at this;exact this
noncomputable def Zd4 (way : Int) (p : Int × Int) : V := .tup [.int p.1, .int (way * p.2)]
noncomputable abbrev ZqA : DE := Zy 3 (emL (D.t [D.v 1, D.b Y2 (D.v 7) (D.v 2)])) { it := (I.val (D.v 18)), tp := false, tgt := (S.parts [1, 2]), ifs := (T.all []) } [] (.list [])
theorem Zkx : small W.way = true := YU (by rcases W.hw with h | h <;> rw [h] <;> decide)
theorem ZpR (h : LSt W σ) (h18 : σ[18]? = some (some (.list (W.rows.map prV)))) : ZqA σ B = some (.list (W.rows.map (Zd4 W.way)), B) := by
 have := Ztl (f := D.t [D.v 1, D.b Y2 (D.v 7) (D.v 2)]) (tp := false) (ifs := T.all []) (it := I.val (D.v 18)) (σ := σ) (B := B) (B₁ := B) (xs := W.rows.map prV) (fun _ => true) (fun x => Zd4 W.way (ZpF x)) (YW (Zn h18) rfl) (fun x hx => by
  refine Zg (List.mem_map.mp hx) fun p _ z_2 => ?_;subst z_2;refine ⟨.int p.1, .int p.2, rfl, rfl, fun _ => YQ rfl (Zh (Zn (show (_ :: _ :: _ :: σ)[7]? = some (some (V.int W.way)) from h.h4)) rfl (Y5 Zkx))⟩) (show 3 <= Cap by decide)
 rw [List.filter_eq_self.mpr (fun _ _ => rfl), List.map_map] at this;exact this
theorem ZjO {f : DE} {i j : Nat} {T1 : (Int × Int) -> V} {val : (Int × Int) -> (Int × Int) -> V} {L : List (Int × Int)} {back : V -> Int × Int} (hback : ∀ p ∈ L, back (T1 p) = p) (hL : L.length <= 10) (hi : σ[i]? = some (some (.list (L.map T1))))
  (hf : ∀ p ∈ L, ∀ q ∈ L, f (none :: some (T1 q) :: none :: some (T1 p) :: σ) B = some (val p q, B)) :
  Zy 2 (emL (Zy 2 (emL f) (gs1 (I.val (D.v (i + 2))) (T.all [])) [] (.list []))) (gs1 (I.val (D.v i)) (T.all [])) [] (.list []) σ B =
   some (.list (L.map fun p => .list (L.map (val p))), B) := by
 have inner : ∀ p ∈ L, Zy 2 (emL f) (gs1 (I.val (D.v (i + 2))) (T.all [])) [] (.list []) (none :: some (T1 p) :: σ) B = some (.list (L.map (val p)), B) := fun p hp => by
  have := Zac (f := f) (tp := false) (ifs := T.all []) (it := I.val (D.v (i + 2))) (σ := none :: some (T1 p) :: σ) (B := B) (B₁ := B) (xs := L.map T1) (fun _ => true) (fun x => val p (back x)) (YW (Zn (Zax hi)) rfl) (fun x hx => by
   refine Zg (List.mem_map.mp hx) fun q hq z_2 => ?_;subst z_2;exact ⟨rfl, fun _ => by rw [hback q hq]; exact hf p hp q hq⟩) (by rw [List.length_map]; exact Nat.le_trans hL (by decide))
  rw [List.filter_eq_self.mpr (fun _ _ => rfl), List.map_map] at this;refine this.trans (congrArg some (congrArg (·, B) (congrArg V.list (List.map_congr_left fun q hq => ?_))));show val p (back (T1 q)) = _;rw [hback q hq]
 have := Zac (f := Zy 2 (emL f) (gs1 (I.val (D.v (i + 2))) (T.all [])) [] (.list [])) (tp := false) (ifs := T.all []) (it := I.val (D.v i)) (σ := σ) (B := B) (B₁ := B) (xs := L.map T1) (fun _ => true) (fun x => .list (L.map (val (back x)))) (YW (Zn hi) rfl) (fun x hx => by
  refine Zg (List.mem_map.mp hx) fun p hp z_2 => ?_;subst z_2;exact ⟨rfl, fun _ => by rw [hback p hp]; exact inner p hp⟩) (by rw [List.length_map]; exact Nat.le_trans hL (by decide))
 rw [List.filter_eq_self.mpr (fun _ _ => rfl), List.map_map] at this;refine this.trans (congrArg some (congrArg (·, B) (congrArg V.list (List.map_congr_left fun p hp => ?_))));show V.list (L.map (val (back (T1 p)))) = _;rw [hback p hp]
noncomputable def Lw.grid (W : Lw) : V := .list (W.rows.map fun p => .list (W.rows.map fun q => .int (Zft W.way p q)))
theorem Zll : ∃ s, Jg B [W.grid] = some (.str s, B) := by
 refine Zj7 (d := 2) (l := 3 * 24 + 2 * 3 + 3) (Jv.list (d := 1) (l := 24) fun x hx => ?_) (by decide) (by decide);refine Zg (List.mem_map.mp hx) fun p _ z_2 => ?_;subst z_2;refine Jv.list (d := 0) (l := 5) fun y hy => ?_;refine Zg (List.mem_map.mp hy) fun q _ z_2 => ?_;subst z_2;refine Jv.int ?_;unfold Zft;rcases W.hw with h | h <;> rw [h] <;> (repeat' split) <;> lia
noncomputable abbrev Zoy : DE := Zy 2 (emL (Zy 2 (emL (D.tcCmp ZH (D.v 21) [D.v 3, D.v 1])) (gs1 (I.val (D.v 20)) (T.all [])) [] (.list []))) (gs1 (I.val (D.v 18)) (T.all [])) [] (.list [])
theorem Zn2 (h17 : σ[17]? = some (some (JR W.way))) (h18 : σ[18]? = some (some (.list (W.rows.map prV)))) : Zoy σ B = some (W.grid, B) :=
 ZjO (i := 18) (j := 0) (T1 := prV) (val := fun p q => .int (Zft W.way p q)) (back := ZpF) (fun _ _ => rfl) (show 3 <= 10 by decide) h18 fun p _ q _ =>
  ZhW (f := D.v 21) (c := .tup [.tup [.int 0, .int 1], .tup [.int 1, .int W.way]]) (d := prV p) (e := prV q) (Zn (show (_ :: _ :: _ :: _ :: σ)[21]? = some (some (JR W.way)) from h17)) rfl rfl Zhw
theorem ZpH {a b c d : Int} : ZmA B (.tup [.int a, .int b]) (.tup [.int c, .int d]) = some (decide (c < a) || (decide (c = a) && decide (d < b))) := by
 show some (if a = c then decide (b > d) else decide (a > c)) = some _;congr 1
 by_cases h : a = c
 ·rw [if_pos h, h, decide_eq_false (Int.lt_irrefl _), decide_eq_true rfl]; rfl
 ·rw [if_neg h, decide_eq_false (show ¬ c = a from fun z => h z.symm), Bool.false_and, Bool.or_false]
theorem ZlU {x y : Bool} : Ya B (.bool x) (.bool y) = some (.int ((if x then 1 else 0) - (if y then 1 else 0))) := rfl
noncomputable def ZsQ (way : Int) : V -> Int × Int
 | .tup [.int a, .int b] => (a, way * b)
 | _ => (0, 0)
noncomputable abbrev ZmY : DE := Zy 2 (emL (Zy 2 (emL (D.b Ya (D.b (bv ZmA) (D.v 3) (D.v 1)) (D.b (bv Zh4) (D.v 3) (D.v 1)))) (gs1 (I.val (D.v 21)) (T.all [])) [] (.list []))) (gs1 (I.val (D.v 19)) (T.all [])) [] (.list [])
theorem ZkO (h19 : σ[19]? = some (some (.list (W.rows.map (Zd4 W.way))))) : ZmY σ B = some (W.grid, B) :=
 ZjO (i := 19) (j := 0) (T1 := Zd4 W.way) (val := fun p q => .int (Zft W.way p q)) (back := ZsQ W.way) (fun p _ => by
  show (p.1, W.way * (W.way * p.2)) = p;rcases W.hw with h | h <;> rw [h] <;> exact Prod.ext rfl (by show _ * (_ * p.2) = p.2; lia)) (show 3 <= 10 by decide) h19 fun p _ q _ => by
  have e1 : D.b (bv ZmA) (D.v 3) (D.v 1) (none :: some (Zd4 W.way q) :: none :: some (Zd4 W.way p) :: σ) B = _ := Zh (e := Zd4 W.way q) rfl rfl (congrArg (Option.map V.bool) ZpH);have e2 : D.b (bv Zh4) (D.v 3) (D.v 1) (none :: some (Zd4 W.way q) :: none :: some (Zd4 W.way p) :: σ) B = _ := Zh (e := Zd4 W.way q) rfl rfl (congrArg (Option.map V.bool) ZjE);refine (Zh e1 e2 ZlU).trans ?_;exact congrArg (fun x => some (V.int x, B)) (Zkq W.hw).symm
end
theorem Zhe {f : DE} {σ : St} {B B₁ : Bx} {i j : Nat} {x y : V} (h : f σ B = some (.tup [x, y], B₁)) : S.assigns [i, j] f σ B = some (.next, (σ.set i (some x)).set j (some y), B₁) := by
 unfold S.assigns;rw [h];rfl
noncomputable abbrev Ztv : DS := Zj0 ZQ ZO ZG Yb ZI Z1 Ze ZH
noncomputable def Ztd (W : Lw) (s cs : V) : St := [some s, some cs, some (XF W.a W.b W.c), some (.int (W.base : Int)), some (.int W.way), some (X2 W.base), some (YP W.a W.b W.c W.base), some (.int W.deg), some (.int W.one), some (.int W.two), some W.coins, some (cdV W.base [1, 0, 2] (vec (W.a + W.b) (W.a + W.c) (W.b + W.c))), some W.other, some (.box 0), none, none, none, none, none, none, none]
theorem Zm7 (W : Lw) (s cs : V) : LSt W (Ztd W s cs) := ⟨rfl, rfl, rfl, rfl, rfl, rfl, rfl, rfl, rfl, rfl, rfl, rfl⟩
theorem ZmQ {σ : St} {B : Bx} {w : Int} (h : σ[4]? = some (some (.int w))) : D.tcNew (D.t [D.t [D.k (.int 0), D.k (.int 1)], D.t [D.k (.int 1), D.v 4]]) σ B = some (JR w, B) := by
 unfold D.tcNew;rw [YQ (d := .tup [.int 0, .int 1]) (e := .tup [.int 1, .int w]) rfl (YQ rfl (Zn h))];rfl
theorem Zmf {W : Lw} {σ : St} (h : LSt W σ) : Zbj (S.q (S.a 14 (D.c ZI [D.v 10, D.v 6, D.v 5, D.v 3, D.v 4, D.v 13])) (S.q (S.a 15 (D.c ZI [D.v 12, D.v 6, D.v 5, D.v 3, D.v 4, D.v 13]))
  (S.q (S.ite (T.cmp Js (D.b Ya (D.v 14) (D.v 15)) (D.b Ya (D.v 7) (D.k (.int 2)))) (S.r (D.k (.bool false))) S.k)
  (S.q (S.ite (T.bool false [T.cmp Js ZoQ (D.list []), T.cmp Zk7 (D.v 6) (D.c ZG [D.v 2, D.v 5])]) (S.r (D.k (.bool false))) S.k)
  (S.q (S.ite (T.cmp Js (D.listItems (D.v 10)) (D.list [D.t [wE 0, D.v 8], D.t [wE 1, D.v 9], D.t [wE 2, D.b Ya (D.b Ya (D.v 7) (D.v 8)) (D.v 9)]])) (S.r (D.k (.bool false))) S.k)
  (S.q (S.ite (T.cmp Js (D.listItems (D.v 12)) ZnU) (S.r (D.k (.bool false))) S.k)
  (S.q (S.a 16 Zoh) (S.q (S.ite (T.cmp Js (D.c Jg [D.listItems (D.v 16)]) (D.c Jg [Ziw])) (S.r (D.k (.bool false))) S.k)
  (S.q (S.a 17 (D.tcNew (D.t [D.t [D.k (.int 0), D.k (.int 1)], D.t [D.k (.int 1), D.v 4]])))
  (S.q (S.a 18 ZqI) (S.q (S.a 19 ZqA) (S.q (S.a 20 Zoy) (S.r (D.b (bv Y1) (D.c Jg [D.v 20]) (D.c Jg [ZmY]))))))))))))))) σ [.list []] (.bool true) [.list (W.L2.map YB)] := by
 have g1 := h.set (i := 14) (x := some (.int ((W.K0.rank : Int) - 1))) (by decide);have g2 := g1.set (i := 15) (x := some (.int ((W.K1.rank : Int) - 1))) (by decide);have n : ∀ {σ : St} {i j : Nat} {x : Option V}, i ≠ j -> (σ.set i x)[j]? = σ[j]? := fun hne => List.getElem?_set_ne hne;refine Zi (Zq (Zme h)) (Zi (Zq (Zm6 g1)) ?_);refine Zi ((Xv (Zmy g2 ((n (by decide)).trans (Za2 h.len (by decide))) (Za2 g1.len (by decide)))).trans rfl) ?_;refine Zi ((Xv (Zoq g2)).trans rfl) (Zi ((Xv (Zon g2)).trans rfl) (Zi ((Xv (ZnK g2)).trans rfl) ?_));have g3 := g2.set (i := 16) (x := some (.dict (([0, 1, 2] : List Nat).map (wd W.base)) (([0, 1, 2] : List Nat).map W.pv))) (by decide);refine Zi (Zq (ZnX g2)) (Zi ((Xv (ZoJ g3 (Za2 g2.len (by decide)))).trans rfl) ?_);have g4 := g3.set (i := 17) (x := some (JR W.way)) (by decide);have g5 := g4.set (i := 18) (x := some (.list (W.rows.map prV))) (by decide);have g6 := g5.set (i := 19) (x := some (.list (W.rows.map (Zd4 W.way)))) (by decide);have g7 := g6.set (i := 20) (x := some W.grid) (by decide);have h18 := Za2 (x := some (.list (W.rows.map prV))) g4.len (show 18 < 21 by decide);refine Zi (Zq (ZmQ g3.h4)) (Zi (Zq (Zo0 g4)) (Zi (Zq (ZpR g5 h18)) ?_));refine Zi (Zq (Zn2 ((n (by decide)).trans ((n (by decide)).trans (Za2 g3.len (by decide)))) ((n (by decide)).trans h18))) (Yq ?_);obtain ⟨s, hs⟩ := Zll (W := W) (B := [.list (W.L2.map YB)]);refine Zh (ZE (Zn (Za2 g6.len (by decide))) hs) (ZE (ZkO ((n (by decide)).trans (Za2 g5.len (by decide)))) hs) ?_;show (some (s == s)).map V.bool = _;rw [beq_self_eq_true]; rfl
theorem ZpW (ns : List Int) (h : ns.length <= 63) : ∃ B', Zbj Ztv (JS Zhj ["script"] [.list (ns.map .int)]) [] (.bool true) B' := by
 obtain ⟨c, hc⟩ := ZoV ns;refine Zg (Zav c.c8 30 (by decide)) fun base hb30 hbe => ?_;refine Zg (Zav (Int.fdiv c.c8 30) 2 (by decide)) fun k2 hk2 hke => ?_;refine Zg (Zav c.c7 7 (by decide)) fun d7 hd7 hde => ?_;refine Zg (Zav c.c5 5 (by decide)) fun o5 ho5 hoe => ?_;refine Zg (Zav c.c6 5 (by decide)) fun t5 ht5 hte => ?_
 obtain ⟨W, hW⟩ : ∃ W : Lw, W.a = (c.fix.count 0 : Nat) /\ W.b = (c.fix.count 1 : Nat) /\ W.c = (c.fix.count 2 : Nat) /\ W.base = base /\ W.way = 1 - 2 * (k2 : Int) /\ W.one = (o5 : Int) - 2 /\ W.two = (t5 : Int) - 2 /\ W.deg = (d7 : Int) - 1 :=
  ⟨{ a := (c.fix.count 0 : Nat), b := (c.fix.count 1 : Nat), c := (c.fix.count 2 : Nat), base := base, way := 1 - 2 * (k2 : Int), one := (o5 : Int) - 2, two := (t5 : Int) - 2, deg := (d7 : Int) - 1, net := Zsz c, hb := by lia, hw := by lia, h1 := by lia, h2 := by lia, hd := by lia }, rfl, rfl, rfl, rfl, rfl, rfl, rfl, rfl⟩
 obtain ⟨wa, wb, wc, wbase, wway, wone, wtwo, wdeg⟩ := hW;have hnet : c.net = XF W.a W.b W.c := by rw [wa, wb, wc]; rfl
 have hcells : ZQ [] [.list (ns.map V.int)] = some (.list (c.list.map V.int), []) := by rw [Zjq h, hc]
 have hN : Yb [] [.list (c.list.map V.int)] = some (XF W.a W.b W.c, []) := by rw [ZoH, hnet]
 refine ⟨[.list (W.L2.map YB)], ?_⟩;have a1 : D.c ZQ [D.v 0] (JS Zhj ["script"] [.list (ns.map .int)]) [] = some (.list (c.list.map V.int), []) := ZE rfl hcells;refine Zi (Zq a1) (Zi (Zq (ZE rfl hN)) ?_)
 have hbw : D.t [D.b Y8 (D.b Zf (D.v 1) (D.k (.int 8))) (D.k (.int 30)), D.b Ya (D.k (.int 1)) (D.b Y2 (D.k (.int 2)) (D.b Y8 (D.b Zg6 (D.b Zf (D.v 1) (D.k (.int 8))) (D.k (.int 30))) (D.k (.int 2))))]
   [some (.list (ns.map .int)), some (.list (c.list.map V.int)), some (XF W.a W.b W.c), none, none, none, none, none, none, none, none, none, none, none, none, none, none, none, none, none, none] [] = some (.tup [.int (W.base : Int), .int W.way], []) := by
  rw [wbase, wway]
  refine YQ (Zh (Zh rfl rfl rfl) rfl ((ZaY (b := 30) (by decide)).trans (congrArg (fun x => some (V.int x)) hbe)))
   (Zh (d := .int 1) rfl (Zh (d := .int 2) rfl (Zh (Zh (c := .int (Int.fdiv c.c8 30)) (Zh rfl rfl rfl) rfl rfl) rfl ((ZaY (b := 2) (by decide)).trans (congrArg (fun x => some (V.int x)) hke))) (Y5 (by decide))) rfl)
 refine Zi (Zhe hbw) ?_;refine Zi (Zq (ZE rfl (ZjB W.hb))) (Zi (Zq (Y7 rfl rfl (Zem (p := W.loan)))) ?_)
 have hdeg : ∀ σ : St, σ[1]? = some (some (.list (c.list.map V.int))) -> D.b Ya (D.b Y8 (D.b Zf (D.v 1) (D.k (.int 7))) (D.k (.int 7))) (D.k (.int 1)) σ [] = some (.int W.deg, []) := fun σ hσ => by
  rw [wdeg];exact Zh (Zh (Zh (Zn hσ) rfl rfl) rfl ((ZaY (b := 7) (by decide)).trans (congrArg (fun x => some (V.int x)) hde))) rfl rfl
 refine Zi (Zq (hdeg _ rfl)) ?_
 have hone : ∀ σ : St, σ[1]? = some (some (.list (c.list.map V.int))) -> D.t [D.b Ya (D.b Y8 (D.b Zf (D.v 1) (D.k (.int 5))) (D.k (.int 5))) (D.k (.int 2)), D.b Ya (D.b Y8 (D.b Zf (D.v 1) (D.k (.int 6))) (D.k (.int 5))) (D.k (.int 2))] σ [] = some (.tup [.int W.one, .int W.two], []) := fun σ hσ => by
  rw [wone, wtwo];exact YQ (Zh (Zh (Zh (Zn hσ) rfl rfl) rfl ((ZaY (b := 5) (by decide)).trans (congrArg (fun x => some (V.int x)) hoe))) rfl rfl) (Zh (Zh (Zh (Zn hσ) rfl rfl) rfl ((ZaY (b := 5) (by decide)).trans (congrArg (fun x => some (V.int x)) hte))) rfl rfl)
 have hsw : ∀ σ : St, σ[1]? = some (some (.list (c.list.map V.int))) -> S.swapped [8, 9] (D.t [D.b Ya (D.b Y8 (D.b Zf (D.v 1) (D.k (.int 5))) (D.k (.int 5))) (D.k (.int 2)), D.b Ya (D.b Y8 (D.b Zf (D.v 1) (D.k (.int 6))) (D.k (.int 5))) (D.k (.int 2))]) σ [] = some (.next, (σ.set 9 (some (.int W.two))).set 8 (some (.int W.one)), []) := fun σ hσ => by
  unfold S.swapped;rw [hone σ hσ];rfl
 refine Zi (hsw _ rfl) ?_;refine Zi (Zq (Zn5 (deg := W.deg) (one := W.one) (two := W.two) W.hb rfl rfl rfl rfl)) ?_;refine Zi (Zq (ZmB (a := W.a) (b := W.b) (c := W.c) W.hb rfl rfl)) ?_;refine Zi (Zq (ZoU (a := W.a) (b := W.b) (c := W.c) (one := W.one) (two := W.two) (r := W.deg - W.one - W.two) W.hb rfl rfl rfl)) ?_;refine Zi (Zq (i := 13) (d := .box 0) (B₁ := [.list []]) rfl) ?_;exact Zmf (Zm7 W (.list (ns.map .int)) (.list (c.list.map V.int)))
theorem all03 : PySem.Challenge.rw_xg0032_03.Holds := Znp ZgO Zdh Zdi ZcS ZbU Zey ZgB ZeZ ZeK Zfh Zgf ZeR Zfl fun ns h => by
 refine Zbz (ZpW ns h) fun B' σ₁ e => ?_;exact ⟨σ₁, B', e⟩
end Mine
theorem PySem.Challenge.cw_xg0032_03_holds : PySem.Challenge.rw_xg0032_03.Holds :=
 Mine.all03
