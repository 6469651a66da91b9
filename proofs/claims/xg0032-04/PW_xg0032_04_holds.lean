import PyProof.Rows.All
import Wide.All
import OpenK.AllK
import Wide.FinOn
import KE.KItem
import Lean
import PySem.Challenge.RW_xg0032_04
set_option Elab.async false
set_option maxRecDepth 100000
set_option maxHeartbeats 8000000
set_option linter.all false
set_option genSizeOf false
set_option bootstrap.genMatcherCode false
set_option tactic.hygienic false
namespace Mine
open PySem PySem.Calls PyProof.Rows
noncomputable def Ok (prog : Program) (w : World) {α : Type} (A : Around) (t : Sem α) (s : Shared) (Q : α -> Shared -> Prop) : Prop :=
 ∀ E : Value -> Shared -> Prop, wpAny (model prog w) A t Q E s
section
variable {prog : Program} {w : World} {α β : Type} {A : Around} {s : Shared}
theorem Ok.bind {m : Sem α} {f : α -> Sem β} {Q : β -> Shared -> Prop} (h : Ok prog w A m s fun a s' => Ok prog w A (f a) s' Q) : Ok prog w A (m >>= f) s Q :=
 fun E => wpAny_bind (wpAny_mono (h E) (fun _ _ k => k E) fun _ _ e => e)
theorem Ok.mono {m : Sem α} {Q Q' : α -> Shared -> Prop} (h : Ok prog w A m s Q) (k : ∀ a s', Q a s' -> Q' a s') : Ok prog w A m s Q' :=
 fun E => wpAny_mono (h E) k fun _ _ e => e
theorem Ok.pure {a : α} {Q : α -> Shared -> Prop} (h : Q a s) : Ok prog w A (Pure.pure a) s Q := fun _ => wpAny_pure h
theorem Ok.of {m : Sem α} {Q : α -> Shared -> Prop} (h : ∀ E, wpAny (model prog w) A m Q E s) : Ok prog w A m s Q := h
theorem Ok.to {m : Sem α} {Q Q' : α -> Shared -> Prop} {E : Value -> Shared -> Prop} (h : Ok prog w A m s Q) (k : ∀ a s', Q a s' -> Q' a s') : wpAny (model prog w) A m Q' E s :=
 wpAny_mono (h E) k fun _ _ e => e
theorem Ok.t2 {β α : Type} {m : Sem α} {P1 P2 : β -> α -> Shared -> Prop} {Q : α -> Shared -> Prop} {E : Value -> Shared -> Prop} (h : Ok prog w A m s fun a s' => ∃ b, P1 b a s' /\ P2 b a s') (k : ∀ a s' b, P1 b a s' -> P2 b a s' -> Q a s') : wpAny (model prog w) A m Q E s :=
 h.to fun a s' ⟨b, h1, h2⟩ => k a s' b h1 h2
theorem Ok.t3 {β α : Type} {m : Sem α} {P1 P2 P3 : β -> α -> Shared -> Prop} {Q : α -> Shared -> Prop} {E : Value -> Shared -> Prop} (h : Ok prog w A m s fun a s' => ∃ b, P1 b a s' /\ P2 b a s' /\ P3 b a s') (k : ∀ a s' b, P1 b a s' -> P2 b a s' -> P3 b a s' -> Q a s') : wpAny (model prog w) A m Q E s :=
 h.to fun a s' ⟨b, h1, h2, h3⟩ => k a s' b h1 h2 h3
end
theorem Zev  {P1 P2 : Prop} {R : Prop} (h : P1 /\ P2) (k : P1 -> P2 -> R) : R := k h.1 h.2
theorem XR  {P1 P2 P3 : Prop} {R : Prop} (h : P1 /\ P2 /\ P3) (k : P1 -> P2 -> P3 -> R) : R := k h.1 h.2.1 h.2.2
theorem ZgV  {P1 P2 P3 P4 : Prop} {R : Prop} (h : P1 /\ P2 /\ P3 /\ P4) (k : P1 -> P2 -> P3 -> P4 -> R) : R := k h.1 h.2.1 h.2.2.1 h.2.2.2
theorem Zh2  {P1 P2 P3 P4 P5 : Prop} {R : Prop} (h : P1 /\ P2 /\ P3 /\ P4 /\ P5) (k : P1 -> P2 -> P3 -> P4 -> P5 -> R) : R := k h.1 h.2.1 h.2.2.1 h.2.2.2.1 h.2.2.2.2
theorem Ztw  {P1 P2 P3 P4 P5 P6 P7 P8 : Prop} {R : Prop} (h : P1 /\ P2 /\ P3 /\ P4 /\ P5 /\ P6 /\ P7 /\ P8) (k : P1 -> P2 -> P3 -> P4 -> P5 -> P6 -> P7 -> P8 -> R) : R := k h.1 h.2.1 h.2.2.1 h.2.2.2.1 h.2.2.2.2.1 h.2.2.2.2.2.1 h.2.2.2.2.2.2.1 h.2.2.2.2.2.2.2
theorem Zt1  {P1 P2 P3 P4 P5 P6 P7 P8 P9 : Prop} {R : Prop} (h : P1 /\ P2 /\ P3 /\ P4 /\ P5 /\ P6 /\ P7 /\ P8 /\ P9) (k : P1 -> P2 -> P3 -> P4 -> P5 -> P6 -> P7 -> P8 -> P9 -> R) : R := k h.1 h.2.1 h.2.2.1 h.2.2.2.1 h.2.2.2.2.1 h.2.2.2.2.2.1 h.2.2.2.2.2.2.1 h.2.2.2.2.2.2.2.1 h.2.2.2.2.2.2.2.2
theorem Ziz {A : Sort _} {P1 : A -> Prop} {R : Prop} (h : ∃ a, P1 a) (k : ∀ a, P1 a -> R) : R := h.elim fun a h => k a h
theorem Ze {A : Sort _} {P1 P2 : A -> Prop} {R : Prop} (h : ∃ a, P1 a /\ P2 a) (k : ∀ a, P1 a -> P2 a -> R) : R := h.elim fun a h => k a h.1 h.2
theorem Xn {A : Sort _} {P1 P2 P3 : A -> Prop} {R : Prop} (h : ∃ a, P1 a /\ P2 a /\ P3 a) (k : ∀ a, P1 a -> P2 a -> P3 a -> R) : R := h.elim fun a h => k a h.1 h.2.1 h.2.2
theorem Zcf {A : Sort _} {P1 P2 P3 P4 : A -> Prop} {R : Prop} (h : ∃ a, P1 a /\ P2 a /\ P3 a /\ P4 a) (k : ∀ a, P1 a -> P2 a -> P3 a -> P4 a -> R) : R := h.elim fun a h => k a h.1 h.2.1 h.2.2.1 h.2.2.2
theorem Zru {A : Sort _} {P1 P2 P3 P4 P5 P6 P7 : A -> Prop} {R : Prop} (h : ∃ a, P1 a /\ P2 a /\ P3 a /\ P4 a /\ P5 a /\ P6 a /\ P7 a) (k : ∀ a, P1 a -> P2 a -> P3 a -> P4 a -> P5 a -> P6 a -> P7 a -> R) : R := h.elim fun a h => k a h.1 h.2.1 h.2.2.1 h.2.2.2.1 h.2.2.2.2.1 h.2.2.2.2.2.1 h.2.2.2.2.2.2
theorem Zei {A : Sort _} {B : Sort _} {P1 : A -> B -> Prop} {R : Prop} (h : ∃ a b, P1 a b) (k : ∀ a b, P1 a b -> R) : R := h.elim fun a h => h.elim fun b h => k a b h
theorem YU {A : Sort _} {B : Sort _} {P1 P2 : A -> B -> Prop} {R : Prop} (h : ∃ a b, P1 a b /\ P2 a b) (k : ∀ a b, P1 a b -> P2 a b -> R) : R := h.elim fun a h => h.elim fun b h => k a b h.1 h.2
theorem Xh {A : Sort _} {B : Sort _} {P1 P2 P3 : A -> B -> Prop} {R : Prop} (h : ∃ a b, P1 a b /\ P2 a b /\ P3 a b) (k : ∀ a b, P1 a b -> P2 a b -> P3 a b -> R) : R := h.elim fun a h => h.elim fun b h => k a b h.1 h.2.1 h.2.2
theorem Zfq {A : Sort _} {B : Sort _} {P1 P2 P3 P4 : A -> B -> Prop} {R : Prop} (h : ∃ a b, P1 a b /\ P2 a b /\ P3 a b /\ P4 a b) (k : ∀ a b, P1 a b -> P2 a b -> P3 a b -> P4 a b -> R) : R := h.elim fun a h => h.elim fun b h => k a b h.1 h.2.1 h.2.2.1 h.2.2.2
theorem JQ {A : Sort _} {B : Sort _} {P1 P2 P3 P4 P5 : A -> B -> Prop} {R : Prop} (h : ∃ a b, P1 a b /\ P2 a b /\ P3 a b /\ P4 a b /\ P5 a b) (k : ∀ a b, P1 a b -> P2 a b -> P3 a b -> P4 a b -> P5 a b -> R) : R := h.elim fun a h => h.elim fun b h => k a b h.1 h.2.1 h.2.2.1 h.2.2.2.1 h.2.2.2.2
theorem ZbT {A : Sort _} {B : Sort _} {P1 P2 P3 P4 P5 P6 : A -> B -> Prop} {R : Prop} (h : ∃ a b, P1 a b /\ P2 a b /\ P3 a b /\ P4 a b /\ P5 a b /\ P6 a b) (k : ∀ a b, P1 a b -> P2 a b -> P3 a b -> P4 a b -> P5 a b -> P6 a b -> R) : R := h.elim fun a h => h.elim fun b h => k a b h.1 h.2.1 h.2.2.1 h.2.2.2.1 h.2.2.2.2.1 h.2.2.2.2.2
theorem ZnK {A : Sort _} {B : Sort _} {P1 P2 P3 P4 P5 P6 P7 : A -> B -> Prop} {R : Prop} (h : ∃ a b, P1 a b /\ P2 a b /\ P3 a b /\ P4 a b /\ P5 a b /\ P6 a b /\ P7 a b) (k : ∀ a b, P1 a b -> P2 a b -> P3 a b -> P4 a b -> P5 a b -> P6 a b -> P7 a b -> R) : R := h.elim fun a h => h.elim fun b h => k a b h.1 h.2.1 h.2.2.1 h.2.2.2.1 h.2.2.2.2.1 h.2.2.2.2.2.1 h.2.2.2.2.2.2
theorem Zrk {A : Sort _} {B : Sort _} {C : Sort _} {P1 : A -> B -> C -> Prop} {R : Prop} (h : ∃ a b c, P1 a b c) (k : ∀ a b c, P1 a b c -> R) : R := h.elim fun a h => h.elim fun b h => h.elim fun c h => k a b c h
theorem ZtC {A : Sort _} {B : Sort _} {C : Sort _} {P1 P2 : A -> B -> C -> Prop} {R : Prop} (h : ∃ a b c, P1 a b c /\ P2 a b c) (k : ∀ a b c, P1 a b c -> P2 a b c -> R) : R := h.elim fun a h => h.elim fun b h => h.elim fun c h => k a b c h.1 h.2
theorem Y7 {A : Sort _} {B : Sort _} {C : Sort _} {P1 P2 P3 : A -> B -> C -> Prop} {R : Prop} (h : ∃ a b c, P1 a b c /\ P2 a b c /\ P3 a b c) (k : ∀ a b c, P1 a b c -> P2 a b c -> P3 a b c -> R) : R := h.elim fun a h => h.elim fun b h => h.elim fun c h => k a b c h.1 h.2.1 h.2.2
theorem Xs {A : Sort _} {B : Sort _} {C : Sort _} {P1 P2 P3 P4 : A -> B -> C -> Prop} {R : Prop} (h : ∃ a b c, P1 a b c /\ P2 a b c /\ P3 a b c /\ P4 a b c) (k : ∀ a b c, P1 a b c -> P2 a b c -> P3 a b c -> P4 a b c -> R) : R := h.elim fun a h => h.elim fun b h => h.elim fun c h => k a b c h.1 h.2.1 h.2.2.1 h.2.2.2
theorem Zi7 {A : Sort _} {B : Sort _} {C : Sort _} {P1 P2 P3 P4 P5 : A -> B -> C -> Prop} {R : Prop} (h : ∃ a b c, P1 a b c /\ P2 a b c /\ P3 a b c /\ P4 a b c /\ P5 a b c) (k : ∀ a b c, P1 a b c -> P2 a b c -> P3 a b c -> P4 a b c -> P5 a b c -> R) : R := h.elim fun a h => h.elim fun b h => h.elim fun c h => k a b c h.1 h.2.1 h.2.2.1 h.2.2.2.1 h.2.2.2.2
theorem ZtX {A : Sort _} {B : Sort _} {C : Sort _} {P1 P2 P3 P4 P5 P6 : A -> B -> C -> Prop} {R : Prop} (h : ∃ a b c, P1 a b c /\ P2 a b c /\ P3 a b c /\ P4 a b c /\ P5 a b c /\ P6 a b c) (k : ∀ a b c, P1 a b c -> P2 a b c -> P3 a b c -> P4 a b c -> P5 a b c -> P6 a b c -> R) : R := h.elim fun a h => h.elim fun b h => h.elim fun c h => k a b c h.1 h.2.1 h.2.2.1 h.2.2.2.1 h.2.2.2.2.1 h.2.2.2.2.2
theorem Zud {A : Sort _} {B : Sort _} {C : Sort _} {D : Sort _} {P1 P2 : A -> B -> C -> D -> Prop} {R : Prop} (h : ∃ a b c d, P1 a b c d /\ P2 a b c d) (k : ∀ a b c d, P1 a b c d -> P2 a b c d -> R) : R := h.elim fun a h => h.elim fun b h => h.elim fun c h => h.elim fun d h => k a b c d h.1 h.2
theorem Zlp {A : Sort _} {B : Sort _} {C : Sort _} {D : Sort _} {P1 P2 P3 : A -> B -> C -> D -> Prop} {R : Prop} (h : ∃ a b c d, P1 a b c d /\ P2 a b c d /\ P3 a b c d) (k : ∀ a b c d, P1 a b c d -> P2 a b c d -> P3 a b c d -> R) : R := h.elim fun a h => h.elim fun b h => h.elim fun c h => h.elim fun d h => k a b c d h.1 h.2.1 h.2.2
theorem Zdn {A : Sort _} {B : Sort _} {C : Sort _} {D : Sort _} {P1 P2 P3 P4 : A -> B -> C -> D -> Prop} {R : Prop} (h : ∃ a b c d, P1 a b c d /\ P2 a b c d /\ P3 a b c d /\ P4 a b c d) (k : ∀ a b c d, P1 a b c d -> P2 a b c d -> P3 a b c d -> P4 a b c d -> R) : R := h.elim fun a h => h.elim fun b h => h.elim fun c h => h.elim fun d h => k a b c d h.1 h.2.1 h.2.2.1 h.2.2.2
theorem Zgs {A : Sort _} {B : Sort _} {C : Sort _} {D : Sort _} {P1 P2 P3 P4 P5 : A -> B -> C -> D -> Prop} {R : Prop} (h : ∃ a b c d, P1 a b c d /\ P2 a b c d /\ P3 a b c d /\ P4 a b c d /\ P5 a b c d) (k : ∀ a b c d, P1 a b c d -> P2 a b c d -> P3 a b c d -> P4 a b c d -> P5 a b c d -> R) : R := h.elim fun a h => h.elim fun b h => h.elim fun c h => h.elim fun d h => k a b c d h.1 h.2.1 h.2.2.1 h.2.2.2.1 h.2.2.2.2
theorem Zpv {A : Sort _} {B : Sort _} {C : Sort _} {D : Sort _} {P1 P2 P3 P4 P5 P6 P7 : A -> B -> C -> D -> Prop} {R : Prop} (h : ∃ a b c d, P1 a b c d /\ P2 a b c d /\ P3 a b c d /\ P4 a b c d /\ P5 a b c d /\ P6 a b c d /\ P7 a b c d) (k : ∀ a b c d, P1 a b c d -> P2 a b c d -> P3 a b c d -> P4 a b c d -> P5 a b c d -> P6 a b c d -> P7 a b c d -> R) : R := h.elim fun a h => h.elim fun b h => h.elim fun c h => h.elim fun d h => k a b c d h.1 h.2.1 h.2.2.1 h.2.2.2.1 h.2.2.2.2.1 h.2.2.2.2.2.1 h.2.2.2.2.2.2
theorem ZtD {A : Sort _} {B : Sort _} {C : Sort _} {D : Sort _} {E : Sort _} {P1 P2 P3 P4 : A -> B -> C -> D -> E -> Prop} {R : Prop} (h : ∃ a b c d e, P1 a b c d e /\ P2 a b c d e /\ P3 a b c d e /\ P4 a b c d e) (k : ∀ a b c d e, P1 a b c d e -> P2 a b c d e -> P3 a b c d e -> P4 a b c d e -> R) : R := h.elim fun a h => h.elim fun b h => h.elim fun c h => h.elim fun d h => h.elim fun e h => k a b c d e h.1 h.2.1 h.2.2.1 h.2.2.2
theorem Zrj {A : Sort _} {B : Sort _} {C : Sort _} {D : Sort _} {E : Sort _} {P1 P2 P3 P4 P5 P6 P7 : A -> B -> C -> D -> E -> Prop} {R : Prop} (h : ∃ a b c d e, P1 a b c d e /\ P2 a b c d e /\ P3 a b c d e /\ P4 a b c d e /\ P5 a b c d e /\ P6 a b c d e /\ P7 a b c d e) (k : ∀ a b c d e, P1 a b c d e -> P2 a b c d e -> P3 a b c d e -> P4 a b c d e -> P5 a b c d e -> P6 a b c d e -> P7 a b c d e -> R) : R := h.elim fun a h => h.elim fun b h => h.elim fun c h => h.elim fun d h => h.elim fun e h => k a b c d e h.1 h.2.1 h.2.2.1 h.2.2.2.1 h.2.2.2.2.1 h.2.2.2.2.2.1 h.2.2.2.2.2.2
theorem nn {α : Type} {x : α} {P : Prop} (h : (Option.none : Option α) = some x) : P := nomatch h
noncomputable abbrev Sb {α : Type} (P : α -> Prop) : Type := {o : Option α // ∀ r, o = some r -> P r}
noncomputable def Sb.no {α : Type} {P : α -> Prop} : Sb P := ⟨none, fun _ h => nn h⟩
noncomputable def Sb.ok {α : Type} {P : α -> Prop} (a : α) (h : P a) : Sb P := ⟨some a, fun _ e => Option.some.inj e ▸ h⟩
noncomputable def Sb.bind {α β : Type} {P : β -> Prop} : (o : Option α) -> (∀ a, o = some a -> Sb P) -> Sb P
 | none, _ => .no
 | some a, k => k a rfl
theorem Sb.bind_eq {α β : Type} {P : β -> Prop} {o : Option α} {k : ∀ a, o = some a -> Sb P} {a : α} (h : o = some a) : Sb.bind o k = k a h := by
 cases h
 rfl
theorem ZaU {c : Prop} [Decidable c] {α : Type} {a b : Option α} {r : α} (h : (if c then a else b) = some r) : (c /\ a = some r) \/ (¬ c /\ b = some r) := by
 by_cases hc : c
 ·exact .inl ⟨hc, (if_pos hc).symm.trans h⟩
 ·exact .inr ⟨hc, (if_neg hc).symm.trans h⟩
theorem YG {c : Prop} [Decidable c] {α : Type} {a : Option α} {r : α} (h : (if c then a else none) = some r) : c /\ a = some r := (ZaU h).elim id fun h => nn h.2
noncomputable def Sb.ite {c : Prop} [Decidable c] {α : Type} {P : α -> Prop} (a : α) (h : c -> P a) : Sb P := ⟨if c then some a else none, fun _ e => Option.some.inj (YG e).2 ▸ h (YG e).1⟩
theorem Zep (h : Heap) (a : Addr) (f : Obj -> Obj) : (h.update a f).objs.size = h.objs.size := by
 cases h; simp [Heap.update]
theorem ZdU {M : Model} {Γ : Ctx} {p : Pos} {t : Sem PySem.Fin} {fs : List Frame} {s s' : Shared} {e : End} (h : Runs M Γ p t fs s e s') : s.heap.objs.size <= s'.heap.objs.size := by
 induction h <;> (try simp only [Shared.setGen, Heap.size_push, Zep] at *) <;> omega
theorem Zhc {M : Model} {Γ : Ctx} {p : Pos} {s s' : Shared} {r : Result} (h : Returns M Γ p s r s') : s.heap.objs.size <= s'.heap.objs.size := ZdU h
theorem Zko {M : Model} {Γ : Ctx} {p : Pos} {g : Nat} {r : Resume} {s s' : Shared} {res : GenResult} (h : Wakes M Γ p g r s res s') : s.heap.objs.size <= s'.heap.objs.size := by
 unfold Wakes at h
 split at h
 ·exact h.elim
 ·split at h
  ·obtain ⟨e'1, s'1, hr, _, _, rfl⟩ := h; exact (ZdU hr : (s.setGen g .running).heap.objs.size <= s'1.heap.objs.size)
  ·rw [h.2]; exact Nat.le_refl _
  ·rw [h.2]; exact Nat.le_refl _
 ·obtain ⟨e'1, s'1, hr, _, _, rfl⟩ := h; exact (ZdU hr : (s.setGen g .running).heap.objs.size <= s'1.heap.objs.size)
 ·rw [h.2]; exact Nat.le_refl _
 ·rw [h.2]; exact Nat.le_refl _
theorem ZqT {α : Type} (M : Model) (Γ : Ctx) (n : Nat) (t : Sem α) : ∀ (Q : α -> Pos -> Shared -> Prop) (E : Value -> Pos -> Shared -> Prop) (p : Pos) (s : Shared), n <= s.heap.objs.size -> Sem.wp M Γ t Q E p s ->
  Sem.wp M Γ t (fun a p' s' => n <= s'.heap.objs.size /\ Q a p' s') E p s := by
 induction t with
 | pure a => intro Q E p s hn h; exact ⟨hn, h⟩
 | raise e => intro Q E p s hn h; exact h
 | unsupported _ => intro Q E p s _ h; exact h
 | finish _ => intro Q E p s _ h; exact h
 | rule _ k ih => intro Q E p s hn h; exact ih () Q E p s hn h
 | «at» p' k ih => intro Q E p s hn h; exact ih () Q E p' s hn h
 | load a _ k ih => intro Q E p s hn h; obtain ⟨o, ho, h⟩ := h; exact ⟨o, ho, ih o Q E p s hn h⟩
 | update a _ f k ih => intro Q E p s hn h; exact ⟨h.1, ih () Q E p _ (by rw [Zep]; exact hn) h.2⟩
 | loadIfAlive a k ih => intro Q E p s hn h; exact ih _ Q E p s hn h
 | point _ k ih => intro Q E p s hn h; exact ih () Q E p s hn h
 | register _ _ => intro Q E p s _ h; exact h
 | alloc o k ih => intro Q E p s hn h; exact ih _ Q E p _ (by rw [Heap.size_push]; omega) h
 | fresh k ih => intro Q E p s hn h; exact ih _ Q E p _ hn h
 | ask k ih => intro Q E p s hn h; exact ih _ Q E p s hn h
 | choose src m k ih => intro Q E p s hn h; exact ⟨h.1, ih _ Q E p _ hn h.2⟩
 | os q _ k ih => intro Q E p s hn h; exact ih _ Q E p _ hn h
 | call c hd _ _ k ih => intro Q E p s hn h; obtain ⟨r, s', hr, h⟩ := h; exact ⟨r, s', hr, ih r Q E p s' (Nat.le_trans hn (Zhc hr)) h⟩
 | handled own k ih => intro Q E p s hn h; exact ih _ Q E p s hn h
 | genState g k ih => intro Q E p s hn h; obtain ⟨st, hs, h⟩ := h; exact ⟨st, hs, ih _ Q E p s hn h⟩
 | newGen c k ih => intro Q E p s hn h; exact ih _ Q E p _ hn h
 | resume g r _ k ih => intro Q E p s hn h; obtain ⟨res, s', hw, h⟩ := h; exact ⟨res, s', hw, ih res Q E p s' (Nat.le_trans hn (Zko hw)) h⟩
 | yield _ _ _ _ => intro Q E p s _ h; exact h
 | stack k ih => intro Q E p s hn h; exact ih _ Q E p s hn h
 | fork _ _ => intro Q E p s _ h; exact h
 | thread k ih => intro Q E p s hn h; exact ih _ Q E p s hn h
 | await _ _ _ _ _ => intro Q E p s _ h; exact h
theorem Ok.size {prog : Program} {w : World} {α : Type} {A : Around} {s : Shared} {m : Sem α} {Q : α -> Shared -> Prop} (h : Ok prog w A m s Q) :
  Ok prog w A m s fun a s' => s.heap.objs.size <= s'.heap.objs.size /\ Q a s' :=
 fun E Γ p hΓ => ZqT _ Γ _ m _ _ p s (Nat.le_refl _) (h E Γ p hΓ)
inductive V where
 | none
 | bool (b : Bool)
 | int (i : Int)
 | str (s : Str)
 | tup (xs : List V)
 | list (xs : List V)
 | dict (ks : List Str) (vs : List V)
 | box (n : Nat)
 | range (a b : Int)
 | tc (c : V)
 deriving Inhabited
noncomputable def Zt7 (d : V) : Sb fun x => d = .str x := match d with
 | .str x => .ok x rfl
 | _ => .no
noncomputable def Zq5 (d : V) : Sb fun x => d = .int x := match d with
 | .int x => .ok x rfl
 | _ => .no
noncomputable def Zqo (d : V) : Sb fun xs => d = .tup xs := match d with
 | .tup xs => .ok xs rfl
 | _ => .no
noncomputable def ZrI (d : V) : Sb fun xs => d = .list xs := match d with
 | .list xs => .ok xs rfl
 | _ => .no
noncomputable def Zrt (d : V) : Sb fun (p : List Str × List V) => d = .dict p.1 p.2 := match d with
 | .dict ks vs => .ok (ks, vs) rfl
 | _ => .no
theorem ZgS {α β : Type} {o : Option α} {f : α -> Option β} {r : β} {P : Prop} (h : o.bind f = some r) (k : ∀ a, o = some a -> f a = some r -> P) : P := Ze (Option.bind_eq_some_iff.mp h) k
structure GC where
 prog : Program
 w : World
 H0 : Heap
 os0 : OsState
 mg : Str -> Option Value
 mb : Str -> Option Value
 tabs : List (Addr × Addr)
 tcC : Addr
noncomputable def GC.Tb (G : GC) (a : Addr) : Prop := ∃ c, (c, a) ∈ G.tabs
structure Wd (G : GC) (s : Shared) : Prop where
 keep : ∀ b o, G.H0.get? b = some o -> ¬ G.Tb b -> s.heap.get? b = some o
 tab : ∀ c P, (c, P) ∈ G.tabs -> ∃ ps, s.heap.IsCode c P ps /\ s.heap.TableAt c P ps
 gens : AllBare s.gens
 os : s.os = G.os0
structure Ext (s s' : Shared) : Prop where
 keep : ∀ b o, s.heap.get? b = some o -> s'.heap.get? b = some o
 size : s.heap.objs.size <= s'.heap.objs.size
 gens : s'.gens = s.gens
 os : s'.os = s.os
theorem Ext.refl (s : Shared) : Ext s s := ⟨fun _ _ e => e, Nat.le_refl _, rfl, rfl⟩
theorem Ext.trans {a b c : Shared} (x : Ext a b) (y : Ext b c) : Ext a c :=
 ⟨fun q o e => y.keep q o (x.keep q o e), Nat.le_trans x.size y.size, y.gens.trans x.gens, y.os.trans x.os⟩
theorem Ext.toks (s : Shared) (t : Nat) : Ext s { s with toks := t } := ⟨fun _ _ e => e, Nat.le_refl _, rfl, rfl⟩
theorem Ext.push (s : Shared) (o : Obj) : Ext s { s with heap := s.heap.push o } :=
 ⟨fun _ _ e => Heap.get?_push_of_some _ e, by rw [Heap.size_push]; exact Nat.le_succ _, rfl, rfl⟩
theorem Wd.ext {G : GC} {s s' : Shared} (W : Wd G s) (x : Ext s s') : Wd G s' where
 keep := fun b o e n => x.keep b o (W.keep b o e n)
 tab := fun c P m => let ⟨ps, a, b⟩ := W.tab c P m; ⟨ps, a.keeps x.keep, b.keeps x.keep⟩
 gens := x.gens ▸ W.gens
 os := x.os.trans W.os
noncomputable def YO (vs : Array Value) (n : Nat) : Obj := ⟨.type "list", none, .seq vs n, #[]⟩
noncomputable def Jm (vs : Array Value) (n : Nat) : Obj := ⟨.type "tuple", none, .seq vs n, #[]⟩
noncomputable def Zkp (od : Obj) (v : Value) : Prop := PySem.W.lookIn "comp_select_list" od = some (some v) /\ PySem.W.lookIn "compare" od = some Option.none
mutual
inductive Rep (G : GC) (av : Addr -> Prop) (β : List Addr) (h : Heap) : Value -> V -> Prop
 | none : Rep G av β h .none .none
 | bool (b : Bool) : Rep G av β h (.bool b) (.bool b)
 | int (i : Int) (t : Tok) : Rep G av β h (.int i t) (.int i)
 | str (x : Str) (t : Tok) : Rep G av β h (.str x t) (.str x)
 | tup {a : Addr} {vs : Array Value} {n : Nat} {ds : List V} : h.get? a = some (Jm vs n) -> ¬ av a -> Zd G av β h vs.toList ds -> Rep G av β h (.ref a) (.tup ds)
 | list {a : Addr} {vs : Array Value} {n : Nat} {ds : List V} : h.get? a = some (YO vs n) -> ¬ av a -> Zd G av β h vs.toList ds -> Rep G av β h (.ref a) (.list ds)
 | dict {a : Addr} {kvs : List (Str × Value)} {ks : List Str} {ds : List V} : h.DictOf (PySem.strKind G.prog G.w) a kvs -> (a == sysModules) = false -> ¬ av a ->
   kvs.map (·.1) = ks -> Zd G av β h (kvs.map (·.2)) ds -> Rep G av β h (.ref a) (.dict ks ds)
 | box {a : Addr} {n : Nat} : β[n]? = some a -> Rep G av β h (.ref a) (.box n)
 | range {a : Addr} {lo hi : Int} {t u v : Tok} : IsRange h a lo hi 1 t u v -> ¬ av a -> Rep G av β h (.ref a) (.range lo hi)
 | tc {a D : Addr} {od : Obj} {v : Value} {c : V} : h.get? a = some ⟨.ref G.tcC, some D, .plain, #[]⟩ -> ¬ av a -> ¬ av D -> h.get? D = some od -> Zkp od v ->
   Rep G av β h v c -> Rep G av β h (.ref a) (.tc c)
inductive Zd (G : GC) (av : Addr -> Prop) (β : List Addr) (h : Heap) : List Value -> List V -> Prop
 | nil : Zd G av β h [] []
 | cons {v : Value} {d : V} {vs : List Value} {ds : List V} : Rep G av β h v d -> Zd G av β h vs ds -> Zd G av β h (v :: vs) (d :: ds)
end
section
variable {G : GC} {av av' : Addr -> Prop} {β β' : List Addr} {h h' : Heap}
theorem Zcd {a : Addr} {kvs : List (Str × Value)} (x : h.DictOf (PySem.strKind G.prog G.w) a kvs) (e : ∀ o, h.get? a = some o -> h'.get? a = some o) : h'.DictOf (PySem.strKind G.prog G.w) a kvs :=
 let ⟨o, es, ep, ho, r⟩ := x; ⟨o, es, ep, e o ho, r⟩
theorem XV {a : Addr} {kvs : List (Str × Value)} (x : h.DictOf (PySem.strKind G.prog G.w) a kvs) : ∃ o, h.get? a = some o :=
 let ⟨o, _, _, ho, _⟩ := x; ⟨o, ho⟩
theorem ZhN {a : Addr} {lo hi st : Int} {t u v : Tok} (x : IsRange h a lo hi st t u v) (e : ∀ o, h.get? a = some o -> h'.get? a = some o) : IsRange h' a lo hi st t u v := e _ x
noncomputable def Sh (G : GC) (av : Addr -> Prop) (β : List Addr) (h : Heap) (v : Value) : V -> Prop
 | .none => v = .none
 | .bool b => v = .bool b
 | .int i => ∃ t, v = .int i t
 | .str x => ∃ t, v = .str x t
 | .tup ds => ∃ a vs n, v = .ref a /\ h.get? a = some (Jm vs n) /\ ¬ av a /\ Zd G av β h vs.toList ds
 | .list ds => ∃ a vs n, v = .ref a /\ h.get? a = some (YO vs n) /\ ¬ av a /\ Zd G av β h vs.toList ds
 | .dict ks ds => ∃ a kvs, v = .ref a /\ h.DictOf (PySem.strKind G.prog G.w) a kvs /\ (a == sysModules) = false /\ ¬ av a /\ kvs.map (·.1) = ks /\ Zd G av β h (kvs.map (·.2)) ds
 | .box n => ∃ a, v = .ref a /\ β[n]? = some a
 | .range lo hi => ∃ a t u w, v = .ref a /\ IsRange h a lo hi 1 t u w /\ ¬ av a
 | .tc c => ∃ a D od x, v = .ref a /\ h.get? a = some ⟨.ref G.tcC, some D, .plain, #[]⟩ /\ ¬ av a /\ ¬ av D /\ h.get? D = some od /\ Zkp od x /\ Rep G av β h x c
theorem Rep.sh {v : Value} {d : V} (r : Rep G av β h v d) : Sh G av β h v d :=
 Rep.rec (motive_1 := fun v d _ => Sh G av β h v d) (motive_2 := fun _ _ _ => True) rfl (fun _ => rfl) (fun _ t => ⟨t, rfl⟩) (fun _ t => ⟨t, rfl⟩) (fun e n r _ => ⟨_, _, _, rfl, e, n, r⟩) (fun e n r _ => ⟨_, _, _, rfl, e, n, r⟩)
  (fun x hs n e r _ => ⟨_, _, rfl, x, hs, n, e, r⟩) (fun e => ⟨_, rfl, e⟩) (fun x n => ⟨_, _, _, _, rfl, x, n⟩) (fun e n n' x hm r _ => ⟨_, _, _, _, rfl, e, n, n', x, hm, r⟩) trivial (fun _ _ _ _ => trivial) r
theorem Zd.ind {P : List Value -> List V -> Prop} (nil : P [] []) (cons : ∀ {v : Value} {d : V} {vs : List Value} {ds : List V}, Rep G av β h v d -> Zd G av β h vs ds -> P vs ds -> P (v :: vs) (d :: ds)) {vs : List Value} {ds : List V}
  (r : Zd G av β h vs ds) : P vs ds :=
 Zd.rec (motive_1 := fun _ _ _ => True) (motive_2 := fun vs ds _ => P vs ds) trivial (fun _ => trivial) (fun _ _ => trivial) (fun _ _ => trivial) (fun _ _ _ _ => trivial) (fun _ _ _ _ => trivial)
  (fun _ _ _ _ _ _ => trivial) (fun _ => trivial) (fun _ _ => trivial) (fun _ _ _ _ _ _ _ => trivial) nil (fun r rs _ ih => cons r rs ih) r
theorem Rep.mono (hk : ∀ b o, h.get? b = some o -> ¬ av b -> h'.get? b = some o /\ ¬ av' b) (hβ : ∀ (n : Nat) (a : Addr), β[n]? = some a -> β'[n]? = some a) {v : Value} {d : V} (r : Rep G av β h v d) : Rep G av' β' h' v d :=
 Rep.rec (motive_1 := fun v d _ => Rep G av' β' h' v d) (motive_2 := fun vs ds _ => Zd G av' β' h' vs ds) .none (fun b => .bool b) (fun i t => .int i t) (fun x t => .str x t)
  (fun e n _ r => .tup (hk _ _ e n).1 (hk _ _ e n).2 r) (fun e n _ r => .list (hk _ _ e n).1 (hk _ _ e n).2 r)
  (fun x hs n e _ r => .dict (Zcd x fun o ho => (hk _ _ ho n).1) hs ((XV x).elim fun _ ho => (hk _ _ ho n).2) e r) (fun e => .box (hβ _ _ e))
  (fun x n => .range (ZhN x fun o ho => (hk _ _ ho n).1) (hk _ _ x n).2) (fun e n n' x hm _ r => .tc (hk _ _ e n).1 (hk _ _ e n).2 (hk _ _ x n').2 (hk _ _ x n').1 hm r) .nil (fun _ _ r rs => .cons r rs) r
theorem Zd.mono (hk : ∀ b o, h.get? b = some o -> ¬ av b -> h'.get? b = some o /\ ¬ av' b) (hβ : ∀ (n : Nat) (a : Addr), β[n]? = some a -> β'[n]? = some a) {vs : List Value} {ds : List V} (r : Zd G av β h vs ds) : Zd G av' β' h' vs ds :=
 Zd.ind .nil (fun r _ ih => .cons (r.mono hk hβ) ih) r
theorem Zd.length {vs : List Value} {ds : List V} (r : Zd G av β h vs ds) : vs.length = ds.length := Zd.ind (P := fun vs ds => vs.length = ds.length) rfl (fun _ _ ih => congrArg (· + 1) ih) r
theorem Zd.append {vs vs' : List Value} {ds ds' : List V} (r : Zd G av β h vs ds) (y : Zd G av β h vs' ds') : Zd G av β h (vs ++ vs') (ds ++ ds') :=
 Zd.ind (P := fun vs ds => Zd G av β h (vs ++ vs') (ds ++ ds')) y (fun r _ ih => .cons r ih) r
theorem Zd.both {vs : List Value} {ds : List V} (r : Zd G av β h vs ds) : ∀ i : Nat, (vs[i]? = none /\ ds[i]? = none) \/ ∃ v d, vs[i]? = some v /\ ds[i]? = some d /\ Rep G av β h v d :=
 Zd.ind (P := fun vs ds => ∀ i : Nat, (vs[i]? = none /\ ds[i]? = none) \/ ∃ v d, vs[i]? = some v /\ ds[i]? = some d /\ Rep G av β h v d) (fun _ => .inl ⟨rfl, rfl⟩)
  (fun r _ ih i => Nat.casesOn (motive := fun i => ((_ :: _)[i]? = none /\ (_ :: _)[i]? = none) \/ ∃ v d, (_ :: _)[i]? = some v /\ (_ :: _)[i]? = some d /\ Rep G av β h v d) i (.inr ⟨_, _, rfl, rfl, r⟩) fun n => ih n) r
theorem Zd.get {vs : List Value} {ds : List V} (r : Zd G av β h vs ds) {i : Nat} {d : V} (e : ds[i]? = some d) : ∃ v, vs[i]? = some v /\ Rep G av β h v d :=
 (r.both i).elim (fun z => nomatch z.2.symm.trans e) fun ⟨v, d', h1, h2, h3⟩ => ⟨v, h1, Option.some.inj (h2.symm.trans e) ▸ h3⟩
theorem Zd.getV {vs : List Value} {ds : List V} (r : Zd G av β h vs ds) {i : Nat} {v : Value} (e : vs[i]? = some v) : ∃ d, ds[i]? = some d /\ Rep G av β h v d :=
 (r.both i).elim (fun z => nomatch z.1.symm.trans e) fun ⟨v', d, h1, h2, h3⟩ => ⟨d, h2, Option.some.inj (h1.symm.trans e) ▸ h3⟩
theorem Zd.sh {vs : List Value} {ds : List V} (r : Zd G av β h vs ds) : (∀ e : ds = [], vs = []) /\ ∀ d ds', ds = d :: ds' -> ∃ v vs', vs = v :: vs' /\ Rep G av β h v d /\ Zd G av β h vs' ds' :=
 Zd.ind (P := fun vs ds => (∀ e : ds = [], vs = []) /\ ∀ d ds', ds = d :: ds' -> ∃ v vs', vs = v :: vs' /\ Rep G av β h v d /\ Zd G av β h vs' ds') ⟨fun _ => rfl, fun _ _ e => nomatch e⟩
  (fun r rs _ => ⟨fun e => (nomatch e), fun d ds' e => ⟨_, _, rfl, (List.cons.inj e).1 ▸ r, (List.cons.inj e).2 ▸ rs⟩⟩) r
theorem Zd.take {vs : List Value} {ds : List V} (n : Nat) (r : Zd G av β h vs ds) : Zd G av β h (vs.take n) (ds.take n) :=
 Zd.ind (P := fun vs ds => ∀ n, Zd G av β h (vs.take n) (ds.take n)) (fun n => by rw [List.take_nil, List.take_nil]; exact .nil) (fun r _ ih n => by
  cases n with
  | zero => exact .nil
  | succ n => exact .cons r (ih n)) r n
theorem Zd.drop {vs : List Value} {ds : List V} (n : Nat) (r : Zd G av β h vs ds) : Zd G av β h (vs.drop n) (ds.drop n) :=
 Zd.ind (P := fun vs ds => ∀ n, Zd G av β h (vs.drop n) (ds.drop n)) (fun n => by rw [List.drop_nil, List.drop_nil]; exact .nil) (fun r rs ih n => by
  cases n with
  | zero => exact .cons r rs
  | succ n => exact ih n) r n
theorem Zd.set {vs : List Value} {ds : List V} (n : Nat) {v : Value} {d : V} (r : Zd G av β h vs ds) (x : Rep G av β h v d) : Zd G av β h (vs.set n v) (ds.set n d) :=
 Zd.ind (P := fun vs ds => ∀ n, Zd G av β h (vs.set n v) (ds.set n d)) (fun n => .nil) (fun r rs ih n => by
  cases n with
  | zero => exact .cons x rs
  | succ n => exact .cons r (ih n)) r n
theorem Zd.eraseIdx {vs : List Value} {ds : List V} (n : Nat) (r : Zd G av β h vs ds) : Zd G av β h (vs.eraseIdx n) (ds.eraseIdx n) :=
 Zd.ind (P := fun vs ds => ∀ n, Zd G av β h (vs.eraseIdx n) (ds.eraseIdx n)) (fun n => .nil) (fun r rs ih n => by
  cases n with
  | zero => exact rs
  | succ n => exact .cons r (ih n)) r n
end
structure Cx where
 env : Env
 names : List Str
 av : Addr -> Prop
 mu : Addr -> Prop
 asg : List Str
 gen : Bool
noncomputable def Cx.look (C : Cx) (σ : List (Option V)) (x : Str) : Option V := (σ[C.names.idxOf x]?).join
noncomputable def ZbS (k : Option NameKind) : Prop := k = some .local \/ k = some .cell \/ k = some .free
noncomputable def Bnd (h : Heap) (env : Env) (x : Str) (v : Value) : Prop :=
 (env.kindOf x = some .local /\ ∃ m, h.Ns env.locals m /\ m x = some v) \/
 ((env.kindOf x = some .cell \/ env.kindOf x = some .free) /\ ∃ c, env.cells.lookup x = some c /\ h.IsCell c (some v))
inductive Yo (G : GC) (av : Addr -> Prop) (β : List Addr) (h : Heap) : Addr -> V -> Prop
 | list {a : Addr} {vs : Array Value} {n : Nat} {ds : List V} : h.get? a = some (YO vs n) -> Zd G av β h vs.toList ds -> Yo G av β h a (.list ds)
 | dict {a : Addr} {kvs : List (Str × Value)} {ks : List Str} {ds : List V} : h.DictOf (PySem.strKind G.prog G.w) a kvs -> (a == sysModules) = false ->
   kvs.map (·.1) = ks -> Zd G av β h (kvs.map (·.2)) ds -> Yo G av β h a (.dict ks ds)
noncomputable def BSh (G : GC) (av : Addr -> Prop) (β : List Addr) (h : Heap) (a : Addr) : V -> Prop
 | .list ds => ∃ vs n, h.get? a = some (YO vs n) /\ Zd G av β h vs.toList ds
 | .dict ks ds => ∃ kvs : List (Str × Value), h.DictOf (PySem.strKind G.prog G.w) a kvs /\ (a == sysModules) = false /\ kvs.map (·.1) = ks /\ Zd G av β h (kvs.map (·.2)) ds
 | _ => False
theorem Yo.sh {G : GC} {av : Addr -> Prop} {β : List Addr} {h : Heap} {a : Addr} {d : V} (x : Yo G av β h a d) : BSh G av β h a d :=
 Yo.rec (motive := fun d _ => BSh G av β h a d) (fun e r => ⟨_, _, e, r⟩) (fun x hs e r => ⟨_, x, hs, e, r⟩) x
noncomputable def avB (av : Addr -> Prop) (β : List Addr) (a : Addr) : Prop := av a \/ a ∈ β
structure ZcN (G : GC) (av : Addr -> Prop) (β : List Addr) (B : List V) (h : Heap) : Prop where
 len : β.length = B.length
 nodup : β.Nodup
 apart : ∀ a ∈ β, ¬ av a
 high : ∀ a ∈ β, G.H0.objs.size <= a
 at' : ∀ (n : Nat) (a : Addr) (d : V), β[n]? = some a -> B[n]? = some d -> Yo G (avB av β) β h a d
structure GOk (G : GC) : Prop where
 g : G.H0.Ns mainGlobals G.mg
 b : G.H0.Ns builtinsNs G.mb
 gT : ¬ G.Tb mainGlobals
 bT : ¬ G.Tb builtinsNs
 nolimit : G.H0.NoLimit
 sT : ¬ G.Tb cStatics
 tabs : ∀ c P, (c, P) ∈ G.tabs -> c < G.H0.objs.size /\ P < G.H0.objs.size /\ ¬ G.Tb c
 one : ∀ c c' P, (c, P) ∈ G.tabs -> (c', P) ∈ G.tabs -> c = c'
 bm : ∃ bm o, G.mg "__builtins__" = some (.ref bm) /\ bm ≠ builtinsNs /\ G.H0.get? bm = some o /\ o.cls = .type "module" /\ o.dict = some builtinsNs /\ o.data = .plain /\ ¬ G.Tb bm
structure Zw (G : GC) (C : Cx) : Prop where
 gok : GOk G
 kind : C.env.scope.kind = .function
 globals : C.env.globals = mainGlobals
 builtins : C.env.builtins = builtinsNs
 muav : ∀ a, C.mu a -> C.av a
 tbav : ∀ a, G.Tb a -> C.av a
 muL : C.mu C.env.locals
 mu0 : ∀ a, C.mu a -> G.H0.objs.size <= a
 cellmu : ∀ x c, x ∈ C.asg -> C.env.kindOf x = some .cell -> C.env.cells.lookup x = some c -> C.mu c
 cellav : ∀ x c, C.env.cells.lookup x = some c -> C.av c
 inj : ∀ x y c, C.env.cells.lookup x = some c -> C.env.cells.lookup y = some c -> x = y
 has : ∀ x, C.env.kindOf x = some .cell \/ C.env.kindOf x = some .free -> ∃ c, C.env.cells.lookup x = some c
 cell0 : ∀ x c, C.env.cells.lookup x = some c -> G.H0.objs.size <= c
 known : ∀ x, ZbS (C.env.kindOf x) -> x ∈ C.names
 dbg : C.env.kindOf "__debug__" = Option.none
 code : C.gen = true -> ∃ c P, C.env.code = .ref c /\ (c, P) ∈ G.tabs
structure Inv (G : GC) (C : Cx) (β : List Addr) (B : List V) (σ : List (Option V)) (s : Shared) : Prop where
 wd : Wd G s
 low : ∀ a, C.av a -> a < s.heap.objs.size
 ns : ∃ m, s.heap.Ns C.env.locals m
 cells : ∀ x, x ∈ C.asg -> C.env.kindOf x = some .cell -> ∃ c v, C.env.cells.lookup x = some c /\ s.heap.IsCell c v
 vars : ∀ x d, C.look σ x = some d -> ZbS (C.env.kindOf x) -> ∃ v, Bnd s.heap C.env x v /\ Rep G (avB C.av β) β s.heap v d
 slots : σ.length = C.names.length
 boxes : ZcN G C.av β B s.heap
structure Zez (G : GC) (X : Addr -> Prop) (s s' : Shared) : Prop where
 keep : ∀ b o, s.heap.get? b = some o -> ¬ X b -> ¬ G.Tb b -> s'.heap.get? b = some o
 size : s.heap.objs.size <= s'.heap.objs.size
theorem Zez.refl (G : GC) (X : Addr -> Prop) (s : Shared) : Zez G X s s := ⟨fun _ _ e _ _ => e, Nat.le_refl _⟩
theorem Zez.trans {G : GC} {X Y : Addr -> Prop} {a b c : Shared} (x : Zez G X a b) (y : Zez G Y b c) (h : ∀ q, q < a.heap.objs.size -> Y q -> X q) : Zez G X a c :=
 ⟨fun q o e n t => y.keep q o (x.keep q o e n t) (fun z => n (h q (Heap.lt_size e) z)) t, Nat.le_trans x.size y.size⟩
theorem Zez.mono {G : GC} {X Y : Addr -> Prop} {a b : Shared} (x : Zez G X a b) (h : ∀ q, q < a.heap.objs.size -> X q -> Y q) : Zez G Y a b :=
 ⟨fun q o e n t => x.keep q o e (fun z => n (h q (Heap.lt_size e) z)) t, x.size⟩
theorem Ext.grow {s s' : Shared} (x : Ext s s') (G : GC) (X : Addr -> Prop) : Zez G X s s' := ⟨fun b o e _ _ => x.keep b o e, x.size⟩
structure AOk (H : Nat) (A : Around) : Prop where
 handled : A.handled = Option.none
 guards : A.guards = some []
 depth : A.depth + H <= 900
 units : A.units + 40 * H <= 9000
theorem AOk.deeper {H : Nat} {A : Around} (x : AOk (H + 1) A) (env : Env) : AOk H (A.deeper env) :=
 ⟨x.handled, x.guards, by have := x.depth; show A.depth + 1 + H <= 900; omega, by have := x.units; show A.units + 3 + 40 * H <= 9000; omega⟩
theorem AOk.le {H H' : Nat} {A : Around} (x : AOk H A) (h : H' <= H) : AOk H' A :=
 ⟨x.handled, x.guards, by have := x.depth; omega, by have := x.units; omega⟩
theorem AOk.room {H : Nat} {A : Around} (x : AOk H A) : A.depth < recursionLimit := by
 have := x.depth;show A.depth < 1000;omega
theorem AOk.room3 {H : Nat} {A : Around} (x : AOk H A) : A.units + 500 < cLine := by
 have := x.units;show A.units + 500 < 9900;omega
structure Adv (G : GC) (X : Addr -> Prop) (β : List Addr) (s : Shared) (β' : List Addr) (s' : Shared) : Prop where
 pre : ∃ βn, β' = β ++ βn /\ ∀ a ∈ βn, s.heap.objs.size <= a
 grow : Zez G (fun a => X a \/ a ∈ β) s s'
section
variable {G : GC} {C : Cx} {X : Addr -> Prop} {β β' β'' : List Addr} {B : List V} {σ : List (Option V)} {s s' s'' : Shared}
theorem Adv.refl : Adv G X β s β s := ⟨⟨[], by simp, fun _ h => by simp at h⟩, Zez.refl ..⟩
theorem Adv.trans (x : Adv G X β s β' s') (y : Adv G X β' s' β'' s'') : Adv G X β s β'' s'' := by
 refine Ze x.pre fun βn z_1 h1 => ?_;subst z_1;refine Ze y.pre fun βm z_1 h2 => ?_;subst z_1;refine ⟨⟨βn ++ βm, by simp, fun a ha => ?_⟩, x.grow.trans y.grow fun q hq hy => ?_⟩
 ·rcases List.mem_append.mp ha with h | h
  ·exact h1 a h
  ·exact Nat.le_trans x.grow.size (h2 a h)
 ·rcases hy with h | h
  ·exact .inl h
  ·rcases List.mem_append.mp h with h | h
   ·exact .inr h
   ·exact absurd hq (Nat.not_lt.mpr (h1 q h))
theorem Adv.mono {Y : Addr -> Prop} (x : Adv G X β s β' s') (h : ∀ a, X a -> Y a) : Adv G Y β s β' s' :=
 ⟨x.pre, x.grow.mono fun q _ z => z.imp (h q) id⟩
theorem Adv.ofExt (x : Ext s s') : Adv G X β s β s' := ⟨⟨[], by simp, fun _ h => by simp at h⟩, x.grow G _⟩
theorem Adv.repKeep (O : Zw G C) (hX : ∀ a, X a -> C.av a) (x : Adv G X β s β' s') :
  ∀ b o, s.heap.get? b = some o -> ¬ avB C.av β b -> s'.heap.get? b = some o /\ ¬ avB C.av β' b := by
 intro b o e n;refine ⟨x.grow.keep b o e (fun z => n (z.imp (hX b) id)) (fun z => n (.inl (O.tbav b z))), ?_⟩;refine Ze x.pre fun βn z_1 h1 => ?_;subst z_1
 rintro (z | z)
 ·exact n (.inl z)
 ·rcases List.mem_append.mp z with z | z
  ·exact n (.inr z)
  ·exact absurd (Heap.lt_size e) (Nat.not_lt.mpr (h1 b z))
theorem Adv.pre' (x : Adv G X β s β' s') (n : Nat) (a : Addr) (h : β[n]? = some a) : β'[n]? = some a := by
 refine Ze x.pre fun βn z_1 _ => ?_;subst z_1;rw [List.getElem?_append_left (List.getElem?_eq_some_iff.mp h).1]; exact h
theorem Adv.rep (O : Zw G C) (hX : ∀ a, X a -> C.av a) (x : Adv G X β s β' s') {v : Value} {d : V} (r : Rep G (avB C.av β) β s.heap v d) : Rep G (avB C.av β') β' s'.heap v d :=
 Rep.mono (x.repKeep O hX) x.pre' r
theorem Adv.repAll (O : Zw G C) (hX : ∀ a, X a -> C.av a) (x : Adv G X β s β' s') {vs : List Value} {ds : List V} (r : Zd G (avB C.av β) β s.heap vs ds) : Zd G (avB C.av β') β' s'.heap vs ds :=
 Zd.mono (x.repKeep O hX) x.pre' r
theorem Adv.e (O : Zw G C) (x : Adv G C.mu β s β' s') {v : Value} {d : V} (r : Rep G (avB C.av β) β s.heap v d) : Rep G (avB C.av β') β' s'.heap v d :=
 x.rep O O.muav r
theorem Adv.eAll (O : Zw G C) (x : Adv G C.mu β s β' s') {vs : List Value} {ds : List V} (r : Zd G (avB C.av β) β s.heap vs ds) : Zd G (avB C.av β') β' s'.heap vs ds :=
 x.repAll O O.muav r
theorem Ext.repKeep (x : Ext s s') (av : Addr -> Prop) : ∀ b o, s.heap.get? b = some o -> ¬ av b -> s'.heap.get? b = some o /\ ¬ av b := fun b o e n => ⟨x.keep b o e, n⟩
theorem Ext.rep (x : Ext s s') {av : Addr -> Prop} {v : Value} {d : V} (r : Rep G av β s.heap v d) : Rep G av β s'.heap v d := Rep.mono (x.repKeep av) (fun _ _ h => h) r
theorem Ext.repAll (x : Ext s s') {av : Addr -> Prop} {vs : List Value} {ds : List V} (r : Zd G av β s.heap vs ds) : Zd G av β s'.heap vs ds := Zd.mono (x.repKeep av) (fun _ _ h => h) r
theorem Bnd.keeps {h h' : Heap} {env : Env} {x : Str} {v : Value} (b : Bnd h env x v) (hk : ∀ b o, h.get? b = some o -> h'.get? b = some o) : Bnd h' env x v := by
 rcases b with ⟨k, m, hn, hm⟩ | ⟨k, c, hc, hv⟩
 ·exact .inl ⟨k, m, hn.keeps hk, hm⟩
 ·exact .inr ⟨k, c, hc, hv.keeps hk⟩
theorem Yo.mono {av av' : Addr -> Prop} {h h' : Heap} (hk : ∀ b o, h.get? b = some o -> ¬ av b -> h'.get? b = some o /\ ¬ av' b) (hβ : ∀ (n : Nat) (a : Addr), β[n]? = some a -> β'[n]? = some a)
  {a : Addr} {d : V} (hat : ∀ o, h.get? a = some o -> h'.get? a = some o) (x : Yo G av β h a d) : Yo G av' β' h' a d := by
 cases x with
 | list e r => exact .list (hat _ e) (Zd.mono hk hβ r)
 | dict e hs he r => exact .dict (Zcd e hat) hs he (Zd.mono hk hβ r)
theorem ZcN.keeps {av : Addr -> Prop} {h h' : Heap} (x : ZcN G av β B h) (hk : ∀ b o, h.get? b = some o -> h'.get? b = some o) : ZcN G av β B h' :=
 ⟨x.len, x.nodup, x.apart, x.high, fun n a d e1 e2 => (x.at' n a d e1 e2).mono (fun b o e n => ⟨hk b o e, n⟩) (fun _ _ e => e) fun o e => hk a o e⟩
theorem Inv.ext (I : Inv G C β B σ s) (x : Ext s s') : Inv G C β B σ s' where
 wd := I.wd.ext x
 low := fun a h => Nat.lt_of_lt_of_le (I.low a h) x.size
 ns := let ⟨m, hn⟩ := I.ns; ⟨m, hn.keeps x.keep⟩
 cells := fun y ya hy => let ⟨c, v, h1, h2⟩ := I.cells y ya hy; ⟨c, v, h1, h2.keeps x.keep⟩
 vars := fun y d e k => let ⟨v, b, r⟩ := I.vars y d e k; ⟨v, b.keeps x.keep, x.rep r⟩
 slots := I.slots
 boxes := I.boxes.keeps x.keep
end
noncomputable def Zv (G : GC) (C : Cx) (β : List Addr) (σ : List (Option V)) (s : Shared) (d : V) (B' : List V) (v : Value) (s' : Shared) : Prop :=
 ∃ β', Adv G C.mu β s β' s' /\ Inv G C β' B' σ s' /\ Rep G (avB C.av β') β' s'.heap v d
noncomputable def Zsy (G : GC) (C : Cx) (β : List Addr) (σ : List (Option V)) (s : Shared) (ds : List V) (B' : List V) (vs : List Value) (s' : Shared) : Prop :=
 ∃ β', Adv G C.mu β s β' s' /\ Inv G C β' B' σ s' /\ Zd G (avB C.av β') β' s'.heap vs ds
noncomputable def Zli (G : GC) (C : Cx) (β : List Addr) (σ : List (Option V)) (s : Shared) (b : Bool) (B' : List V) (b' : Bool) (s' : Shared) : Prop :=
 ∃ β', Adv G C.mu β s β' s' /\ Inv G C β' B' σ s' /\ b' = b
noncomputable def Yu (G : GC) (H : Nat) (C : Cx) (σ : List (Option V)) (B : List V) (t : Sem Value) (d : V) (B' : List V) : Prop :=
 ∀ A β s, AOk H A -> Inv G C β B σ s -> Ok G.prog G.w A t s (Zv G C β σ s d B')
noncomputable def Zlx (G : GC) (H : Nat) (C : Cx) (σ : List (Option V)) (B : List V) (t : Sem (List Value)) (ds : List V) (B' : List V) : Prop :=
 ∀ A β s, AOk H A -> Inv G C β B σ s -> Ok G.prog G.w A t s (Zsy G C β σ s ds B')
noncomputable def EvB (G : GC) (H : Nat) (C : Cx) (σ : List (Option V)) (B : List V) (t : Sem Bool) (b : Bool) (B' : List V) : Prop :=
 ∀ A β s, AOk H A -> Inv G C β B σ s -> Ok G.prog G.w A t s (Zli G C β σ s b B')
section
variable {G : GC} {C : Cx} {β β' : List Addr} {B B' : List V} {σ : List (Option V)} {s s' s'' : Shared} {d : V} {v : Value}
theorem Zv.from (x : Adv G C.mu β s β' s') (y : Zv G C β' σ s' d B' v s'') : Zv G C β σ s d B' v s'' :=
 let ⟨β'', a, i, r⟩ := y; ⟨β'', x.trans a, i, r⟩
theorem Zv.ofExt (I : Inv G C β B σ s) (x : Ext s s') (r : Rep G (avB C.av β) β s'.heap v d) : Zv G C β σ s d B v s' := ⟨β, .ofExt x, I.ext x, r⟩
end
section
variable {G : GC} {C : Cx} {β : List Addr} {B : List V} {σ : List (Option V)} {s s' : Shared} {H : Nat} {d : V} {v : Value}
theorem Zm3 (O : Zw G C) {x : Str} (k : ZbS (C.env.kindOf x)) : (x == ("__debug__" : Str)) = false := by
 cases h : x == ("__debug__" : Str) with
 | false => rfl
 | true =>
  rw [beq_iff_eq] at h;subst h;rw [O.dbg] at k;rcases k with k | k | k <;> cases k
theorem Bnd.load (O : Zw G C) {x : Str} {A : Around} {E : Value -> Shared -> Prop} {Q : Value -> Shared -> Prop} (b : Bnd s.heap C.env x v) (h : Q v s)
  (hd : (x == ("__classdict__" : Str)) = false) : wpAny (model G.prog G.w) A (loadName C.env x) Q E s := by
 rcases b with ⟨k, m, hn, hm⟩ | ⟨k | k, c, hc, hv⟩
 ·exact wpAny_loadName_local O.kind k hn hm h
 ·exact wpAny_loadName_cell O.kind k hc hv h
 ·exact wpAny_loadName_free O.kind k hc hv h hd
theorem Zs7 (O : Zw G C) {x : Str} {pos : Pos} (k : ZbS (C.env.kindOf x)) (hd : C.look σ x = some d) (hx : (x == ("__classdict__" : Str)) = false) :
  Yu G H C σ B (eval (.Name x pos) C.env) d B := by
 intro A β s hA I E;refine Ze (I.vars x d hd k) fun v b r => ?_;exact wpAny_Name (b.load O (Zv.ofExt I (Ext.refl s) r) hx) (Zm3 O k)
theorem Zrc (O : Zw G C) {x : Str} (k : ZbS (C.env.kindOf x)) (hd : C.look σ x = some d) (hx : (x == ("__classdict__" : Str)) = false) :
  Yu G H C σ B (loadName C.env x) d B := by
 intro A β s hA I E;refine Ze (I.vars x d hd k) fun v b r => ?_;exact b.load O (Zv.ofExt I (Ext.refl s) r) hx
theorem Zat {h : Heap} {a b : Addr} {m : Str -> Option Value} {v : Option Value} (x : h.Ns a m) (y : h.IsCell b v) : b ≠ a := by
 rintro rfl
 refine Y7 x fun o es ep e1 e2 _ => ?_;clear x;refine Ze y fun o' e3 e4 => ?_;clear y;rw [e1] at e3; cases e3; rw [e2] at e4; cases e4
theorem Zgj (hσ : σ.length = C.names.length) {x : Str} (hx : x ∈ C.names) (d : V) : C.look (σ.set (C.names.idxOf x) (some d)) x = some d := by
 unfold Cx.look;have : C.names.idxOf x < σ.length := by rw [hσ]; exact List.idxOf_lt_length_of_mem hx
 simp [List.getElem?_set_self this]
theorem getElem?_idxOf' : ∀ {l : List Str} {x : Str}, x ∈ l -> l[l.idxOf x]? = some x
 | y :: l, x, h => by
  rw [List.idxOf_cons]
  by_cases e : y = x
  ·subst e; simp
  ·have : (y == x) = false := by simpa using e
   rw [this];rcases List.mem_cons.mp h with h | h
   ·exact absurd h.symm e
   ·simpa using getElem?_idxOf' h
theorem Zih {l : List Str} {x y : Str} (hx : x ∈ l) (h : x ≠ y) : l.idxOf x ≠ l.idxOf y := by
 intro e;apply h;have h1 := getElem?_idxOf' hx;have hy : y ∈ l := List.idxOf_lt_length_iff.mp (e ▸ List.idxOf_lt_length_of_mem hx);have h2 := getElem?_idxOf' hy;rw [e] at h1;exact Option.some.inj (h1.symm.trans h2)
theorem Zia {x y : Str} (hx : x ∈ C.names) (h : y ≠ x) (d : V) : C.look (σ.set (C.names.idxOf x) (some d)) y = C.look σ y := by
 unfold Cx.look;rw [List.getElem?_set_ne (Zih hx (Ne.symm h))]
theorem Inv.same (O : Zw G C) (I : Inv G C β B σ s) {a : Addr} {h' : Heap} {tk : Nat} (ha : C.mu a) (hs : Heap.SameBut a s.heap h') {x : Str} (hx : x ∈ C.names) (hxk : ZbS (C.env.kindOf x))
  (hns : ∃ m, h'.Ns C.env.locals m)
  (hcells : ∀ y, y ∈ C.asg -> C.env.kindOf y = some .cell -> ∃ c v, C.env.cells.lookup y = some c /\ h'.IsCell c v)
  (hbnd : ∀ y v, y ≠ x -> Bnd s.heap C.env y v -> Bnd h' C.env y v)
  (hb : Bnd h' C.env x v) (r : Rep G (avB C.av β) β s.heap v d) : Inv G C β B (σ.set (C.names.idxOf x) (some d)) { s with heap := h', toks := tk } /\
   Adv G C.mu β s β { s with heap := h', toks := tk } := by
 have hne : ∀ b o, s.heap.get? b = some o -> b ≠ a -> h'.get? b = some o := fun b o e n => (hs.2 b n).trans e
 have hk : ∀ b o, s.heap.get? b = some o -> ¬ avB C.av β b -> h'.get? b = some o /\ ¬ avB C.av β b :=
  fun b o e n => ⟨hne b o e fun z => n (.inl (O.muav b (z ▸ ha))), n⟩
 have hr : ∀ {v d}, Rep G (avB C.av β) β s.heap v d -> Rep G (avB C.av β) β h' v d := fun r => Rep.mono hk (fun _ _ e => e) r;have hβ : ∀ b ∈ β, b ≠ a := fun b hb e => I.boxes.apart b hb (O.muav b (e ▸ ha));have ha0 : G.H0.objs.size <= a := O.mu0 a ha;have hlt : ∀ {b o}, G.H0.get? b = some o -> b ≠ a := fun e z => absurd (Heap.lt_size e) (Nat.not_lt.mpr (z ▸ ha0))
 refine ⟨⟨⟨fun b o e n => hne b o (I.wd.keep b o e n) (hlt e), fun c P m => ?_, I.wd.gens, I.wd.os⟩, fun b hb' => by show b < h'.objs.size; rw [hs.1]; exact I.low b hb', hns, hcells, fun y e hy ky => ?_, by rw [List.length_set]; exact I.slots,
  ⟨I.boxes.len, I.boxes.nodup, I.boxes.apart, I.boxes.high, fun n b e e1 e2 => ?_⟩⟩, ⟨⟨[], by simp, fun _ h => by simp at h⟩, fun b o e n t => hne b o e fun z => n (.inl (z ▸ ha)), by show s.heap.objs.size <= h'.objs.size; rw [hs.1]; exact Nat.le_refl _⟩⟩
 ·refine Ze (I.wd.tab c P m) fun ps h1 h2 => ?_
  refine XR (O.gok.tabs c P m) fun hc hP _ => ?_;have n1 : c ≠ a := fun z => absurd hc (Nat.not_lt.mpr (z ▸ ha0));have n2 : P ≠ a := fun z => absurd hP (Nat.not_lt.mpr (z ▸ ha0));exact ⟨ps, h1.extBut hs.extBut n1 n2, h2.extBut hs.extBut n1 n2⟩
 ·by_cases hyx : y = x
  ·subst hyx
   rw [Zgj I.slots hx] at hy
   first | exact nn hy | cases hy
   exact ⟨v, hb, hr r⟩
  ·rw [Zia hx hyx] at hy
   refine Ze (I.vars y e hy ky) fun v' b' r' => ?_;exact ⟨v', hbnd y v' hyx b', hr r'⟩
 ·exact (I.boxes.at' n b e e1 e2).mono hk (fun _ _ z => z) fun o z => hne b o z (hβ b (List.mem_of_getElem? e1))
theorem Zjj (O : Zw G C) (I : Inv G C β B σ s) {A : Around} {x : Str} (hxa : x ∈ C.asg) (k : C.env.kindOf x = some .local \/ C.env.kindOf x = some .cell) (r : Rep G (avB C.av β) β s.heap v d) :
  Ok G.prog G.w A (storeName C.env x v) s fun _ s' => Inv G C β B (σ.set (C.names.idxOf x) (some d)) s' /\ Adv G C.mu β s β s' := by
 intro E;have kv : ZbS (C.env.kindOf x) := k.imp id .inl;have hx := O.known x kv;obtain ⟨m, hn⟩ := I.ns;rcases k with k | k
 ·refine wpAny_storeName_local k hn (fun h' hn' hs' => ?_) (by rw [O.kind]; rfl)
  refine I.same O O.muL hs' hx kv ⟨_, hn'⟩ (fun y ya hy => ?_) (fun y v' hyx b => ?_) (.inl ⟨k, _, hn', by simp⟩) r
  ·refine YU (I.cells y ya hy) fun c v0 h1 h2 => ?_
   exact ⟨c, v0, h1, h2.sameBut hs' (Zat hn h2)⟩
  ·rcases b with ⟨ky, m2, hn2, hm2⟩ | ⟨ky, c, hc, hv⟩
   ·refine .inl ⟨ky, _, hn', ?_⟩
    show (if y = x then some v else m y) = some v';rw [if_neg hyx, Heap.Ns.agree hn hn2 y]; exact hm2
   ·exact .inr ⟨ky, c, hc, hv.sameBut hs' (Zat hn hv)⟩
 ·refine YU (I.cells x hxa k) fun c v0 hc hv => ?_
  refine wpAny_storeName_cell O.kind k hc hv fun h' hv' hs' => ?_;refine I.same O (O.cellmu x c hxa k hc) hs' hx kv ⟨m, hn.sameBut hs' (Ne.symm (Zat hn hv))⟩ (fun y ya hy => ?_) (fun y v' hyx b => ?_) (.inr ⟨.inl k, c, hc, hv'⟩) r
  ·by_cases hyx : y = x
   ·subst hyx; exact ⟨c, some v, hc, hv'⟩
   ·refine YU (I.cells y ya hy) fun c2 v2 h1 h2 => ?_
    exact ⟨c2, v2, h1, h2.sameBut hs' fun z => hyx (O.inj y x c (z ▸ h1) hc)⟩
  ·rcases b with ⟨ky, m2, hn2, hm2⟩ | ⟨ky, c2, hc2, hv2⟩
   ·exact .inl ⟨ky, m2, hn2.sameBut hs' (Ne.symm (Zat hn2 hv)), hm2⟩
   ·exact .inr ⟨ky, c2, hc2, hv2.sameBut hs' fun z => hyx (O.inj y x c (z ▸ hc2) hc)⟩
theorem ZkK (O : Zw G C) (I : Inv G C β B σ s) {A : Around} {x : Str} (hxa : x ∈ C.asg) (k : C.env.kindOf x = some .local \/ C.env.kindOf x = some .cell) (r : Rep G (avB C.av β) β s.heap v d) :
  Ok G.prog G.w A (bindName C.env x v) s fun _ s' => Inv G C β B (σ.set (C.names.idxOf x) (some d)) s' /\ Adv G C.mu β s β s' := by
 intro E;unfold bindName;refine wpAny_bind (wpAny_holding (wpAny_point (wpAny_bind ((Zjj O I hxa k r).to fun _ s' h => wpAny_point h))))
theorem Zgo (O : Zw G C) (I : Inv G C β B σ s) {A : Around} {x : Str} {pos : Pos} (hxa : x ∈ C.asg) (k : C.env.kindOf x = some .local \/ C.env.kindOf x = some .cell) (r : Rep G (avB C.av β) β s.heap v d) :
  Ok G.prog G.w A (assign (.Name x pos) C.env v) s fun _ s' => Inv G C β B (σ.set (C.names.idxOf x) (some d)) s' /\ Adv G C.mu β s β s' :=
 fun E => wpAny_bind (wpAny_standAt (ZkK O I hxa k r E))
end
section
variable {G : GC} {C : Cx} {β : List Addr} {B B' B₁ B₂ : List V} {σ : List (Option V)} {s s' : Shared} {H : Nat} {d d₁ d₂ : V} {v : Value}
theorem Zsp (O : Zw G C) {i : Int} {k : Nat} {pos : Pos} : Yu G H C σ B (eval (.Constant (.int i) k pos) C.env) (.int i) B :=
 fun A β s hA I E => wpAny_Constant_int (Zv.ofExt I (Ext.toks s _) (.int _ _))
theorem ZsE (O : Zw G C) {x : Str} {k : Nat} {pos : Pos} : Yu G H C σ B (eval (.Constant (.str x) k pos) C.env) (.str x) B :=
 fun A β s hA I E => Constant_str (Zv.ofExt I (Ext.toks s _) (.str _ _))
theorem Zp5 (O : Zw G C) {b : Bool} {k : Nat} {pos : Pos} : Yu G H C σ B (eval (.Constant (.bool b) k pos) C.env) (.bool b) B :=
 fun A β s hA I E => fun _ _ _ => Zv.ofExt I (Ext.refl s) (.bool b)
theorem ZqX : Zlx G H C σ B (spliced []) [] B := fun A β s hA I E => spliced_nil ⟨β, .refl, I, .nil⟩
theorem ZoP (O : Zw G C) {t : Sem Value} {rest : List (Bool × Sem Value)} {ds : List V} (h : Yu G H C σ B t d B₁) (hr : Zlx G H C σ B₁ (spliced rest) ds B₂) :
  Zlx G H C σ B (spliced ((false, t) :: rest)) (d :: ds) B₂ := fun A β s hA I E =>
 spliced_cons ((h A β s hA I).t3 fun v s'1 β1 a'1 i'1 r'1 => (hr A β1 s'1 hA i'1).t3 fun vs s'2 β2 a'2 i'2 r'2 =>
  ⟨β2, a'1.trans a'2, i'2, .cons (a'2.e O r'1) r'2⟩)
noncomputable def Ji (e : Expr) : Bool := !(Nat.beq e.ctorIdx 22)
theorem ZL {e : Expr} {rest : List Expr} {env : Env} (h : Ji e = true) : starEach (e :: rest) env = (false, eval e env) :: starEach rest env := by
 cases e <;> first | rfl | cases h
theorem Yh {pos : Pos} {t : Sem Value} {rest : List (Bool × Sem Value)} : backTo pos ((false, t) :: rest) = (false, t) :: backTo pos rest := rfl
inductive Row (G : GC) (H : Nat) (C : Cx) (σ : List (Option V)) : List V -> List Expr -> List V -> List V -> Prop
 | nil (B : List V) : Row G H C σ B [] [] B
 | cons (B B₁ B₂ : List V) (e : Expr) (es : List Expr) (d : V) (ds : List V) : Ji e = true -> Yu G H C σ B (eval e C.env) d B₁ -> Row G H C σ B₁ es ds B₂ -> Row G H C σ B (e :: es) (d :: ds) B₂
theorem Row.evs (O : Zw G C) {es : List Expr} {ds : List V} {pos : Pos} (R : Row G H C σ B es ds B') : Zlx G H C σ B (spliced (backTo pos (starEach es C.env))) ds B' := by
 induction R with
 | nil => exact ZqX
 | cons _ _ _ _ _ _ _ hn h _ ih => rw [ZL hn, Yh]; exact ZoP O h ih
theorem Row.plain {es : List Expr} {ds : List V} {pos : Pos} (R : Row G H C σ B es ds B') : (backTo pos (starEach es C.env)).any (·.1) = false := by
 induction R with
 | nil => rfl
 | cons _ _ _ _ _ _ _ hn h _ ih => rw [ZL hn, Yh, List.any_cons, ih]; rfl
theorem Row.all {es : List Expr} {ds : List V} {pos : Pos} (R : Row G H C σ B es ds B') : (backTo pos (starEach es C.env)).all (!·.1) = true := by
 induction R with
 | nil => rfl
 | cons _ _ _ _ _ _ _ hn h _ ih => rw [ZL hn, Yh, List.all_cons, ih]; rfl
theorem Row.len {es : List Expr} {ds : List V} (R : Row G H C σ B es ds B') : es.length = ds.length := by
 induction R with
 | nil => rfl
 | cons _ _ _ _ _ _ _ hn h _ ih => simp [ih]
theorem Zes {av : Addr -> Prop} {h : Heap} {a : Addr} {d : V} (x : Yo G av β h a d) : ∃ o, h.get? a = some o := by
 cases x with
 | list e _ => exact ⟨_, e⟩
 | dict e _ _ _ => exact XV e
theorem Inv.fresh (I : Inv G C β B σ s) {a : Addr} (h : s.heap.objs.size <= a) : ¬ avB C.av β a := by
 rintro (z | z)
 ·exact absurd (I.low _ z) (Nat.not_lt.mpr h)
 ·obtain ⟨n, hn⟩ := List.getElem?_of_mem z
  have hB := I.boxes.len;have hlt : n < B.length := by rw [<- hB]; exact (List.getElem?_eq_some_iff.mp hn).1
  obtain ⟨o, ho⟩ := Zes (I.boxes.at' n _ _ hn (List.getElem?_eq_getElem hlt));exact absurd (Heap.lt_size ho) (Nat.not_lt.mpr h)
theorem Zqm (I : Inv G C β B σ s) {vs : List Value} {ds : List V} {A : Around} (r : Zd G (avB C.av β) β s.heap vs ds) (hsz : ds.length <= sizeLine) :
  Ok G.prog G.w A (newTuple vs) s fun v s' => v = .ref s.heap.objs.size /\ s' = { s with heap := s.heap.push (Jm vs.toArray 0) } /\ Ext s s' /\ Rep G (avB C.av β) β s'.heap v (.tup ds) := by
 intro E;refine wpAny_newObj_type ⟨rfl, rfl, Ext.push s _, ?_⟩ (by show vs.toArray.size <= sizeLine; rw [List.size_toArray, r.length]; exact hsz);exact .tup (vs := vs.toArray) (n := 0) (Heap.get?_push_size _ rfl) (I.fresh (Nat.le_refl _)) (Ext.repAll (Ext.push s (Jm vs.toArray 0)) r)
theorem Zos (O : Zw G C) {es : List Expr} {ds : List V} {k : Nat} {pos : Pos} (R : Row G H C σ B es ds B') (hsz : ds.length <= sizeLine) :
  Yu G H C σ B (eval (.Tuple es k pos) C.env) (.tup ds) B' := fun A β s hA I E =>
 Tuple_ ((R.evs O A β s hA I).t3 fun vs s'1 β1 a'1 i'1 r'1 => (Zqm i'1 r'1 hsz).to fun v s'2 ⟨_, _, x, r⟩ => (Zv.ofExt i'1 x r).from a'1)
noncomputable def Op1 (G : GC) (H : Nat) (B : List V) (op : Value -> Sem Value) (d₁ d : V) : Prop :=
 ∀ (C : Cx) σ A β s v, Zw G C -> AOk H A -> Inv G C β B σ s -> Rep G (avB C.av β) β s.heap v d₁ -> Ok G.prog G.w A (op v) s (Zv G C β σ s d B)
noncomputable def Op2 (G : GC) (H : Nat) (B : List V) (op : Value -> Value -> Sem Value) (d₁ d₂ d : V) : Prop :=
 ∀ (C : Cx) σ A β s v w, Zw G C -> AOk H A -> Inv G C β B σ s -> Rep G (avB C.av β) β s.heap v d₁ -> Rep G (avB C.av β) β s.heap w d₂ -> Ok G.prog G.w A (op v w) s (Zv G C β σ s d B)
theorem ZsU (O : Zw G C) {l r : Expr} {op : Operator} {pos : Pos} (h1 : Yu G H C σ B (eval l C.env) d₁ B₁) (h2 : Yu G H C σ B₁ (eval r C.env) d₂ B₂)
  (h : Op2 G H B₂ (binaryOp op) d₁ d₂ d) : Yu G H C σ B (eval (.BinOp l op r pos) C.env) d B₂ := fun A β s hA I E =>
 wpAny_BinOp ((h1 A β s hA I).t3 fun v s'1 β1 a'1 i'1 r'1 => (h2 A β1 s'1 hA i'1).t3 fun u s'2 β2 a'2 i'2 r'2 =>
  (h C σ A β2 s'2 v u O hA i'2 (a'2.e O r'1) r'2).to fun x s'3 p => (p.from a'2).from a'1)
theorem ZtY (O : Zw G C) {x : Expr} {op : UnaryOp} {pos : Pos} (h1 : Yu G H C σ B (eval x C.env) d₁ B₁) (h : Op1 G H B₁ (unaryOp op) d₁ d) :
  Yu G H C σ B (eval (.UnaryOp op x pos) C.env) d B₁ := fun A β s hA I E =>
 wpAny_UnaryOp ((h1 A β s hA I).t3 fun v s'1 β1 a'1 i'1 r'1 => (h C σ A β1 s'1 v O hA i'1 r'1).to fun x s'3 p => p.from a'1)
theorem ZsB (O : Zw G C) {l r : Expr} {op : CmpOp} {pos : Pos} (h1 : Yu G H C σ B (eval l C.env) d₁ B₁) (h2 : Yu G H C σ B₁ (eval r C.env) d₂ B₂)
  (h : Op2 G H B₂ (compareOp op) d₁ d₂ d) (hm : behindInMarks op r = false) : Yu G H C σ B (eval (.Compare l [op] [r] pos) C.env) d B₂ := fun A β s hA I E =>
 wpAny_Compare1 ((h1 A β s hA I).t3 fun v s'1 β1 a'1 i'1 r'1 => (h2 A β1 s'1 hA i'1).t3 fun u s'2 β2 a'2 i'2 r'2 =>
  (h C σ A β2 s'2 v u O hA i'2 (a'2.e O r'1) r'2).to fun x s'3 p => (p.from a'2).from a'1) hm
theorem Zu {av : Addr -> Prop} {h : Heap} {v : Value} {i : Int} (r : Rep G av β h v (.int i)) : ∃ t, v = .int i t := r.sh
theorem Z9 {av : Addr -> Prop} {h : Heap} {v : Value} {x : Str} (r : Rep G av β h v (.str x)) : ∃ t, v = .str x t := r.sh
theorem ZdH {av : Addr -> Prop} {h : Heap} {v : Value} {b : Bool} (r : Rep G av β h v (.bool b)) : v = .bool b := r.sh
theorem ZsN {a b : Int} : Op2 G H B (binaryOp .Add) (.int a) (.int b) (.int (a + b)) := fun C σ A β s v w O hA I rv rw E => by
 obtain ⟨t, rfl⟩ := Zu rv; obtain ⟨u, rfl⟩ := Zu rw;exact add_int (Zv.ofExt I (Ext.toks s _) (.int _ _))
theorem Zta {a b : Int} : Op2 G H B (binaryOp .Sub) (.int a) (.int b) (.int (a - b)) := fun C σ A β s v w O hA I rv rw E => by
 obtain ⟨t, rfl⟩ := Zu rv; obtain ⟨u, rfl⟩ := Zu rw;exact sub_int (Zv.ofExt I (Ext.toks s _) (.int _ _))
theorem Zr2 {a b : Int} (hm : IntMulOk a b) : Op2 G H B (binaryOp .Mult) (.int a) (.int b) (.int (a * b)) := fun C σ A β s v w O hA I rv rw E => by
 obtain ⟨t, rfl⟩ := Zu rv; obtain ⟨u, rfl⟩ := Zu rw;exact mul_int (Zv.ofExt I (Ext.toks s _) (.int _ _)) hm
theorem Zsx {a b : Int} (hb : b ≠ 0) : Op2 G H B (binaryOp .Mod) (.int a) (.int b) (.int (Int.fmod a b)) := fun C σ A β s v w O hA I rv rw E => by
 obtain ⟨t, rfl⟩ := Zu rv; obtain ⟨u, rfl⟩ := Zu rw;exact mod_int' hb (Zv.ofExt I (Ext.toks s _) (.int _ _))
theorem ZsH {a b : Int} (hb : b ≠ 0) (hp : Builtin.divisionGoesByPylong a b = false) : Op2 G H B (binaryOp .FloorDiv) (.int a) (.int b) (.int (Int.fdiv a b)) := fun C σ A β s v w O hA I rv rw E => by
 obtain ⟨t, rfl⟩ := Zu rv; obtain ⟨u, rfl⟩ := Zu rw;exact floordiv_int hb (Zv.ofExt I (Ext.toks s _) (.int _ _)) (.inl hp)
theorem ZsQ {a n : Int} (h0 : 0 <= n) (hs : ((Builtin.Int.intBits a : Nat) : Int) * n <= 2 ^ 27) : Op2 G H B (binaryOp .Pow) (.int a) (.int n) (.int (a ^ n.toNat)) := fun C σ A β s v w O hA I rv rw E => by
 obtain ⟨t, rfl⟩ := Zu rv; obtain ⟨u, rfl⟩ := Zu rw;exact pow_int h0 hs (Zv.ofExt I (Ext.toks s _) (.int _ _))
theorem ZsF {a n : Int} (h0 : 0 <= n) (h1 : n <= 1000000) (h2 : a.natAbs < 2 ^ 64) : Op2 G H B (binaryOp .LShift) (.int a) (.int n) (.int (a * 2 ^ n.toNat)) := fun C σ A β s v w O hA I rv rw E => by
 obtain ⟨t, rfl⟩ := Zu rv; obtain ⟨u, rfl⟩ := Zu rw;exact lshift_int_small h0 h1 h2 (Zv.ofExt I (Ext.toks s _) (.int _ _))
theorem Zso {a n : Int} (h0 : 0 <= n) : Op2 G H B (binaryOp .RShift) (.int a) (.int n) (.int (Int.fdiv a (2 ^ n.toNat))) := fun C σ A β s v w O hA I rv rw E => by
 obtain ⟨t, rfl⟩ := Zu rv; obtain ⟨u, rfl⟩ := Zu rw;exact rshift_int h0 (Zv.ofExt I (Ext.toks s _) (.int _ _))
theorem Zsz {a b : Int} : Op2 G H B (binaryOp .BitAnd) (.int a) (.int b) (.int (Builtin.bitAnd a b)) := fun C σ A β s v w O hA I rv rw E => by
 obtain ⟨t, rfl⟩ := Zu rv; obtain ⟨u, rfl⟩ := Zu rw;exact and_int (Zv.ofExt I (Ext.toks s _) (.int _ _))
theorem Zto {a : Int} : Op1 G H B (unaryOp .USub) (.int a) (.int (-a)) := fun C σ A β s v O hA I rv E => by
 obtain ⟨t, rfl⟩ := Zu rv;exact neg_int (Zv.ofExt I (Ext.toks s _) (.int _ _))
theorem Zty {a b : Int} : Op2 G H B (compareOp .Lt) (.int a) (.int b) (.bool (decide (a < b))) := fun C σ A β s v w O hA I rv rw E => by
 obtain ⟨t, rfl⟩ := Zu rv; obtain ⟨u, rfl⟩ := Zu rw;exact lt_int (Zv.ofExt I (Ext.refl s) (.bool _))
theorem Zt4 {a b : Int} : Op2 G H B (compareOp .Gt) (.int a) (.int b) (.bool (decide (b < a))) := fun C σ A β s v w O hA I rv rw E => by
 obtain ⟨t, rfl⟩ := Zu rv; obtain ⟨u, rfl⟩ := Zu rw;exact gt_int (Zv.ofExt I (Ext.refl s) (.bool _))
theorem ZtM {a b : Int} : Op2 G H B (compareOp .GtE) (.int a) (.int b) (.bool (decide (b <= a))) := fun C σ A β s v w O hA I rv rw E => by
 obtain ⟨t, rfl⟩ := Zu rv; obtain ⟨u, rfl⟩ := Zu rw;exact ge_int (Zv.ofExt I (Ext.refl s) (.bool _))
theorem ZrY {x y : Str} (hsz : x.length + y.length <= sizeLine) : Op2 G H B (binaryOp .Add) (.str x) (.str y) (.str (x ++ y)) := fun C σ A β s v w O hA I rv rw E => by
 obtain ⟨t, rfl⟩ := Z9 rv; obtain ⟨u, rfl⟩ := Z9 rw;exact add_str (fun t' tk => Zv.ofExt I (Ext.toks s _) (.str _ _)) hsz
theorem Zmd {x : Str} {n : Int} (hm : MulOk x n) : Op2 G H B (binaryOp .Mult) (.str x) (.int n) (.str (Txt.mul x n)) := fun C σ A β s v w O hA I rv rw E => by
 obtain ⟨t, rfl⟩ := Z9 rv; obtain ⟨u, rfl⟩ := Zu rw;exact SB.mul hm fun t' tk => Zv.ofExt I (Ext.toks s _) (.str _ _)
end
open PySem PySem.Calls PyProof.Rows PySem.SeqAt
section
variable {G : GC} {av : Addr -> Prop} {β : List Addr} {h : Heap}
theorem ZiW {vs us : Array Value} {n m : Nat} (e : YO vs n = YO us m) : vs = us /\ n = m := by
 unfold YO at e; injection e with _ _ e _; injection e with e1 e2; exact ⟨e1, e2⟩
theorem ZjF {vs us : Array Value} {n m : Nat} (e : Jm vs n = Jm us m) : vs = us /\ n = m := by
 unfold Jm at e; injection e with _ _ e _; injection e with e1 e2; exact ⟨e1, e2⟩
theorem Zgy {β : List Addr} (hn : β.Nodup) {i j : Nat} (hi : i < β.length) (hj : j < β.length) (e : β[i] = β[j]) : i = j := by
 have hp := List.pairwise_iff_getElem.mp hn;rcases Nat.lt_trichotomy i j with h | h | h
 ·exact absurd e (hp i j hi hj h)
 ·exact h
 ·exact absurd e.symm (hp j i hj hi h)
noncomputable def eqs (f : V -> V -> Option Bool) : List V -> List V -> Option Bool
 | [], [] => some true
 | x :: xs, y :: ys => match f x y, eqs f xs ys with
  | some a, some b => some (a && b)
  | _, _ => none
 | _, _ => none
noncomputable def VI (n : Nat) (f : V -> V -> Option Bool) (d : V) (b : Bool) : V -> Prop
 | .bool y => ∃ x, d = .bool x /\ b = (x == y)
 | .int y => ∃ x, d = .int x /\ b = (x == y)
 | .str y => ∃ x, d = .str x /\ b = (x == y)
 | .list ys => ∃ m xs, n = m + 1 /\ d = .list xs /\ ((xs.length = ys.length /\ eqs f xs ys = some b) \/ (xs.length ≠ ys.length /\ some false = some b))
 | .tup ys => ∃ m xs, n = m + 1 /\ d = .tup xs /\ xs.length = ys.length /\ eqs f xs ys = some b
 | _ => False
noncomputable def Zex (n : Nat) (f : V -> V -> Option Bool) (d d' : V) : Sb fun b => VI n f d b d' := match n, d, d' with
 | _, .bool a, .bool b => .ok (a == b) ⟨a, rfl, rfl⟩
 | _, .int a, .int b => .ok (a == b) ⟨a, rfl, rfl⟩
 | _, .str a, .str b => .ok (a == b) ⟨a, rfl, rfl⟩
 | n + 1, .list xs, .list ys => ⟨if xs.length = ys.length then eqs f xs ys else some false, fun r h => ⟨n, xs, rfl, rfl, ZaU h⟩⟩
 | n + 1, .tup xs, .tup ys => ⟨if xs.length = ys.length then eqs f xs ys else none, fun r h => ⟨n, xs, rfl, rfl, YG h⟩⟩
 | _, _, _ => .no
noncomputable def veq : Nat -> V -> V -> Option Bool
 | 0 => fun d d' => (Zex 0 (fun _ _ => none) d d').1
 | n + 1 => fun d d' => (Zex (n + 1) (veq n) d d').1
theorem Zb9 {f : V -> V -> Option Bool} {x : V} {xs ys : List V} {b : Bool} (h : eqs f (x :: xs) ys = some b) : ∃ y ys' a c, ys = y :: ys' /\ f x y = some a /\ eqs f xs ys' = some c /\ b = (a && c) := by
 cases ys with
 | nil => first | exact nn h | cases h
 | cons y ys =>
  have h' : (match f x y, eqs f xs ys with | some a, some b => some (a && b) | _, _ => none) = some b := h
  cases h1 : f x y with
  | none => rw [h1] at h'; cases h'
  | some a => cases h2 : eqs f xs ys with
   | none => rw [h1, h2] at h'; cases h'
   | some c => rw [h1, h2] at h'; exact ⟨y, ys, a, c, rfl, h1, h2, (Option.some.inj h').symm⟩
theorem Zdy {f : V -> V -> Option Bool} {ys : List V} {b : Bool} (h : eqs f [] ys = some b) : ys = [] /\ b = true := by
 cases ys with
 | nil => exact ⟨rfl, (Option.some.inj h).symm⟩
 | cons y ys => first | exact nn h | cases h
theorem ZqS {f : V -> V -> Option Bool} : ∀ (xs ys : List V) (b : Bool), eqs f xs ys = some b -> xs.length = ys.length := by
 intro xs
 induction xs with
 | nil => intro ys b h; rw [(Zdy h).1]
 | cons x xs ih => intro ys b h; obtain ⟨y, ys', a, c, e, _, h2, _⟩ := Zb9 h; rw [e, List.length_cons, List.length_cons, ih _ _ h2]
theorem ZeN {f : V -> V -> Option Bool} : ∀ {xs ys : List V} {b : Bool}, eqs f xs ys = some b -> ∃ e : Nat -> Bool, (∀ j x y, xs[j]? = some x -> ys[j]? = some y -> f x y = some (e j)) /\ b = (List.range xs.length).all e := by
 intro xs
 induction xs with
 | nil => intro ys b h; exact ⟨fun _ => true, fun j x y h1 => (nomatch h1), (Zdy h).2⟩
 | cons x xs ih =>
  intro ys b h;refine Zdn (Zb9 h) fun y ys' a c e0 h1 h2 hb => ?_;refine Ze (ih h2) fun e he hc => ?_;refine ⟨fun j => Nat.casesOn j a e, fun j x' y' g1 g2 => ?_, ?_⟩
  ·rw [e0] at g2
   cases j with
   | zero => rw [<- Option.some.inj g1, <- Option.some.inj g2]; exact h1
   | succ j => exact he j x' y' g1 g2
  ·rw [List.length_cons, List.range_succ_eq_map, List.all_cons, List.all_map, hb, hc]
   rfl
theorem Zls {f : V -> V -> Option Bool} (hf : ∀ (v : Value) (d d' x : V) (b b' : Bool), Rep G av β h v d -> Rep G av β h v d' -> f d x = some b -> f d' x = some b' -> b = b') {vs : List Value} {ds : List V} (r : Zd G av β h vs ds) :
  ∀ (ds' xs : List V) (b b' : Bool), Zd G av β h vs ds' -> eqs f ds xs = some b -> eqs f ds' xs = some b' -> b = b' :=
 Zd.ind (P := fun vs ds => ∀ (ds' xs : List V) (b b' : Bool), Zd G av β h vs ds' -> eqs f ds xs = some b -> eqs f ds' xs = some b' -> b = b')
  (fun ds' xs b b' r' h1 h2 => by
   obtain ⟨e1, e2⟩ := Zdy h1;have hl := ZqS _ _ _ h2;rw [List.eq_nil_of_length_eq_zero r'.length.symm] at h2;rw [e2, (Zdy h2).2])
  (fun {v d vs ds} r rs ih ds' xs b b' r' h1 h2 => by
   refine Zdn (Zb9 h1) fun x xs' a c e g1 g2 hb => ?_
   cases ds' with
   | nil => exact nomatch r'.length
   | cons d' ds' =>
    refine Zdn (Zb9 h2) fun x2 xs2 a2 c2 e2 g3 g4 hb2 => ?_;rw [e] at e2;rw [<- (List.cons.inj e2).1] at g3;rw [<- (List.cons.inj e2).2] at g4;refine Ze (r'.get (i := 0) (d := d') rfl) fun w hw rw' => ?_;have hr : Zd G av β h vs ds' := Zd.drop 1 r';rw [hb, hb2, hf v d d' x a a2 r (Option.some.inj hw ▸ rw') g1 g3, ih ds' xs' c c2 hr g2 g4]) r
theorem Zi0 {f : V -> V -> Option Bool} (hf : ∀ (v : Value) (d d' : V) (b : Bool), Rep G av β h v d -> Rep G av β h v d' -> f d d' = some b -> b = true) {vs : List Value} {ds : List V} (r : Zd G av β h vs ds) :
  ∀ (ds' : List V) (b : Bool), Zd G av β h vs ds' -> eqs f ds ds' = some b -> b = true :=
 Zd.ind (P := fun vs ds => ∀ (ds' : List V) (b : Bool), Zd G av β h vs ds' -> eqs f ds ds' = some b -> b = true) (fun ds' b r' h1 => (Zdy h1).2)
  (fun {v d vs ds} r rs ih ds' b r' h1 => by
   refine Zdn (Zb9 h1) fun x xs' a c e g1 g2 hb => ?_;rw [e] at r';refine Ze (r'.get (i := 0) (d := x) rfl) fun w hw rw' => ?_;rw [hb, hf v d x a r (Option.some.inj hw ▸ rw') g1, ih xs' c (Zd.drop 1 r') g2]; rfl) r
theorem ZgD {v : Value} {d d' : V} (r : Rep G av β h v d) (r' : Rep G av β h v d') : (∀ x y, d = .bool x -> d' = .bool y -> x = y) /\ (∀ x y, d = .int x -> d' = .int y -> x = y) /\ (∀ x y, d = .str x -> d' = .str y -> x = y) /\
  (∀ xs ys, d = .list xs -> d' = .list ys -> ∃ vs, Zd G av β h vs xs /\ Zd G av β h vs ys) /\ ∀ xs ys, d = .tup xs -> d' = .tup ys -> ∃ vs, Zd G av β h vs xs /\ Zd G av β h vs ys := by
 refine ⟨fun x y e e' => ?_, fun x y e e' => ?_, fun x y e e' => ?_, fun x y e e' => ?_, fun x y e e' => ?_⟩ <;> rw [e] at r <;> rw [e'] at r' <;> have s := r.sh <;> have s' := r'.sh <;> clear r r' e e' d d'
 ·exact Value.bool.inj (Eq.trans (Eq.symm s) s')
 ·obtain ⟨_, s⟩ := s; obtain ⟨_, s'⟩ := s'; exact (Value.int.inj (s.symm.trans s')).1
 ·obtain ⟨_, s⟩ := s; obtain ⟨_, s'⟩ := s'; exact (Value.str.inj (s.symm.trans s')).1
 ·obtain ⟨a, vs, k, s, e, _, rr⟩ := s; obtain ⟨a', vs', k', s', e', _, rr'⟩ := s'
  rw [<- Value.ref.inj (s.symm.trans s'), e] at e';exact ⟨_, rr, (ZiW (Option.some.inj e')).1 ▸ rr'⟩
 ·obtain ⟨a, vs, k, s, e, _, rr⟩ := s; obtain ⟨a', vs', k', s', e', _, rr'⟩ := s'
  rw [<- Value.ref.inj (s.symm.trans s'), e] at e';exact ⟨_, rr, (ZjF (Option.some.inj e')).1 ▸ rr'⟩
theorem Zie : ∀ (n : Nat) (v : Value) (d d' : V) (b : Bool), Rep G av β h v d -> Rep G av β h v d' -> veq n d d' = some b -> b = true := by
 have step : ∀ n f, (∀ m, n = m + 1 -> ∀ (v : Value) (d d' : V) (b : Bool), Rep G av β h v d -> Rep G av β h v d' -> f d d' = some b -> b = true) -> ∀ (v : Value) (d d' : V) (b : Bool), Rep G av β h v d -> Rep G av β h v d' -> (Zex n f d d').1 = some b -> b = true := by
  intro n f ih v d d' b r r' h1;have T := ZgD r r';have h1 := (Zex n f d d').2 b h1;clear r r'
  cases d' with
  | bool q => obtain ⟨p, e1, e3⟩ := h1; rw [e3, T.1 _ _ e1 rfl]; exact beq_self_eq_true q
  | int q => obtain ⟨p, e1, e3⟩ := h1; rw [e3, T.2.1 _ _ e1 rfl]; exact beq_self_eq_true q
  | str q => obtain ⟨p, e1, e3⟩ := h1; rw [e3, T.2.2.1 _ _ e1 rfl]; exact beq_self_eq_true q
  | list ys =>
   refine Xh h1 fun m xs e0 e1 e3 => ?_;clear h1;refine Ze (T.2.2.2.1 _ _ e1 rfl) fun vs r1 r2 => ?_;exact e3.elim (fun e3 => Zi0 (ih m e0) r1 _ _ r2 e3.2) fun e3 => absurd (r1.length.symm.trans r2.length) e3.1
  | tup ys =>
   refine Xh h1 fun m xs e0 e1 e3 => ?_;clear h1;refine Ze (T.2.2.2.2 _ _ e1 rfl) fun vs r1 r2 => ?_;exact Zi0 (ih m e0) r1 _ _ r2 e3.2
  | _ => exact h1.elim
 intro n
 induction n with
 | zero => exact step 0 _ fun m e => nomatch e
 | succ n ih => exact step (n + 1) (veq n) fun m e => Nat.succ.inj e ▸ ih
theorem Zq2 : ∀ (n : Nat) (v : Value) (d d' x : V) (b b' : Bool), Rep G av β h v d -> Rep G av β h v d' -> veq n d x = some b -> veq n d' x = some b' -> b = b' := by
 have step : ∀ n f, (∀ m, n = m + 1 -> ∀ (v : Value) (d d' x : V) (b b' : Bool), Rep G av β h v d -> Rep G av β h v d' -> f d x = some b -> f d' x = some b' -> b = b') ->
   ∀ (v : Value) (d d' x : V) (b b' : Bool), Rep G av β h v d -> Rep G av β h v d' -> (Zex n f d x).1 = some b -> (Zex n f d' x).1 = some b' -> b = b' := by
  intro n f ih v d d' x b b' r r' h1 h2;have T := ZgD r r';have h1 := (Zex n f d x).2 b h1;have h2 := (Zex n f d' x).2 b' h2;clear r r'
  cases x with
  | bool q => obtain ⟨p, e1, e3⟩ := h1; obtain ⟨p', g1, g3⟩ := h2; rw [e3, g3, T.1 _ _ e1 g1]
  | int q => obtain ⟨p, e1, e3⟩ := h1; obtain ⟨p', g1, g3⟩ := h2; rw [e3, g3, T.2.1 _ _ e1 g1]
  | str q => obtain ⟨p, e1, e3⟩ := h1; obtain ⟨p', g1, g3⟩ := h2; rw [e3, g3, T.2.2.1 _ _ e1 g1]
  | list ys =>
   refine Xh h1 fun m xs e0 e1 e3 => ?_;clear h1;refine Xh h2 fun m' xs' g0 g1 g3 => ?_;clear h2;refine Ze (T.2.2.2.1 _ _ e1 g1) fun vs r1 r2 => ?_;have hl := r1.length.symm.trans r2.length;exact e3.elim (fun e3 => g3.elim (fun g3 => Zls (ih m e0) r1 _ _ _ _ r2 e3.2 g3.2) fun g3 => absurd (hl.symm.trans e3.1) g3.1) fun e3 => g3.elim (fun g3 => absurd (hl.trans g3.1) e3.1) fun g3 => Option.some.inj (e3.2.symm.trans g3.2)
  | tup ys =>
   refine Xh h1 fun m xs e0 e1 e3 => ?_;clear h1;refine Xh h2 fun m' xs' g0 g1 g3 => ?_;clear h2;refine Ze (T.2.2.2.2 _ _ e1 g1) fun vs r1 r2 => ?_;exact Zls (ih m e0) r1 _ _ _ _ r2 e3.2 g3.2
  | _ => exact h1.elim
 intro n
 induction n with
 | zero => exact step 0 _ fun m e => nomatch e
 | succ n ih => exact step (n + 1) (veq n) fun m e => Nat.succ.inj e ▸ ih
theorem Rep.isList {a : Addr} {vs : Array Value} {n : Nat} (e : h.get? a = some (YO vs n)) : h.IsList a vs := ⟨_, e, rfl, n, rfl⟩
theorem Rep.isTuple {a : Addr} {vs : Array Value} {n : Nat} (e : h.get? a = some (Jm vs n)) : h.IsTuple a vs := ⟨_, e, rfl, n, rfl⟩
theorem ZsY {s : Shared} : ∀ (n : Nat) (A : Around) (d d' : V) (v v' : Value) (b : Bool), Rep G av β s.heap v d -> Rep G av β s.heap v' d' -> veq n d d' = some b -> A.units + n < cLine -> EqAt A s v v' b := by
 have step : ∀ n f, (∀ v d d' b, Rep G av β s.heap v d -> Rep G av β s.heap v d' -> (Zex n f d d').1 = some b -> b = true) -> (∀ m, n = m + 1 -> ∀ (A : Around) (d d' : V) (v v' : Value) (b : Bool), Rep G av β s.heap v d -> Rep G av β s.heap v' d' -> f d d' = some b -> A.units + m < cLine -> EqAt A s v v' b) ->
   ∀ (A : Around) (d d' : V) (v v' : Value) (b : Bool), Rep G av β s.heap v d -> Rep G av β s.heap v' d' -> (Zex n f d d').1 = some b -> A.units + n < cLine -> EqAt A s v v' b := by
  intro n f hsame ih A d d' v v' b r r' h hu
  by_cases hv : v = v'
  ·rw [<- hv] at r' ⊢
   rw [hsame _ _ _ _ r r' h];exact EqAt.same _
  have key : ∀ (xs ys : List V) (a a' : Addr) (vs vs' : Array Value) m, n = m + 1 -> Zd G av β s.heap vs.toList xs -> Zd G av β s.heap vs'.toList ys -> v = .ref a -> v' = .ref a' -> vs.size = xs.length /\ vs'.size = ys.length /\ a ≠ a' /\ A.units < cLine /\
    ∀ g : Nat -> Bool, (∀ j x y, xs[j]? = some x -> ys[j]? = some y -> f x y = some (g j)) -> ∀ j (j1 : j < vs.size) (j2 : j < vs'.size), EqAt A.in1 s vs[j] vs'[j] (g j) := fun xs ys a a' vs vs' m e0 q1 q2 s1 s2 =>
   ⟨Array.length_toList.symm.trans q1.length, Array.length_toList.symm.trans q2.length, fun z => hv (by rw [s1, s2, z]), Nat.lt_of_le_of_lt (Nat.le_add_right _ _) hu, fun g hf j j1 j2 => by
    refine Ze (q1.getV (Array.getElem?_toList.trans (Array.getElem?_eq_getElem j1))) fun x hx rx => ?_;refine Ze (q2.getV (Array.getElem?_toList.trans (Array.getElem?_eq_getElem j2))) fun y hy ry => ?_;exact ih m e0 A.in1 x y _ _ _ rx ry (hf j x y hx hy) (by rw [e0, <- Nat.add_assoc, Nat.add_right_comm] at hu; exact hu)⟩
  have h := (Zex n f d d').2 b h;have S' := r'.sh;clear r' ih hsame
  cases d' with
  | bool q => obtain ⟨p, e1, e3⟩ := h; rw [e1] at r; rw [r.sh, S', e3]; exact EqAt.bool_bool _ _
  | int q => obtain ⟨p, e1, e3⟩ := h; rw [e1] at r; obtain ⟨t, s1⟩ := r.sh; obtain ⟨t', s2⟩ := S'; rw [s1, s2, e3]; exact EqAt.int_int _ _ _ _
  | str q => obtain ⟨p, e1, e3⟩ := h; rw [e1] at r; obtain ⟨t, s1⟩ := r.sh; obtain ⟨t', s2⟩ := S'; rw [s1, s2, e3]; exact EqAt.str_str _ _ _ _
  | list ys =>
   refine Xh h fun m xs e0 e1 e3 => ?_;clear h;rw [e1] at r;refine Xs r.sh fun a vs k s1 e _ q1 => ?_;refine Xs S' fun a' vs' k' s2 e' _ q2 => ?_;clear S';refine Zh2 (key xs ys a a' vs vs' m e0 q1 q2 s1 s2) fun n1 n2 hne h0 hel => ?_;rw [s1, s2];rcases e3 with ⟨hl, e3⟩ | ⟨hl, e3⟩
   ·refine Ze (ZeN e3) fun g hf hb => ?_
    rw [hb, <- n1];exact EqAt.of_refs hne (RcAt.lists (Rep.isList e) (Rep.isList e') (n1.trans (hl.trans n2.symm)) h0 (hel g hf))
   ·rw [<- Option.some.inj e3]
    exact EqAt.of_refs hne (RcAt.lists_lengths (Rep.isList e) (Rep.isList e') (bne_iff_ne.mpr fun z => hl (n1.symm.trans (z.trans n2))) h0)
  | tup ys =>
   refine Zfq h fun m xs e0 e1 hl e3 => ?_;clear h;rw [e1] at r;refine Xs r.sh fun a vs k s1 e _ q1 => ?_;refine Xs S' fun a' vs' k' s2 e' _ q2 => ?_;clear S';refine Zh2 (key xs ys a a' vs vs' m e0 q1 q2 s1 s2) fun n1 n2 hne h0 hel => ?_;rw [s1, s2];refine Ze (ZeN e3) fun g hf hb => ?_;have hs : vs.size = vs'.size := n1.trans (hl.trans n2.symm);have := RcAt.tuples (A := A) (s := s) (e := g) (Rep.isTuple e) (Rep.isTuple e') h0 (hel g hf);rw [hs, Nat.min_self, beq_self_eq_true, Bool.and_true, n2, <- hl, <- hb] at this;exact EqAt.of_refs hne this
  | _ => exact h.elim
 intro n
 induction n with
 | zero => exact step 0 _ (Zie 0) fun m e => nomatch e
 | succ n ih => exact step (n + 1) (veq n) (Zie (n + 1)) fun m e => Nat.succ.inj e ▸ ih
end
open PySem PySem.Calls PyProof.Rows PySem.SeqAt
noncomputable def Zx (B : List V) : V -> Option (List V)
 | .list xs => some xs
 | .box n => match B[n]? with
  | some (.list xs) => some xs
  | _ => none
 | _ => none
noncomputable def Jl (B : List V) : V -> Option (List Str × List V)
 | .dict ks vs => some (ks, vs)
 | .box n => match B[n]? with
  | some (.dict ks vs) => some (ks, vs)
  | _ => none
 | _ => none
section
variable {G : GC} {C : Cx} {β : List Addr} {B : List V} {σ : List (Option V)} {s : Shared} {H : Nat} {d d₁ d₂ : V} {v : Value}
theorem Y1 (I : Inv G C β B σ s) (r : Rep G (avB C.av β) β s.heap v d) {ds : List V} (h : Zx B d = some ds) :
  ∃ a vs n, v = .ref a /\ s.heap.get? a = some (YO vs n) /\ Zd G (avB C.av β) β s.heap vs.toList ds := by
 have S := r.sh
 cases d with
 | list xs => obtain ⟨a, vs, n, e, e1, _, q⟩ := S; exact ⟨a, vs, n, e, e1, Option.some.inj h ▸ q⟩
 | box n =>
  refine Ze S fun a e e1 => ?_;clear S;unfold Zx at h
  cases hb : B[n]? with
  | none => simp only [hb] at h; cases h
  | some d =>
   have X := (I.boxes.at' _ _ _ e1 hb).sh;simp only [hb] at h
   cases d with
   | list xs => obtain ⟨vs, k, g1, g2⟩ := X; exact ⟨a, vs, k, e, g1, Option.some.inj h ▸ g2⟩
   | _ => exact nn h
 | _ => exact nn h
theorem Zbi (I : Inv G C β B σ s) (r : Rep G (avB C.av β) β s.heap v d) {ks : List Str} {ds : List V} (h : Jl B d = some (ks, ds)) :
  ∃ a kvs, v = .ref a /\ s.heap.DictOf (PySem.strKind G.prog G.w) a kvs /\ (a == sysModules) = false /\ kvs.map (·.1) = ks /\ Zd G (avB C.av β) β s.heap (kvs.map (·.2)) ds := by
 have S := r.sh
 cases d with
 | dict ks' vs' =>
  refine ZbT S fun a kvs e x hs _ hk q => ?_;clear S;obtain ⟨h1, h2⟩ := Prod.mk.inj (Option.some.inj h);exact ⟨a, kvs, e, x, hs, hk.trans h1, h2 ▸ q⟩
 | box n =>
  refine Ze S fun a e e1 => ?_;clear S;unfold Jl at h
  cases hb : B[n]? with
  | none => simp only [hb] at h; cases h
  | some d =>
   have X := (I.boxes.at' _ _ _ e1 hb).sh;simp only [hb] at h
   cases d with
   | dict ks' vs' =>
    refine Zcf X fun kvs x hs hk q => ?_;clear X;obtain ⟨h1, h2⟩ := Prod.mk.inj (Option.some.inj h);exact ⟨a, kvs, e, x, hs, hk.trans h1, h2 ▸ q⟩
   | _ => exact nn h
 | _ => exact nn h
theorem ZaS {av : Addr -> Prop} {h : Heap} {ds : List V} (r : Rep G av β h v (.tup ds)) : ∃ a vs n, v = .ref a /\ h.get? a = some (Jm vs n) /\ Zd G av β h vs.toList ds :=
 let ⟨a, vs, n, e, e1, _, q⟩ := r.sh; ⟨a, vs, n, e, e1, q⟩
theorem ZkO (I : Inv G C β B σ s) {n : Nat} {A : Around} {v v' : Value} {d d' : V} {b : Bool} (r : Rep G (avB C.av β) β s.heap v d) (r' : Rep G (avB C.av β) β s.heap v' d') (h : veq n d d' = some b)
  (hu : A.units + n < cLine) : EqAt A s v v' b := ZsY n A d d' v v' b r r' h hu
noncomputable def X8 (B : List V) (d d' : V) : Option Bool := match Zx B d, Zx B d' with
 | some xs, some ys => veq 12 (.list xs) (.list ys)
 | none, none => veq 12 d d'
 | _, _ => none
theorem ZnJ {B : List V} {d d' : V} {b : Bool} (h : X8 B d d' = some b) : (∃ xs ys, Zx B d = some xs /\ Zx B d' = some ys /\ veq 12 (.list xs) (.list ys) = some b) \/ (Zx B d = none /\ veq 12 d d' = some b) := by
 revert h
 unfold X8;generalize Zx B d = x;generalize Zx B d' = y;intro h
 cases x with
 | none => cases y with
  | none => exact .inr ⟨rfl, h⟩
  | some y => exact nn h
 | some x => cases y with
  | none => exact nn h
  | some y => exact .inl ⟨x, y, rfl, rfl, h⟩
theorem Zpe {xs ys : List V} {n : Nat} {b : Bool} (h : veq (n + 1) (.list xs) (.list ys) = some b) :
  (xs.length = ys.length /\ ∃ e : Nat -> Bool, (∀ j x y, xs[j]? = some x -> ys[j]? = some y -> veq n x y = some (e j)) /\ b = (List.range xs.length).all e) \/ (xs.length ≠ ys.length /\ b = false) := by
 exact (ZaU h).elim (fun h => .inl ⟨h.1, ZeN h.2⟩) fun h => .inr ⟨h.1, (Option.some.inj h.2).symm⟩
set_option tactic.hygienic true in
theorem ZrJ {b : Bool} (h : X8 B d₁ d₂ = some b) : Op2 G H B (compareOp .Eq) d₁ d₂ (.bool b) /\ Op2 G H B (compareOp .NotEq) d₁ d₂ (.bool (!b)) := by
 have key : ∀ (C : Cx) σ A β s v w, Zw G C -> AOk H A -> Inv G C β B σ s -> Rep G (avB C.av β) β s.heap v d₁ -> Rep G (avB C.av β) β s.heap w d₂ ->
   (∀ (Q : Value -> Shared -> Prop) E, Q (.bool b) s -> wpAny (model G.prog G.w) A (compareOp .Eq v w) Q E s) /\ (∀ (Q : Value -> Shared -> Prop) E, Q (.bool (!b)) s -> wpAny (model G.prog G.w) A (compareOp .NotEq v w) Q E s) := by
  intro C σ A β s v w O hA I r'1 r'2;have hroom := hA.room3;have h0 : A.units < cLine := by omega
  have h11 : A.in1.units + 11 < cLine := by show A.units + 1 + 11 < cLine; omega
  have key : ∀ (xs ys : List V) (vs vs' : Array Value), Zd G (avB C.av β) β s.heap vs.toList xs -> Zd G (avB C.av β) β s.heap vs'.toList ys -> vs.size = xs.length /\ vs'.size = ys.length /\
    ∀ f : Nat -> Bool, (∀ j x y, xs[j]? = some x -> ys[j]? = some y -> veq 11 x y = some (f j)) -> ∀ j (j1 : j < vs.size) (j2 : j < vs'.size), EqAt A.in1 s vs[j] vs'[j] (f j) := fun xs ys vs vs' q1 q2 =>
   ⟨Array.length_toList.symm.trans q1.length, Array.length_toList.symm.trans q2.length, fun f hf j j1 j2 => by
    refine Ze (q1.getV (Array.getElem?_toList.trans (Array.getElem?_eq_getElem j1))) fun x hx rx => ?_;refine Ze (q2.getV (Array.getElem?_toList.trans (Array.getElem?_eq_getElem j2))) fun y hy ry => ?_;exact ZkO I rx ry (hf j x y hx hy) h11⟩
  clear hA O hroom;refine (ZnJ h).elim (fun h => Xh h fun xs ys h1 h2 h => ?_) fun h => Zev h fun h1 h => ?_
  ·refine Y7 (Y1 I r'1 h1) fun a vs n s1 e1 q1 => ?_
   refine Y7 (Y1 I r'2 h2) fun a' vs' n' s2 e2 q2 => ?_;refine XR (key xs ys vs vs' q1 q2) fun n1 n2 hel => ?_;clear r'1 r'2 key I h11;rw [s1, s2];rcases Zpe h with ⟨hl, e, he, hb⟩ | ⟨hl, hb⟩
   ·rw [hb, <- n1]
    exact ⟨fun Q E hq => RcAt.lists (Rep.isList e1) (Rep.isList e2) (n1.trans (hl.trans n2.symm)) h0 (hel e he) _ _ _ _ hq, fun Q E hq => RcNeAt.lists (Rep.isList e1) (Rep.isList e2) (n1.trans (hl.trans n2.symm)) h0 (hel e he) _ _ _ _ hq⟩
   ·have hs : (vs.size != vs'.size) = true := bne_iff_ne.mpr fun z => hl (n1.symm.trans (z.trans n2))
    rw [hb];exact ⟨fun Q E hq => RcAt.lists_lengths (Rep.isList e1) (Rep.isList e2) hs h0 _ _ _ _ hq, fun Q E hq => RcNeAt.lists_lengths (Rep.isList e1) (Rep.isList e2) hs h0 _ _ _ _ hq⟩
  ·have h := (Zex 12 (veq 11) d₁ d₂).2 b h
   have S2 := r'2.sh;clear r'2
   cases d₂ with
   | bool q => obtain ⟨p, e1, e3⟩ := h; rw [e1] at r'1; rw [r'1.sh, S2, e3]; exact ⟨fun Q E hq => eq_bool hq, fun Q E hq => ne_bool hq⟩
   | int q => obtain ⟨p, e1, e3⟩ := h; rw [e1] at r'1; obtain ⟨t, s1⟩ := r'1.sh; obtain ⟨t', s2⟩ := S2; rw [s1, s2, e3]; exact ⟨fun Q E hq => eq_int hq, fun Q E hq => ne_int hq⟩
   | str q => obtain ⟨p, e1, e3⟩ := h; rw [e1] at r'1; obtain ⟨t, s1⟩ := r'1.sh; obtain ⟨t', s2⟩ := S2; rw [s1, s2, e3]; exact ⟨fun Q E hq => eq_str hq, fun Q E hq => ne_str hq⟩
   | list ys => obtain ⟨m, xs, e0, e1, _⟩ := h; rw [e1] at h1; exact nn h1.symm
   | tup ys =>
    refine Zfq h fun m xs e0 e1 hl e3 => ?_;clear h;rw [e1] at r'1;refine Xs r'1.sh fun a vs k s1 g1 _ q1 => ?_;refine Xs S2 fun a' vs' k' s2 g2 _ q2 => ?_;clear S2;refine XR (key xs ys vs vs' q1 q2) fun n1 n2 hel => ?_;refine Ze (ZeN e3) fun e he hb => ?_;have hs : vs.size = vs'.size := n1.trans (hl.trans n2.symm);have hm : ((List.range (min vs.size vs'.size)).all e && vs.size == vs'.size) = b := by rw [hb, hs, Nat.min_self, beq_self_eq_true, Bool.and_true, n2, hl]
    rw [s1, s2];exact ⟨fun Q E hq => RcAt.tuples (Rep.isTuple g1) (Rep.isTuple g2) h0 (hel e he) _ _ _ _ (hm ▸ hq), fun Q E hq => RcNeAt.tuples (Rep.isTuple g1) (Rep.isTuple g2) h0 (hel e he) _ _ _ _ (hm ▸ hq)⟩
   | _ => exact h.elim
 exact ⟨fun C σ A β s v w O hA I r'1 r'2 E => (key C σ A β s v w O hA I r'1 r'2).1 _ _ (Zv.ofExt I (Ext.refl s) (.bool _)),
  fun C σ A β s v w O hA I r'1 r'2 E => (key C σ A β s v w O hA I r'1 r'2).2 _ _ (Zv.ofExt I (Ext.refl s) (.bool _))⟩
noncomputable def ZdW (x : V) : List V -> Option Bool
 | [] => some false
 | y :: ys => match veq 11 y x, ZdW x ys with
  | some a, some b => some (a || b)
  | _, _ => none
set_option tactic.hygienic true in
theorem ZiM {x : V} : ∀ {ys : List V} {b : Bool}, ZdW x ys = some b -> ∀ y ∈ ys, ∃ c, veq 11 y x = some c
 | y :: ys, b, h, z, hz => by
  unfold ZdW at h
  split at h
  ·rename_i a c e1 e2
   rcases List.mem_cons.mp hz with rfl | hz
   ·exact ⟨_, e1⟩
   ·exact ZiM e2 z hz
  ·exact nn h
set_option tactic.hygienic true in
theorem Zju {x : V} {P : Value -> V -> Prop} {e : Value -> Bool} (he : ∀ v y b, P v y -> veq 11 y x = some b -> e v = b) : ∀ {vs : List Value} {ys : List V} {b : Bool}, ZdW x ys = some b ->
  vs.length = ys.length -> (∀ (i : Nat) (v : Value) (y : V), vs[i]? = some v -> ys[i]? = some y -> P v y) -> vs.any e = b
 | [], [], b, h, _, _ => by cases h; rfl
 | v :: vs, y :: ys, b, h, hl, hp => by
  unfold ZdW at h
  split at h
  ·rename_i a c e1 e2
   cases h
   rw [List.any_cons, he v y a (hp 0 v y rfl rfl) e1, Zju he e2 (by simpa using hl) fun i v y h1 h2 => hp (i + 1) v y (by simpa using h1) (by simpa using h2)]
  ·exact nn h
open Classical in
theorem Zjq (I : Inv G C β B σ s) {vs : Array Value} {ys : List V} {x : Value} {dx : V} {b : Bool} {A : Around} (q : Zd G (avB C.av β) β s.heap vs.toList ys) (rx : Rep G (avB C.av β) β s.heap x dx)
  (h : ZdW dx ys = some b) (hu : A.units + 12 < cLine) : ∃ e : Value -> Bool, (∀ y, y ∈ vs -> EqAt A.in1 s y x (e y)) /\ vs.any e = b := by
 let e : Value -> Bool := fun y => if hy : ∃ d b, Rep G (avB C.av β) β s.heap y d /\ veq 11 d dx = some b then hy.choose_spec.choose else false
 have he : ∀ v y b, Rep G (avB C.av β) β s.heap v y -> veq 11 y dx = some b -> e v = b := by
  intro v y b r hb;have hy : ∃ d b, Rep G (avB C.av β) β s.heap v d /\ veq 11 d dx = some b := ⟨y, b, r, hb⟩;show (if hy : ∃ d b, Rep G (avB C.av β) β s.heap v d /\ veq 11 d dx = some b then hy.choose_spec.choose else false) = b;rw [dif_pos hy];obtain ⟨r', h'⟩ := hy.choose_spec.choose_spec;exact Zq2 _ _ _ _ _ _ _ r' r h' hb
 refine ⟨e, fun y hy => ?_, ?_⟩
 ·obtain ⟨i, hi, rfl⟩ := Array.mem_iff_getElem.mp hy
  have g1 : vs.toList[i]? = some vs[i] := by simp [hi]
  refine Ze (q.getV g1) fun d hd rd => ?_;obtain ⟨c, hc⟩ := ZiM h d (List.mem_of_getElem? hd);rw [he _ _ _ rd hc];exact ZkO I rd rx hc (by show A.units + 1 + 11 < cLine; omega)
 ·rw [<- Array.any_toList]
  exact Zju (P := fun v y => Rep G (avB C.av β) β s.heap v y) he h q.length fun i v y h1 h2 => by
   refine Ze (q.getV h1) fun d hd rd => ?_;rw [h2] at hd; cases hd; exact rd
noncomputable def ZmO (B : List V) (x c : V) : Option Bool := match Zx B c with
 | some xs => ZdW x xs
 | none => match c with
  | .tup xs => ZdW x xs
  | _ => none
set_option tactic.hygienic true in
theorem Zuc {b : Bool} (h : ZmO B d₁ d₂ = some b) : Op2 G H B (compareOp .In) d₁ d₂ (.bool b) /\ Op2 G H B (compareOp .NotIn) d₁ d₂ (.bool (!b)) := by
 unfold ZmO at h
 split at h
 ·rename_i xs hl
  refine ⟨fun C σ A β s v w O hA I r'1 r'2 E => ?_, fun C σ A β s v w O hA I r'1 r'2 E => ?_⟩ <;>
   obtain ⟨a, vs, n, rfl, e1, q1⟩ := Y1 I r'2 hl <;>
   obtain ⟨e, he, hb⟩ := Zjq I q1 r'1 h (A := A) (by have := hA.room3; omega)
  ·exact in_listAt e (Rep.isList e1) he (by rw [hb]; exact Zv.ofExt I (Ext.refl s) (.bool _))
  ·exact notIn_listAt e (Rep.isList e1) he (by rw [hb]; exact Zv.ofExt I (Ext.refl s) (.bool _))
 ·split at h
  ·rename_i xs
   refine ⟨fun C σ A β s v w O hA I r'1 r'2 E => ?_, fun C σ A β s v w O hA I r'1 r'2 E => ?_⟩ <;>
    obtain ⟨a, vs, n, rfl, e1, q1⟩ := ZaS r'2 <;>
    obtain ⟨e, he, hb⟩ := Zjq I q1 r'1 h (A := A) (by have := hA.room3; omega)
   ·exact in_tupleAt e (Rep.isTuple e1) he (by rw [hb]; exact Zv.ofExt I (Ext.refl s) (.bool _))
   ·exact notIn_tupleAt e (Rep.isTuple e1) he (by rw [hb]; exact Zv.ofExt I (Ext.refl s) (.bool _))
  ·exact nn h
noncomputable def ZcT (x y : Str) : Bool := !(Builtin.Str.occurrences y x 0 y.length 1).isEmpty
theorem Zmt {x y : Str} : Op2 G H B (compareOp .In) (.str x) (.str y) (.bool (ZcT x y)) /\ Op2 G H B (compareOp .NotIn) (.str x) (.str y) (.bool (!ZcT x y)) :=
 ⟨fun C σ A β s v w O hA I rv rw E => by
  obtain ⟨t, rfl⟩ := Z9 rv; obtain ⟨u, rfl⟩ := Z9 rw;exact in_str (Zv.ofExt I (Ext.refl s) (.bool _)),
 fun C σ A β s v w O hA I rv rw E => by
  obtain ⟨t, rfl⟩ := Z9 rv; obtain ⟨u, rfl⟩ := Z9 rw;exact notIn_str (Zv.ofExt I (Ext.refl s) (.bool _))⟩
theorem ZaO {kvs : List (Str × Value)} {k : Str} : (valueAt kvs k).isSome = (kvs.map (·.1)).contains k := by
 unfold valueAt;rw [Option.isSome_map, Bool.eq_iff_iff, List.find?_isSome];simp only [decide_eq_true_eq, List.contains_iff_mem, List.mem_map]
theorem ZjZ {x : Str} {ks : List Str} {ds : List V} (h : Jl B d₂ = some (ks, ds)) :
  Op2 G H B (compareOp .In) (.str x) d₂ (.bool (ks.contains x)) /\ Op2 G H B (compareOp .NotIn) (.str x) d₂ (.bool (!ks.contains x)) := by
 refine ⟨fun C σ A β s v w O hA I rv rw E => ?_, fun C σ A β s v w O hA I rv rw E => ?_⟩ <;>
  obtain ⟨t, rfl⟩ := Z9 rv <;> obtain ⟨a, kvs, rfl, hd, hs, hk, q⟩ := Zbi I rw h
 ·exact wpAny_in_of (strKind_is G.prog G.w x t) hs hd.mapOf (by rw [ZaO, hk]; exact Zv.ofExt I (Ext.toks s _) (.bool _))
 ·exact wpAny_notIn_of (strKind_is G.prog G.w x t) hs hd.mapOf (by rw [ZaO, hk]; exact Zv.ofExt I (Ext.toks s _) (.bool _))
end
noncomputable def ZH (n : Nat) : Bool := decide (n <= 16777216)
theorem Yy {n : Nat} (h : ZH n = true) : n <= sizeLine := by
 have := of_decide_eq_true h;show n <= 2 ^ 24;omega
theorem J3 {n : Nat} (h : ZH n = true) : (n : Int) < 2 ^ 63 := by
 have := of_decide_eq_true h;omega
noncomputable def JC (B : List V) (d : V) : Option Bool := match d with
 | .bool b => some b
 | .int i => some (i != 0)
 | .str x => if ZH x.length then some (x.length != 0) else none
 | d => match Zx B d with
  | some xs => if ZH xs.length then some (!xs.isEmpty) else none
  | none => none
section
variable {G : GC} {C : Cx} {β β' : List Addr} {B B' B₁ B₂ : List V} {σ : List (Option V)} {s s' s'' : Shared} {H : Nat} {d d₁ d₂ : V} {v : Value} {b : Bool}
set_option tactic.hygienic true in
theorem Zfh (I : Inv G C β B σ s) {A : Around} (r : Rep G (avB C.av β) β s.heap v d) (h : JC B d = some b) : Ok G.prog G.w A (truthy v) s fun b' s' => b' = b /\ Ext s s' := by
 intro E
 have hl : ∀ {d}, Rep G (avB C.av β) β s.heap v d -> (match Zx B d with | some xs => if ZH xs.length then some (!xs.isEmpty) else none | none => none) = some b ->
   wpAny (model G.prog G.w) A (truthy v) (fun b' s' => b' = b /\ Ext s s') E s := by
  intro d r h
  split at h
  ·rename_i xs hx
   refine Y7 (Y1 I r hx) fun a vs n z_3 e q => ?_;subst z_3
   split at h
   ·rename_i hs
    cases h
    have n1 : vs.size = xs.length := by rw [<- q.length]; simp
    refine wpAny_truthy_list (Rep.isList e) (by rw [n1]; exact J3 hs) ⟨?_, Ext.toks s _⟩
    cases xs <;> simp [Array.isEmpty, n1]
   ·exact nn h
  ·exact nn h
 have S := r.sh
 cases d with
 | bool c => rw [show v = .bool c from S, <- Option.some.inj h]; exact wpAny_truthy_bool ⟨rfl, Ext.refl s⟩
 | int i => obtain ⟨t, e⟩ := S; rw [e, <- Option.some.inj h]; exact truthy_int ⟨by simp, Ext.refl s⟩
 | str x =>
  obtain ⟨t, e⟩ := S;have h : (if ZH x.length then some (x.length != 0) else none) = some b := h
  split at h
  ·rename_i hs
   rw [e, <- Option.some.inj h];refine SBL.truthy (J3 hs) ⟨?_, Ext.toks s _⟩
   cases hz : x.length <;> simp
   omega
  ·exact nn h
 | list xs => exact hl r h
 | box n => exact hl r h
 | _ => exact nn h
noncomputable def Zd9 (e : Expr) : Bool := !(Nat.beq e.ctorIdx 0 || (Nat.beq e.ctorIdx 3 || (Nat.beq e.ctorIdx 5 || Nat.beq e.ctorIdx 15)))
theorem Zli.from (x : Adv G C.mu β s β' s') (y : Zli G C β' σ s' b B' b' s'') : Zli G C β σ s b B' b' s'' :=
 let ⟨β'', a, i, r⟩ := y; ⟨β'', x.trans a, i, r⟩
theorem ZeB {e : Expr} {env : Env} {t : Sem Value} (h : Zd9 e = true) : PySem.isTrue e env t = (do let v <- t; standAt e.pos; holding [v] (truthy v)) := by
 cases e with
 | UnaryOp _ _ _ => cases h
 | BoolOp _ _ _ => cases h
 | IfExp _ _ _ _ => cases h
 | Compare _ _ _ _ => cases h
 | _ => rfl
theorem Zqr (O : Zw G C) {e : Expr} (hp : Zd9 e = true) (h : Yu G H C σ B (eval e C.env) d B₁) (ht : JC B₁ d = some b) :
  EvB G H C σ B (PySem.isTrue e C.env (eval e C.env)) b B₁ := fun A β s hA I E =>
 wpAny_isTrue_value ((h A β s hA I).t3 fun v s'1 β1 a'1 i'1 r'1 => (Zfh i'1 r'1 ht).to fun c s'2 ⟨e, x⟩ => ⟨β1, a'1.trans (.ofExt x), i'1.ext x, e⟩) (ZeB hp)
theorem ZtH {x : Expr} {pos : Pos} (h : EvB G H C σ B (PySem.isTrue x C.env (eval x C.env)) b B₁) :
  EvB G H C σ B (PySem.isTrue (.UnaryOp .Not x pos) C.env (eval (.UnaryOp .Not x pos) C.env)) (!b) B₁ := fun A β s hA I E =>
 wpAny_isTrue_Not ((h A β s hA I).t3 fun c s'1 β1 a'1 i'1 e => ⟨β1, a'1, i'1, by rw [e]⟩)
theorem ZtG (O : Zw G C) {l r : Expr} {op : CmpOp} {pos : Pos} (h1 : Yu G H C σ B (eval l C.env) d₁ B₁) (h2 : Yu G H C σ B₁ (eval r C.env) d₂ B₂)
  (h : Op2 G H B₂ (compareOp op) d₁ d₂ (.bool b)) (hm : behindInMarks op r = false) : EvB G H C σ B (PySem.isTrue (.Compare l [op] [r] pos) C.env (eval (.Compare l [op] [r] pos) C.env)) b B₂ := fun A β s hA I E =>
 wpAny_isTrue_Compare1 ((h1 A β s hA I).t3 fun v s'1 β1 a'1 i'1 r'1 => (h2 A β1 s'1 hA i'1).t3 fun u s'2 β2 a'2 i'2 r'2 =>
  (h C σ A β2 s'2 v u O hA i'2 (a'2.e O r'1) r'2).t3 fun x s'3 β3 a'3 i3 r'3 => by
   rw [ZdH r'3];exact wpAny_truthy_bool ⟨β3, (a'1.trans a'2).trans a'3, i3, rfl⟩) hm
inductive ZiV (G : GC) (H : Nat) (C : Cx) (σ : List (Option V)) (op : BoolOp) : List V -> List Expr -> V -> List V -> Prop
 | one (B B₁ : List V) (e : Expr) (d : V) : Yu G H C σ B (eval e C.env) d B₁ -> ZiV G H C σ op B [e] d B₁
 | stop (B B₁ : List V) (e e' : Expr) (es : List Expr) (d : V) : Yu G H C σ B (eval e C.env) d B₁ -> JC B₁ d = some (op == .Or) -> ZiV G H C σ op B (e :: e' :: es) d B₁
 | go (B B₁ B₂ : List V) (e e' : Expr) (es : List Expr) (d d' : V) : Yu G H C σ B (eval e C.env) d B₁ -> JC B₁ d = some (op == .And) -> ZiV G H C σ op B₁ (e' :: es) d' B₂ -> ZiV G H C σ op B (e :: e' :: es) d' B₂
theorem ZiV.ok {op : BoolOp} {pos : Pos} {es : List Expr} (T : ZiV G H C σ op B es d B') : Yu G H C σ B (boolOp pos op (evalEach es C.env)) d B' := by
 induction T with
 | one B B₁ e d h => exact h
 | stop B B₁ e e' es d h ht =>
  intro A β s hA I E;refine wpAny_bind ((h A β s hA I).t3 fun v s'1 β1 a'1 i'1 r'1 => wpAny_bind (wpAny_standAt (wpAny_bind (wpAny_holding ((Zfh i'1 r'1 ht).to fun c s'2 ⟨e, x⟩ => ?_)))));subst e
  cases op <;> exact wpAny_pure ((Zv.ofExt i'1 x (x.rep r'1)).from a'1)
 | go B B₁ B₂ e e' es d d' h ht _ ih =>
  intro A β s hA I E;refine wpAny_bind ((h A β s hA I).t3 fun v s'1 β1 a'1 i'1 r'1 => wpAny_bind (wpAny_standAt (wpAny_bind (wpAny_holding ((Zfh i'1 r'1 ht).to fun c s'2 ⟨e, x⟩ => ?_)))));subst e
  cases op <;> exact (ih A β1 s'2 hA (i'1.ext x)).to fun _ _ p => (p.from (Adv.ofExt x)).from a'1
theorem ZlW {op : BoolOp} {es : List Expr} {pos : Pos} (T : ZiV G H C σ op B es d B') : Yu G H C σ B (eval (.BoolOp op es pos) C.env) d B' := T.ok
theorem Zoi {t x y : Expr} {pos : Pos} {c : Bool} (ht : EvB G H C σ B (PySem.isTrue t C.env (eval t C.env)) c B₁)
  (hx : c = true -> Yu G H C σ B₁ (eval x C.env) d B₂) (hy : c = false -> Yu G H C σ B₁ (eval y C.env) d B₂) : Yu G H C σ B (eval (.IfExp t x y pos) C.env) d B₂ := fun A β s hA I E =>
 wpAny_IfExp ((ht A β s hA I).t3 fun c' s'1 β1 a'1 i'1 e => by
  subst e
  cases c' with
  | true => rw [if_pos rfl]; exact (hx rfl A β1 s'1 hA i'1).to fun _ _ p => p.from a'1
  | false => rw [if_neg (by simp)]; exact (hy rfl A β1 s'1 hA i'1).to fun _ _ p => p.from a'1)
end
noncomputable def ZfY (e : Expr) : Bool := !(Nat.beq e.ctorIdx 26)
theorem Zfe {e : Expr} {o i : Value} (h : ZfY e = true) : subscripted e false o i = operate [o, i] (getItem o i) := by
 cases e <;> first | rfl | cases h
noncomputable def ZbG (k : Int) : Bool := decide (-(2 ^ 63) <= k) && decide (k < 2 ^ 63)
noncomputable def ZbW (xs : List V) (k : Int) : Option V := if ZbG k then (seqIndex? k xs.length).bind (xs[·]?) else none
noncomputable def X5 (ks : List Str) (vs : List V) (x : Str) : Option V := if ks.contains x then vs[ks.idxOf x]? else none
noncomputable def ZgP (x : Str) (k : Int) : Option V := if ZbG k then ((seqIndex? k x.length).bind (x.cps[·]?)).map fun c => V.str ⟨#[c]⟩ else none
section
variable {G : GC} {C : Cx} {β β' : List Addr} {B B' B₁ B₂ B3 : List V} {σ : List (Option V)} {s s' : Shared} {H : Nat} {d d₁ d₂ : V} {v : Value}
theorem Zh1 {a : Addr} {vs : Array Value} {n : Nat} {k : Int} {t : Tok} {j : Nat} {x : Value} {A : Around} {E : Value -> Shared -> Prop} {Q : Value -> Shared -> Prop} (e : s.heap.get? a = some (YO vs n))
  (hw : ZbG k = true) (hj : seqIndex? k vs.size = some j) (hx : vs[j]? = some x) (h : Q x s) : wpAny (model G.prog G.w) A (getItem (.ref a) (.int k t)) Q E s := by
 obtain ⟨h1, h2⟩ := Bool.and_eq_true_iff.mp hw;have h1 := of_decide_eq_true h1;have h2 := of_decide_eq_true h2;obtain ⟨hb, e1⟩ := YG hj;rw [<- Option.some.inj e1] at hx;have hb := of_decide_eq_true (Bool.and_eq_true_iff.mp hb).1;clear e1 hj hw
 by_cases hk : k < 0
 ·rw [if_pos hk] at hb hx
  exact wpAny_getItem_list_neg (Rep.isList e) hk (by omega) h1 hx h
 ·rw [if_neg hk] at hb hx
  exact wpAny_getItem_list (Rep.isList e) hb h2 hx h
theorem Zdb : ∀ {kvs : List (Str × Value)} {x : Str}, (kvs.map (·.1)).contains x = true -> valueAt kvs x = (kvs.map (·.2))[(kvs.map (·.1)).idxOf x]?
 | (k, v) :: r, x, h => by
  by_cases hk : k = x
  ·subst hk; simp [valueAt]
  ·have hb : (k == x) = false := by simpa using hk
   have hm : (r.map (·.1)).contains x = true := by
    simp only [List.map_cons, List.contains_cons, Bool.or_eq_true] at h;rcases h with h | h
    ·exact absurd (beq_iff_eq.mp h).symm hk
    ·exact h
   have := Zdb hm;simp only [valueAt] at this ⊢;rw [List.find?_cons];simp only [hk, decide_false, List.map_cons, List.idxOf_cons, hb, cond_false, List.getElem?_cons_succ];exact this
noncomputable def Zif (B : List V) (d₁ d₂ d : V) : Prop := ∀ (G : GC) (H : Nat), Op2 G H B getItem d₁ d₂ d /\ ∀ (C : Cx) σ β s v w, Inv G C β B σ s -> Rep G (avB C.av β) β s.heap v d₁ -> Rep G (avB C.av β) β s.heap w d₂ ->
  ∃ T id, s.TypeIs v T /\ typeLookup (.type T) "__getitem__" = pure (some (.builtin id))
theorem Zof {xs : List V} {k : Int} (hl : Zx B d₁ = some xs) (h : ZbW xs k = some d) : Zif B d₁ (.int k) d := fun G H => by
 obtain ⟨hw, h⟩ := YG h;refine ⟨fun C σ A β s v w O hA I r'1 r'2 E => ?_, fun C σ β s v w I r'1 r'2 => Y7 (Y1 I r'1 hl) fun a vs n e0 e q => e0 ▸ ⟨_, _, (Rep.isList e).typeIs, slot_list_getitem.lookup⟩⟩;refine Y7 (Y1 I r'1 hl) fun a vs n e0 e q => ?_;obtain ⟨t, e1⟩ := Zu r'2;refine Ze (Option.bind_eq_some_iff.mp h) fun j hj hx => ?_;have n1 : vs.size = xs.length := Array.length_toList.symm.trans q.length;refine Ze (q.get hx) fun x hx' rx => ?_;rw [e0, e1];exact Zh1 e hw (n1 ▸ hj) (Array.getElem?_toList.symm.trans hx') (Zv.ofExt I (Ext.refl s) rx)
theorem Zqd {xs : List V} {k : Int} (h : ZbW xs k = some d) : Zif B (.tup xs) (.int k) d := fun G H => by
 obtain ⟨hw, h⟩ := YG h;refine ⟨fun C σ A β s v w O hA I r'1 r'2 E => ?_, fun C σ β s v w I r'1 r'2 => Y7 (ZaS r'1) fun a vs n e0 e q => e0 ▸ ⟨_, _, ⟨_, e, rfl⟩, slot_tuple_getitem.lookup⟩⟩;refine Y7 (ZaS r'1) fun a vs n e0 e q => ?_;obtain ⟨t, e1⟩ := Zu r'2;refine Ze (Option.bind_eq_some_iff.mp h) fun j hj hx => ?_;have n1 : vs.size = xs.length := Array.length_toList.symm.trans q.length;refine Ze (q.get hx) fun x hx' rx => ?_;have hb := Bool.and_eq_true_iff.mp hw;rw [e0, e1];exact getItem_tuple (Rep.isTuple e) (of_decide_eq_true hb.1) (of_decide_eq_true hb.2) (n1 ▸ hj) (Array.getElem?_toList.symm.trans hx') (Zv.ofExt I (Ext.refl s) rx)
theorem Zqg {x : Str} {k : Int} (h : ZgP x k = some d) : Zif B (.str x) (.int k) d := fun G H => by
 obtain ⟨hw, h⟩ := YG h;refine ⟨fun C σ A β s v w O hA I r'1 r'2 E => ?_, fun C σ β s v w I r'1 r'2 => Ziz (Z9 r'1) fun u e => e ▸ ⟨_, _, typeIs_str s x u, PySem.F.slot_str_getitem.lookup⟩⟩;obtain ⟨u, e0⟩ := Z9 r'1;obtain ⟨t, e1⟩ := Zu r'2;have hb := Bool.and_eq_true_iff.mp hw;refine Ze (Option.map_eq_some_iff.mp h) fun c hc e2 => ?_;have h1 := of_decide_eq_true hb.1;have h2 := of_decide_eq_true hb.2;rw [e0, e1, <- e2];exact PyProof.Rows.getItem_str (by simp; omega) hc (Zv.ofExt I (Ext.toks s _) (.str _ _))
theorem ZnF {p : List Str × List V} {x : Str} (hd : Jl B d₁ = some p) (h : X5 p.1 p.2 x = some d) : Zif B d₁ (.str x) d := fun G H => by
 obtain ⟨hc, h⟩ := YG h;refine ⟨fun C σ A β s v w O hA I r'1 r'2 E => ?_, fun C σ β s v w I r'1 r'2 => JQ (Zbi I r'1 hd) fun a kvs e0 hm hs hk q => e0 ▸ ⟨_, _, hm.typeIs, slot_dict_getitem.lookup⟩⟩;refine JQ (Zbi I r'1 hd) fun a kvs e0 hm hs hk q => ?_;obtain ⟨t, e1⟩ := Z9 r'2;refine Ze (q.get h) fun y hy ry => ?_;rw [e0, e1];refine wpAny_getItem_of (strKind_is G.prog G.w x t) hm.mapOf (v := y) ?_ (Zv.ofExt I (Ext.toks s _) ry);rw [Zdb (hk ▸ hc), hk]; exact hy
noncomputable def Zrp (B : List V) (o i : V) : Sb fun (d : V) => Zif B o i d := match i with
 | .int k => match o with
  | .tup xs => ⟨ZbW xs k, fun _ h => Zqd h⟩
  | .str x => ⟨ZgP x k, fun _ h => Zqg h⟩
  | o => .bind (Zx B o) fun xs hl => ⟨ZbW xs k, fun _ h => Zof hl h⟩
 | .str x => .bind (Jl B o) fun p hd => ⟨X5 p.1 p.2 x, fun _ h => ZnF hd h⟩
 | _ => .no
noncomputable def Zc (B : List V) (o i : V) : Option V := (Zrp B o i).1
theorem Zee {n : Nat} {xs : List V} {k : Int} (h : B[n]? = some (.list xs)) : Zc B (.box n) (.int k) = ZbW xs k := congrArg Subtype.val (Sb.bind_eq (show Zx B (.box n) = some xs by show (match B[n]? with | some (.list xs) => some xs | _ => none) = some xs; rw [h]))
theorem ZeX {xs : List V} {k : Int} : Zc B (.list xs) (.int k) = ZbW xs k := rfl
theorem ZlS {xs : List V} {k : Int} : Zc B (.tup xs) (.int k) = ZbW xs k := rfl
theorem Zd6 {x : Str} {k : Int} : Zc B (.str x) (.int k) = ZgP x k := rfl
theorem Zkg {o : V} {p : List Str × List V} {x : Str} (h : Jl B o = some p) : Zc B o (.str x) = X5 p.1 p.2 x := congrArg Subtype.val (Sb.bind_eq h)
set_option tactic.hygienic true in
theorem Zkc (h : Zc B d₁ d₂ = some d) : Op2 G H B getItem d₁ d₂ d /\ ∀ (C : Cx) σ β s v w, Inv G C β B σ s -> Rep G (avB C.av β) β s.heap v d₁ -> Rep G (avB C.av β) β s.heap w d₂ ->
  ∃ T id, s.TypeIs v T /\ typeLookup (.type T) "__getitem__" = pure (some (.builtin id)) := (Zrp B d₁ d₂).2 d h G H
theorem Zr9 (O : Zw G C) {o i : Expr} {pos : Pos} (hn : ZfY i = true) (h1 : Yu G H C σ B (eval o C.env) d₁ B₁) (h2 : Yu G H C σ B₁ (eval i C.env) d₂ B₂) (h : Zc B₂ d₁ d₂ = some d) :
  Yu G H C σ B (eval (.Subscript o i pos) C.env) d B₂ := fun A β s hA I E =>
 Subscript_ ((h1 A β s hA I).t3 fun v s'1 β1 a'1 i'1 r'1 => (h2 A β1 s'1 hA i'1).t3 fun u s'2 β2 a'2 i'2 r'2 => by
  have r1' := a'2.e O r'1;refine YU ((Zkc (G := G) (H := H) h).2 C σ β2 s'2 v u i'2 r1' r'2) fun T id hT hl => ?_;exact tail_any hT hl (((Zkc (G := G) (H := H) h).1 C σ A β2 s'2 v u O hA i'2 r1' r'2).to fun x s'3 p => (p.from a'2).from a'1) (Zfe hn))
inductive EvP (G : GC) (H : Nat) (C : Cx) (σ : List (Option V)) : List V -> Option Expr -> Option Int -> List V -> Prop
 | none (B : List V) : EvP G H C σ B none none B
 | some (B B' : List V) (e : Expr) (k : Int) : Yu G H C σ B (eval e C.env) (.int k) B' -> EvP G H C σ B (some e) (some k) B'
theorem EvP.ok {e : Option Expr} {k : Option Int} (P : EvP G H C σ B e k B') {A : Around} (hA : AOk H A) (I : Inv G C β B σ s) :
  Ok G.prog G.w A (evalPart e C.env) s fun v s' => ∃ β', Adv G C.mu β s β' s' /\ Inv G C β' B' σ s' /\ IsPart v k := by
 intro E
 cases P with
 | none => rw [evalPart_none]; exact wpAny_pure ⟨β, .refl, I, .none⟩
 | some _ e k h =>
  rw [evalPart_some];exact (h A β s hA I).t3 fun v s'1 β1 a'1 i'1 r'1 => by obtain ⟨t, rfl⟩ := Zu r'1; exact ⟨β1, a'1, i'1, .int _ _⟩
noncomputable def Zic {α : Type} (xs : List α) (lo hi : Option Int) : List α :=
 (sliceRange (sliceBounds lo hi none xs.length).1 (sliceBounds lo hi none xs.length).2.1 (sliceBounds lo hi none xs.length).2.2).filterMap (xs[·]?)
theorem ZhT (vs : Array Value) (lo hi : Option Int) : (slicePick vs lo hi none).toList = Zic vs.toList lo hi := by
 unfold slicePick Zic;simp
theorem Zej {av : Addr -> Prop} {h : Heap} {vs : List Value} {ds : List V} (r : Zd G av β h vs ds) : ∀ l : List Nat, Zd G av β h (l.filterMap (vs[·]?)) (l.filterMap (ds[·]?))
 | [] => .nil
 | i :: l => by
  have ih := Zej r l
  cases hd : ds[i]? with
  | none =>
   have : vs[i]? = none := by
    rw [List.getElem?_eq_none_iff] at hd ⊢; rw [r.length]; exact hd
   simp only [List.filterMap_cons, hd, this]; exact ih
  | some d =>
   refine Ze (r.get hd) fun v hv rv => ?_;simp only [List.filterMap_cons, hd, hv]; exact .cons rv ih
noncomputable def Zhj (e : Expr) : Bool := Nat.beq e.ctorIdx 23
theorem Zfl {e : Expr} (h : Zhj e = true) (o r : Value) : letTemporaryGo e o r = pure () := by
 cases e <;> first | rfl | cases h
theorem Znv (O : Zw G C) {o : Expr} {lo hi : Option Expr} {l u : Option Int} {p pos : Pos} {xs : List V} (hn : Zhj o = true) (h1 : Yu G H C σ B (eval o C.env) d₁ B₁)
  (hl : EvP G H C σ B₁ lo l B₂) (hu : EvP G H C σ B₂ hi u B3) (hx : Zx B3 d₁ = some xs) (hs : ZH xs.length = true) :
  Yu G H C σ B (eval (.Subscript o (.Slice lo hi none p) pos) C.env) (.list (Zic xs l u)) B3 := fun A β s hA I E =>
 wpAny_Subscript_list_slice ((h1 A β s hA I).t3 fun v s'1 β1 a'1 i'1 r'1 => (hl.ok hA i'1).t3 fun vl s'2 β2 a'2 i'2 p'2 => (hu.ok hA i'2).t3 fun vu s'3 β3 a'3 i3 p'3 => by
  refine Y7 (Y1 i3 (a'3.e O (a'2.e O r'1)) hx) fun a vs n z_3 e q => ?_;subst z_3;have n1 : vs.size = xs.length := by rw [<- q.length]; simp
  refine ⟨a, vs, _, _, rfl, Rep.isList e, by rw [n1]; exact Yy hs, p'2, p'3, ?_⟩;have x1 := Ext.push s'3 { cls := .type "slice", data := .fields #[vl, vu, .none] };have x2 := Ext.push ({ s'3 with heap := s'3.heap.push { cls := .type "slice", data := .fields #[vl, vu, .none] } } : Shared) (YO (slicePick vs l u none) 0);refine ((Zv.ofExt i3 (x1.trans x2) ?_).from (a'2.trans a'3)).from a'1;have i4 := i3.ext x1;refine .list (vs := slicePick vs l u none) (n := 0) ?_ (i4.fresh (by show _ <= s'3.heap.objs.size + 1; rw [Heap.size_push]; exact Nat.le_refl _)) ?_
  ·have := Heap.get?_push_size (s'3.heap.push { cls := .type "slice", data := .fields #[vl, vu, .none] }) (o := YO (slicePick vs l u none) 0) rfl
   rw [Heap.size_push] at this;exact this
  ·rw [ZhT]
   refine Ext.repAll (x1.trans x2) ?_;unfold Zic;rw [show vs.toList.length = xs.length from q.length];exact Zej q _) (Zfl hn)
end
structure Kp (s s' : Shared) : Prop where
 keep : ∀ b o, s.heap.get? b = some o -> s'.heap.get? b = some o
 gens : s'.gens = s.gens
 os : s'.os = s.os
theorem Ok.ext {prog : Program} {w : World} {α : Type} {A : Around} {s : Shared} {m : Sem α} {P : α -> Shared -> Prop} (h : Ok prog w A m s fun a s' => Kp s s' /\ P a s') : Ok prog w A m s fun a s' => Ext s s' /\ P a s' :=
 h.size.mono fun a s' ⟨z, k, p⟩ => ⟨⟨k.keep, z, k.gens, k.os⟩, p⟩
noncomputable def OpN (G : GC) (H : Nat) (B B' : List V) (op : List Value -> Sem Value) (ds : List V) (d : V) : Prop :=
 ∀ (C : Cx) σ A β s vs, Zw G C -> AOk H A -> Inv G C β B σ s -> Zd G (avB C.av β) β s.heap vs ds -> Ok G.prog G.w A (op vs) s (Zv G C β σ s d B')
section
variable {G : GC} {C : Cx} {β : List Addr} {B B₁ B₂ : List V} {σ : List (Option V)} {s s' : Shared} {H : Nat} {d d₁ : V} {v : Value} {b : Bool} {ds : List V}
theorem Wd.g (gok : GOk G) (W : Wd G s) : s.heap.Ns mainGlobals G.mg := gok.g.at fun o e => W.keep _ o e gok.gT
theorem Wd.bi (gok : GOk G) (W : Wd G s) : s.heap.Ns builtinsNs G.mb := gok.b.at fun o e => W.keep _ o e gok.bT
theorem Wd.nolimit (gok : GOk G) (W : Wd G s) : s.heap.NoLimit := let ⟨mc, h, e⟩ := gok.nolimit; ⟨mc, h.at fun o e => W.keep _ o e gok.sT, e⟩
noncomputable def YW (G : GC) (x : Str) (f : Value) : Prop := G.mg x = some f \/ (G.mg x = none /\ G.mb x = some f)
theorem ZaH (O : Zw G C) (I : Inv G C β B σ s) {x : Str} {f : Value} {p : Pos} {A : Around} {E : Value -> Shared -> Prop} {Q : Value -> Shared -> Prop} (hk : C.env.kindOf x = some .globalImplicit) (hf : YW G x f)
  (hd : (x == ("__debug__" : Str)) = false) (h : Q f s) : wpAny (model G.prog G.w) A (eval (.Name x p) C.env) Q E s := by
 refine Name_function_global O.kind hk ?_ hd;rcases hf with hf | ⟨h1, h2⟩
 ·exact loadGlobal_global (by rw [O.globals]; exact I.wd.g O.gok) hf h
 ·exact loadGlobal_builtin (by rw [O.globals]; exact I.wd.g O.gok) h1 (by rw [O.builtins]; exact I.wd.bi O.gok) h2 h
noncomputable def ZlD : Value -> Bool
 | .builtin _ | .type _ => true
 | _ => false
theorem Zni (O : Zw G C) {x : Str} {f : Value} {p pos : Pos} {es : List Expr} (hk : C.env.kindOf x = some .globalImplicit) (hf : YW G x f) (hp : ZlD f = true) (hd : (x == ("__debug__" : Str)) = false)
  (R : Row G H C σ B es ds B₁) (hne : es ≠ []) (h : OpN G H B₁ B₂ (fun vs => call f vs) ds d) : Yu G H C σ B (eval (.Call (.Name x p) es [] pos) C.env) d B₂ := fun A β s hA I E => by
 refine wpAny_Call_NameR (ZaH O I hk hf hd ?_)
 have key : wpAny (model G.prog G.w) A (evalArgs f true (backTo pos (starEach es C.env)) []) (fun a s'1 => wpAny (model G.prog G.w) A (call f ([] ++ a.pos) a.kw) (Zv G C β σ s d B₂) E s'1) E s := by
  cases R with
  | nil => exact absurd rfl hne
  | cons _ B1 _ e es' d' ds' hn h1 hr =>
   rw [ZL hn, Yh];refine evalArgs_plain ?_;have := (Row.cons B B1 B₁ e es' d' ds' hn h1 hr).evs O (pos := pos) A β s hA I;rw [ZL hn, Yh] at this;exact this.t3 fun vs s'1 β1 a'1 i'1 r'1 => (h C σ A β1 s'1 vs O hA i'1 r'1).to fun v s'2 q => q.from a'1
 cases f with
 | builtin id => exact Calls.callWith_builtin R.plain key
 | type T => exact PySem.callWith_type R.plain key
 | _ => cases hp
theorem Zpo (O : Zw G C) {x : Str} {f : Addr} {o : Obj} {fd : FuncData} {p pos : Pos} {es : List Expr} (hk : C.env.kindOf x = some .globalImplicit) (hf : YW G x (.ref f)) (hd : (x == ("__debug__" : Str)) = false)
  (ho : G.H0.get? f = some o) (hT : ¬ G.Tb f) (hdat : o.data = .func fd)
  (R : Row G H C σ B es ds B₁) (hne : es ≠ []) (h : OpN G H B₁ B₂ (fun vs => call (.ref f) vs) ds d) : Yu G H C σ B (eval (.Call (.Name x p) es [] pos) C.env) d B₂ := fun A β s hA I E => by
 refine wpAny_Call_NameR (ZaH O I hk hf hd ?_);refine Calls.callWith_function (o := o) (fd := fd) ?_
 cases R with
 | nil => exact absurd rfl hne
 | cons _ B1 _ e es' d' ds' hn h1 hr =>
  rw [ZL hn, Yh];refine evalArgs_plain ?_;have := (Row.cons B B1 B₁ e es' d' ds' hn h1 hr).evs O (pos := pos) A β s hA I;rw [ZL hn, Yh] at this;exact this.t3 fun vs s'1 β1 a'1 i'1 r'1 => ⟨⟨i'1.wd.keep _ _ ho hT, hdat⟩, (h C σ A β1 s'1 vs O hA i'1 r'1).to fun v s'2 q => q.from a'1⟩
theorem JH {av : Addr -> Prop} {h : Heap} {vs : List Value} (r : Zd G av β h vs [d]) : ∃ v, vs = [v] /\ Rep G av β h v d :=
 let ⟨v, _, e, r1, rs⟩ := r.sh.2 _ _ rfl; ⟨v, e.trans (congrArg (v :: ·) (rs.sh.1 rfl)), r1⟩
theorem Xr {av : Addr -> Prop} {h : Heap} {vs : List Value} (r : Zd G av β h vs [d, d₁]) : ∃ v w, vs = [v, w] /\ Rep G av β h v d /\ Rep G av β h w d₁ :=
 let ⟨v, _, e, r1, rs⟩ := r.sh.2 _ _ rfl; let ⟨w, e2, r2⟩ := JH rs; ⟨v, w, e.trans (congrArg (v :: ·) e2), r1, r2⟩
noncomputable def ZjH (B : List V) (d : V) : Option Int := match Zx B d with
 | some xs => if ZH xs.length then some xs.length else none
 | none => match d with
  | .str x => if ZH x.length then some x.length else none
  | .tup xs => if ZH xs.length then some xs.length else none
  | _ => none
set_option tactic.hygienic true in
theorem Zs3 {n : Int} (h : ZjH B d = some n) : OpN G H B B (fun vs => call (.builtin "len") vs) [d] (.int n) := fun C σ A β s vs O hA I rr E => by
 refine Ze (JH rr) fun v z_1 r => ?_;subst z_1;unfold ZjH at h
 split at h
 ·rename_i xs hx
  refine Y7 (Y1 I r hx) fun a vs n z_3 e q => ?_;subst z_3
  split at h
  ·rename_i hs
   cases h
   have n1 : vs.size = xs.length := by rw [<- q.length]; simp
   exact call_len_list (Rep.isList e) (by rw [n1]; exact J3 hs) (by rw [n1]; exact Zv.ofExt I (Ext.toks s _) (.int _ _))
  ·exact nn h
 ·split at h
  ·split at h
   ·rename_i hs
    cases h
    obtain ⟨t, rfl⟩ := Z9 r;exact PyProof.Rows.len_str (by have := J3 hs; omega) (Zv.ofExt I (Ext.toks s _) (.int _ _))
   ·exact nn h
  ·rename_i xs _
   split at h
   ·rename_i hs
    cases h
    refine Y7 (ZaS r) fun a vs n z_3 e q => ?_;subst z_3;have n1 : vs.size = xs.length := by rw [<- Array.length_toList]; exact q.length
    exact len_tuple (Rep.isTuple e) (by rw [n1]; exact J3 hs) (by rw [n1]; exact Zv.ofExt I (Ext.toks s _) (.int _ _))
   ·exact nn h
  ·exact nn h
noncomputable def Xz : List V -> Option (List Int)
 | [] => some []
 | .int i :: r => (Xz r).map (i :: ·)
 | _ => none
theorem JS : ∀ {xs : List V} {ns : List Int}, Xz xs = some ns -> xs = ns.map V.int
 | [], _, h => by cases h; rfl
 | .int i :: r, ns, h => by
  simp only [Xz] at h;refine Ze (Option.map_eq_some_iff.mp h) fun m hm z_2 => ?_;subst z_2;rw [JS hm]; rfl
theorem Zfu {av : Addr -> Prop} {h : Heap} : ∀ {vs : List Value} {ns : List Int}, Zd G av β h vs (ns.map V.int) -> ∃ ps : List (Int × Tok), vs = ps.map (fun p => .int p.1 p.2) /\ ps.map (·.1) = ns := by
 intro vs ns
 induction ns generalizing vs with
 | nil => intro r; exact ⟨[], r.sh.1 rfl, rfl⟩
 | cons n ns ih =>
  intro r;refine Xh (r.sh.2 _ _ rfl) fun v vs' e r1 rs => ?_;obtain ⟨t, e1⟩ := Zu r1;refine Ze (ih rs) fun ps e2 e3 => ⟨(n, t) :: ps, ?_, congrArg (n :: ·) e3⟩;rw [e, e1, e2]; rfl
theorem ZrV {xs : List V} {ns : List Int} (h : Zx B d = some xs) (hn : Xz xs = some ns) : OpN G H B B (fun vs => call (.builtin "sum") vs) [d] (.int ns.sum) := fun C σ A β s vs O hA I rr E => by
 refine Ze (JH rr) fun v z_1 r => ?_;subst z_1;refine Y7 (Y1 I r h) fun a vs n z_3 e q => ?_;subst z_3;rw [JS hn] at q;refine Ze (Zfu q) fun ps hps hns => ?_
 have hvs : vs = intItems ps.toArray := by
  apply Array.ext';rw [hps]; simp [intItems]
 subst hvs
 have hs : preSum (numAt ps.toArray) ps.toArray.size = ns.sum := by
  rw [preSum_eq, List.take_of_length_le (by simp)];simp [hns]
 refine (Ok.ext (P := fun v s' => ∃ t, v = .int ns.sum t) fun E => sum_intListG hA.handled (Rep.isList e) fun h' tk t' hk => ⟨⟨hk, rfl, rfl⟩, t', by rw [hs]⟩).to fun v s' hz => ?_;refine Zev hz fun x hz => ?_;refine Ziz hz fun t hv => ?_;subst hv;exact Zv.ofExt I x (.int _ _)
theorem Ztk {a b : Int} : OpN G H B B (fun vs => call (.builtin "min") vs) [.int a, .int b] (.int (if b < a then b else a)) := fun C σ A β s vs O hA I rr E => by
 refine Xh (Xr rr) fun v w z_2 r1 r2 => ?_;subst z_2;obtain ⟨t, rfl⟩ := Zu r1;obtain ⟨u, rfl⟩ := Zu r2;refine (Ok.ext (P := fun v s' => ∃ t, v = .int (if b < a then b else a) t) fun E => min_two_ints hA.handled fun h' tk hk => ⟨⟨hk, rfl, rfl⟩, if b < a then u else t, by split <;> rfl⟩).to fun v s' hz => ?_;refine Zev hz fun x hz => ?_;refine Ziz hz fun t hv => ?_;subst hv;exact Zv.ofExt I x (.int _ _)
theorem ZmD {n : Int} : OpN G H B B (fun vs => call (.type "range") vs) [.int n] (.range 0 n) := fun C σ A β s vs O hA I rr E => by
 refine Ze (JH rr) fun v z_1 r => ?_;subst z_1;obtain ⟨t, rfl⟩ := Zu r;refine call_range_1 ?_;have x : Ext s { s with heap := s.heap.push { cls := .type "range", data := .fields #[.int 0 s.toks, .int n t, .int 1 (s.toks + 1)] }, toks := s.toks + 1 + 1 } := (Ext.push s _).trans (Ext.toks _ _);exact Zv.ofExt I x (.range (IsRange.new ..) (I.fresh (Nat.le_refl _)))
theorem Zl9 {a b : Int} : OpN G H B B (fun vs => call (.type "range") vs) [.int a, .int b] (.range a b) := fun C σ A β s vs O hA I rr E => by
 refine Xh (Xr rr) fun v w z_2 r1 r2 => ?_;subst z_2;obtain ⟨t, rfl⟩ := Zu r1;obtain ⟨u, rfl⟩ := Zu r2;refine call_range_2 ?_;have x : Ext s { s with heap := s.heap.push { cls := .type "range", data := .fields #[.int a t, .int b u, .int 1 s.toks] }, toks := s.toks + 1 } := (Ext.push s _).trans (Ext.toks _ _);exact Zv.ofExt I x (.range (IsRange.new ..) (I.fresh (Nat.le_refl _)))
theorem Zsm {i : Int} (h : ZH (baseText "0x" 16 i).length = true) : OpN G H B B (fun vs => call (.builtin "hex") vs) [.int i] (.str (baseText "0x" 16 i)) := fun C σ A β s vs O hA I rr E => by
 refine Ze (JH rr) fun v z_1 r => ?_;subst z_1;obtain ⟨t, rfl⟩ := Zu r;exact P.hex_of_int (Zv.ofExt I (Ext.toks s _) (.str _ _)) (Yy h)
theorem Zs8 {c : Bool} : OpN G H B B (fun vs => call (.type "int") vs) [.bool c] (.int (if c then 1 else 0)) := fun C σ A β s vs O hA I rr E => by
 refine Ze (JH rr) fun v z_1 r => ?_;subst z_1;rw [ZdH r];exact call_int_bool (Zv.ofExt I (Ext.toks s _) (.int _ _))
end
inductive Src where
 | seq (xs : List V)
 | box (n i : Nat)
noncomputable def Src.at (B : List V) : Src -> Option (Option V)
 | .seq xs => some xs.head?
 | .box n i => match B[n]? with
  | some (.list ys) => some ys[i]?
  | _ => none
noncomputable def Src.adv : Src -> Src
 | .seq xs => .seq xs.tail
 | .box n i => .box n (i + 1)
noncomputable def Cx.more (C : Cx) (own : Addr -> Prop) : Cx := { C with av := fun a => C.av a \/ own a }
structure XF (G : GC) (C : Cx) (own : Addr -> Prop) : Prop where
 sub : ∀ a, own a -> C.av a
 nomu : ∀ a, own a -> ¬ C.mu a
 high : ∀ a, own a -> G.H0.objs.size <= a
 nocell : ∀ x c, C.env.cells.lookup x = some c -> ¬ own c
section
variable {G : GC} {C : Cx} {β : List Addr} {B : List V} {σ : List (Option V)} {s s' : Shared} {d : V} {v : Value} {b : Bool} {ds : List V} {ow : Addr -> Prop}
theorem Zw.more (O : Zw G C) (own : Addr -> Prop) : Zw G (C.more own) :=
 ⟨O.gok, O.kind, O.globals, O.builtins, fun a h => .inl (O.muav a h), fun a h => .inl (O.tbav a h), O.muL, O.mu0, O.cellmu, fun x c h => .inl (O.cellav x c h), O.inj, O.has, O.cell0, O.known, O.dbg, O.code⟩
theorem Inv.more (I : Inv G C β B σ s) (x : Ext s s') (h : ∀ a, ow a -> s.heap.objs.size <= a /\ a < s'.heap.objs.size) : Inv G (C.more ow) β B σ s' := by
 have hk : ∀ b o, s.heap.get? b = some o -> ¬ avB C.av β b -> s'.heap.get? b = some o /\ ¬ avB (C.more ow).av β b := fun b o e n =>
  ⟨x.keep b o e, by
   rintro ((z | z) | z)
   ·exact n (.inl z)
   ·exact absurd (Heap.lt_size e) (Nat.not_lt.mpr (h b z).1)
   ·exact n (.inr z)⟩
 have I' := I.ext x;refine ⟨I'.wd, ?_, I'.ns, I'.cells, fun y d e k => ?_, I'.slots, I'.boxes.len, I'.boxes.nodup, ?_, I'.boxes.high, fun n a d e1 e2 => ?_⟩
 ·rintro a (z | z)
  ·exact I'.low a z
  ·exact (h a z).2
 ·refine Ze (I.vars y d e k) fun v b r => ?_
  exact ⟨v, b.keeps x.keep, Rep.mono hk (fun _ _ z => z) r⟩
 ·rintro a ha (z | z)
  ·exact I'.boxes.apart a ha z
  ·exact I.fresh (h a z).1 (.inr ha)
 ·exact (I.boxes.at' n a d e1 e2).mono hk (fun _ _ z => z) fun o z => x.keep a o z
theorem ZhB {av av' : Addr -> Prop} {h : Heap} (hs : ∀ a, av a -> av' a) {v : Value} {d : V} (r : Rep G av' β h v d) : Rep G av β h v d := Rep.mono (fun b o e n => ⟨e, fun z => n (hs b z)⟩) (fun _ _ z => z) r
theorem Zde {av av' : Addr -> Prop} {h : Heap} (hs : ∀ a, av a -> av' a) {vs : List Value} {ds : List V} (r : Zd G av' β h vs ds) : Zd G av β h vs ds := Zd.mono (fun b o e n => ⟨e, fun z => n (hs b z)⟩) (fun _ _ z => z) r
theorem Zd4 (ow : Addr -> Prop) : ∀ a, avB C.av β a -> avB (C.more ow).av β a := fun a h => h.imp .inl id
theorem Inv.less (I : Inv G (C.more ow) β B σ s) : Inv G C β B σ s := by
 refine ⟨I.wd, fun a h => I.low a (.inl h), I.ns, I.cells, fun y d e k => ?_, I.slots, I.boxes.len, I.boxes.nodup, fun a ha z => I.boxes.apart a ha (.inl z), I.boxes.high, fun n a d e1 e2 => ?_⟩
 ·refine Ze (I.vars y d e k) fun v b r => ?_
  exact ⟨v, b, ZhB (Zd4 ow) r⟩
 ·exact (I.boxes.at' n a d e1 e2).mono (fun b o e n => ⟨e, fun z => n (Zd4 ow b z)⟩) (fun _ _ z => z) fun o z => z
theorem Inv.own (O : Zw G C) (W : XF G C ow) (I : Inv G C β B σ s) (k : ∀ b o, ¬ ow b -> s.heap.get? b = some o -> s'.heap.get? b = some o) (hz : s.heap.objs.size <= s'.heap.objs.size)
  (hg : s'.gens = s.gens) (ho : s'.os = s.os) : Inv G C β B σ s' := by
 have hk : ∀ b o, s.heap.get? b = some o -> ¬ avB C.av β b -> s'.heap.get? b = some o /\ ¬ avB C.av β b := fun b o e n => ⟨k b o (fun z => n (.inl (W.sub b z))) e, n⟩;have h0 : ∀ {b}, b < G.H0.objs.size -> ¬ ow b := fun h z => absurd h (Nat.not_lt.mpr (W.high _ z));have hβ : ∀ a ∈ β, ¬ ow a := fun a ha z => I.boxes.apart a ha (W.sub a z);have hmu : ∀ a, C.mu a -> ¬ ow a := fun a h z => W.nomu a z h
 have hcell : ∀ {x c v}, C.env.cells.lookup x = some c -> s.heap.IsCell c v -> s'.heap.IsCell c v := fun hc hv =>
  let ⟨o, e1, e2⟩ := hv; ⟨o, k _ o (W.nocell _ _ hc) e1, e2⟩
 refine ⟨⟨fun b o e n => k b o (h0 (Heap.lt_size e)) (I.wd.keep b o e n), fun c P m => ?_, hg ▸ I.wd.gens, ho.trans I.wd.os⟩, fun a h => Nat.lt_of_lt_of_le (I.low a h) hz,
  let ⟨m, hn⟩ := I.ns; ⟨m, hn.at fun o e => k _ o (hmu _ O.muL) e⟩, fun x xa hx => let ⟨c, v, h1, h2⟩ := I.cells x xa hx; ⟨c, v, h1, hcell h1 h2⟩, fun y d e ky => ?_, I.slots,
  I.boxes.len, I.boxes.nodup, I.boxes.apart, I.boxes.high, fun n a d e1 e2 => (I.boxes.at' n a d e1 e2).mono hk (fun _ _ z => z) fun o z => k a o (hβ a (List.mem_of_getElem? e1)) z⟩
 ·refine Ze (I.wd.tab c P m) fun ps h1 h2 => ?_
  refine XR (O.gok.tabs c P m) fun hc hP _ => ?_;obtain ⟨o, vs, file, tf, flags, tg, inF, text, tt, op, q1, q2, q3, q4, q5, q6, q7, q8, q9⟩ := h1;obtain ⟨⟨o2, vs2, p1, p2⟩, p3⟩ := h2;exact ⟨ps, ⟨o, vs, file, tf, flags, tg, inF, text, tt, op, k _ _ (h0 hc) q1, q2, q3, q4, q5, q6, q7, k _ _ (h0 hP) q8, q9⟩, ⟨⟨o2, vs2, k _ _ (h0 hc) p1, p2⟩, k _ _ (h0 hP) p3⟩⟩
 ·refine Ze (I.vars y d e ky) fun v b r => ?_
  refine ⟨v, ?_, Rep.mono hk (fun _ _ z => z) r⟩;rcases b with ⟨k1, m, hn, hm⟩ | ⟨k1, c, hc, hv⟩
  ·exact .inl ⟨k1, m, hn.at fun o e => k _ o (hmu _ O.muL) e, hm⟩
  ·refine .inr ⟨k1, c, hc, ?_⟩
   refine Ze hv fun o e1 e2 => ?_;clear hv;exact ⟨o, k c o (W.nocell y c hc) e1, e2⟩
end
noncomputable abbrev Yr (I : Addr) (a : Addr) : Prop := a = I
noncomputable abbrev Zkh (z TI TO i1 i2 : Addr) (a : Addr) : Prop := a = z \/ a = TI \/ a = TO \/ a = i1 \/ a = i2
inductive Xj (G : GC) (C : Cx) (β : List Addr) (s : Shared) : (Addr -> Prop) -> Bool -> Value -> Src -> Prop
 | list {I a : Addr} {vs : Array Value} {n i : Nat} {ds : List V} : s.heap.IsListIter I a i -> s.heap.get? a = some (YO vs n) -> ¬ avB C.av β a -> Zd G (avB C.av β) β s.heap vs.toList ds ->
   Xj G C β s (Yr I) false (.ref I) (.seq (ds.drop i))
 | tup {I a : Addr} {vs : Array Value} {n i : Nat} {ds : List V} : s.heap.IsTupleIter I a i -> s.heap.get? a = some (Jm vs n) -> ¬ avB C.av β a -> Zd G (avB C.av β) β s.heap vs.toList ds ->
   Xj G C β s (Yr I) false (.ref I) (.seq (ds.drop i))
 | range {I : Addr} {x left : Int} : IsRangeIter s.heap I x left 1 -> 0 <= left -> Xj G C β s (Yr I) false (.ref I) (.seq ((List.range left.toNat).map fun (k : Nat) => .int (x + (k : Int))))
 | keys {I a : Addr} {kvs : List (Str × Value)} {ep i : Nat} : s.heap.IsKeyIter I a i kvs.length ep -> s.heap.DictAt (PySem.strKind G.prog G.w) a kvs ep -> ¬ avB C.av β a ->
   Xj G C β s (Yr I) false (.ref I) (.seq (((kvs.map (·.1)).drop i).map .str))
 | vals {I a : Addr} {kvs : List (Str × Value)} {ep i : Nat} {ds : List V} : s.heap.IsValIter I a i kvs.length ep -> s.heap.DictAt (PySem.strKind G.prog G.w) a kvs ep -> ¬ avB C.av β a ->
   Zd G (avB C.av β) β s.heap (kvs.map (·.2)) ds -> Xj G C β s (Yr I) false (.ref I) (.seq (ds.drop i))
 | items {I a : Addr} {kvs : List (Str × Value)} {ep i : Nat} {ok ov : Value} {ds : List V} : IsItemIter s.heap I a i kvs.length ep ok ov -> s.heap.DictAt (PySem.strKind G.prog G.w) a kvs ep -> ¬ avB C.av β a ->
   Zd G (avB C.av β) β s.heap (kvs.map (·.2)) ds -> Xj G C β s (Yr I) true (.ref I) (.seq ((((kvs.map (·.1)).zip ds).drop i).map fun p => .tup [.str p.1, p.2]))
 | str {I : Addr} {x : Str} {t : Tok} {i : Nat} : s.heap.IsStrIter I "str_ascii_iterator" x t i -> Xj G C β s (Yr I) false (.ref I) (.seq ((x.cps.toList.drop i).map fun c => .str ⟨#[c]⟩))
 | zip {z TI TO i1 i2 l1 l2 : Addr} {k n1 n2 : Nat} {xs ys : Array Value} {a b : Value} {ds es : List V} : ZipApart z TI TO i1 i2 l1 l2 -> IsZip s.heap z TI TO .none -> IsPair s.heap TI (.ref i1) (.ref i2) -> IsPair s.heap TO a b ->
   s.heap.IsListIter i1 l1 k -> s.heap.IsListIter i2 l2 k -> s.heap.get? l1 = some (YO xs n1) -> s.heap.get? l2 = some (YO ys n2) -> ¬ avB C.av β l1 -> ¬ avB C.av β l2 ->
   Zd G (avB C.av β) β s.heap xs.toList ds -> Zd G (avB C.av β) β s.heap ys.toList es ->
   Xj G C β s (Zkh z TI TO i1 i2) true (.ref z) (.seq (((ds.zip es).drop k).map fun p => .tup [p.1, p.2]))
 | box {I a : Addr} {n i : Nat} : s.heap.IsListIter I a i -> β[n]? = some a -> Xj G C β s (Yr I) false (.ref I) (.box n i)
structure YM (ow : Addr -> Prop) (s s' : Shared) : Prop where
 keep : ∀ b o, ¬ ow b -> s.heap.get? b = some o -> s'.heap.get? b = some o
 size : s.heap.objs.size <= s'.heap.objs.size
 gens : s'.gens = s.gens
 os : s'.os = s.os
structure KpO (ow : Addr -> Prop) (s s' : Shared) : Prop where
 keep : ∀ b o, ¬ ow b -> s.heap.get? b = some o -> s'.heap.get? b = some o
 gens : s'.gens = s.gens
 os : s'.os = s.os
section
variable {G : GC} {C : Cx} {β β' : List Addr} {B : List V} {σ : List (Option V)} {s s' : Shared} {H : Nat} {d : V} {v : Value} {b : Bool} {ds : List V} {ow : Addr -> Prop} {tp : Bool} {it : Value} {src : Src}
theorem Xa {h h' : Heap} {a : Addr} {kvs : List (Str × Value)} {ep : Nat} (x : h.DictAt (PySem.strKind G.prog G.w) a kvs ep) (e : ∀ o, h.get? a = some o -> h'.get? a = some o) : h'.DictAt (PySem.strKind G.prog G.w) a kvs ep :=
 let ⟨o, es, ho, r⟩ := x; ⟨o, es, e o ho, r⟩
theorem ZbM {h : Heap} {a : Addr} {kvs : List (Str × Value)} {ep : Nat} (x : h.DictAt (PySem.strKind G.prog G.w) a kvs ep) : ∃ o, h.get? a = some o :=
 let ⟨o, es, ho, r⟩ := x; ⟨o, ho⟩
theorem Xj.move {C' : Cx} (T : Xj G C β s ow tp it src) (hk : ∀ b o, s.heap.get? b = some o -> ¬ avB C.av β b -> s'.heap.get? b = some o /\ ¬ avB C'.av β' b) (hβ : ∀ (n : Nat) (a : Addr), β[n]? = some a -> β'[n]? = some a)
  (ho : ∀ b o, ow b -> s.heap.get? b = some o -> s'.heap.get? b = some o) : Xj G C' β' s' ow tp it src := by
 induction T with
 | list h1 h2 h3 h4 => exact .list (h1.at fun o e => ho _ o rfl e) (hk _ _ h2 h3).1 (hk _ _ h2 h3).2 (Zd.mono hk hβ h4)
 | tup h1 h2 h3 h4 => exact .tup (let ⟨o, e, r⟩ := h1; ⟨o, ho _ o rfl e, r⟩) (hk _ _ h2 h3).1 (hk _ _ h2 h3).2 (Zd.mono hk hβ h4)
 | range h1 h2 => exact .range (ho _ _ rfl h1) h2
 | keys h1 h2 h3 =>
  obtain ⟨o, e⟩ := ZbM h2;exact .keys (let ⟨o, e, r⟩ := h1; ⟨o, ho _ o rfl e, r⟩) (Xa h2 fun o e => (hk _ o e h3).1) (hk _ _ e h3).2
 | vals h1 h2 h3 h4 =>
  obtain ⟨o, e⟩ := ZbM h2;exact .vals (let ⟨o, e, r⟩ := h1; ⟨o, ho _ o rfl e, r⟩) (Xa h2 fun o e => (hk _ o e h3).1) (hk _ _ e h3).2 (Zd.mono hk hβ h4)
 | items h1 h2 h3 h4 =>
  obtain ⟨o, e⟩ := ZbM h2;exact .items (ho _ _ rfl h1) (Xa h2 fun o e => (hk _ o e h3).1) (hk _ _ e h3).2 (Zd.mono hk hβ h4)
 | str h1 => exact .str (let ⟨o, e, r⟩ := h1; ⟨o, ho _ o rfl e, r⟩)
 | zip D h1 h2 h3 h4 h5 h6 h7 h8 h9 h10 h11 =>
  exact .zip D (ho _ _ (.inl rfl) h1) (ho _ _ (.inr (.inl rfl)) h2) (ho _ _ (.inr (.inr (.inl rfl))) h3) (h4.at fun o e => ho _ o (.inr (.inr (.inr (.inl rfl)))) e) (h5.at fun o e => ho _ o (.inr (.inr (.inr (.inr rfl)))) e)
   (hk _ _ h6 h8).1 (hk _ _ h7 h9).1 (hk _ _ h6 h8).2 (hk _ _ h7 h9).2 (Zd.mono hk hβ h10) (Zd.mono hk hβ h11)
 | box h1 h2 => exact .box (h1.at fun o e => ho _ o rfl e) (hβ _ _ h2)
theorem Xj.adv (O : Zw G C) (W : XF G C ow) (I : Inv G C β B σ s) (T : Xj G C β s ow tp it src) (a : Adv G C.mu β s β' s') : Xj G C β' s' ow tp it src :=
 T.move (a.repKeep O O.muav) a.pre' fun b o h e => a.grow.keep b o e (by
  rintro (z | z)
  ·exact W.nomu b h z
  ·exact I.boxes.apart b z (W.sub b h)) fun ⟨c, z⟩ => by
   have h1 := (O.gok.tabs c b z).2.1;have h2 := W.high b h;exact absurd h1 (Nat.not_lt.mpr h2)
noncomputable def Ze1 (tp : Bool) (e : Expr) : Bool := Nat.beq e.ctorIdx 25 || (Nat.beq e.ctorIdx 23 && !tp)
theorem Zd7 {tp : Bool} {tgt : Expr} {P : Expr -> Prop} (h : Ze1 tp tgt = true) (h1 : tp = false -> ∀ n p, P (.Name n p)) (h2 : ∀ e k p, P (.Tuple e k p)) : P tgt := by
 cases tgt with
 | Name _ _ => exact h1 (by cases tp with | true => cases h | false => rfl) _ _
 | Tuple _ _ _ => exact h2 _ _ _
 | _ => first | exact nn h | cases h
theorem Znj {tgt : Expr} {I : Addr} {o : Obj} {n : String} {A : Around} {E : Value -> Shared -> Prop} {Q : Unit -> Shared -> Prop} (ht : Ze1 false tgt = true) (ho : s.heap.get? I = some o) (hc : o.cls = .type n)
  (hn : ["enumerate", "zip", "dict_itemiterator", "dict_reverseitemiterator", "odict_iterator", "itertools.zip_longest", "itertools.pairwise"].contains n = false) (h : Q () s) :
  wpAny (model G.prog G.w) A (letOwnedTupleGo tgt (.ref I) v) Q E s := by
 refine Zd7 (P := fun tgt => wpAny (model G.prog G.w) A (letOwnedTupleGo tgt (.ref I) v) Q E s) ht (fun _ _ _ => wpAny_pure h) fun elts k pos => ?_
 ·clear ht
  unfold letOwnedTupleGo
  cases v with
  | ref a =>
   refine wpAny_bind (wpAny_load ho ?_);obtain ⟨c, dd, dt, sl⟩ := o;simp only at hc;subst hc
   cases dt with
   | fields vs =>
    show wpAny _ _ (if (["enumerate", "zip", "dict_itemiterator", "dict_reverseitemiterator", "odict_iterator", "itertools.zip_longest", "itertools.pairwise"].contains n && vs[0]? == some (rawInt a)) = true then _ else _) _ _ _;rw [hn, Bool.false_and, if_neg (by simp)];exact wpAny_pure h
   | _ => exact wpAny_pure h
  | _ => exact wpAny_pure h
noncomputable def Ze7 (G : GC) (C : Cx) (β : List Addr) (A : Around) (s : Shared) (ow : Addr -> Prop) (tp : Bool) (it : Value) (src : Src) (r : Option V) (q : Option Value) (s'1 : Shared) : Prop :=
 match q, r with
 | none, none => YM ow s s'1
 | some v, some x => ∀ tgt, Ze1 tp tgt = true -> Ok G.prog G.w A (letOwnedTupleGo tgt it v) s'1 fun _ s'2 => YM ow s s'2 /\ Rep G (avB C.av β) β s'2.heap v x /\ Xj G C β s'2 ow tp it src.adv
 | _, _ => False
theorem ZoR {A : Around} {t : Sem (Option Value)} {P : Option Value -> Shared -> Prop} (h : Ok G.prog G.w A t s fun q s'1 => KpO ow s s'1 /\ P q s'1) : Ok G.prog G.w A t s fun q s'1 => YM ow s s'1 /\ P q s'1 :=
 h.size.mono fun q s'1 ⟨z, k, p⟩ => ⟨⟨k.keep, z, k.gens, k.os⟩, p⟩
theorem J0 {α : Type} {l : List α} {i : Nat} {x : α} (h : l[i]? = some x) : l.drop i = x :: l.drop (i + 1) := by
 obtain ⟨h1, h2⟩ := List.getElem?_eq_some_iff.mp h;rw [List.drop_eq_getElem_cons h1, h2]
theorem drop_nil {α : Type} {l : List α} {i : Nat} (h : l[i]? = none) : l.drop i = [] := List.drop_eq_nil_of_le (List.getElem?_eq_none_iff.mp h)
theorem Zdx {a : Addr} {h h' : Heap} (x : Heap.SameBut a h h') : h.objs.size <= h'.objs.size := by rw [x.1]; exact Nat.le_refl _
theorem ZbO {A : Around} (h : ∀ E, wpAny (model G.prog G.w) A (pyNext it) (fun q s'1 => KpO ow s s'1 /\ q = none) E s) : Ok G.prog G.w A (pyNext it) s (Ze7 G C β A s ow tp it src none) :=
 (ZoR (P := fun q s'1 => q = none) h).mono fun q s'1 ⟨S, e⟩ => by rw [e]; exact S
theorem Zc4 {A : Around} {J : Addr} {s'1 : Shared} {n : String} {o : Obj} {x : V} (S : YM (Yr J) s s'1) (ho : s'1.heap.get? J = some o) (hc : o.cls = .type n)
  (hn : ["enumerate", "zip", "dict_itemiterator", "dict_reverseitemiterator", "odict_iterator", "itertools.zip_longest", "itertools.pairwise"].contains n = false) (r : Rep G (avB C.av β) β s'1.heap v x) (T : Xj G C β s'1 (Yr J) false (.ref J) src.adv) :
  Ze7 G C β A s (Yr J) false (.ref J) src (some x) (some v) s'1 := fun tgt ht E => Znj ht ho hc hn ⟨S, r, T⟩
theorem Zjw {k : Str} {key : Value} (h : Value.isStrOf k key = true) : ∃ t, key = .str k t := by
 unfold Value.isStrOf at h
 split at h
 ·exact ⟨_, congrArg (Value.str · _) (eq_of_beq h)⟩
 ·first | exact nn h | cases h
theorem Zce {α β : Type} {vs : Array α} {ds : List β} {i : Nat} (hl : vs.toList.length = ds.length) (hd : ds[i]? = none) : vs[i]? = none :=
 Array.getElem?_eq_none_iff.mpr (by rw [<- Array.length_toList, hl]; exact List.getElem?_eq_none_iff.mp hd)
theorem Zcy (O : Zw G C) {A : Around} (hA : AOk H A) (I : Inv G C β B σ s) (W : XF G C ow) (T : Xj G C β s ow tp it src) {r : Option V} (hr : src.at B = some r) :
  Ok G.prog G.w A (pyNext it) s (Ze7 G C β A s ow tp it src r) := by
 have one : ∀ {J : Addr} {h' : Heap} {tk : Nat}, Heap.SameBut J s.heap h' -> YM (Yr J) s { s with heap := h', toks := tk } := fun hs => ⟨fun b o n e => (hs.2 b n).trans e, Zdx hs, rfl, rfl⟩;have kp : ∀ {J : Addr} {h' : Heap}, (∀ b o, b ≠ J -> s.heap.get? b = some o -> h'.get? b = some o) -> KpO (Yr J) s { s with heap := h' } := fun he => ⟨fun b o n e => he b o n e, rfl, rfl⟩;have rk : ∀ {s'1 : Shared}, YM ow s s'1 -> ∀ b o, s.heap.get? b = some o -> ¬ avB C.av β b -> s'1.heap.get? b = some o /\ ¬ avB C.av β b := fun S b o e n => ⟨S.keep b o (fun z => n (.inl (W.sub b z))) e, n⟩;have idβ : ∀ (n : Nat) (a : Addr), β[n]? = some a -> β[n]? = some a := fun _ _ z => z;have hh := hA.handled;have fr := I.fresh (Nat.le_refl _);have bx := I.boxes;clear hA O I
 induction T with
 | @list J a vs n i ds h1 h2 h3 h4 =>
  rw [<- Option.some.inj hr]
  cases hd : ds[i]? with
  | none =>
   rw [drop_nil hd];exact ZbO fun E => wpAny_pyNext_list_end hh h1 (Rep.isList h2) (Zce h4.length hd) fun h' he => ⟨kp he, rfl⟩
  | some x =>
   rw [J0 hd];refine Ze (h4.get hd) fun y hy ry => ?_;intro E;refine wpAny_pyNext_list_item h1 (Rep.isList h2) (x := y) (Array.getElem?_toList.symm.trans hy) fun h' hi' hs => ?_;have S := one (tk := s.toks) hs;refine Xn (id hi') fun o ho hc _ => ?_;exact Zc4 S ho hc (by decide) (Rep.mono (rk S) idβ ry) (.list hi' (rk S _ _ h2 h3).1 h3 (Zd.mono (rk S) idβ h4))
 | @tup J a vs n i ds h1 h2 h3 h4 =>
  rw [<- Option.some.inj hr]
  cases hd : ds[i]? with
  | none =>
   rw [drop_nil hd];exact ZbO fun E => wpAny_pyNext_tuple_end hh h1 (Rep.isTuple h2) (Zce h4.length hd) fun h' he => ⟨kp he, rfl⟩
  | some x =>
   rw [J0 hd];refine Ze (h4.get hd) fun y hy ry => ?_;intro E;refine wpAny_pyNext_tuple_item h1 (Rep.isTuple h2) (x := y) (Array.getElem?_toList.symm.trans hy) fun h' hi' hs => ?_;have S := one (tk := s.toks) hs;refine Xn (id hi') fun o ho hc _ => ?_;exact Zc4 S ho hc (by decide) (Rep.mono (rk S) idβ ry) (.tup hi' (rk S _ _ h2 h3).1 h3 (Zd.mono (rk S) idβ h4))
 | @range J x left h1 h2 =>
  rw [<- Option.some.inj hr]
  by_cases hl : 0 < left
  ·obtain ⟨m, hm⟩ : ∃ m : Nat, left = m + 1 := ⟨(left - 1).toNat, by omega⟩
   have e2 : ((List.range left.toNat).map fun (k : Nat) => V.int (x + (k : Int))) = .int x :: (List.range (left - 1).toNat).map fun (k : Nat) => V.int (x + 1 + (k : Int)) := by
    rw [hm, Int.add_sub_cancel, Int.toNat_natCast];show (List.range (m + 1)).map _ = _;rw [List.range_succ_eq_map, List.map_cons, List.map_map];refine congr (congrArg _ (congrArg V.int (Int.add_zero x))) (List.map_congr_left fun k _ => congrArg V.int ?_);rw [Int.add_assoc, Int.add_comm 1]; rfl
   rw [e2];intro E;refine wpAny_pyNext_range_item h1 hl fun h' hi' hs => ?_;have S := one (tk := s.toks + 1) hs;exact Zc4 S hi' rfl (by decide) (.int _ _) (.range hi' (Int.le_sub_one_of_lt hl))
  ·have h0 : left = 0 := Int.le_antisymm (Int.not_lt.mp hl) h2
   rw [h0] at h1 ⊢;exact ZbO fun E => wpAny_pyNext_range_end hh h1 (Int.le_refl _) fun h' he => ⟨kp he, rfl⟩
 | @keys J a kvs ep i h1 h2 h3 =>
  rw [<- Option.some.inj hr]
  cases hd : kvs[i]? with
  | none =>
   rw [drop_nil (show (kvs.map (·.1))[i]? = none by rw [List.getElem?_map, hd]; rfl)];exact ZbO fun E => wpAny_pyNext_dict_end hh h1 h2 hd fun h' he => ⟨kp he, rfl⟩
  | some p =>
   obtain ⟨k, y⟩ := p;rw [J0 (show (kvs.map (·.1))[i]? = some k by rw [List.getElem?_map, hd]; rfl)];intro E;refine wpAny_pyNext_dict_item h1 h2 hd fun key h' hk hi' hs => ?_;have S := one (tk := s.toks) hs;refine Xn (id hi') fun o ho hc _ => ?_;obtain ⟨t, hkey⟩ := Zjw hk;rw [hkey];exact Zc4 S ho hc (by decide) (.str _ _) (.keys hi' (Xa h2 fun o e => (rk S _ _ e h3).1) h3)
 | @vals J a kvs ep i ds h1 h2 h3 h4 =>
  rw [<- Option.some.inj hr];rcases h4.both i with ⟨g1, g2⟩ | ⟨y, x, g1, g2, rx⟩
  ·rw [drop_nil g2]
   rw [List.getElem?_map] at g1;exact ZbO fun E => wpAny_pyNext_values_end hh h1 h2 (Option.map_eq_none_iff.mp g1) fun h' he => ⟨kp he, rfl⟩
  ·rw [J0 g2]
   rw [List.getElem?_map] at g1;obtain ⟨⟨k, y'⟩, hd, hy⟩ := Option.map_eq_some_iff.mp g1;intro E;refine wpAny_pyNext_values_item h1 h2 hd fun h' hi' hs => ?_;have S := one (tk := s.toks) hs;refine Xn (id hi') fun o ho hc _ => ?_;rw [<- hy] at rx;exact Zc4 S ho hc (by decide) (Rep.mono (rk S) idβ rx) (.vals hi' (Xa h2 fun o e => (rk S _ _ e h3).1) h3 (Zd.mono (rk S) idβ h4))
 | @items J a kvs ep i ok ov ds h1 h2 h3 h4 =>
  rw [<- Option.some.inj hr];rcases h4.both i with ⟨g1, g2⟩ | ⟨y, x, g1, g2, rx⟩ <;> rw [List.getElem?_map] at g1
  ·rw [drop_nil (show ((kvs.map (·.1)).zip ds)[i]? = none from List.getElem?_eq_none_iff.mpr (by rw [List.length_zip]; exact Nat.le_trans (Nat.min_le_right _ _) (List.getElem?_eq_none_iff.mp g2)))]
   exact ZbO fun E => wpAny_pyNext_items_end hh h1 h2 (Option.map_eq_none_iff.mp g1) fun h' he => ⟨kp he, rfl⟩
  ·obtain ⟨⟨k, y'⟩, hd, hy⟩ := Option.map_eq_some_iff.mp g1
   rw [J0 (show ((kvs.map (·.1)).zip ds)[i]? = some (k, x) from List.getElem?_zip_eq_some.mpr ⟨by rw [List.getElem?_map, hd]; rfl, g2⟩)];rw [<- hy] at rx;intro E;refine wpAny_pyNext_items_item h1 h2 hd fun key h' hk hi' ht' hz hs => ?_;intro tgt ht E;obtain ⟨t, hkey⟩ := Zjw hk;rw [hkey] at ht' hi';refine Zd7 (P := fun tgt => wpAny (model G.prog G.w) A (letOwnedTupleGo tgt _ _) _ E _) ht (fun z => nomatch z) fun elts kk pos => wpAny_letOwnedTupleGo_items hi' fun h'' hi'' hs'' => ?_;have hJ : J ≠ s.heap.objs.size := Nat.ne_of_lt (Heap.lt_size h1);have S : YM (Yr J) s { s with heap := h'' } := ⟨fun b o n e => (hs''.2 b n).trans (hs b o n e), by show s.heap.objs.size <= h''.objs.size; rw [hs''.1, hz]; exact Nat.le_succ _, rfl, rfl⟩;exact ⟨S, .tup ((hs''.2 _ (Ne.symm hJ)).trans ht') fr (.cons (.str _ _) (.cons (Rep.mono (rk S) idβ rx) .nil)), .items hi'' (Xa h2 fun o e => (rk S _ _ e h3).1) h3 (Zd.mono (rk S) idβ h4)⟩
 | @str J x t i h1 =>
  rw [<- Option.some.inj hr]
  cases hd : x.cps[i]? with
  | none =>
   rw [drop_nil (Array.getElem?_toList.trans hd)];exact ZbO fun E => wpAny_pyNext_ascii_end hh h1 hd fun h' he => ⟨kp he, rfl⟩
  | some c =>
   rw [J0 (Array.getElem?_toList.trans hd)];intro E;refine wpAny_pyNext_ascii_item h1 hd fun h' hi' hs => ?_;have S := one (tk := s.toks + 1) hs;refine Xn (id hi') fun o ho hc _ => ?_;exact Zc4 S ho hc (by decide) (.str _ _) (.str hi')
 | @zip z TI TO i1 i2 l1 l2 k n1 n2 xs ys a b ds es D h1 h2 h3 h4 h5 h6 h7 h8 h9 h10 h11 =>
  rw [<- Option.some.inj hr]
  cases hd : (ds.zip es)[k]? with
  | none =>
   rw [drop_nil hd]
   have hn : xs[k]? = none \/ ys[k]? = none := by
    rw [List.getElem?_eq_none_iff, List.length_zip] at hd;exact (Nat.le_total ds.length es.length).imp (fun h => Zce h10.length (List.getElem?_eq_none_iff.mpr (by rw [Nat.min_eq_left h] at hd; exact hd))) fun h => Zce h11.length (List.getElem?_eq_none_iff.mpr (by rw [Nat.min_eq_right h] at hd; exact hd))
   exact ZbO fun E => wpAny_pyNext_zip_end hh D h1 h2 h3 h4 h5 (Rep.isList h6) (Rep.isList h7) hn fun h' he =>
    ⟨⟨fun b o (n : ¬ Zkh z TI TO i1 i2 b) e => he b o (fun w => n (Or.inl w)) (fun w => n (Or.inr (Or.inr (Or.inl w)))) (fun w => n (Or.inr (Or.inr (Or.inr (Or.inl w))))) (fun w => n (Or.inr (Or.inr (Or.inr (Or.inr w))))) e, rfl, rfl⟩, rfl⟩
  | some p =>
   obtain ⟨x, y⟩ := p;rw [J0 hd];obtain ⟨hx, hy⟩ := List.getElem?_zip_eq_some.mp hd;refine Ze (h10.get hx) fun vx hvx rx => ?_;refine Ze (h11.get hy) fun vy hvy ry => ?_;intro E;refine wpAny_pyNext_zip_item D h1 h2 h3 h4 h5 (Rep.isList h6) (Rep.isList h7) (x := vx) (y := vy) (Array.getElem?_toList.symm.trans hvx) (Array.getElem?_toList.symm.trans hvy) fun h' z1 z2 z3 z4 z5 z6 z7 => ?_;intro tgt ht E;refine Zd7 (P := fun tgt => wpAny (model G.prog G.w) A (letOwnedTupleGo tgt _ _) _ E _) ht (fun z => nomatch z) fun elts kk pos => wpAny_letOwnedTupleGo_zip z1 fun h'' hi'' hs'' => ?_;have hz : s.heap.objs.size ≠ z := fun w => Nat.lt_irrefl _ (w ▸ Heap.lt_size h1)
   have S : YM (Zkh z TI TO i1 i2) s { s with heap := h'' } :=
    ⟨fun b o n e => (hs''.2 b (fun w => n (.inl w))).trans (z7 b o (fun w => n (.inl w)) (fun w => n (.inr (.inr (.inl w)))) (fun w => n (.inr (.inr (.inr (.inl w))))) (fun w => n (.inr (.inr (.inr (.inr w))))) e),
     by show s.heap.objs.size <= h''.objs.size; rw [hs''.1, z6]; exact Nat.le_succ _, rfl, rfl⟩
   have hTI : IsPair h'' TI (.ref i1) (.ref i2) := (hs''.2 _ D.TIz).trans (z7 _ _ D.TIz D.TITO D.TIi1 D.TIi2 h2)
   exact ⟨S, .tup ((hs''.2 _ hz).trans z5) fr (.cons (Rep.mono (rk S) idβ rx) (.cons (Rep.mono (rk S) idβ ry) .nil)),
    .zip D hi'' hTI ((hs''.2 _ D.TOz).trans z2) (z3.extBut hs''.extBut D.i1z) (z4.extBut hs''.extBut D.i2z) (rk S _ _ h6 h8).1 (rk S _ _ h7 h9).1 h8 h9 (Zd.mono (rk S) idβ h10) (Zd.mono (rk S) idβ h11)⟩
 | @box J a n i h1 h2 =>
  unfold Src.at at hr
  cases hc : B[n]? with
  | none => simp only [hc] at hr; cases hr
  | some d =>
   have X := (bx.at' _ _ _ h2 hc).sh;simp only [hc] at hr
   cases d with
   | list ys =>
    refine YU X fun vs m e4 h4 => ?_;clear X;have hr : ys[i]? = r := Option.some.inj hr
    cases r with
    | none => exact ZbO fun E => wpAny_pyNext_list_end hh h1 (Rep.isList e4) (Zce h4.length hr) fun h' he => ⟨kp he, rfl⟩
    | some x =>
     refine Ze (h4.get hr) fun y hy ry => ?_;intro E;refine wpAny_pyNext_list_item h1 (Rep.isList e4) (x := y) (Array.getElem?_toList.symm.trans hy) fun h' hi' hs => ?_;have S := one (tk := s.toks) hs;refine Xn (id hi') fun o ho hc _ => ?_;exact Zc4 S ho hc (by decide) (Rep.mono (rk S) idβ ry) (.box hi' h2)
   | _ => first | exact nn hr | cases hr
end
noncomputable def X3 (e : Expr) : Bool := !(Nat.beq e.ctorIdx 16)
theorem Zhw {o : Expr} {nm : Str} {env : Env} {t : Sem Value} (h : X3 o = true) : attributeBase o nm env t = t := by
 cases o <;> first | rfl | cases h
section
variable {G : GC} {C : Cx} {β β' : List Addr} {B B' B₁ B₂ B3 : List V} {σ : List (Option V)} {s s' s'' : Shared} {H : Nat} {d d₁ : V} {v : Value} {b : Bool} {ds : List V} {ow : Addr -> Prop} {tp : Bool} {it : Value} {src : Src}
noncomputable def Zha (s : Shared) (v : Value) (T : String) : Prop := s.TypeIs v T /\ ∀ a, v = .ref a -> ∃ ob, s.heap.get? a = some ob /\ ob.dict = none
theorem Zdl (O : Zw G C) {o : Expr} {nm : Str} {apos pos : Pos} {es : List Expr} {T id : String} {A : Around} {E : Value -> Shared -> Prop} {Q : Value -> Shared -> Prop}
  (hA : AOk H A) (I : Inv G C β B σ s) (hb : X3 o = true) (hl : (apos.endLine == pos.line) = true)
  (hP : PlainAttrs T) (hS : PySem.Slot T nm id) (hT : typeOf (.builtin id) = pure (.type "method_descriptor")) (h1 : Yu G H C σ B (eval o C.env) d₁ B₁)
  (hty : ∀ β s v, Inv G C β B₁ σ s -> Rep G (avB C.av β) β s.heap v d₁ -> Zha s v T) (R : Row G H C σ B₁ es ds B₂) (hn : es.length < 29)
  (k : ∀ β' s' v vs, Adv G C.mu β s β' s' -> Inv G C β' B₂ σ s' -> Rep G (avB C.av β') β' s'.heap v d₁ -> Zd G (avB C.av β') β' s'.heap vs ds -> wpAny (model G.prog G.w) A (call (.builtin id) (v :: vs)) Q E s') :
  wpAny (model G.prog G.w) A (eval (.Call (.Attribute o nm apos) es [] pos) C.env) Q E s := by
 refine wpAny_Call_method (T := T) (id := id) (Zhw hb) ?_ hl hP hS hT ?_
 ·rw [R.all]
  show (true && true && decide (es.length + 0 + 0 < 30)) = true
  simpa using (by omega : es.length < 30)
 ·refine (h1 A β s hA I).t3 fun v s'1 β1 a'1 i'1 r'1 => ?_
  obtain ⟨t1, t2⟩ := hty β1 s'1 v i'1 r'1;refine ⟨t1, t2, Calls.callWith_builtin R.plain ?_⟩
  cases R with
  | nil => exact PyProof.Rows.evalArgs_none (k β1 s'1 v [] a'1 i'1 r'1 .nil)
  | cons _ B1 _ e es' d' ds' hn' h1' hr =>
   have := (Row.cons B₁ B1 B₂ e es' d' ds' hn' h1' hr).evs O (pos := pos) A β1 s'1 hA i'1;rw [ZL hn', Yh] at this ⊢;exact evalArgs_plain (this.t3 fun vs s'2 β2 a'2 i'2 r'2 => k β2 s'2 v vs (a'1.trans a'2) i'2 (a'2.e O r'1) r'2)
theorem Zp7 (O : Zw G C) {o : Expr} {nm : Str} {apos pos : Pos} {es : List Expr} {T id : String} (hb : X3 o = true) (hl : (apos.endLine == pos.line) = true)
  (hP : PlainAttrs T) (hS : PySem.Slot T nm id) (hT : typeOf (.builtin id) = pure (.type "method_descriptor")) (h1 : Yu G H C σ B (eval o C.env) d₁ B₁)
  (hty : ∀ β s v, Inv G C β B₁ σ s -> Rep G (avB C.av β) β s.heap v d₁ -> Zha s v T) (R : Row G H C σ B₁ es ds B₂) (hn : es.length < 29)
  (h : OpN G H B₂ B3 (fun vs => call (.builtin id) vs) (d₁ :: ds) d) : Yu G H C σ B (eval (.Call (.Attribute o nm apos) es [] pos) C.env) d B3 := fun A β s hA I E =>
 Zdl O hA I hb hl hP hS hT h1 hty R hn fun β' s' v vs a i r rs => (h C σ A β' s' (v :: vs) O hA i (.cons r rs)).to fun x s'2 q => q.from a
theorem Zqy {xs : List V} (h : Zx B d = some xs) : ∀ β s v, Inv G C β B σ s -> Rep G (avB C.av β) β s.heap v d -> Zha s v "list" := fun β s v I r => by
 refine Y7 (Y1 I r h) fun a vs n z_3 e q => ?_;subst z_3;exact ⟨(Rep.isList e).typeIs, fun a' e' => by cases e'; exact ⟨_, e, rfl⟩⟩
theorem ZeI {ks : List Str} (h : Jl B d = some (ks, ds)) : ∀ β s v, Inv G C β B σ s -> Rep G (avB C.av β) β s.heap v d -> Zha s v "dict" := fun β s v I r => by
 refine JQ (Zbi I r h) fun a kvs z_2 e hs hk q => ?_;subst z_2;exact ⟨e.typeIs, e.mapOf.noDict⟩
theorem Zm9 {x : Str} : ∀ β s v, Inv G C β B σ s -> Rep G (avB C.av β) β s.heap v (.str x) -> Zha s v "str" := fun β s v I r => by
 obtain ⟨t, rfl⟩ := Z9 r;exact ⟨typeIs_str s x t, fun a e => by cases e⟩
noncomputable def Zc1 (G : GC) (C : Cx) (β : List Addr) (σ : List (Option V)) (s : Shared) (src : Src) (tp : Bool) (B' : List V) (it : Value) (s' : Shared) : Prop :=
 ∃ β' ow, Adv G C.mu β s β' s' /\ (∀ a, ow a -> s.heap.objs.size <= a) /\ Inv G (C.more ow) β' B' σ s' /\ XF G (C.more ow) ow /\ Xj G (C.more ow) β' s' ow tp it src
noncomputable def Ziw (G : GC) (H : Nat) (C : Cx) (σ : List (Option V)) (B : List V) (t : Sem Value) (src : Src) (tp : Bool) (B' : List V) : Prop :=
 ∀ A β s, AOk H A -> Inv G C β B σ s -> Ok G.prog G.w A t s fun x s'1 => Ok G.prog G.w A (pyIter x) s'1 (Zc1 G C β σ s src tp B')
theorem Zc1.from (x : Adv G C.mu β s β' s') (y : Zc1 G C β' σ s' src tp B' it s'') : Zc1 G C β σ s src tp B' it s'' :=
 let ⟨β'', ow, a, h, r⟩ := y; ⟨β'', ow, x.trans a, fun q z => Nat.le_trans x.grow.size (h q z), r⟩
theorem Inv.H0 (O : Zw G C) (I : Inv G C β B σ s) : G.H0.objs.size <= s.heap.objs.size := by
 obtain ⟨m, hm⟩ := I.ns;exact Nat.le_of_lt (Nat.lt_of_le_of_lt (O.mu0 _ O.muL) hm.lt)
theorem ZeK (O : Zw G C) (I : Inv G C β B σ s) (h : ∀ a, ow a -> s.heap.objs.size <= a) : XF G (C.more ow) ow :=
 ⟨fun a z => .inr z, fun a z m => absurd (I.low a (O.muav a m)) (Nat.not_lt.mpr (h a z)), fun a z => Nat.le_trans (I.H0 O) (h a z),
  fun x c hc z => absurd (I.low c (O.cellav x c hc)) (Nat.not_lt.mpr (h c z))⟩
theorem Zca (O : Zw G C) (I : Inv G C β B σ s) {o : Obj} {tk : Nat} (T : Xj G (C.more (Yr s.heap.objs.size)) β { s with heap := s.heap.push o, toks := tk } (Yr s.heap.objs.size) tp it src) :
  Zc1 G C β σ s src tp B it { s with heap := s.heap.push o, toks := tk } := by
 have x : Ext s { s with heap := s.heap.push o, toks := tk } := (Ext.push s o).trans (Ext.toks _ _);have h : ∀ a, Yr s.heap.objs.size a -> s.heap.objs.size <= a := fun a z => Nat.le_of_eq z.symm;exact ⟨β, Yr s.heap.objs.size, .ofExt x, h, I.more x fun a z => ⟨h a z, by show a < (s.heap.push o).objs.size; rw [Heap.size_push]; exact z ▸ Nat.lt_succ_self _⟩, ZeK O I h, T⟩
theorem Xu (I : Inv G C β B σ s) (o : Obj) : ∀ q o', s.heap.get? q = some o' -> ¬ avB C.av β q -> (s.heap.push o).get? q = some o' /\ ¬ avB (C.more (Yr s.heap.objs.size)).av β q := fun q o' e n =>
 ⟨Heap.get?_push_of_some _ e, by
  rintro ((z | z) | z)
  ·exact n (.inl z)
  ·exact Nat.lt_irrefl _ (z ▸ Heap.lt_size e)
  ·exact n (.inr z)⟩
noncomputable def Zc5 (a b : Int) : Bool := decide (-1000000000 <= a) && decide (a <= 1000000000) && decide (-1000000000 <= b) && decide (b <= 1000000000)
theorem ZhP {a b : Int} (h : Zc5 a b = true) : Builtin.Range.small a b 1 = true /\ Builtin.Range.rangeSize a b 1 = if a < b then b - a else 0 := by
 simp only [Zc5, Bool.and_eq_true, decide_eq_true_eq] at h
 have hs : Builtin.Range.rangeSize a b 1 = if a < b then b - a else 0 := by
  unfold Builtin.Range.rangeSize;rw [if_pos (by decide)]
  split
  ·rw [Int.ediv_one]; omega
  ·rfl
 refine ⟨?_, hs⟩;unfold Builtin.Range.small;rw [hs];unfold Builtin.Range.rangeFitsLong
 split <;> simp <;> omega
noncomputable def Zaf (B : List V) : V -> Option Src
 | .list xs => some (.seq xs)
 | .box n => match B[n]? with
  | some (.list _) => some (.box n 0)
  | _ => none
 | .tup xs => some (.seq xs)
 | .range a b => if Zc5 a b then some (.seq ((List.range (b - a).toNat).map fun (k : Nat) => .int (a + (k : Int)))) else none
 | .dict ks _ => some (.seq (ks.map .str))
 | .str x => if x.cps.all (· < 128) then some (.seq (x.cps.toList.map fun c => .str ⟨#[c]⟩)) else none
 | _ => none
theorem Zek (n l1 l2 : Nat) (h1 : l1 < n) (h2 : l2 < n) : ZipApart (n + 4) (n + 2) (n + 3) n (n + 1) l1 l2 := by
 constructor <;> (intro h; simp only [Addr] at h; omega)
theorem Zpd (n a : Nat) (h : Zkh (n + 4) (n + 2) (n + 3) n (n + 1) a) : n <= a /\ a < n + 5 := by
 rcases h with h | h | h | h | h <;> (simp only [Addr] at h; omega)
set_option tactic.hygienic true in
theorem Zlj (O : Zw G C) {A : Around} (I : Inv G C β B σ s) (r : Rep G (avB C.av β) β s.heap v d) (h : Zaf B d = some src) : Ok G.prog G.w A (pyIter v) s (Zc1 G C β σ s src false B) := by
 intro E;have S := r.sh;have B0 := I.boxes;clear r
 cases d with
 | list xs =>
  refine Xs S fun a vs m ev e n r => ?_;rw [ev, <- Option.some.inj h];refine wpAny_pyIter_list (Rep.isList e) (Zca (tk := s.toks) O I ?_);exact Xj.list (i := 0) ⟨_, Heap.get?_push_size _ rfl, rfl, rfl⟩ (Xu I _ _ _ e n).1 (Xu I { cls := .none } _ _ e n).2 (Zd.mono (Xu I _) (fun _ _ z => z) r)
 | tup xs =>
  refine Xs S fun a vs m ev e n r => ?_;rw [ev, <- Option.some.inj h];refine wpAny_pyIter_tuple (Rep.isTuple e) (Zca (tk := s.toks) O I ?_);exact Xj.tup (i := 0) ⟨_, Heap.get?_push_size _ rfl, rfl, rfl⟩ (Xu I _ _ _ e n).1 (Xu I { cls := .none } _ _ e n).2 (Zd.mono (Xu I _) (fun _ _ z => z) r)
 | range lo hi =>
  refine Zlp S fun a t u w ev x n => ?_;rw [ev];unfold Zaf at h;dsimp only at h
  split at h
  ·rename_i hs
   rw [<- Option.some.inj h];have hsm := ZhP hs;refine wpAny_pyIter_range x hsm.1 (Zca (tk := s.toks) O I ?_);have hz : (if lo < hi then hi - lo else 0) = (((hi - lo).toNat : Nat) : Int) := by split <;> omega
   rw [hsm.2, hz]
   have := Xj.range (G := G) (C := C.more (Yr s.heap.objs.size)) (β := β) (s := { s with heap := s.heap.push { cls := .type "range_iterator", data := .fields #[rawInt lo, rawInt (((hi - lo).toNat : Nat) : Int), rawInt 1] } })
    (I := s.heap.objs.size) (x := lo) (left := (((hi - lo).toNat : Nat) : Int)) (Heap.get?_push_size _ rfl) (Int.natCast_nonneg _)
   rw [Int.toNat_natCast] at this;exact this
  ·exact nn h
 | dict ks ds =>
  refine ZbT S fun a kvs ev x hs n e r => ?_;rw [ev, <- Option.some.inj h];obtain ⟨ep, hd⟩ := x.dictAt;obtain ⟨o, ho⟩ := XV x;refine wpAny_pyIter_dict hs hd (Zca (tk := s.toks) O I ?_);rw [<- e];exact Xj.keys (i := 0) ⟨_, Heap.get?_push_size _ rfl, rfl, rfl⟩ (Xa hd fun o e => Heap.get?_push_of_some _ e) (Xu I { cls := .none } _ _ ho n).2
 | str x =>
  obtain ⟨t, ev⟩ := S;rw [ev];unfold Zaf at h;dsimp only at h
  split at h
  ·rename_i hs
   rw [<- Option.some.inj h];refine wpAny_pyIter_ascii hs (Zca (tk := s.toks) O I ?_);exact Xj.str (i := 0) ⟨_, Heap.get?_push_size _ rfl, rfl, rfl⟩
  ·exact nn h
 | box n =>
  obtain ⟨a, ev, e⟩ := S;rw [ev];unfold Zaf at h;dsimp only at h
  split at h
  ·rename_i ys hB
   rw [<- Option.some.inj h];obtain ⟨vs, m, e4, h4⟩ := (B0.at' _ _ _ e hB).sh;exact wpAny_pyIter_list (Rep.isList e4) (Zca (tk := s.toks) O I (Xj.box ⟨_, Heap.get?_push_size _ rfl, rfl, rfl⟩ e))
  ·exact nn h
 | _ => exact nn h
theorem Zst (O : Zw G C) {t : Sem Value} (h : Yu G H C σ B t d B₁) (hs : Zaf B₁ d = some src) : Ziw G H C σ B t src false B₁ := fun A β s hA I =>
 (h A β s hA I).mono fun v s'1 ⟨β1, a'1, i'1, r'1⟩ => (Zlj O i'1 r'1 hs).mono fun it s'2 p => p.from a'1
theorem Znz (O : Zw G C) {o : Expr} {apos pos : Pos} {ks : List Str} (hb : X3 o = true) (hl : (apos.endLine == pos.line) = true) (h : Yu G H C σ B (eval o C.env) (.dict ks ds) B₁) :
  Ziw G H C σ B (eval (.Call (.Attribute o "items" apos) [] [] pos) C.env) (.seq ((ks.zip ds).map fun p => .tup [.str p.1, p.2])) true B₁ := fun A β s hA I E =>
 Zdl O hA I hb hl PySem.F.plainAttrs_dict PySem.F.slot_dict_items PySem.F.type_dict_items h (ZeI (by rfl)) (.nil B₁) (by decide) fun β1 s'1 v vs a'1 i'1 r'1 rs => by
  rw [rs.sh.1 rfl];refine ZbT r'1.sh fun a kvs ev x hs n e r => ?_;rw [ev];clear r'1 rs;subst e;obtain ⟨o', ho'⟩ := XV x;refine call_meetsIn PySem.F.slot_dict_items x.typeIs PySem.F.entry_dict_items (PySem.F.args_dict_items_1 _) (meets_dict_items (PySem.strKind G.prog G.w) a hs) ⟨⟨kvs, x⟩, fun E' => ?_⟩;have x1 := Ext.push s'1 { cls := .type "dict_items", data := .fields #[.ref a] };have i2 := i'1.ext x1;obtain ⟨ep, hd⟩ := (x.push { cls := .type "dict_items", data := .fields #[.ref a] }).dictAt;refine wpAny_pyIter_items (knd := PySem.strKind G.prog G.w) (d := a) (kvs := kvs) (ep := ep) ⟨_, Heap.get?_push_size _ rfl, rfl, rfl⟩ hd ?_;refine ((Zca (tk := s'1.toks) O i2 ?_).from (Adv.ofExt x1)).from a'1;exact Xj.items (i := 0) (Heap.get?_push_size _ rfl) (Xa hd fun o e => Heap.get?_push_of_some _ e) (Xu i2 { cls := .none } _ _ (x1.keep _ _ ho') n).2 (Zd.mono (Xu i2 _) (fun _ _ z => z) (x1.repAll r))
theorem ZmC (O : Zw G C) {o : Expr} {apos pos : Pos} {ks : List Str} (hb : X3 o = true) (hl : (apos.endLine == pos.line) = true) (h : Yu G H C σ B (eval o C.env) (.dict ks ds) B₁) :
  Ziw G H C σ B (eval (.Call (.Attribute o "values" apos) [] [] pos) C.env) (.seq ds) false B₁ := fun A β s hA I E =>
 Zdl O hA I hb hl PySem.F.plainAttrs_dict PySem.F.slot_dict_values PySem.F.type_dict_values h (ZeI (by rfl)) (.nil B₁) (by decide) fun β1 s'1 v vs a'1 i'1 r'1 rs => by
  rw [rs.sh.1 rfl];refine ZbT r'1.sh fun a kvs ev x hs n e r => ?_;rw [ev];clear r'1 rs;subst e;obtain ⟨o', ho'⟩ := XV x;refine call_meetsIn PySem.F.slot_dict_values x.typeIs PySem.F.entry_dict_values (PySem.F.args_dict_values_1 _) (meets_dict_values (PySem.strKind G.prog G.w) a hs) ⟨⟨kvs, x⟩, fun E' => ?_⟩;have x1 := Ext.push s'1 { cls := .type "dict_values", data := .fields #[.ref a] };have i2 := i'1.ext x1;obtain ⟨ep, hd⟩ := (x.push { cls := .type "dict_values", data := .fields #[.ref a] }).dictAt;refine wpAny_pyIter_values (knd := PySem.strKind G.prog G.w) (d := a) (kvs := kvs) (ep := ep) ⟨_, Heap.get?_push_size _ rfl, rfl, rfl⟩ hd ?_;refine ((Zca (tk := s'1.toks) O i2 ?_).from (Adv.ofExt x1)).from a'1;exact Xj.vals (i := 0) ⟨_, Heap.get?_push_size _ rfl, rfl, rfl⟩ (Xa hd fun o e => Heap.get?_push_of_some _ e) (Xu i2 { cls := .none } _ _ (x1.keep _ _ ho') n).2 (Zd.mono (Xu i2 _) (fun _ _ z => z) (x1.repAll r))
theorem ZsW (O : Zw G C) {x : Str} {p pos : Pos} {e'1 e'2 : Expr} {xs ys : List V} (hk : C.env.kindOf x = some .globalImplicit) (hf : YW G x (.type "zip")) (hd : (x == ("__debug__" : Str)) = false)
  (R : Row G H C σ B [e'1, e'2] [.list xs, .list ys] B₁) :
  Ziw G H C σ B (eval (.Call (.Name x p) [e'1, e'2] [] pos) C.env) (.seq ((xs.zip ys).map fun p => .tup [p.1, p.2])) true B₁ := fun A β s hA I E => by
 refine wpAny_Call_NameR (ZaH O I hk hf hd (PySem.callWith_type R.plain ?_))
 cases R with
 | cons _ B1 _ e es' d' ds' hn h1 hr =>
  have := (Row.cons B B1 B₁ e'1 _ _ _ hn h1 hr).evs O (pos := pos) A β s hA I;rw [ZL hn, Yh] at this ⊢;refine evalArgs_plain (this.t3 fun vs s'1 β1 a'1 i'1 r'1 => ?_);refine Xh (Xr r'1) fun v w z_2 r1 r2 => ?_;subst z_2;refine Xs r1.sh fun l1 xv m1 ev1 e4 n4 q4 => ?_;refine Xs r2.sh fun l2 yv m2 ev2 e5 n5 q5 => ?_;rw [ev1, ev2];clear r1 r2 r'1 ev1 ev2;refine call_zip_2 (Rep.isList e4) (Rep.isList e5) fun h' z1 z2 z3 z4 z5 z6 z7 => ?_;have lt1 := Heap.lt_size e4;have lt2 := Heap.lt_size e5;intro E';refine wpAny_pyIter_zip z1 ?_;have x : Ext s'1 { s'1 with heap := h' } := ⟨z7, by show s'1.heap.objs.size <= h'.objs.size; omega, rfl, rfl⟩;have how : ∀ a, Zkh (s'1.heap.objs.size + 4) (s'1.heap.objs.size + 2) (s'1.heap.objs.size + 3) s'1.heap.objs.size (s'1.heap.objs.size + 1) a -> s'1.heap.objs.size <= a := fun a z => (Zpd _ a z).1;have hlt : ∀ a, Zkh (s'1.heap.objs.size + 4) (s'1.heap.objs.size + 2) (s'1.heap.objs.size + 3) s'1.heap.objs.size (s'1.heap.objs.size + 1) a -> a < h'.objs.size := fun a z => by rw [z6]; exact (Zpd _ a z).2
  have mk : ∀ q o', s'1.heap.get? q = some o' -> ¬ avB C.av β1 q -> h'.get? q = some o' /\ ¬ avB (C.more (Zkh (s'1.heap.objs.size + 4) (s'1.heap.objs.size + 2) (s'1.heap.objs.size + 3) s'1.heap.objs.size (s'1.heap.objs.size + 1))).av β1 q := fun q o' e n =>
   ⟨z7 _ _ e, by
    rintro ((z | z) | z)
    ·exact n (.inl z)
    ·exact absurd (Heap.lt_size e) (Nat.not_lt.mpr (how q z))
    ·exact n (.inr z)⟩
  refine Zc1.from a'1 ⟨β1, _, .ofExt x, how, i'1.more x fun a z => ⟨how a z, hlt a z⟩, ZeK O i'1 how, ?_⟩
  exact Xj.zip (k := 0) (Zek _ _ _ lt1 lt2) z1 z2 z3 z4 z5 (mk _ _ e4 n4).1 (mk _ _ e5 n5).1 (mk _ _ e4 n4).2 (mk _ _ e5 n5).2
   (Zd.mono mk (fun _ _ z => z) q4) (Zd.mono mk (fun _ _ z => z) q5)
end
inductive Fl where
 | next
 | cont
 | brk
 | ret (d : V)
noncomputable def Zld (G : GC) (av : Addr -> Prop) (β : List Addr) (h : Heap) : Flow -> Fl -> Prop
 | .next, .next => True
 | .cont, .cont => True
 | .brk, .brk => True
 | .ret v, .ret d => Rep G av β h v d
 | _, _ => False
noncomputable abbrev St := List (Option V)
noncomputable abbrev Bx := List V
noncomputable abbrev Out := Fl × St × Bx
noncomputable def Zk5 (G : GC) (C : Cx) (β : List Addr) (s : Shared) (r : Out) (f : Flow) (s' : Shared) : Prop :=
 ∃ β', Adv G C.mu β s β' s' /\ Inv G C β' r.2.2 r.2.1 s' /\ Zld G (avB C.av β') β' s'.heap f r.1
noncomputable def ZaN (G : GC) (H : Nat) (C : Cx) (σ : St) (B : Bx) (t : Sem Flow) (r : Out) : Prop :=
 ∀ A β s, AOk H A -> Inv G C β B σ s -> Ok G.prog G.w A t s (Zk5 G C β s r)
noncomputable def Zis (G : GC) (C : Cx) (β : List Addr) (s : Shared) (σ' : St) (B' : Bx) (_ : Unit) (s' : Shared) : Prop :=
 ∃ β', Adv G C.mu β s β' s' /\ Inv G C β' B' σ' s'
noncomputable def Ziu (G : GC) (H : Nat) (C : Cx) (σ : St) (B : Bx) (t : Value -> Sem Unit) (d : V) (σ' : St) (B' : Bx) : Prop :=
 ∀ A β s v, AOk H A -> Inv G C β B σ s -> Rep G (avB C.av β) β s.heap v d -> Ok G.prog G.w A (t v) s (Zis G C β s σ' B')
section
variable {G : GC} {C : Cx} {β β' β'' : List Addr} {B B' B₁ B3 : Bx} {σ σ' : St} {s s' s'' : Shared} {H : Nat} {d : V} {v : Value} {b : Bool} {ow : Addr -> Prop} {tp : Bool} {it : Value} {src : Src} {r r' : Out}
theorem Zk5.from (x : Adv G C.mu β s β' s') (y : Zk5 G C β' s' r f s'') : Zk5 G C β s r f s'' :=
 let ⟨β'', a, i, q⟩ := y; ⟨β'', x.trans a, i, q⟩
theorem Zis.from (x : Adv G C.mu β s β' s') (y : Zis G C β' s' σ' B' u s'') : Zis G C β s σ' B' u s'' :=
 let ⟨β'', a, i⟩ := y; ⟨β'', x.trans a, i⟩
theorem Zot : ZaN G H C σ B (execs [] C.env) (.next, σ, B) := fun A β s hA I E => wpAny_pure ⟨β, .refl, I, trivial⟩
theorem Zg8 {st : Stmt} {rest : List Stmt} (h : ZaN G H C σ B (exec st C.env) r)
  (hr : ∀ σ' B', r = (.next, σ', B') -> ZaN G H C σ' B' (execs rest C.env) r') (hs : (∀ σ' B', r ≠ (.next, σ', B')) -> r' = r) : ZaN G H C σ B (execs (st :: rest) C.env) r' := fun A β s hA I E => by
 rw [execs_cons];refine wpAny_bind ((h A β s hA I).t3 fun f s'1 β1 a'1 i'1 q'1 => ?_);obtain ⟨fl, σ₁, B₁⟩ := r
 cases f with
 | next =>
  cases fl with
  | next => exact (hr σ₁ B₁ rfl A β1 s'1 hA i'1).to fun f' s'2 p => p.from a'1
  | _ => exact q'1.elim
 | brk =>
  cases fl with
  | brk => rw [hs (fun _ _ e => by cases e)]; exact wpAny_pure ⟨β1, a'1, i'1, q'1⟩
  | _ => exact q'1.elim
 | cont =>
  cases fl with
  | cont => rw [hs (fun _ _ e => by cases e)]; exact wpAny_pure ⟨β1, a'1, i'1, q'1⟩
  | _ => exact q'1.elim
 | ret v =>
  cases fl with
  | ret d => rw [hs (fun _ _ e => by cases e)]; exact wpAny_pure ⟨β1, a'1, i'1, q'1⟩
  | _ => exact q'1.elim
theorem Zri {t : Expr} {x y : List Stmt} {pos : Pos} {c : Bool} (ht : EvB G H C σ B (PySem.isTrue t C.env (eval t C.env)) c B₁)
  (hx : c = true -> ZaN G H C σ B₁ (execs x C.env) r) (hy : c = false -> ZaN G H C σ B₁ (execs y C.env) r) : ZaN G H C σ B (exec (.If t x y pos) C.env) r := fun A β s hA I E =>
 wpAny_If ((ht A β s hA I).t3 fun c' s'1 β1 a'1 i'1 e => by
  subst e
  cases c' with
  | true => exact (hx rfl A β1 s'1 hA i'1).to fun _ _ p => p.from a'1
  | false => exact (hy rfl A β1 s'1 hA i'1).to fun _ _ p => p.from a'1)
theorem Zsf {e : Expr} {pos : Pos} (h : Yu G H C σ B (eval e C.env) d B₁) : ZaN G H C σ B (exec (.Return (some e) pos) C.env) (.ret d, σ, B₁) := fun A β s hA I E =>
 by rw [exec_Return_some]; exact wpAny_bind (wpAny_standAt (wpAny_bind ((h A β s hA I).t3 fun v s'1 β1 a'1 i'1 q => wpAny_pure ⟨β1, a'1, i'1, q⟩)))
theorem ZrW {pos : Pos} : ZaN G H C σ B (exec (.Break pos) C.env) (.brk, σ, B) := fun A β s hA I E => wpAny_Break ⟨β, .refl, I, trivial⟩
theorem ZmK {t : Expr} {pos : Pos} (ht : EvB G H C σ B (PySem.isTrue t C.env (eval t C.env)) true B₁) : ZaN G H C σ B (exec (.Assert t none pos) C.env) (.next, σ, B₁) := fun A β s hA I E =>
 wpAny_Assert_holds ((ht A β s hA I).t3 fun c s'1 β1 a'1 i'1 e => ⟨e, β1, a'1, i'1, trivial⟩)
theorem Zqp (O : Zw G C) {e : Expr} {pos : Pos} (h : Yu G H C σ B (eval e C.env) d B₁) (hs : swapsWith e none pos.line C.env = pure false) :
  ZaN G H C σ B (exec (.Expr e pos) C.env) (.next, σ, B₁) := fun A β s hA I E =>
 wpAny_Expr_any ((h A β s hA I).t3 fun v s'1 β1 a'1 i'1 q => ⟨β1, a'1, i'1, trivial⟩) (by unfold interactive; rw [O.kind]; rfl) hs
noncomputable def Src.fuel (B : Bx) : Src -> Nat
 | .seq xs => xs.length + 1
 | .box n _ => match B[n]? with
  | some (.list ys) => ys.length + 1
  | _ => 0
noncomputable def Jx (step : V -> St -> Bx -> Option Out) (els : St -> Bx -> Option Out) : Nat -> Src -> St -> Bx -> Option Out
 | 0, _, _, _ => none
 | n + 1, src, σ, B => match src.at B with
  | none => none
  | some none => els σ B
  | some (some x) => match step x σ B with
   | some (.next, σ', B') => Jx step els n src.adv σ' B'
   | some (.cont, σ', B') => Jx step els n src.adv σ' B'
   | some (.brk, σ', B') => some (.next, σ', B')
   | some (.ret d, σ', B') => some (.ret d, σ', B')
   | none => none
theorem YM.adv (O : Zw G C) {s₀ : Shared} {β₀ : List Addr} (a : Adv G C.mu β₀ s₀ β s) (x : YM ow s s') (h : ∀ q, ow q -> s₀.heap.objs.size <= q) : Adv G C.mu β₀ s₀ β s' :=
 ⟨a.pre, fun b o e n t => x.keep b o (fun z => absurd (Heap.lt_size e) (Nat.not_lt.mpr (h b z))) (a.grow.keep b o e n t), Nat.le_trans a.grow.size x.size⟩
theorem YM.inv (O : Zw G C) (W : XF G C ow) (I : Inv G C β B σ s) (x : YM ow s s') : Inv G C β B σ s' := I.own O W x.keep x.size x.gens x.os
theorem Zld.less {f : Flow} {fl : Fl} {h : Heap} (q : Zld G (avB (C.more ow).av β) β h f fl) : Zld G (avB C.av β) β h f fl := by
 cases f <;> cases fl <;> first | exact q | exact ZhB (Zd4 ow) q
noncomputable def ZtV (step : V -> St -> Bx -> Option Out) (els : St -> Bx -> Option Out) (m : Nat) (src : Src) (r : Out) (σ' : St) (B' : Bx) : Fl -> Prop
 | .brk => r = (.next, σ', B')
 | .ret d => r = (.ret d, σ', B')
 | _ => Jx step els m src σ' B' = some r
theorem Zm8 {step : V -> St -> Bx -> Option Out} {els : St -> Bx -> Option Out} {n : Nat} (h : Jx step els n src σ B = some r) :
  ∃ m, n = m + 1 /\ ((src.at B = some none /\ els σ B = some r) \/ ∃ x fl σ' B', src.at B = some (some x) /\ step x σ B = some (fl, σ', B') /\ ZtV step els m src.adv r σ' B' fl) := by
 cases n with
 | zero => exact nn h
 | succ n =>
  unfold Jx at h
  split at h
  ·exact nn h
  ·exact ⟨n, rfl, .inl ⟨‹_›, h⟩⟩
  ·split at h
   ·exact ⟨n, rfl, .inr ⟨_, .next, _, _, ‹_›, ‹_›, h⟩⟩
   ·exact ⟨n, rfl, .inr ⟨_, .cont, _, _, ‹_›, ‹_›, h⟩⟩
   ·exact ⟨n, rfl, .inr ⟨_, .brk, _, _, ‹_›, ‹_›, (Option.some.inj h).symm⟩⟩
   ·exact ⟨n, rfl, .inr ⟨_, .ret _, _, _, ‹_›, ‹_›, (Option.some.inj h).symm⟩⟩
   ·exact nn h
noncomputable def Zuk (G : GC) (C : Cx) (β : List Addr) (s : Shared) (ow : Addr -> Prop) (tp : Bool) (it : Value) (step : V -> St -> Bx -> Option Out) (els : St -> Bx -> Option Out) (r : Out) (n : Nat) (s' : Shared) : Prop :=
 ∃ β' σ' B' src', Adv G C.mu β s β' s' /\ Inv G (C.more ow) β' B' σ' s' /\ Xj G (C.more ow) β' s' ow tp it src' /\ Jx step els n src' σ' B' = some r
theorem Zr3 (O : Zw G C) {tgt iter : Expr} {body orelse : List Stmt} {pos : Pos} {step : V -> St -> Bx -> Option Out} {els : St -> Bx -> Option Out}
  (hs : ∀ x, foldedSetIterable iter C.env x = pure x) (hi : Ziw G H C σ B (eval iter C.env) src tp B₁) (ht : Ze1 tp tgt = true)
  (hstep : ∀ ow x σ B r, Zw G (C.more ow) -> step x σ B = some r -> ∃ σ₁ B₁, Ziu G H (C.more ow) σ B (assign tgt C.env) x σ₁ B₁ /\ ZaN G H (C.more ow) σ₁ B₁ (execs body C.env) r)
  (hels : ∀ ow σ B r, Zw G (C.more ow) -> els σ B = some r -> ZaN G H (C.more ow) σ B (execs orelse C.env) r)
  (h : Jx step els (src.fuel B₁) src σ B₁ = some r) : ZaN G H C σ B (exec (.For tgt iter body orelse pos) C.env) r := fun A β s hA I E => by
 refine wpAny_For ?_ hs;refine (hi A β s hA I).to fun x s'1 hx => hx.to fun it s'2 hz => ?_;refine JQ hz fun β2 ow a'2 how i'2 W T => ?_;have O' := O.more ow;refine codeAny_forLoop_any (Zuk G C β s ow tp it step els r) ?_ _ ⟨β2, σ, B₁, src, a'2, i'2, T, h⟩;clear i'2 T a'2 h
 rintro n s'3 ⟨β3, σ3, B3, src3, a'3, i3, T'3, h'3⟩
 refine Ze (Zm8 h'3) fun n' hn h'3 => ?_;rcases h'3 with ⟨hat, h'3⟩ | ⟨x, fl, σ', B', hat, hst, h'3⟩
 ·rw [hn]
  refine (Zcy O' hA i3 W T'3 hat).to fun q s'4 hq => ?_
  cases q with
  | some v => exact hq.elim
  | none =>
   exact (hels ow σ3 B3 r O' h'3 A β3 s'4 hA (YM.inv O' W i3 hq)).t3 fun f s'5 β5 a'5 i5 q'5 => ⟨β5, (YM.adv O a'3 hq how).trans a'5, i5.less, q'5.less⟩
 ·rw [hn]
  refine (Zcy O' hA i3 W T'3 hat).to fun q s'4 hq => ?_
  cases q with
  | none => exact hq.elim
  | some v =>
   refine (hq tgt ht).to fun _ s'5 hx => ?_;have a'5 := YM.adv O a'3 hx.1 how;have i5 := YM.inv O' W i3 hx.1;refine YU (hstep ow x σ3 B3 _ O' hst) fun σ₁ B₁ h1 h2 => ?_;refine (h1 A β3 s'5 v hA i5 hx.2.1).t2 fun _ s'6 β6 a'6 i6 => ?_;refine (h2 A β6 s'6 hA i6).t3 fun f s'7 β7 a7 i7 q'7 => ?_;have a8 := (a'5.trans a'6).trans a7;have T8 := hx.2.2.adv O' W i5 (a'6.trans a7);clear h1 h2 hx i6 i5 a'5 a'6 a7 hat hst i3 a'3 T'3 hstep hels
   cases fl with
   | next =>
    cases f with
    | next => exact ⟨n', Nat.lt_succ_self n', β7, σ', B', _, a8, i7, T8, h'3⟩
    | _ => exact q'7.elim
   | cont =>
    cases f with
    | cont => exact ⟨n', Nat.lt_succ_self n', β7, σ', B', _, a8, i7, T8, h'3⟩
    | _ => exact q'7.elim
   | brk =>
    cases f with
    | brk => rw [show r = _ from h'3]; exact ⟨β7, a8, i7.less, trivial⟩
    | _ => exact q'7.elim
   | ret d =>
    cases f with
    | ret v => rw [show r = _ from h'3]; exact ⟨β7, a8, i7.less, q'7.less⟩
    | _ => exact q'7.elim
end
noncomputable def XK (G : GC) (C : Cx) (β : List Addr) (σ : St) (s : Shared) (d : V) (B' : Bx) (v : Value) (s' : Shared) : Prop :=
 ∃ β' a, v = .ref a /\ s.heap.objs.size <= a /\ ¬ C.av a /\ Adv G C.mu β s β' s' /\ Inv G (C.more (Yr a)) β' B' σ s' /\ Yo G (avB (C.more (Yr a)).av β') β' s'.heap a d
noncomputable def ZiO (G : GC) (H : Nat) (C : Cx) (σ : St) (B : Bx) (t : Sem Value) (d : V) (B' : Bx) : Prop :=
 ∀ A β s, AOk H A -> Inv G C β B σ s -> Ok G.prog G.w A t s (XK G C β σ s d B')
noncomputable def Zt6 : V -> Bool
 | .list _ | .dict _ _ => true
 | _ => false
section
variable {G : GC} {C : Cx} {β β' β'' : List Addr} {B B' : Bx} {σ σ' : St} {s s' s'' : Shared} {H : Nat} {d : V} {v : Value} {b : Bool} {ds : List V} {ow : Addr -> Prop} {it : Value} {r r' : Out}
theorem XK.from (x : Adv G C.mu β s β' s') (y : XK G C β' σ s' d B' v s'') : XK G C β σ s d B' v s'' :=
 let ⟨β'', a, e, h, h2, q⟩ := y; ⟨β'', a, e, Nat.le_trans x.grow.size h, h2, x.trans q.1, q.2⟩
theorem Zol {a : Addr} : ∀ q, avB (C.more (Yr a)).av β q ↔ avB C.av (β ++ [a]) q := fun q => by
 unfold avB Cx.more Yr;simp only [List.mem_append, List.mem_singleton]
 constructor
 ·rintro ((z | z) | z)
  ·exact .inl z
  ·exact .inr (.inr z)
  ·exact .inr (.inl z)
 ·rintro (z | z | z)
  ·exact .inl (.inl z)
  ·exact .inr z
  ·exact .inl (.inr z)
theorem XK.tree (y : XK G C β σ s d B' v s') : Zv G C β σ s d B' v s' := by
 refine ZbT y fun β' a z_2 h n1 x i q => ?_;clear y;subst z_2;refine ⟨β', x, i.less, ?_⟩;have n2 : a ∉ β' := fun z => i.boxes.apart a z (.inr rfl);have n : ¬ avB C.av β' a := fun z => z.elim n1 n2;have hm := Zd4 (C := C) (β := β') (Yr a)
 cases q with
 | list e r => exact .list e n (Zde hm r)
 | dict e hs he r => exact .dict e hs n he (Zde hm r)
theorem XK.box (h0 : G.H0.objs.size <= s.heap.objs.size) (y : XK G C β σ s d B' v s') : Zv G C β σ s (.box B'.length) (B' ++ [d]) v s' := by
 refine ZbT y fun β' a z_2 h n1 x i q => ?_;clear y;subst z_2;have n2 : a ∉ β' := fun z => i.boxes.apart a z (.inr rfl)
 have hβ : ∀ (n : Nat) (q : Addr), β'[n]? = some q -> (β' ++ [a])[n]? = some q := fun n q e => by
  rw [List.getElem?_append_left (List.getElem?_eq_some_iff.mp e).1]; exact e
 have hk : ∀ b o, s'.heap.get? b = some o -> ¬ avB (C.more (Yr a)).av β' b -> s'.heap.get? b = some o /\ ¬ avB C.av (β' ++ [a]) b := fun b o e n => ⟨e, fun z => n ((Zol b).mpr z)⟩;have hlen := i.boxes.len;refine ⟨β' ++ [a], ⟨?_, x.grow⟩, ⟨i.wd, fun q z => i.low q (.inl z), i.ns, i.cells, fun y d e k => ?_, i.slots, by simp [hlen], ?_, ?_, ?_, ?_⟩, .box (by rw [List.getElem?_append_right (by omega), hlen]; simp)⟩
 ·refine Ze x.pre fun βn z_1 h1 => ?_
  subst z_1;refine ⟨βn ++ [a], by simp, fun q hq => ?_⟩;rcases List.mem_append.mp hq with z | z
  ·exact h1 q z
  ·rw [List.mem_singleton.mp z]; exact h
 ·refine Ze (i.vars y d e k) fun w b r => ?_
  exact ⟨w, b, Rep.mono hk hβ r⟩
 ·refine List.nodup_append.mpr ⟨i.boxes.nodup, by simp, fun p hp q hq => ?_⟩
  rw [List.mem_singleton.mp hq]
  rintro rfl
  exact n2 hp
 ·intro q hq
  rcases List.mem_append.mp hq with z | z
  ·exact fun z' => i.boxes.apart q z (.inl z')
  ·rw [List.mem_singleton.mp z]; exact n1
 ·intro q hq
  rcases List.mem_append.mp hq with z | z
  ·exact i.boxes.high q z
  ·rw [List.mem_singleton.mp z]; exact Nat.le_trans h0 h
 ·intro n q e h1 h2
  by_cases hn : n < β'.length
  ·rw [List.getElem?_append_left hn] at h1
   rw [List.getElem?_append_left (by omega)] at h2;exact (i.boxes.at' n q e h1 h2).mono hk hβ fun o z => z
  ·rw [List.getElem?_append_right (by omega)] at h1
   rw [List.getElem?_append_right (by omega)] at h2
   have : n - β'.length = 0 := by
    rcases Nat.eq_zero_or_pos (n - β'.length) with z | z
    ·exact z
    ·rw [List.getElem?_eq_none (by simp; omega)] at h1; cases h1
   rw [this] at h1;rw [show n - B'.length = 0 by omega] at h2
   cases h1
   cases h2
   exact q.mono hk hβ fun o z => z
 where
 dummy : True := trivial
theorem ZiO.tree (O : Zw G C) {t : Sem Value} (h : ZiO G H C σ B t d B') : Yu G H C σ B t d B' := fun A β s hA I => (h A β s hA I).mono fun v s' y => y.tree
theorem ZiO.box (O : Zw G C) {t : Sem Value} (h : ZiO G H C σ B t d B') : Yu G H C σ B t (.box B'.length) (B' ++ [d]) := fun A β s hA I => (h A β s hA I).mono fun v s' y => y.box (I.H0 O)
theorem ZrC (O : Zw G C) (I : Inv G C β B σ s) {o : Obj} {tk : Nat} (h : Yo G (avB (C.more (Yr s.heap.objs.size)).av β) β (s.heap.push o) s.heap.objs.size d) :
  XK G C β σ s d B (.ref s.heap.objs.size) { s with heap := s.heap.push o, toks := tk } := by
 have x : Ext s { s with heap := s.heap.push o, toks := tk } := (Ext.push s o).trans (Ext.toks _ _);have how : ∀ a, Yr s.heap.objs.size a -> s.heap.objs.size <= a := fun a z => Nat.le_of_eq z.symm;exact ⟨β, s.heap.objs.size, rfl, Nat.le_refl _, fun z => Nat.lt_irrefl _ (I.low _ z), .ofExt x, I.more x fun a z => ⟨how a z, by show a < (s.heap.push o).objs.size; rw [Heap.size_push]; exact z ▸ Nat.lt_succ_self _⟩, h⟩
theorem XL (O : Zw G C) (I : Inv G C β B σ s) {vs : Array Value} {n tk : Nat} (r : Zd G (avB C.av β) β s.heap vs.toList ds) :
  XK G C β σ s (.list ds) B (.ref s.heap.objs.size) { s with heap := s.heap.push (YO vs n), toks := tk } :=
 ZrC O I (.list (Heap.get?_push_size _ rfl) (Zd.mono (Xu I _) (fun _ _ z => z) r))
theorem Zq3 (O : Zw G C) {es : List Expr} {pos : Pos} (R : Row G H C σ B es ds B') (hsz : ds.length <= sizeLine) :
  ZiO G H C σ B (eval (.List es pos) C.env) (.list ds) B' := fun A β s hA I E =>
 List_ ((R.evs O A β s hA I).t3 fun vs s'1 β1 a'1 i'1 r'1 => (wpAny_newObj_type (XK.from a'1 (XL (vs := vs.toArray) (n := 0) (tk := s'1.toks) O i'1 r'1)) (by show vs.toArray.size <= sizeLine; rw [List.size_toArray, r'1.length]; exact hsz)))
theorem Zka (O : Zw G C) (I : Inv G C β B σ s) {a : Addr} (h : s.heap.objs.size <= a) : (a == sysModules) = false := by
 have h0 := I.H0 O;refine Ze O.gok.nolimit fun mc hn _ => ?_;have h1 : cStatics < G.H0.objs.size := hn.lt;have h2 : (2 : Nat) < G.H0.objs.size := h1
 have h3 : (1 : Nat) ≠ a := by
  intro e;have : G.H0.objs.size <= (1 : Nat) := Nat.le_trans h0 (e ▸ h);omega
 have h4 : ¬ (a = sysModules) := fun e => h3 (e.symm)
 simpa using h4
theorem ZnP (O : Zw G C) {pos : Pos} : ZiO G H C σ B (eval (.Dict [] [] pos) C.env) (.dict [] []) B := fun A β s hA I E =>
 wpAny_Dict_empty (ZrC (tk := s.toks) O I (.dict (kvs := []) (Heap.DictOf.new _) (Zka O I (Nat.le_refl _)) rfl .nil))
theorem Inv.upd (O : Zw G C) (I : Inv G C β B σ s) {n : Nat} {a : Addr} {h' : Heap} {tk : Nat} (hn : β[n]? = some a) (hs : Heap.SameBut a s.heap h') (q : Yo G (avB C.av β) β h' a d) :
  Inv G C β (B.set n d) σ { s with heap := h', toks := tk } /\ Adv G C.mu β s β { s with heap := h', toks := tk } := by
 have ha : a ∈ β := List.mem_of_getElem? hn;have hne : ∀ b o, s.heap.get? b = some o -> b ≠ a -> h'.get? b = some o := fun b o e n => (hs.2 b n).trans e;have hk : ∀ b o, s.heap.get? b = some o -> ¬ avB C.av β b -> h'.get? b = some o /\ ¬ avB C.av β b := fun b o e n => ⟨hne b o e fun z => n (.inr (z ▸ ha)), n⟩;have hav : ∀ c, C.av c -> c ≠ a := fun c h e => I.boxes.apart a ha (e ▸ h);have ha0 := I.boxes.high a ha;have hlt : ∀ {b}, b < G.H0.objs.size -> b ≠ a := fun e z => absurd e (Nat.not_lt.mpr (z ▸ ha0))
 refine ⟨⟨⟨fun b o e n => hne b o (I.wd.keep b o e n) (hlt (Heap.lt_size e)), fun c P m => ?_, I.wd.gens, I.wd.os⟩, fun b hb' => by show b < h'.objs.size; rw [hs.1]; exact I.low b hb',
  let ⟨m, hm⟩ := I.ns; ⟨m, hm.sameBut hs (hav _ (O.muav _ O.muL))⟩, fun y ya hy => let ⟨c, v, h1, h2⟩ := I.cells y ya hy; ⟨c, v, h1, h2.sameBut hs (hav _ (O.cellav _ _ h1))⟩, fun y e hy ky => ?_, I.slots,
  by rw [List.length_set]; exact I.boxes.len, I.boxes.nodup, I.boxes.apart, I.boxes.high, fun m b e e1 e2 => ?_⟩,
  ⟨⟨[], by simp, fun _ h => by simp at h⟩, fun b o e n t => hne b o e fun z => n (.inr (z ▸ ha)), by show s.heap.objs.size <= h'.objs.size; rw [hs.1]; exact Nat.le_refl _⟩⟩
 ·refine Ze (I.wd.tab c P m) fun ps h1 h2 => ?_
  refine XR (O.gok.tabs c P m) fun hc hP _ => ?_;exact ⟨ps, h1.extBut hs.extBut (hlt hc) (hlt hP), h2.extBut hs.extBut (hlt hc) (hlt hP)⟩
 ·refine Ze (I.vars y e hy ky) fun v' b' r' => ?_
  refine ⟨v', ?_, Rep.mono hk (fun _ _ e => e) r'⟩;rcases b' with ⟨k, m2, hn2, hm2⟩ | ⟨k, c, hc, hv⟩
  ·exact .inl ⟨k, m2, hn2.sameBut hs (hav _ (O.muav _ O.muL)), hm2⟩
  ·exact .inr ⟨k, c, hc, hv.sameBut hs (hav _ (O.cellav _ _ hc))⟩
 ·by_cases hmn : m = n
  ·subst hmn
   rw [hn] at e1
   cases e1
   have hlen : m < B.length := by rw [<- I.boxes.len]; exact (List.getElem?_eq_some_iff.mp hn).1
   rw [List.getElem?_set_self hlen] at e2
   cases e2
   exact q
  ·rw [List.getElem?_set_ne (Ne.symm hmn)] at e2
   have hba : b ≠ a := by
    rintro rfl
    apply hmn;have h1 := (List.getElem?_eq_some_iff.mp e1);have h2 := (List.getElem?_eq_some_iff.mp hn);exact Zgy I.boxes.nodup h1.1 h2.1 (h1.2.trans h2.2.symm)
   exact (I.boxes.at' m b e e1 e2).mono hk (fun _ _ z => z) fun o z => hne b o z hba
theorem Zcp (I : Inv G C β B σ s) {n : Nat} (r : Rep G (avB C.av β) β s.heap v (.box n)) (hB : B[n]? = some d) : ∃ a, v = .ref a /\ β[n]? = some a /\ Yo G (avB C.av β) β s.heap a d :=
 Ze r.sh fun a e1 e => ⟨a, e1, e, I.boxes.at' _ _ _ e hB⟩
theorem ZoB {av : Addr -> Prop} {h : Heap} {a : Addr} (x : Yo G av β h a (.list ds)) : ∃ vs n, h.get? a = some (YO vs n) /\ Zd G av β h vs.toList ds := x.sh
theorem ZtS {av : Addr -> Prop} {h : Heap} {a : Addr} {ks : List Str} (x : Yo G av β h a (.dict ks ds)) :
  ∃ kvs, h.DictOf (PySem.strKind G.prog G.w) a kvs /\ (a == sysModules) = false /\ kvs.map (·.1) = ks /\ Zd G av β h (kvs.map (·.2)) ds := x.sh
theorem Inv.keepBox (I : Inv G C β B σ s) {n : Nat} {a : Addr} {h' : Heap} (hn : β[n]? = some a) (hs : Heap.SameBut a s.heap h') :
  ∀ b o, s.heap.get? b = some o -> ¬ avB C.av β b -> h'.get? b = some o /\ ¬ avB C.av β b := fun b o e n => ⟨(hs.2 b fun z => n (.inr (z ▸ List.mem_of_getElem? hn))).trans e, n⟩
noncomputable def JP (ks : List Str) (vs : List V) (k : Str) (d : V) : List Str × List V := if ks.contains k then (ks, vs.set (ks.idxOf k) d) else (ks ++ [k], vs ++ [d])
noncomputable def Zcj (B : Bx) (n : Nat) (i d : V) : Option Bx := match B[n]? with
 | some (.list xs) => match i with
  | .int k => if 0 <= k /\ k < xs.length /\ ZH xs.length = true then some (B.set n (.list (xs.set k.toNat d))) else none
  | _ => none
 | some (.dict ks vs) => match i with
  | .str k => if ZH ks.length then some (B.set n (.dict (JP ks vs k d).1 (JP ks vs k d).2)) else none
  | _ => none
 | _ => none
theorem Zeh {kvs : List (Str × Value)} {k : Str} {v : Value} : (stored kvs k v).map (·.1) = if (kvs.map (·.1)).contains k then kvs.map (·.1) else kvs.map (·.1) ++ [k] := by
 have hc : (kvs.any fun kv => kv.1 = k) = (kvs.map (·.1)).contains k := by
  rw [Bool.eq_iff_iff]; simp
 unfold stored;rw [hc]
 split
 ·rw [List.map_map]
  apply List.map_congr_left;intro x _;simp only [Function.comp]
  split <;> rfl
 ·simp
theorem ZiS : ∀ {kvs : List (Str × Value)} {k : Str} {v : Value} {vs : List V} {d : V} {av : Addr -> Prop} {h : Heap}, (kvs.map (·.1)).Nodup -> Zd G av β h (kvs.map (·.2)) vs -> Rep G av β h v d ->
  (kvs.map (·.1)).contains k = true -> Zd G av β h ((kvs.map fun kv => if kv.1 = k then (kv.1, v) else kv).map (·.2)) (vs.set ((kvs.map (·.1)).idxOf k) d) := by
 intro xs_
 induction xs_ with
 | nil =>
  intro k v vs d av h _ _ _ hc;simp at hc
 | cons p_ r ih_ =>
  intro k v vs d av h hn hr hv hc;obtain ⟨k', v'⟩ := p_
  cases hr with
  | @cons _ x _ xs rx rxs =>
   simp only [List.map_cons] at hn hc ⊢
   by_cases hk : k' = k
   ·subst hk
    simp only [if_true, List.idxOf_cons, beq_self_eq_true, cond_true, List.set_cons_zero]
    have : (r.map fun kv => if kv.1 = k' then (kv.1, v) else kv) = r := by
     have e : (r.map fun kv => if kv.1 = k' then (kv.1, v) else kv) = r.map id := List.map_congr_left fun y hy => by
      have : y.1 ≠ k' := fun e => (List.nodup_cons.mp hn).1 (e ▸ List.mem_map_of_mem hy);simp [this]
     rw [e, List.map_id]
    rw [this];exact .cons hv rxs
   ·have hb : (k' == k) = false := by simpa using hk
    rw [if_neg hk];simp only [List.idxOf_cons, hb, cond_false, List.set_cons_succ];refine .cons rx (ih_ (List.nodup_cons.mp hn).2 rxs hv ?_);simp only [List.contains_cons, Bool.or_eq_true] at hc;rcases hc with hc | hc
    ·exact absurd (beq_iff_eq.mp hc).symm hk
    ·exact hc
theorem ZcZ {kvs : List (Str × Value)} {k : Str} {v : Value} {vs : List V} {d : V} {av : Addr -> Prop} {h : Heap} (hn : (kvs.map (·.1)).Nodup) (hr : Zd G av β h (kvs.map (·.2)) vs) (hv : Rep G av β h v d) :
  (stored kvs k v).map (·.1) = (JP (kvs.map (·.1)) vs k d).1 /\ Zd G av β h ((stored kvs k v).map (·.2)) (JP (kvs.map (·.1)) vs k d).2 := by
 refine ⟨?_, ?_⟩
 ·rw [Zeh]; unfold JP; split <;> rfl
 ·have hc : (kvs.any fun kv => kv.1 = k) = (kvs.map (·.1)).contains k := by
   rw [Bool.eq_iff_iff]; simp
  unfold stored JP;rw [hc]
  by_cases h : (kvs.map (·.1)).contains k = true
  ·rw [if_pos h, if_pos h]; exact ZiS hn hr hv h
  ·rw [if_neg h, if_neg h]; simpa using hr.append (.cons hv .nil)
set_option tactic.hygienic true in
theorem ZpW (O : Zw G C) (I : Inv G C β B σ s) {A : Around} {n : Nat} {ov iv : Value} {di : V} (ro : Rep G (avB C.av β) β s.heap ov (.box n)) (ri : Rep G (avB C.av β) β s.heap iv di) (rv : Rep G (avB C.av β) β s.heap v d)
  (h : Zcj B n di d = some B') : Ok G.prog G.w A (setItem ov iv v) s fun _ s' => Inv G C β B' σ s' /\ Adv G C.mu β s β s' := by
 intro E;unfold Zcj at h
 split at h
 ·rename_i xs hB
  refine Xn (Zcp I ro hB) fun a z_1 hn hb => ?_;subst z_1;refine YU (ZoB hb) fun vs m e r => ?_
  split at h
  ·rename_i k
   obtain ⟨t, rfl⟩ := Zu ri
   split at h
   ·rename_i hk
    cases h
    have n1 : vs.size = xs.length := by rw [<- r.length]; simp
    have hz := J3 hk.2.2;refine PySem.W.ki_setAt (n := m) e hk.1 (by omega) (by omega) ?_;have hs : Heap.SameBut a s.heap (s.heap.update a (Obj.mapSeq (·.setIfInBounds k.toNat v))) := Heap.SameBut.update ..;refine I.upd (tk := s.toks) O hn hs ?_;refine .list (IsL.update (n := m) e (·.setIfInBounds k.toNat v)) ?_;refine Zd.mono (I.keepBox hn hs) (fun _ _ z => z) ?_;rw [Array.toList_setIfInBounds];exact r.set _ rv
   ·exact nn h
  ·exact nn h
 ·rename_i ks vs hB
  refine Xn (Zcp I ro hB) fun a z_1 hn hb => ?_;subst z_1;refine Zcf (ZtS hb) fun kvs e hs he r => ?_
  split at h
  ·rename_i k
   obtain ⟨t, rfl⟩ := Z9 ri
   split at h
   ·rename_i hz
    cases h
    have hlen : kvs.length = ks.length := by rw [<- he]; simp
    refine wpAny_setItem_pairs (strKind_is G.prog G.w k t) e (fun h' hd' hs' => ?_) (by rw [hlen]; exact Yy hz);have hnd : (kvs.map (·.1)).Nodup := by obtain ⟨_, _, _, _, _, _, _, _, z⟩ := e; exact z
    obtain ⟨q1, q2⟩ := ZcZ (k := k) (v := v) (d := d) hnd r rv;rw [he] at q1 q2;exact I.upd (tk := s.toks + 1) O hn hs' (.dict hd' hs q1 (Zd.mono (I.keepBox hn hs') (fun _ _ z => z) q2))
   ·exact nn h
  ·exact nn h
 ·exact nn h
theorem ZhV (O : Zw G C) {x : Str} {pos : Pos} (hxa : x ∈ C.asg) (k : C.env.kindOf x = some .local \/ C.env.kindOf x = some .cell) : Ziu G H C σ B (assign (.Name x pos) C.env) d (σ.set (C.names.idxOf x) (some d)) B :=
 fun A β s v hA I r E => (Zgo O I hxa k r).to fun _ s' ⟨i, a⟩ => ⟨β, a, i⟩
theorem Zqq (O : Zw G C) {x : Str} (hxa : x ∈ C.asg) (k : C.env.kindOf x = some .local \/ C.env.kindOf x = some .cell) : Ziu G H C σ B (bindName C.env x) d (σ.set (C.names.idxOf x) (some d)) B :=
 fun A β s v hA I r E => (ZkK O I hxa k r).to fun _ s' ⟨i, a⟩ => ⟨β, a, i⟩
inductive ZdB (G : GC) (H : Nat) (C : Cx) (B : Bx) : St -> List (Value -> Sem Unit) -> List V -> St -> Prop
 | nil (σ : St) : ZdB G H C B σ [] [] σ
 | cons (σ σ₁ σ'2 : St) (t : Value -> Sem Unit) (ts : List (Value -> Sem Unit)) (d : V) (ds : List V) : Ziu G H C σ B t d σ₁ B -> ZdB G H C B σ₁ ts ds σ'2 -> ZdB G H C B σ (t :: ts) (d :: ds) σ'2
theorem ZdB.ok (O : Zw G C) {ts : List (Value -> Sem Unit)} {ds : List V} (T : ZdB G H C B σ ts ds σ') : ∀ {A : Around} {β : List Addr} {s : Shared} {vs : List Value}, AOk H A -> Inv G C β B σ s -> Zd G (avB C.av β) β s.heap vs ds ->
  Ok G.prog G.w A (assignInOrder ts vs) s (Zis G C β s σ' B) := by
 induction T with
 | nil σ => intro A β s vs hA I r E; cases r; exact wpAny_pure ⟨β, .refl, I⟩
 | cons σ σ₁ σ'2 t ts d ds h _ ih =>
  intro A β s vs hA I r E
  cases r with
  | cons r rs =>
   exact wpAny_bind (wpAny_holding ((h A β s _ hA I r).t2 fun _ s'1 β1 a'1 i'1 => (ih hA i'1 (a'1.eAll O rs)).to fun _ s'2 p => p.from a'1))
theorem Ok.pure_inv {prog : Program} {w : World} {α : Type} {A : Around} {a : α} {Q : α -> Shared -> Prop} {Γ : Ctx} (p : Pos) (hΓ : Γ.In A) (h : Ok prog w A (Pure.pure a) s Q) : Q a s := h (fun _ _ => False) Γ p hΓ
theorem Zlr (O : Zw G C) {A : Around} (hA : AOk H A) (W : XF G C ow) : ∀ (ds : List V) {s : Shared}, Inv G C β B σ s -> Xj G C β s ow false it (.seq ds) -> ∀ n, n = ds.length ->
  Ok G.prog G.w A (draw it n) s fun vs s' => YM ow s s' /\ Inv G C β B σ s' /\ Zd G (avB C.av β) β s'.heap vs ds /\ Xj G C β s' ow false it (.seq [])
 | [], s, I, T, n, hn => fun E => by subst hn; exact wpAny_pure ⟨⟨fun _ _ _ e => e, Nat.le_refl _, rfl, rfl⟩, I, .nil, T⟩
 | d :: ds, s, I, T, n, hn => fun E Γ p hΓ => by
  subst hn
  revert p
  intro p0;refine (?_ : wpAny (model G.prog G.w) A (pyNext it >>= _) _ E s) Γ p0 hΓ;refine wpAny_bind ((Zcy O hA I W T (r := some d) rfl).to fun q s'1 hq => ?_)
  cases q with
  | none => exact hq.elim
  | some v =>
   have := hq (.Name "" ⟨0, 0, 0, 0⟩) rfl
   have this : YM ow s s'1 /\ Rep G (avB C.av β) β s'1.heap v d /\ Xj G C β s'1 ow false it (.seq ds) := by
    have e : letOwnedTupleGo (.Name "" ⟨0, 0, 0, 0⟩) it v = pure () := rfl;rw [e] at this;exact Ok.pure_inv p0 hΓ this
   refine XR this fun x'1 r'1 T'1 => ?_;have i'1 := YM.inv O W I x'1;refine wpAny_bind (wpAny_holding ((Zlr O hA W ds i'1 T'1 _ rfl).to fun vs s'2 ⟨x'2, i'2, r'2, T'2⟩ => wpAny_pure ⟨⟨fun b o n e => x'2.keep b o n (x'1.keep b o n e), Nat.le_trans x'1.size x'2.size, x'2.gens.trans x'1.gens, x'2.os.trans x'1.os⟩, i'2, .cons ?_ r'2, T'2⟩));exact Rep.mono (fun b o e n => ⟨x'2.keep b o (fun z => n (.inl (W.sub b z))) e, n⟩) (fun _ _ z => z) r'1
end
section
variable {G : GC} {C : Cx} {β : List Addr} {B B' B₁ B₂ B3 B4 : Bx} {σ σ' : St} {s s' : Shared} {H : Nat} {d d₁ d₂ d₃ d₄ : V} {v : Value} {b : Bool} {ds : List V} {ow : Addr -> Prop} {it : Value} {r : Out}
noncomputable def JB : V -> Option (List V)
 | .tup xs => some xs
 | .list xs => some xs
 | _ => none
theorem ZjO {A : Around} (I : Inv G C β B σ s) (r : Rep G (avB C.av β) β s.heap v d) (h : JB d = some ds) : Ok G.prog G.w A (notIterableAtAll v) s fun b s' => b = false /\ s' = s := by
 intro E;unfold notIterableAtAll;have S := r.sh
 cases d with
 | tup xs => refine Xs S fun a vs m ev e _ _ => ?_; rw [ev]; exact wpAny_bind (wpAny_specialOf (Rep.isTuple e).typeIs slot_tuple_iter.lookup (wpAny_pure ⟨rfl, rfl⟩))
 | list xs => refine Xs S fun a vs m ev e _ _ => ?_; rw [ev]; exact wpAny_bind (wpAny_specialOf (Rep.isList e).typeIs slot_list_iter.lookup (wpAny_pure ⟨rfl, rfl⟩))
 | _ => exact nn h
theorem Zcm (O : Zw G C) {A : Around} (hA : AOk H A) (I : Inv G C β B σ s) (r : Rep G (avB C.av β) β s.heap v d) (h : JB d = some ds) {n : Nat} (hn : n = ds.length) :
  Ok G.prog G.w A (unpackItems v n none) s fun vs s' => Adv G C.mu β s β s' /\ Inv G C β B σ s' /\ Zd G (avB C.av β) β s'.heap vs ds := by
 intro E;unfold unpackItems;refine wpAny_bind ((ZjO I r h).to fun b s'1 hz => ?_);refine Zev hz fun e1 e2 => ?_;subst e1 e2;rw [if_neg (by simp)];have hsrc : Zaf B d = some (.seq ds) := by cases d <;> simp [JB] at h <;> subst h <;> rfl
 refine wpAny_bind (wpAny_holding ((Zlj O I r hsrc).to fun it s'2 hz => ?_));refine JQ hz fun β2 ow a'2 how i'2 W T => ?_;have O' := O.more ow;refine wpAny_bind (wpAny_holding ((Zlr O' hA W ds i'2 T n hn).to fun vs s'3 hz => ?_));refine ZgV hz fun x'3 i3 r'3 T'3 => ?_;rw [if_neg (by rw [r'3.length, hn]; omega)];refine wpAny_bind (wpAny_holding ((Zcy O' hA i3 W T'3 (r := none) rfl).to fun q s'4 hq => ?_))
 cases q with
 | some v => exact hq.elim
 | none =>
  have hq : YM ow s'3 s'4 := hq;rw [if_neg (by simp)];have a'4 := YM.adv O (YM.adv O a'2 x'3 how) hq how;have i'4 := YM.inv O' W i3 hq
  have hb : β2 = β := by
   have e1 := i'4.boxes.len;have e2 := I.boxes.len;refine Ze a'2.pre fun βn z_1 _ => ?_;subst z_1
   have : βn = [] := by
    apply List.length_eq_zero_iff.mp;rw [List.length_append] at e1; omega
   simp [this]
  subst hb;refine wpAny_pure ⟨a'4, i'4.less, ?_⟩;refine Zde (Zd4 (C := C) ow) (Zd.mono (fun b o e n => ⟨hq.keep b o (fun z => n (.inl (.inr z))) e, n⟩) (fun _ _ z => z) r'3)
theorem ZoA (O : Zw G C) {es : List Expr} {k : Nat} {pos : Pos} (h : JB d = some ds) (hl : es.length = ds.length) (hst : (assignEach es C.env).findIdx? (·.1) = none)
  (hlen : (assignEach es C.env).length = es.length) (T : ZdB G H C B σ ((assignEach es C.env).map (·.2)) ds σ') : Ziu G H C σ B (assign (.Tuple es k pos) C.env) d σ' B := fun A β s v hA I r E => by
 rw [assign_Tuple];refine wpAny_bind (wpAny_standAt ?_);unfold unpack;rw [hst];refine wpAny_bind (wpAny_holding ((Zcm O hA I r h (by rw [hlen, hl])).to fun vs s'1 hz => ?_));refine XR hz fun a'1 i'1 r'1 => ?_;exact (T.ok O hA i'1 r'1).to fun _ s'2 p => p.from a'1
theorem ZgN (O : Zw G C) {t value : Expr} {pos : Pos} (h : Yu G H C σ B (eval value C.env) d B₁) (ht : Ziu G H C σ B₁ (assign t C.env) d σ' B₂)
  (hs : swapsWith value (some t) pos.line C.env = pure false) (hw : swappedStores [t] value C.env = pure none) (he : (assignEach [t] C.env).map (·.2) = [assign t C.env]) :
  ZaN G H C σ B (exec (.Assign [t] value pos) C.env) (.next, σ', B₂) := fun A β s hA I E => by
 refine wpAny_Assign_stores ((h A β s hA I).t3 fun v s'1 β1 a'1 i'1 r'1 => ?_) hs hw;rw [he];exact (ht A β1 s'1 v hA i'1 r'1).t2 fun _ s'2 β2 a'2 i'2 => ⟨β2, a'1.trans a'2, i'2, trivial⟩
theorem Zkj (O : Zw G C) {es : List Expr} {k : Nat} {tpos pos : Pos} {value : Expr} {names : List Str} (h : Yu G H C σ B (eval value C.env) d B₁) (hp : JB d = some ds) (hl : names.length = ds.length)
  (T : ZdB G H C B₁ σ (names.reverse.map fun n => bindName C.env n) ds.reverse σ')
  (hs : swapsWith value (some (.Tuple es k tpos)) pos.line C.env = pure false) (hw : swappedStores [.Tuple es k tpos] value C.env = pure (some names)) :
  ZaN G H C σ B (exec (.Assign [.Tuple es k tpos] value pos) C.env) (.next, σ', B₁) := fun A β s hA I E => by
 refine Assign_Tuple_swapped (names := names) ((h A β s hA I).t3 fun v s'1 β1 a'1 i'1 r'1 => (Zcm O hA i'1 r'1 hp hl).to fun vs s'2 hz => ?_) hs hw;refine XR hz fun a'2 i'2 r'2 => ?_
 have hrev : ∀ {vs : List Value} {ds : List V}, Zd G (avB C.av β1) β1 s'2.heap vs ds -> Zd G (avB C.av β1) β1 s'2.heap vs.reverse ds.reverse := by
  intro vs
  induction vs with
  | nil => intro ds r; cases r; exact .nil
  | cons v vs ih =>
   intro ds r
   cases r with
   | cons r rs => rw [List.reverse_cons, List.reverse_cons]; exact (ih rs).append (.cons r .nil)
 exact (T.ok O hA i'2 (hrev r'2)).t2 fun _ s'3 β3 a'3 i3 => ⟨β3, (a'1.trans a'2).trans a'3, i3, trivial⟩
theorem ZrT (O : Zw G C) {o i value : Expr} {p pos : Pos} {n : Nat} (h : Yu G H C σ B (eval value C.env) d B₁) (ho : Yu G H C σ B₁ (eval o C.env) (.box n) B₂) (hi : Yu G H C σ B₂ (eval i C.env) d₂ B3)
  (hp : Zcj B3 n d₂ d = some B4) (hs : swapsWith value (some (.Subscript o i p)) pos.line C.env = pure false) : ZaN G H C σ B (exec (.Assign [.Subscript o i p] value pos) C.env) (.next, σ, B4) := fun A β s hA I E =>
 wpAny_Assign_Subscript ((h A β s hA I).t3 fun v s'1 β1 a'1 i'1 r'1 => (ho A β1 s'1 hA i'1).t3 fun ov s'2 β2 a'2 i'2 r'2 => (hi A β2 s'2 hA i'2).t3 fun iv s'3 β3 a'3 i3 r'3 =>
  (ZpW O i3 (a'3.e O r'2) r'3 ((a'2.trans a'3).e O r'1) hp).to fun _ s'4 ⟨i'4, a'4⟩ => ⟨β3, ((a'1.trans a'2).trans a'3).trans a'4, i'4, trivial⟩) hs
theorem Zti (O : Zw G C) {x : Str} {value : Expr} {op : Operator} {p pos : Pos} (hxa : x ∈ C.asg) (k : C.env.kindOf x = some .local \/ C.env.kindOf x = some .cell) (hc : (x == ("__classdict__" : Str)) = false) (hd : C.look σ x = some d₁)
  (h : Yu G H C σ B (eval value C.env) d₂ B₁) (hop : Op2 G H B₁ (inplaceOp op) d₁ d₂ d) : ZaN G H C σ B (exec (.AugAssign (.Name x p) op value pos) C.env) (.next, σ.set (C.names.idxOf x) (some d), B₁) := fun A β s hA I E =>
 wpAny_AugAssign_Name ((Zrc (H := H) (B := B) O (k.imp id .inl) hd hc A β s hA I).t3 fun ov s'1 β1 a'1 i'1 r'1 => (h A β1 s'1 hA i'1).t3 fun v s'2 β2 a'2 i'2 r'2 =>
  (hop C σ A β2 s'2 ov v O hA i'2 (a'2.e O r'1) r'2).t3 fun nv s'3 β3 a'3 i3 r'3 => (Zjj O i3 hxa k r'3).to fun _ s'4 ⟨i'4, a'4⟩ => ⟨β3, ((a'1.trans a'2).trans a'3).trans a'4, i'4, trivial⟩)
theorem Zmz (O : Zw G C) {o i value : Expr} {op : Operator} {p pos : Pos} {n : Nat} (ho : Yu G H C σ B (eval o C.env) (.box n) B₁) (hi : Yu G H C σ B₁ (eval i C.env) d₁ B₂) (hg : Zc B₂ (.box n) d₁ = some d₂)
  (h : Yu G H C σ B₂ (eval value C.env) d₃ B3) (hop : Op2 G H B3 (inplaceOp op) d₂ d₃ d₄) (hp : Zcj B3 n d₁ d₄ = some B4)
  (ha : ∀ ov iv new, augStore i ov iv new = (do holding [new, ov, iv] (setItem ov iv new); release [new, ov, iv] []; pure .next)) :
  ZaN G H C σ B (exec (.AugAssign (.Subscript o i p) op value pos) C.env) (.next, σ, B4) := fun A β s hA I E =>
 wpAny_AugAssign_Subscript_any ((ho A β s hA I).t3 fun ov s'1 β1 a'1 i'1 r'1 => (hi A β1 s'1 hA i'1).t3 fun iv s'2 β2 a'2 i'2 r'2 =>
  ((Zkc (G := G) (H := H) hg).1 C σ A β2 s'2 ov iv O hA i'2 (a'2.e O r'1) r'2).t3 fun old s'3 β3 a'3 i3 r'3 => (h A β3 s'3 hA i3).t3 fun v s'4 β4 a'4 i'4 r'4 =>
   (hop C σ A β4 s'4 old v O hA i'4 (a'4.e O r'3) r'4).t3 fun nv s'5 β5 a'5 i5 r'5 =>
    (ZpW O i5 ((((a'2.trans a'3).trans a'4).trans a'5).e O r'1) (((a'3.trans a'4).trans a'5).e O r'2) r'5 hp).to fun _ s'6 ⟨i6, a'6⟩ => ⟨β5, ((((a'1.trans a'2).trans a'3).trans a'4).trans a'5).trans a'6, i6, trivial⟩) ha
noncomputable def ZhS (B : Bx) (n : Nat) (d : V) : Option Bx := match B[n]? with
 | some (.list xs) => if ZH xs.length then some (B.set n (.list (xs ++ [d]))) else none
 | _ => none
noncomputable def Zpc (B : Bx) (n : Nat) (d : V) : Option Bx := match B[n]?, d with
 | some (.list xs), .list ys => if ZH (xs.length + ys.length) then some (B.set n (.list (xs ++ ys))) else none
 | _, _ => none
noncomputable def Zh6 (B : Bx) (n : Nat) (d : V) : Option Bx := match B[n]?, d with
 | some (.list xs), .int k => if ZH xs.length && ZbG k then (seqIndex? k xs.length).map fun j => B.set n (.list (xs.eraseIdx j)) else none
 | _, _ => none
set_option tactic.hygienic true in
theorem ZmB {n : Nat} (h : ZhS B n d = some B') : OpN G H B B' (fun vs => call (.builtin "list.append") vs) [.box n, d] .none := fun C σ A β s vs O hA I rr E => by
 refine Xh (Xr rr) fun ov v z_2 ro rv => ?_;subst z_2;unfold ZhS at h
 split at h
 ·rename_i xs hB
  refine Xn (Zcp I ro hB) fun a z_1 hn hb => ?_;subst z_1;refine YU (ZoB hb) fun vs m e r => ?_
  split at h
  ·rename_i hz
   cases h
   have n1 : vs.size = xs.length := by rw [<- r.length]; simp
   refine wpAny_list_append_plain ⟨m, e⟩ (fun h' ⟨m', e'⟩ hs => ?_) (by rw [n1]; exact Yy hz);obtain ⟨i, a⟩ := I.upd (tk := s.toks) (d := .list (xs ++ [d])) O hn hs (.list e' (by rw [Array.toList_push]; exact (Zd.mono (I.keepBox hn hs) (fun _ _ z => z) r).append (.cons (Rep.mono (I.keepBox hn hs) (fun _ _ z => z) rv) .nil)));exact ⟨β, a, i, .none⟩
  ·exact nn h
 ·exact nn h
set_option tactic.hygienic true in
theorem Zm1 {n : Nat} (h : Zpc B n d = some B') : OpN G H B B' (fun vs => call (.builtin "list.extend") vs) [.box n, d] .none := fun C σ A β s vs O hA I rr E => by
 refine Xh (Xr rr) fun ov v z_2 ro rv => ?_;subst z_2;unfold Zpc at h
 split at h
 ·rename_i xs ys hB
  refine Xn (Zcp I ro hB) fun a z_1 hn hb => ?_;subst z_1;refine YU (ZoB hb) fun vs m e r => ?_;refine Xs rv.sh fun a2 ws m2 ev e2 n2 r2 => ?_;rw [ev]
  split at h
  ·rename_i hz
   cases h
   have n1 : vs.size = xs.length := by rw [<- r.length]; simp
   have n2 : ws.size = ys.length := by rw [<- r2.length]; simp
   have hsz : vs.size + ws.size <= sizeLine := by rw [n1, n2]; exact Yy hz
   refine call_meets PySem.F.slot_list_extend ⟨_, e, rfl⟩ PySem.F.entry_list_extend (PySem.F.args_list_extend_2 _ _) (AutoSeq1.list_extend_list_list_0 a vs m a2 ws m2 (extend_door hsz) (Nat.le_trans (Nat.le_add_right _ _) hsz) (Nat.le_trans hsz (Nat.le_succ _))) ⟨e, e2, ?_⟩;have hs : Heap.SameBut a s.heap (s.heap.update a (Obj.mapSeq fun x => x ++ ws)) := Heap.SameBut.update ..;obtain ⟨i, a⟩ := I.upd (tk := s.toks) (d := .list (xs ++ ys)) O hn hs (.list (IsL.update (n := m) e (fun x => x ++ ws)) (by rw [Array.toList_append]; exact (Zd.mono (I.keepBox hn hs) (fun _ _ z => z) r).append (Zd.mono (I.keepBox hn hs) (fun _ _ z => z) r2)));exact ⟨β, a, i, .none⟩
  ·exact nn h
 ·exact nn h
set_option tactic.hygienic true in
theorem ZsI (O : Zw G C) {A : Around} (I : Inv G C β B σ s) {n : Nat} {ov iv : Value} (ro : Rep G (avB C.av β) β s.heap ov (.box n)) (ri : Rep G (avB C.av β) β s.heap iv d) (h : Zh6 B n d = some B') :
  Ok G.prog G.w A (delItem ov iv) s fun _ s' => Inv G C β B' σ s' /\ Adv G C.mu β s β s' := by
 intro E;unfold Zh6 at h
 split at h
 ·rename_i xs k hB
  refine Xn (Zcp I ro hB) fun a z_1 hn hb => ?_;subst z_1;refine YU (ZoB hb) fun vs m e r => ?_;obtain ⟨t, rfl⟩ := Zu ri
  split at h
  ·rename_i hz
   obtain ⟨hz, hw⟩ := Bool.and_eq_true_iff.mp hz;refine Ze (Option.map_eq_some_iff.mp h) fun j hj z_2 => ?_;subst z_2;have n1 : vs.size = xs.length := by rw [<- r.length]; simp
   have hf : Builtin.List.listFitsIndex k = true := by
    unfold ZbG at hw;obtain ⟨h1, h2⟩ := Bool.and_eq_true_iff.mp hw;have h1 := of_decide_eq_true h1;have h2 := of_decide_eq_true h2;unfold Builtin.List.listFitsIndex;simp;omega
   refine wpAny_delItem_plain (k := j) ⟨m, e⟩ hf (by rw [n1]; exact hj) (fun h' ⟨m', e'⟩ hs => ?_) (by rw [n1]; exact Yy hz);refine I.upd (tk := s.toks) O hn hs (.list e' ?_);rw [Array.eraseIdxIfInBounds]
   split
   ·rw [Array.toList_eraseIdx]; exact Zd.mono (I.keepBox hn hs) (fun _ _ z => z) (r.eraseIdx j)
   ·rename_i hlt
    have : xs.eraseIdx j = xs := List.eraseIdx_of_length_le (by omega);rw [this];exact Zd.mono (I.keepBox hn hs) (fun _ _ z => z) r
  ·exact nn h
 ·exact nn h
theorem ZsG (O : Zw G C) {o i : Expr} {p pos : Pos} {n : Nat} (ho : Yu G H C σ B (eval o C.env) (.box n) B₁) (hi : Yu G H C σ B₁ (eval i C.env) d₁ B₂) (h : Zh6 B₂ n d₁ = some B3) :
  ZaN G H C σ B (exec (.Delete [.Subscript o i p] pos) C.env) (.next, σ, B3) := fun A β s hA I E =>
 wpAny_Delete (wpAny_deleteEach_cons (wpAny_delete_Subscript ((ho A β s hA I).t3 fun ov s'1 β1 a'1 i'1 r'1 => (hi A β1 s'1 hA i'1).t3 fun iv s'2 β2 a'2 i'2 r'2 =>
  (ZsI O i'2 (a'2.e O r'1) r'2 h).to fun _ s'3 ⟨i3, a'3⟩ => wpAny_deleteEach_nil ⟨β2, (a'1.trans a'2).trans a'3, i3, trivial⟩)))
end
structure K where
 sc : List (Str × NameKind)
 names : List Str
 asg : List Str
 gen : Bool := false
noncomputable def K.kind (k : K) (x : Str) : Option NameKind := k.sc.lookup x
structure XI (k : K) (C : Cx) : Prop where
 sc : C.env.scope.names = k.sc
 names : C.names = k.names
 asg : C.asg = k.asg
 gen : C.gen = k.gen
theorem XI.kind {k : K} {C : Cx} (F : XI k C) (x : Str) : C.env.kindOf x = k.kind x := by
 unfold Env.kindOf K.kind; rw [F.sc]
theorem XI.more {k : K} {C : Cx} (F : XI k C) (ow : Addr -> Prop) : XI k (C.more ow) := ⟨F.sc, F.names, F.asg, F.gen⟩
noncomputable def Ys (names : List (Str × NameKind)) : List Str := (names.filter fun x => x.2 == .local || x.2 == .cell).map (·.1)
noncomputable def K.rel (k : K) (n : Str) (kd : NameKind) : NameKind := if kd == .free && k.kind n == some .cell then .cell else kd
noncomputable def K.child (k : K) (scope : Scope) : K := { sc := scope.names.map fun x => (x.1, k.rel x.1 x.2), names := Ys scope.names ++ k.names, asg := Ys scope.names, gen := k.gen }
noncomputable def Zbk (k : K) (scope : Scope) : Bool :=
 scope.kind == .function && decide (scope.names.map (·.1)).Nodup && (scope.names.lookup ("__debug__" : Str)).isNone &&
 scope.names.all fun x => x.2 != .free || ((k.kind x.1 == some .cell || k.kind x.1 == some .free) && !(Ys scope.names).contains x.1)
noncomputable def Zdm (env : Env) : List (Str × NameKind) -> List (Str × Addr) -> Option (List (Str × Addr))
 | [], cs => some cs
 | (n, kd) :: r, cs => if kd == .free then match env.cells.lookup n with | some c => Zdm env r ((n, c) :: cs) | none => none else Zdm env r cs
set_option tactic.hygienic true in
theorem ZjQ {env : Env} (f : Str × NameKind -> List (Str × Addr) -> Sem (ForInStep (List (Str × Addr)))) (hf : ∀ n k cs, f (n, k) cs = if k == .free then (do let a <- cellOf env n; pure (.yield ((n, a) :: cs))) else pure (.yield cs)) :
  ∀ (names : List (Str × NameKind)) (cs cl : List (Str × Addr)), Zdm env names cs = some cl -> forIn names cs f = pure cl := by
 intro xs_
 induction xs_ with
 | nil =>
  intro cs cl h
  cases h; rw [List.forIn_nil]
 | cons p_ r ih_ =>
  intro cs cl h;obtain ⟨n, kd⟩ := p_;rw [List.forIn_cons, hf];unfold Zdm at h
  split at h
  ·rename_i hk
   rw [if_pos hk]
   split at h
   ·rename_i c hc
    unfold cellOf;rw [hc];simp only [pure_bind];exact ih_ _ cl h
   ·exact nn h
  ·rename_i hk
   rw [if_neg hk];simp only [pure_bind];exact ih_ _ cl h
theorem ZeC {env : Env} {scope : Scope} {cl : List (Str × Addr)} (h : Zdm env scope.names [] = some cl) : closureFor scope env = pure cl := by
 unfold closureFor;show (forIn scope.names [] _ >>= fun cs => pure cs) = _;rw [ZjQ _ (fun n k cs => by cases hk : k == NameKind.free <;> simp [hk]) _ _ _ h];simp
section
variable {G : GC} {C : Cx} {β : List Addr} {B : Bx} {σ : St} {s s' : Shared} {d : V} {v : Value} {b : Bool} {r : Out} {k : K}
theorem ZmI (hh : ∀ x, C.env.kindOf x = some .cell \/ C.env.kindOf x = some .free -> ∃ c, C.env.cells.lookup x = some c) : ∀ (names : List (Str × NameKind)) (cs : List (Str × Addr)),
  (∀ x ∈ names, x.2 = .free -> C.env.kindOf x.1 = some .cell \/ C.env.kindOf x.1 = some .free) -> ∃ cl, Zdm C.env names cs = some cl := by
 intro xs_
 induction xs_ with
 | nil =>
  intro cs _;exact ⟨cs, rfl⟩
 | cons p_ r ih_ =>
  intro cs h;obtain ⟨n, kd⟩ := p_;unfold Zdm
  split
  ·rename_i hk
   obtain ⟨c, hc⟩ := hh n (h (n, kd) (.head _) (beq_iff_eq.mp hk));rw [hc];exact ih_ _ fun x hx => h x (.tail _ hx)
  ·exact ih_ _ fun x hx => h x (.tail _ hx)
theorem Zje {env : Env} : ∀ (names : List (Str × NameKind)) (cs cl : List (Str × Addr)), Zdm env names cs = some cl -> ∀ x c, cl.lookup x = some c -> cs.lookup x = some c \/ env.cells.lookup x = some c := by
 intro xs_
 induction xs_ with
 | nil =>
  intro cs cl h x c hc
  cases h; exact .inl hc
 | cons p_ r ih_ =>
  intro cs cl h x c hc;obtain ⟨n, kd⟩ := p_;unfold Zdm at h
  split at h
  ·split at h
   ·rename_i c' hc'
    rcases ih_ _ cl h x c hc with z | z
    ·rw [List.lookup_cons] at z
     cases hb : x == n with
     | true => rw [hb] at z; cases z; rw [beq_iff_eq.mp hb]; exact .inr hc'
     | false => rw [hb] at z; exact .inl z
    ·exact .inr z
   ·exact nn h
  ·exact ih_ _ cl h x c hc
theorem ZlM {env : Env} : ∀ (names : List (Str × NameKind)) (cs cl : List (Str × Addr)), Zdm env names cs = some cl -> ∀ x, (cs.lookup x).isSome = true -> (cl.lookup x).isSome = true := by
 intro xs_
 induction xs_ with
 | nil =>
  intro cs cl h x hx
  cases h; exact hx
 | cons p_ r ih_ =>
  intro cs cl h x hx;obtain ⟨n, kd⟩ := p_;unfold Zdm at h
  split at h
  ·split at h
   ·refine ih_ _ cl h x ?_
    rw [List.lookup_cons]
    cases hb : x == n <;> simp [hx]
   ·exact nn h
  ·exact ih_ _ cl h x hx
theorem Ziv {env : Env} : ∀ (names : List (Str × NameKind)) (cs cl : List (Str × Addr)), Zdm env names cs = some cl -> ∀ x, (x, NameKind.free) ∈ names -> (cl.lookup x).isSome = true := by
 intro xs_
 induction xs_ with
 | nil =>
  intro cs cl h x hx
  cases hx
 | cons p_ r ih_ =>
  intro cs cl h x hx;obtain ⟨n, kd⟩ := p_;unfold Zdm at h
  split at h
  ·split at h
   ·rcases List.mem_cons.mp hx with e | hx
    ·cases e
     refine ZlM r _ cl h _ ?_;simp [List.lookup_cons]
    ·exact ih_ _ cl h x hx
   ·exact nn h
  ·rename_i hk
   rcases List.mem_cons.mp hx with e | hx
   ·cases e; exact absurd rfl hk
   ·exact ih_ _ cl h x hx
theorem Zgc : ∀ (names : List (Str × NameKind)) (n : Nat) (acc : List (Str × Addr)), (∀ x c, acc.lookup x = some c -> c < n) -> (∀ x y c, acc.lookup x = some c -> acc.lookup y = some c -> x = y) ->
  ∀ x y c, (cellsFrom n names acc).lookup x = some c -> (cellsFrom n names acc).lookup y = some c -> x = y := by
 intro xs_
 induction xs_ with
 | nil =>
  intro n acc h1 h2;exact h2
 | cons p_ r ih_ =>
  intro n acc h1 h2;obtain ⟨m, kd⟩ := p_;unfold cellsFrom
  split
  ·refine ih_ (n + 1) _ (fun x c hc => ?_) (fun x y c hx hy => ?_)
   ·rw [List.lookup_cons] at hc
    cases hb : x == m with
    | true => rw [hb] at hc; cases hc; exact Nat.lt_succ_self _
    | false => rw [hb] at hc; exact Nat.lt_succ_of_lt (h1 x c hc)
   ·rw [List.lookup_cons] at hx hy
    cases hb : x == m with
    | true =>
     rw [hb] at hx; cases hx
     cases hb' : y == m with
     | true => rw [beq_iff_eq.mp hb, beq_iff_eq.mp hb']
     | false => rw [hb'] at hy; exact absurd (h1 y _ hy) (Nat.lt_irrefl _)
    | false =>
     rw [hb] at hx
     cases hb' : y == m with
     | true => rw [hb'] at hy; cases hy; exact absurd (h1 x _ hx) (Nat.lt_irrefl _)
     | false => rw [hb'] at hy; exact h2 x y c hx hy
  ·exact ih_ n acc h1 h2
theorem Zgh : ∀ (names : List (Str × NameKind)) (n : Nat) (acc : List (Str × Addr)) (x : Str), (x, NameKind.cell) ∉ names -> (cellsFrom n names acc).lookup x = acc.lookup x := by
 intro xs_
 induction xs_ with
 | nil =>
  intro n acc x _;exact rfl
 | cons p_ r ih_ =>
  intro n acc x h;obtain ⟨m, kd⟩ := p_;unfold cellsFrom
  split
  ·rename_i hk
   rw [ih_ _ _ x fun z => h (.tail _ z), List.lookup_cons]
   cases hb : x == m with
   | true => rw [beq_iff_eq.mp hb] at h; rw [beq_iff_eq.mp hk] at h; exact absurd (.head _) h
   | false => rfl
  ·exact ih_ _ _ x fun z => h (.tail _ z)
theorem Ja {n₀ : Nat} : ∀ (names : List (Str × NameKind)) (n : Nat) (acc : List (Str × Addr)) (x : Str), ((x, NameKind.cell) ∈ names \/ ∃ c, acc.lookup x = some c /\ n₀ <= c) -> n₀ <= n -> ∃ c, (cellsFrom n names acc).lookup x = some c /\ n₀ <= c := by
 intro xs_
 induction xs_ with
 | nil =>
  intro n acc x h _;exact h.elim (fun z => nomatch z) id
 | cons p_ r ih_ =>
  intro n acc x h hn;obtain ⟨m, kd⟩ := p_;unfold cellsFrom
  split
  ·rename_i hk
   refine ih_ _ _ x ?_ (Nat.le_succ_of_le hn);rw [List.lookup_cons]
   cases hb : x == m with
   | true => exact .inr ⟨n, rfl, hn⟩
   | false =>
    rcases h with h | h
    ·rcases List.mem_cons.mp h with e | h
     ·cases e; simp at hb
     ·exact .inl h
    ·exact .inr h
  ·rename_i hk
   refine ih_ _ _ x ?_ hn;rcases h with h | h
   ·rcases List.mem_cons.mp h with e | h
    ·cases e; exact absurd rfl hk
    ·exact .inl h
   ·exact .inr h
theorem Zhs : ∀ (names : List (Str × NameKind)) (h : Heap) (acc : List (Str × Addr)) (lo : Nat), (∀ x c, acc.lookup x = some c -> lo <= c -> h.IsCell c none) ->
  ∀ x c, (cellsFrom h.objs.size names acc).lookup x = some c -> lo <= c -> (pushCells h names).IsCell c none := by
 intro xs_
 induction xs_ with
 | nil =>
  intro h acc lo ha;exact ha
 | cons p_ r ih_ =>
  intro h acc lo ha;obtain ⟨m, kd⟩ := p_;unfold cellsFrom pushCells
  split
  ·have := ih_ (h.push { cls := .type "cell", data := .cell none }) ((m, h.objs.size) :: acc) lo fun x c hc hl => by
    rw [List.lookup_cons] at hc
    cases hb : x == m with
    | true => rw [hb] at hc; cases hc; exact ⟨_, Heap.get?_push_size _ rfl, rfl⟩
    | false => rw [hb] at hc; exact (ha x c hc hl).keeps fun b o e => Heap.get?_push_of_some _ e
   rwa [Heap.size_push] at this
  ·exact ih_ h acc lo ha
theorem ZfL : ∀ (names : List (Str × NameKind)) (h : Heap), h.objs.size <= (pushCells h names).objs.size := by
 intro xs_
 induction xs_ with
 | nil =>
  intro h;exact Nat.le_refl _
 | cons p_ r ih_ =>
  intro h;obtain ⟨m, kd⟩ := p_;unfold pushCells
  split
  ·refine Nat.le_trans ?_ (ih_ _); rw [Heap.size_push]; exact Nat.le_succ _
  ·exact ih_ h
theorem Zl7 {scope : Scope} {globals : Addr} {cl : List (Str × Addr)} {qual : Str} {outer : Env} {A : Around} {E : Value -> Shared -> Prop} {Q : Env -> Shared -> Prop} {M : Model}
  (h : Q { scope, locals := s.heap.objs.size, globals, cells := cellsFrom (s.heap.objs.size + 1) scope.names cl, qual, func := none, code := outer.code, frame := outer.frame, builtins := outer.builtins }
   { s with heap := pushCells (s.heap.push { cls := .type "dict", data := .dict #[] }) scope.names }) : wpAny M A (newFunctionEnv scope globals cl [] qual none .none (some outer)) Q E s := by
 simp only [newFunctionEnv, Option.isSome_some, if_true];refine wpAny_bind (wpAny_alloc ?_);refine wpAny_bind (wpAny_layCells _ (fun name kind cells => by cases hkc : kind == NameKind.cell <;> simp) _ _ _ _ ?_);rw [show ({ s with heap := s.heap.push { cls := .type "dict", data := .dict #[] } } : Shared).heap.objs.size = s.heap.objs.size + 1 from Heap.size_push ..];rw [List.forIn_nil];exact wpAny_bind (wpAny_pure (wpAny_pure h))
theorem Zkl {f : Str -> NameKind -> NameKind} : ∀ {names : List (Str × NameKind)} {x : Str}, (names.map fun p => (p.1, f p.1 p.2)).lookup x = (names.lookup x).map (f x) := by
 intro xs_
 induction xs_ with
 | nil =>
  intro x;exact rfl
 | cons p_ r ih_ =>
  intro x;obtain ⟨n, kd⟩ := p_;simp only [List.map_cons, List.lookup_cons]
  cases hb : x == n with
  | true => rw [beq_iff_eq.mp hb]; rfl
  | false => exact ih_
theorem Ya {names : List (Str × NameKind)} {x : Str} {kd : NameKind} (h : names.lookup x = some kd) : (x, kd) ∈ names := mem_of_lookup h
theorem YV : ∀ {names : List (Str × NameKind)} {x : Str} {kd : NameKind}, (names.map (·.1)).Nodup -> (x, kd) ∈ names -> names.lookup x = some kd
 | (n, k') :: r, x, kd, hn, h => by
  rw [List.lookup_cons];rcases List.mem_cons.mp h with e | h
  ·cases e; simp
  ·have hne : (x == n) = false := by
    have := (List.nodup_cons.mp hn).1
    cases hb : x == n with
    | false => rfl
    | true => rw [beq_iff_eq.mp hb] at h; exact absurd (List.mem_map_of_mem (f := (·.1)) h) this
   rw [hne]; exact YV (List.nodup_cons.mp hn).2 h
theorem X2 {names : List (Str × NameKind)} {x : Str} : x ∈ Ys names ↔ (x, NameKind.local) ∈ names \/ (x, NameKind.cell) ∈ names := by
 unfold Ys;rw [List.mem_map]
 constructor
 ·rintro ⟨⟨y, kd⟩, hy, rfl⟩
  obtain ⟨h1, h2⟩ := List.mem_filter.mp hy
  cases kd <;> simp at h2 <;> first | exact .inl h1 | exact .inr h1
 ·rintro (h | h)
  ·exact ⟨_, List.mem_filter.mpr ⟨h, rfl⟩, rfl⟩
  ·exact ⟨_, List.mem_filter.mpr ⟨h, rfl⟩, rfl⟩
noncomputable def Cx.sub (C : Cx) (env : Env) (scope : Scope) (n m : Nat) : Cx :=
 { env := env, names := Ys scope.names ++ C.names, av := fun a => C.av a \/ (n <= a /\ a < m), mu := fun a => n <= a /\ a < m, asg := Ys scope.names, gen := C.gen }
noncomputable def X6 (C : Cx) (scope : Scope) (cl : List (Str × Addr)) (n : Nat) : Env :=
 { scope := relabel scope C.env, locals := n, globals := C.env.globals, cells := cellsFrom (n + 1) scope.names cl, qual := C.env.qual, func := none, code := C.env.code, frame := C.env.frame, builtins := C.env.builtins }
theorem Ziq (O : Zw G C) (F : XI k C) {scope : Scope} {cl : List (Str × Addr)} {n : Nat} : (X6 C scope cl n).scope.names = (k.child scope).sc := by
 show (relabel scope C.env).names = _;unfold relabel K.child;simp only;apply List.map_congr_left
 rintro ⟨x, kd⟩ _
 unfold K.rel;rw [O.kind, F.kind];simp only [beq_self_eq_true, Bool.and_true]
 split <;> rfl
theorem Zpj (O : Zw G C) (F : XI k C) {scope : Scope} {cl : List (Str × Addr)} {n m : Nat} : XI (k.child scope) (C.sub (X6 C scope cl n) scope n m) :=
 ⟨Ziq O F, by show Ys scope.names ++ C.names = _; rw [F.names]; rfl, rfl, F.gen⟩
theorem Zsj (O : Zw G C) (F : XI k C) (I : Inv G C β B σ s) {scope : Scope} (hc : Zbk k scope = true) {cl : List (Str × Addr)} (hcl : Zdm C.env scope.names [] = some cl) {s' : Shared}
  (hs' : s' = { s with heap := pushCells (s.heap.push { cls := .type "dict", data := .dict #[] }) scope.names }) :
  Zw G (C.sub (X6 C scope cl s.heap.objs.size) scope s.heap.objs.size s'.heap.objs.size) /\
  Inv G (C.sub (X6 C scope cl s.heap.objs.size) scope s.heap.objs.size s'.heap.objs.size) β B (List.replicate (Ys scope.names).length none ++ σ) s' /\ Ext s s' /\
  (∀ x c, (X6 C scope cl s.heap.objs.size).cells.lookup x = some c -> C.env.cells.lookup x = some c \/ s.heap.objs.size <= c) /\ s.heap.objs.size < s'.heap.objs.size := by
 have hcc := hc;unfold Zbk at hcc;simp only [Bool.and_eq_true, beq_iff_eq, decide_eq_true_eq, List.all_eq_true, Option.isNone_iff_eq_none] at hcc;obtain ⟨⟨⟨hkind, hnd⟩, hdbg⟩, hall⟩ := hcc
 have hfree : ∀ x, (x, NameKind.free) ∈ scope.names -> (C.env.kindOf x = some .cell \/ C.env.kindOf x = some .free) /\ x ∉ Ys scope.names := fun x hx => by
  have := hall _ hx;rw [F.kind]
  simpa [List.contains_iff_mem] using this
 have hsz : s.heap.objs.size < s'.heap.objs.size := by
  subst hs';refine Nat.lt_of_lt_of_le ?_ (ZfL scope.names _);rw [Heap.size_push]; exact Nat.lt_succ_self _
 have x : Ext s s' := by
  subst hs';exact ⟨fun b o e => pushCells_keeps _ _ b o (Heap.get?_push_of_some _ e), Nat.le_of_lt hsz, rfl, rfl⟩
 have h0 := I.H0 O;have cl_par : ∀ x c, cl.lookup x = some c -> C.env.cells.lookup x = some c := fun x c h => (Zje _ _ _ hcl x c h).elim (fun z => by simp at z) id;have cl_lt : ∀ x c, cl.lookup x = some c -> c < s.heap.objs.size + 1 := fun x c h => Nat.lt_succ_of_lt (I.low c (O.cellav x c (cl_par x c h)))
 have hcell : ∀ x c, (cellsFrom (s.heap.objs.size + 1) scope.names cl).lookup x = some c -> s.heap.objs.size + 1 <= c -> s'.heap.IsCell c none := by
  subst hs';have := Zhs scope.names (s.heap.push { cls := .type "dict", data := .dict #[] }) cl (s.heap.objs.size + 1) (fun x c h h' => absurd (cl_lt x c h) (Nat.not_lt.mpr h'));rw [Heap.size_push] at this;exact this
 have hnew : ∀ x, (x, NameKind.cell) ∈ scope.names -> ∃ c, (cellsFrom (s.heap.objs.size + 1) scope.names cl).lookup x = some c /\ s.heap.objs.size + 1 <= c := fun x hx => Ja (n₀ := s.heap.objs.size + 1) _ _ _ x (.inl hx) (Nat.le_refl _);have hold : ∀ x, (x, NameKind.cell) ∉ scope.names -> (cellsFrom (s.heap.objs.size + 1) scope.names cl).lookup x = cl.lookup x := fun x hx => Zgh _ _ _ x hx
 have hk' : ∀ x, (X6 C scope cl s.heap.objs.size).kindOf x = (scope.names.lookup x).map (k.rel x) := fun x => by
  unfold Env.kindOf;rw [Ziq O F];exact Zkl
 have rel_local : ∀ x, k.rel x .local = .local := fun x => rfl
 have own_cell : ∀ x, x ∈ Ys scope.names -> (X6 C scope cl s.heap.objs.size).kindOf x = some .cell -> (x, NameKind.cell) ∈ scope.names := fun x hx hkx => by
  rcases X2.mp hx with h | h
  ·rw [hk', YV hnd h] at hkx
   cases hkx
  ·exact h
 have var_cases : ∀ x, ZbS ((X6 C scope cl s.heap.objs.size).kindOf x) -> x ∈ Ys scope.names \/ (x, NameKind.free) ∈ scope.names := fun x hx => by
  rw [hk'] at hx
  cases hl : scope.names.lookup x with
  | none => rw [hl] at hx; rcases hx with h | h | h <;> cases h
  | some kd =>
   have hm := Ya hl;rw [hl] at hx
   cases kd with
   | «local» => exact .inl (X2.mpr (.inl hm))
   | cell => exact .inl (X2.mpr (.inr hm))
   | free => exact .inr hm
   | _ => rcases hx with h | h | h <;> cases h
 have av_cell : ∀ x c, (cellsFrom (s.heap.objs.size + 1) scope.names cl).lookup x = some c -> (C.env.cells.lookup x = some c /\ cl.lookup x = some c) \/ (s.heap.objs.size <= c /\ c < s'.heap.objs.size) := fun x c h => by
  by_cases hx : (x, NameKind.cell) ∈ scope.names
  ·refine Ze (hnew x hx) fun c' h1 h2 => ?_
   rw [h] at h1; cases h1;exact .inr ⟨Nat.le_of_succ_le h2, (hcell x c h h2).lt⟩
  ·rw [hold x hx] at h
   exact .inl ⟨cl_par x c h, h⟩
 refine ⟨⟨O.gok, hkind, O.globals, O.builtins, fun a h => .inr h, fun a h => .inl (O.tbav a h), ⟨Nat.le_refl _, hsz⟩, fun a h => Nat.le_trans h0 h.1, fun x c hx hkx hl => ?_, fun x c hl => ?_, (Zgc scope.names (s.heap.objs.size + 1) cl cl_lt (fun x y c h h' => O.inj x y c (cl_par x c h) (cl_par y c h') : ∀ x y c, cl.lookup x = some c -> cl.lookup y = some c -> x = y)), fun x hx => ?_, fun x c hl => ?_, fun x hx => ?_, ?_, O.code⟩, ?_, x, fun y c h => (av_cell y c h).imp (·.1) (·.1), hsz⟩
 ·refine Ze (hnew x (own_cell x hx hkx)) fun c' h1 h2 => ?_
  have hl : (cellsFrom (s.heap.objs.size + 1) scope.names cl).lookup x = some c := hl;rw [h1] at hl; cases hl;exact ⟨Nat.le_of_succ_le h2, (hcell x _ h1 h2).lt⟩
 ·rcases av_cell x c hl with h | h
  ·exact .inl (O.cellav x c h.1)
  ·exact .inr h
 ·rcases var_cases x (.inr hx) with h | h
  ·have : (X6 C scope cl s.heap.objs.size).kindOf x = some .cell := by
    rcases hx with hx | hx
    ·exact hx
    ·rcases X2.mp h with h | h
     ·have hx : (X6 C scope cl s.heap.objs.size).kindOf x = some .free := hx
      rw [hk', YV hnd h] at hx; cases hx
     ·have hx : (X6 C scope cl s.heap.objs.size).kindOf x = some .free := hx
      rw [hk', YV hnd h] at hx; cases hx
   refine Ze (hnew x (own_cell x h this)) fun c h1 _ => ?_;exact ⟨c, h1⟩
  ·have hx : (x, NameKind.cell) ∉ scope.names := fun z => by
    have := (YV hnd z).symm.trans (YV hnd h); cases this
   obtain ⟨c, hc⟩ := Option.isSome_iff_exists.mp (Ziv _ _ _ hcl x h);exact ⟨c, (hold x hx).trans hc⟩
 ·rcases av_cell x c hl with h | h
  ·exact O.cell0 x c h.1
  ·exact Nat.le_trans h0 h.1
 ·rcases var_cases x hx with h | h
  ·exact List.mem_append.mpr (.inl h)
  ·exact List.mem_append.mpr (.inr (O.known x ((hfree x h).1.elim (fun z => .inr (.inl z)) fun z => .inr (.inr z))))
 ·show (X6 C scope cl s.heap.objs.size).kindOf "__debug__" = none
  rw [hk', hdbg]; rfl
 ·have Im : Inv G (C.more fun a => s.heap.objs.size <= a /\ a < s'.heap.objs.size) β B σ s' := I.more x fun a h => h
  refine ⟨Im.wd, Im.low, ?_, fun y ya hy => ?_, fun y d e ky => ?_, ?_, Im.boxes⟩
  ·subst hs'
   exact ⟨_, (Heap.Ns.new s.heap (.type "dict")).keeps (pushCells_keeps _ _)⟩
  ·refine Ze (hnew y (own_cell y ya hy)) fun c h1 h2 => ?_
   exact ⟨c, none, h1, hcell y c h1 h2⟩
  ·have e : ((List.replicate (Ys scope.names).length none ++ σ)[(Ys scope.names ++ C.names).idxOf y]?).join = some d := e
   by_cases hy : y ∈ Ys scope.names
   ·have hi : (Ys scope.names ++ C.names).idxOf y < (Ys scope.names).length := by
     rw [List.idxOf_append, if_pos hy]; exact List.idxOf_lt_length_of_mem hy
    rw [List.getElem?_append_left (by simpa using hi), List.getElem?_replicate] at e;simp [hi] at e
   ·rw [List.idxOf_append, if_neg hy, List.getElem?_append_right (by simp), List.length_replicate] at e
    have hf := (var_cases y ky).resolve_left hy;refine Ze (Im.vars y d (by unfold Cx.look; rw [<- e]; congr 2; omega : C.look σ y = some d) ((hfree y hf).1.elim (fun z => .inr (.inl z)) fun z => .inr (.inr z))) fun v hb hr => ?_;refine ⟨v, .inr ⟨?_, ?_⟩, hr⟩
    ·rcases ky with ky | ky
     ·have ky : (X6 C scope cl s.heap.objs.size).kindOf y = some .local := ky
      rw [hk', YV hnd hf] at ky;simp [K.rel] at ky
      split at ky <;> cases ky
     ·exact ky
    ·rcases hb with ⟨kb, _⟩ | ⟨_, c, hc', hv⟩
     ·have kb : C.env.kindOf y = some .local := kb
      rcases (hfree y hf).1 with z | z <;> (rw [z] at kb; cases kb)
     ·refine ⟨c, ?_, hv⟩
      obtain ⟨c', hc2⟩ := Option.isSome_iff_exists.mp (Ziv _ _ _ hcl y hf);have := cl_par y c' hc2;have hc' : C.env.cells.lookup y = some c := hc';rw [this] at hc'; cases hc';exact (hold y (fun z => hy (X2.mpr (.inr z)) : (y, NameKind.cell) ∉ scope.names)).trans hc2
  ·show (List.replicate _ none ++ σ).length = (Ys scope.names ++ C.names).length
   rw [List.length_append, List.length_append, List.length_replicate, I.slots]
end
noncomputable def ZnL (e : Expr) (depth : Nat) (acc : Value) (env : Env) (emitT : Sem Unit) (k : Sem PySem.Fin) : Option Comprehension -> Sem PySem.Fin
 | none => do emitT; k
 | some g' => do
  let x <- eval g'.iter env
  standAt g'.iter.pos
  let x <- foldedSetIterable g'.iter env x
  let _ <- runOwn (.compStart e (depth + 1) (<- holding [x] (pyIter x)) acc env) env
  k
noncomputable def ZfU (ifs : List Expr) (env : Env) : Sem Bool := forIn ifs true fun c r => if r = true then do let ok <- PySem.isTrue c env (eval c env); pure (ForInStep.yield ok) else pure (ForInStep.yield r)
noncomputable def Zlv (e : Expr) (depth : Nat) (it acc : Value) (env : Env) (emitT : Sem Unit) (g : Comprehension) (g' : Option Comprehension) : Sem PySem.Fin := do
 standAt g.iter.pos
 match <- pyNext it with
 | none => pure (.done .next)
 | some v =>
  letOwnedTupleGo g.target it v
  assign g.target env v
  let ok <- ZfU g.ifs env
  if ok = true then
   ZnL e depth acc env emitT (again (.compLoop e depth it acc env)) g'
  else again (.compLoop e depth it acc env)
noncomputable def Zk1 (elt : Expr) (acc : Value) (env : Env) : Sem Unit := do let _ <- call (.builtin "list.append") [acc, <- eval elt env]
noncomputable def Zk8 (k v : Expr) (d : Addr) (env : Env) : Sem Unit := do
    let kv <- eval k env
    let vv <- holding [kv] (eval v env)
    standAt { k.pos with endLine := v.pos.endLine, endCol := v.pos.endCol }
    holding [kv, vv] (dictSet d kv vv)
theorem Zr5 {elt : Expr} {gens : List Comprehension} {scope : Scope} {pos : Pos} {depth : Nat} {it acc : Value} {env : Env} {g : Comprehension} {g' : Option Comprehension} (h : gens[depth]? = some g) (ha : g.is_async = 0)
  (h' : gens[depth + 1]? = g') (hb : ∀ x, g' = some x -> x.is_async = 0) :
  compTurn (.ListComp elt gens scope pos) depth it acc env = Zlv (.ListComp elt gens scope pos) depth it acc env (Zk1 elt acc env) g g' := by
 obtain ⟨t, i, fs, as⟩ := g;obtain rfl : as = 0 := ha;unfold compTurn;dsimp only;rw [h, h']
 cases g' with
 | none => rfl
 | some g' =>
  obtain ⟨t', i', fs', as'⟩ := g';obtain rfl : as' = 0 := hb _ rfl;rfl
theorem Zs9 {kx vx : Expr} {gens : List Comprehension} {scope : Scope} {pos : Pos} {depth : Nat} {it : Value} {D : Addr} {env : Env} {g : Comprehension} {g' : Option Comprehension} (h : gens[depth]? = some g) (ha : g.is_async = 0)
  (h' : gens[depth + 1]? = g') (hb : ∀ x, g' = some x -> x.is_async = 0) :
  compTurn (.DictComp kx vx gens scope pos) depth it (.ref D) env = Zlv (.DictComp kx vx gens scope pos) depth it (.ref D) env (Zk8 kx vx D env) g g' := by
 obtain ⟨t, i, fs, as⟩ := g;obtain rfl : as = 0 := ha;unfold compTurn;dsimp only;rw [h, h']
 cases g' with
 | none => rfl
 | some g' =>
  obtain ⟨t', i', fs', as'⟩ := g';obtain rfl : as' = 0 := hb _ rfl;rfl
theorem Zm2 {e : Expr} {gens : List Comprehension} {depth : Nat} {it acc : Value} {env : Env} {g : Comprehension} (hc : clausesOf e = gens) (h : gens[depth]? = some g) (ha : g.is_async = 0) :
  compStart e depth it acc env = (do
   if (<- ask).params.followText "comprehension-iter-twice" then return <- again (.compLoop e depth it acc env)
   rule "comprehension.iter-twice"
   standAt g.iter.pos
   again (.compLoop e depth (<- pyIter it) acc env)) := by
 unfold compStart;rw [hc, h];simp [ha]
structure Xy where
 it : St -> Bx -> Option (Src × Bx)
 tp : Bool
 tgt : V -> St -> Option St
 ifs : St -> Bx -> Option (Bool × Bx)
noncomputable abbrev Zhq := St -> Bx -> V -> Option (Bx × V)
noncomputable abbrev ZaW := St × Bx × V
noncomputable def cl (step : V -> St -> Bx -> V -> Option ZaW) : Nat -> Src -> St -> Bx -> V -> Option ZaW
 | 0, _, _, _, _ => none
 | n + 1, src, σ, B, acc => match src.at B with
  | none => none
  | some none => some (σ, B, acc)
  | some (some x) => match step x σ B acc with
   | some (σ', B', acc') => cl step n src.adv σ' B' acc'
   | none => none
noncomputable def Jz (S : Xy) (inner : St -> Bx -> V -> Option ZaW) (x : V) (σ : St) (B : Bx) (acc : V) : Option ZaW := match S.tgt x σ with
 | none => none
 | some σ₁ => match S.ifs σ₁ B with
  | none => none
  | some (false, B₁) => some (σ₁, B₁, acc)
  | some (true, B₁) => inner σ₁ B₁ acc
noncomputable def cgo (emit : Zhq) : List Xy -> St -> Bx -> V -> Option ZaW
 | [], σ, B, acc => (emit σ B acc).map fun r => (σ, r)
 | S :: Ss, σ, B, acc => match S.it σ B with
  | none => none
  | some (src, B₁) => cl (Jz S (cgo emit Ss)) (src.fuel B₁) src σ B₁ acc
noncomputable def XD (C : Cx) (D : Addr) (a : Addr) : Prop := C.mu a \/ a = D
structure Zet (G : GC) (H : Nat) (k : K) (g : Comprehension) (S : Xy) : Prop where
 sync : g.is_async = 0
 ok : Ze1 S.tp g.target = true
 tgt : ∀ C, Zw G C -> XI k C -> ∀ σ B x σ', S.tgt x σ = some σ' -> Ziu G H C σ B (assign g.target C.env) x σ' B
 ifs : ∀ C, Zw G C -> XI k C -> ∀ σ B b B', S.ifs σ B = some (b, B') -> EvB G H C σ B (ZfU g.ifs C.env) b B'
structure ZrN (G : GC) (H : Nat) (k : K) (g : Comprehension) (S : Xy) : Prop where
 fold : ∀ env x, foldedSetIterable g.iter env x = pure x
 it : ∀ C, Zw G C -> XI k C -> ∀ σ B src B', S.it σ B = some (src, B') -> Ziw G H C σ B (eval g.iter C.env) src S.tp B'
inductive Zc8 (G : GC) (H : Nat) (k : K) : List Comprehension -> List Xy -> Prop
 | nil : Zc8 G H k [] []
 | cons (g : Comprehension) (gs : List Comprehension) (S : Xy) (Ss : List Xy) : Zet G H k g S -> ZrN G H k g S -> Zc8 G H k gs Ss -> Zc8 G H k (g :: gs) (S :: Ss)
noncomputable def ZdV (G : GC) (H : Nat) (k : K) (emitT : Addr -> Env -> Sem Unit) (emit : Zhq) : Prop :=
 ∀ C D, Zw G C -> XI k C -> XF G C (Yr D) -> ∀ A β s σ B acc B' acc', AOk H A -> Inv G C β B σ s -> Yo G (avB C.av β) β s.heap D acc -> emit σ B acc = some (B', acc') ->
  Ok G.prog G.w A (emitT D C.env) s fun _ s' => ∃ β', Adv G (XD C D) β s β' s' /\ Inv G C β' B' σ s' /\ Yo G (avB C.av β') β' s'.heap D acc'
structure Zen (G : GC) (e : Expr) (gens : List Comprehension) (emitT : Addr -> Env -> Sem Unit) : Prop where
 turn : ∀ depth it D env g g', gens[depth]? = some g -> g.is_async = 0 -> gens[depth + 1]? = g' -> (∀ x, g' = some x -> x.is_async = 0) -> compTurn e depth it (.ref D) env = Zlv e depth it (.ref D) env (emitT D env) g g'
 clauses : clausesOf e = gens
 frL : ∀ d it acc env, (Code.compLoop e d it acc env).isFrame = false
 frS : ∀ d it acc env, (Code.compStart e d it acc env).isFrame = false
 undL : ∀ (A : Around) d it acc env, A.under (Code.compLoop e d it acc env) = A
section
variable {G : GC} {C : Cx} {β β' : List Addr} {B B' B₁ : Bx} {σ σ' : St} {s s' : Shared} {H : Nat} {acc acc' : V} {v : Value} {b : Bool} {ds : List V} {ow : Addr -> Prop} {tp : Bool} {it : Value} {src : Src} {r : Out} {k : K} {D : Addr} {X : Addr -> Prop}
theorem Xj.advX (O : Zw G C) (W : XF G C ow) (I : Inv G C β B σ s) (T : Xj G C β s ow tp it src) (a : Adv G X β s β' s') (hX : ∀ q, X q -> C.av q) (hn : ∀ q, ow q -> ¬ X q) : Xj G C β' s' ow tp it src :=
 T.move (a.repKeep O hX) a.pre' fun b o h e => a.grow.keep b o e (by
  rintro (z | z)
  ·exact hn b h z
  ·exact I.boxes.apart b z (W.sub b h)) fun ⟨c, z⟩ => absurd (O.gok.tabs c b z).2.1 (Nat.not_lt.mpr (W.high b h))
theorem Yo.advX (O : Zw G C) (WD : XF G C (Yr D)) (I : Inv G C β B σ s) (q : Yo G (avB C.av β) β s.heap D acc) (a : Adv G X β s β' s') (hX : ∀ q, X q -> C.av q) (hn : ¬ X D) : Yo G (avB C.av β') β' s'.heap D acc :=
 q.mono (a.repKeep O hX) a.pre' fun o e => a.grow.keep D o e (by
  rintro (z | z)
  ·exact hn z
  ·exact I.boxes.apart D z (WD.sub D rfl)) fun ⟨c, z⟩ => absurd (O.gok.tabs c D z).2.1 (Nat.not_lt.mpr (WD.high D rfl))
theorem Yo.stepO (W : XF G C ow) (q : Yo G (avB C.av β) β s.heap D acc) (x : YM ow s s') (hn : ¬ ow D) : Yo G (avB C.av β) β s'.heap D acc :=
 q.mono (fun b o e n => ⟨x.keep b o (fun z => n (.inl (W.sub b z))) e, n⟩) (fun _ _ z => z) fun o e => x.keep D o hn e
theorem XF.more (WD : XF G C (Yr D)) (ow : Addr -> Prop) : XF G (C.more ow) (Yr D) := ⟨fun a h => .inl (WD.sub a h), WD.nomu, WD.high, WD.nocell⟩
theorem Yo.less (q : Yo G (avB (C.more ow).av β) β s.heap D acc) : Yo G (avB C.av β) β s.heap D acc := q.mono (fun b o e n => ⟨e, fun z => n (Zd4 ow b z)⟩) (fun _ _ z => z) fun o e => e
theorem ZeU : entryFor table "dict_itemiterator.__iter__" = some Builtin.«dict_keyiterator.__iter__» :=
 entryFor_alias (id' := "dict_keyiterator.__iter__") (by kernel_rfl) rfl (by decide +kernel) (by kernel_rfl)
theorem ZgC {A : Around} (T : Xj G C β s ow tp it src) {E : Value -> Shared -> Prop} {Q : Value -> Shared -> Prop} (h : Q it s) : wpAny (model G.prog G.w) A (pyIter it) Q E s := by
 induction T with
 | list h1 _ _ _ => exact wpAny_pyIter_listiter h1 h
 | tup h1 _ _ _ => exact wpAny_pyIter_tupleiter h1 h
 | range h1 _ => exact wpAny_pyIter_rangeiter h1 h
 | keys h1 _ _ => exact wpAny_pyIter_keyiter h1 h
 | vals h1 _ _ _ => exact wpAny_pyIter_valiter h1 h
 | @items I a kvs ep i ok ov ds h1 h2 h3 h4 =>
  have hT : s.TypeIs (.ref I) "dict_itemiterator" := ⟨_, h1, rfl⟩;refine wpAny_pyIter_slot hT PySem.F.slot_dict_itemiterator_iter (wpAny_call_entry PySem.F.slot_dict_itemiterator_iter hT ZeU ?_ (PySem.F.args_dict_itemiterator_iter_1 _));show wpAny _ _ (ret (.ref I)) _ _ s;exact wpAny_pure ⟨_, rfl, "dict_itemiterator", _, hT, PySem.F.slot_dict_itemiterator_next.lookup, h⟩
 | zip _ h1 _ _ _ _ _ _ _ _ _ _ => exact wpAny_pyIter_zip h1 h
 | str h1 => exact wpAny_pyIter_striter_ascii h1 h
 | box h1 _ => exact wpAny_pyIter_listiter h1 h
theorem Zh9 {e : Expr} {gens : List Comprehension} {emitT : Addr -> Env -> Sem Unit} (ce : Zen G e gens emitT) {depth : Nat} {env : Env} {g : Comprehension} {R : Result -> Shared -> Prop} {A : Around} {accv : Value} (h : gens[depth]? = some g) (ha : g.is_async = 0)
  (h0 : codeAny (model G.prog G.w) A (.compLoop e depth it accv env) R s) (hs : ∀ (A : Around) (E : Value -> Shared -> Prop) (Q : Value -> Shared -> Prop), Q it s -> wpAny (model G.prog G.w) A (pyIter it) Q E s) :
  codeAny (model G.prog G.w) A (.compStart e depth it accv env) R s := by
 refine codeAny_of_tree ?_;show wpAny _ _ (if (Code.compStart e depth it accv env).isFrame then _ else (compStart e depth it accv env).onRaise (fun x => do noteFrame x env; standAt theWindowsPlace)) _ _ s;rw [ce.frS, if_neg (by simp)];refine wpAny_notedAt ?_;rw [Zm2 ce.clauses h ha];refine wpAny_bind (wpAny_askSetting (wpAny_ite ?_))
 split
 ·exact wpAny_bind (wpAny_pure (wpAny_pure (And.intro rfl h0)))
 ·exact wpAny_bind (wpAny_rule (wpAny_bind (wpAny_standAt (wpAny_bind (hs _ _ _ (wpAny_pure (And.intro rfl h0)))))))
theorem Zql {step : V -> St -> Bx -> V -> Option ZaW} {n : Nat} {r : ZaW} (h : cl step n src σ B acc = some r) : ∃ m, n = m + 1 /\ ((src.at B = some none /\ r = (σ, B, acc)) \/ ∃ x o, src.at B = some (some x) /\ step x σ B acc = some o /\ cl step m src.adv o.1 o.2.1 o.2.2 = some r) := by
 cases n with
 | zero => exact nn h
 | succ n =>
  unfold cl at h
  split at h
  ·exact nn h
  ·exact ⟨n, rfl, .inl ⟨‹_›, (Option.some.inj h).symm⟩⟩
  ·split at h
   ·exact ⟨n, rfl, .inr ⟨_, _, ‹_›, ‹_›, h⟩⟩
   ·exact nn h
theorem ZjU {S : Xy} {inner : St -> Bx -> V -> Option ZaW} {x : V} {o : ZaW} (h : Jz S inner x σ B acc = some o) : ∃ σ₁ b B₁, S.tgt x σ = some σ₁ /\ S.ifs σ₁ B = some (b, B₁) /\ if b then inner σ₁ B₁ acc = some o else o = (σ₁, B₁, acc) := by
 unfold Jz at h
 split at h
 ·exact nn h
 ·split at h
  ·exact nn h
  ·exact ⟨_, false, _, ‹_›, ‹_›, (Option.some.inj h).symm⟩
  ·exact ⟨_, true, _, ‹_›, ‹_›, h⟩
noncomputable def Zsa (G : GC) (H : Nat) (C : Cx) (D : Addr) (e : Expr) (depth : Nat) (emitT : Addr -> Env -> Sem Unit) (g' : Option Comprehension) (inner : St -> Bx -> V -> Option ZaW) : Prop :=
 ∀ A s β σ B acc o, AOk H A -> Inv G C β B σ s -> Yo G (avB C.av β) β s.heap D acc -> inner σ B acc = some o -> ∀ (kk : Sem PySem.Fin) (Q : PySem.Fin -> Shared -> Prop) (E : Value -> Shared -> Prop),
  (∀ β' s', Adv G (XD C D) β s β' s' -> Inv G C β' o.2.1 o.1 s' -> Yo G (avB C.av β') β' s'.heap D o.2.2 -> wpAny (model G.prog G.w) A kk Q E s') -> wpAny (model G.prog G.w) A (ZnL e depth (.ref D) C.env (emitT D C.env) kk g') Q E s
noncomputable def Zul (G : GC) (C : Cx) (X : Addr -> Prop) (β : List Addr) (s : Shared) (ow : Addr -> Prop) (tp : Bool) (it : Value) (D : Addr) (step : V -> St -> Bx -> V -> Option ZaW) (r : ZaW) (n : Nat) (s' : Shared) : Prop :=
 ∃ β' σ' B' acc' src', Adv G X β s β' s' /\ Inv G (C.more ow) β' B' σ' s' /\ Xj G (C.more ow) β' s' ow tp it src' /\ Yo G (avB (C.more ow).av β') β' s'.heap D acc' /\ cl step n src' σ' B' acc' = some r
theorem Zgv {e : Expr} {gens : List Comprehension} {emitT : Addr -> Env -> Sem Unit} (ce : Zen G e gens emitT) {g : Comprehension} {S : Xy} {depth : Nat} {g' : Option Comprehension} (hg : Zet G H k g S) (h1 : gens[depth]? = some g) (h2 : gens[depth + 1]? = g')
  (hb : ∀ x, g' = some x -> x.is_async = 0) {inner : St -> Bx -> V -> Option ZaW} {A : Around} {s₀ : Shared} {β₀ : List Addr} {n : Nat} {r : ZaW} {R : Result -> Shared -> Prop} {X' : Addr -> Prop} (O : Zw G C) (F : XI k C) (WD : XF G C (Yr D)) (W : XF G (C.more ow) ow)
  (hX' : ∀ a, XD C D a -> X' a) (how : ∀ a, ow a -> s₀.heap.objs.size <= a \/ X' a) (hD : ∀ a, ow a -> a ≠ D) (hA : AOk H A) (a'0 : Adv G X' β₀ s₀ β s) (I : Inv G (C.more ow) β B σ s) (T : Xj G (C.more ow) β s ow S.tp it src) (q : Yo G (avB (C.more ow).av β) β s.heap D acc)
  (h : cl (Jz S inner) n src σ B acc = some r) (hR : ∀ β' s', Adv G X' β₀ s₀ β' s' -> Inv G (C.more ow) β' r.2.1 r.1 s' -> Yo G (avB (C.more ow).av β') β' s'.heap D r.2.2 -> R (.ok .next) s') (hin : Zsa G H (C.more ow) D e depth emitT g' inner) :
  codeAny (model G.prog G.w) A (.compLoop e depth it (.ref D) C.env) R s := by
 have O' := O.more ow;have WD' := WD.more ow;have hXav : ∀ a, XD C D a -> (C.more ow).av a := fun a z => z.elim (fun z => .inl (O.muav a z)) fun z => .inl (WD.sub a z);have hXow : ∀ a, ow a -> ¬ XD C D a := fun a z z' => z'.elim (W.nomu a z) (hD a z);have hDow : ¬ ow D := fun z => hD D z rfl;have hmD := WD.nomu D rfl;have F' := F.more ow
 have adv : ∀ {β1 s'1 s'2}, Adv G X' β₀ s₀ β1 s'1 -> YM ow s'1 s'2 -> Adv G X' β₀ s₀ β1 s'2 := fun a'1 hp =>
  ⟨a'1.pre, fun b o e n t => hp.keep b o (fun z => (how b z).elim (fun z => absurd (Heap.lt_size e) (Nat.not_lt.mpr z)) fun z => n (.inl z)) (a'1.grow.keep b o e n t), Nat.le_trans a'1.grow.size hp.size⟩
 have hAu : AOk H (A.under (Code.compLoop e depth it (.ref D) C.env)) := by rw [ce.undL]; exact hA
 refine codeAny_loop rfl (Zul G C X' β₀ s₀ ow S.tp it D (Jz S inner) r) ?_ n
  ⟨β, σ, B, acc, src, a'0, I, T, q, h⟩
 clear O F WD how hD hA a'0 I T q h
 rintro n s'1 ⟨β1, σ₁, B₁, acc1, src1, a'1, i'1, T'1, q'1, h'1⟩
 show wpAny _ _ (if (Code.compLoop e depth it (.ref D) C.env).isFrame then _ else (compTurn e depth it (.ref D) C.env).onRaise (fun x => do noteFrame x C.env; theTreesLotGoes x)) _ _ s'1;rw [ce.frL, if_neg Bool.false_ne_true];refine wpAny_noted ?_;rw [ce.turn depth it D C.env g g' h1 hg.sync h2 hb];unfold Zlv;refine wpAny_bind (wpAny_standAt ?_);refine Ze (Zql h'1) fun m hm h'1 => ?_;rcases h'1 with ⟨hat, hr⟩ | ⟨x, o, hat, hst, h'1⟩
 ·refine wpAny_bind ((Zcy O' hAu i'1 W T'1 hat).to fun p s'2 hp => ?_)
  cases p with
  | some v => exact hp.elim
  | none =>
   refine wpAny_pure (hR β1 s'2 (adv a'1 hp) ?_ ?_) <;> rw [hr]
   ·exact YM.inv O' W i'1 hp
   ·exact q'1.stepO W hp hDow
 ·refine wpAny_bind ((Zcy O' hAu i'1 W T'1 hat).to fun p s'2 hp => ?_)
  cases p with
  | none => exact hp.elim
  | some v =>
   refine wpAny_bind ((hp g.target hg.ok).to fun _ s'3 hz => ?_);refine XR hz fun x'3 r'3 T'3 => ?_;have i3 := YM.inv O' W i'1 x'3;have q'3 := q'1.stepO W x'3 hDow;have a'3 := adv a'1 x'3;clear hp i'1 q'1 a'1 T'1 hat x'3 adv;refine Y7 (ZjU hst) fun σ'2 b B5 htg hif hst => ?_;refine wpAny_bind ((hg.tgt _ O' F' σ₁ B₁ x σ'2 htg _ β1 s'3 v hAu i3 r'3).t2 fun _ s'4 β4 a'4 i'4 => ?_);have a04 := a'3.trans (a'4.mono fun a z => hX' a (.inl z));have q'4 := q'3.advX O' WD' i3 a'4 O'.muav hmD;have T4 := T'3.adv O' W i3 a'4;clear i3 r'3 T'3 q'3 a'3 a'4 htg;refine wpAny_bind ((hg.ifs _ O' F' _ _ b _ hif _ β4 s'4 hAu i'4).t3 fun ok s'5 β5 a'5 i5 e'5 => ?_);have a05 := a04.trans (a'5.mono fun a z => hX' a (.inl z));have q'5 := q'4.advX O' WD' i'4 a'5 O'.muav hmD;have T5 := T4.adv O' W i'4 a'5;clear i'4 T4 q'4 a04 a'5 hif;rw [e'5]
   cases b with
   | false =>
    rw [if_neg Bool.false_ne_true];rw [show o = (σ'2, B5, acc1) from hst] at h'1;exact wpAny_pure ⟨rfl, m, hm ▸ Nat.lt_succ_self m, β5, _, _, _, _, a05, i5, T5, q'5, h'1⟩
   | true =>
    rw [if_pos rfl];exact hin _ s'5 β5 σ'2 B5 acc1 o hAu i5 q'5 hst _ _ _ fun β6 s'6 a'6 i6 q'6 => wpAny_pure ⟨rfl, m, hm ▸ Nat.lt_succ_self m, β6, _, _, _, _, a05.trans (a'6.mono hX'), i6, T5.advX O' W i5 a'6 hXav hXow, q'6, h'1⟩
set_option tactic.hygienic true in
theorem ZlJ {e : Expr} {gens : List Comprehension} {emitT : Addr -> Env -> Sem Unit} {emit : Zhq} (ce : Zen G e gens emitT) (hem : ZdV G H k emitT emit) {rest : List Comprehension} {Ss : List Xy} (hrest : Zc8 G H k rest Ss) :
  ∀ (pre : List Comprehension) (g : Comprehension) (S : Xy), Zet G H k g S -> gens = pre ++ g :: rest -> ∀ {C : Cx} {D : Addr} {ow : Addr -> Prop} {A : Around} {s₀ s : Shared} {β₀ β : List Addr} {n : Nat} {src : Src} {σ : St} {B : Bx} {acc : V} {r : ZaW} {it : Value} {R : Result -> Shared -> Prop} {X' : Addr -> Prop},
   Zw G C -> XI k C -> XF G C (Yr D) -> XF G (C.more ow) ow -> (∀ a, XD C D a -> X' a) -> (∀ a, ow a -> s₀.heap.objs.size <= a \/ X' a) -> (∀ a, ow a -> a ≠ D) -> AOk H A -> Adv G X' β₀ s₀ β s -> Inv G (C.more ow) β B σ s ->
   Xj G (C.more ow) β s ow S.tp it src -> Yo G (avB (C.more ow).av β) β s.heap D acc -> cl (Jz S (cgo emit Ss)) n src σ B acc = some r ->
   (∀ β' s', Adv G X' β₀ s₀ β' s' -> Inv G (C.more ow) β' r.2.1 r.1 s' -> Yo G (avB (C.more ow).av β') β' s'.heap D r.2.2 -> R (.ok .next) s') ->
   codeAny (model G.prog G.w) A (.compLoop e pre.length it (.ref D) C.env) R s := by
 induction hrest with
 | nil =>
  intro pre g S hg hgens C D ow A s₀ s β₀ β n src σ B acc r it R X' O F WD W hX' how hD hA a'0 I T q h hR;refine Zgv (g' := none) ce hg (by rw [hgens]; exact List.getElem?_concat_length) (by rw [hgens]; exact List.getElem?_eq_none_iff.mpr (by rw [List.length_append]; exact Nat.le_refl _)) (fun x z => nomatch z) O F WD W hX' how hD hA a'0 I T q h hR ?_;intro A s β σ B acc o hAu i5 q'5 hst kk Q E hk;refine Ze (Option.map_eq_some_iff.mp hst) fun p hem' hout => ?_;rw [<- hout] at hk;exact wpAny_bind ((hem _ D (O.more ow) (F.more ow) (WD.more ow) _ β s _ _ _ _ _ hAu i5 q'5 hem').t3 fun _ s'6 β6 a'6 i6 q'6 => hk β6 s'6 a'6 i6 q'6)
 | cons g' gs' S' Ss' hg' hit' hrest' ih =>
  intro pre g S hg hgens C D ow A s₀ s β₀ β n src σ B acc r it R X' O F WD W hX' how hD hA a'0 I T q h hR;have hlen : (pre ++ [g]).length = pre.length + 1 := List.length_append;have hg2 : gens = (pre ++ [g]) ++ g' :: gs' := by rw [hgens, List.append_assoc]; rfl
  have hnx : gens[pre.length + 1]? = some g' := by rw [hg2, <- hlen, List.getElem?_append_right (Nat.le_refl _), Nat.sub_self]; rfl
  refine Zgv ce hg (by rw [hgens, List.getElem?_append_right (Nat.le_refl _), Nat.sub_self]; rfl) hnx (fun x z => Option.some.inj z ▸ hg'.sync) O F WD W hX' how hD hA a'0 I T q h hR ?_;have O' := O.more ow;have WD' := WD.more ow;have F' := F.more ow;have hmD := WD.nomu D rfl;have hDh := WD.high D rfl;clear W hX' how hD hA a'0 I T q h hR WD F;intro A s'5 β5 σ'2 B5 acc1 o hAu i5 q'5 hst kk Q E hk;unfold cgo at hst
  split at hst
  ·exact nn hst
  ·rename_i src6 B6 hsrc
   unfold ZnL;refine wpAny_bind ((hit'.it _ O' F' σ'2 B5 src6 B6 hsrc _ β5 s'5 hAu i5).to fun y s'6 hy => ?_);refine wpAny_bind (wpAny_standAt (wpAny_bind (wpAny_of_eq (hit'.fold _ _) ?_)));refine wpAny_bind (wpAny_holding (hy.to fun it' s'7 hz => ?_));refine JQ hz fun β7 ow' a7 how' i7 W' T7 => ?_
   have q7' : Yo G (avB ((C.more ow).more ow').av β7) β7 s'7.heap D acc1 := by
    refine q'5.mono (fun b o e n => ?_) a7.pre' fun o e => a7.grow.keep D o e (fun z => z.elim hmD fun z => i5.boxes.apart D z (WD'.sub D rfl)) fun ⟨c, z⟩ => absurd (O.gok.tabs c D z).2.1 (Nat.not_lt.mpr hDh);obtain ⟨e1, e2⟩ := a7.repKeep O' O'.muav b o e n;exact ⟨e1, fun z => z.elim (fun z => z.elim (fun z => e2 (.inl z)) fun z => absurd (Heap.lt_size e) (Nat.not_lt.mpr (how' b z))) fun z => e2 (.inr z)⟩
   refine wpAny_bind (wpAny_runOwn ?_);refine Zh9 ce (g := g') hnx hg'.sync ?_ fun A E Q hq => ZgC T7 hq;rw [<- hlen]
   exact ih (pre ++ [g]) g' S' hg' hg2 (C := C.more ow) (s₀ := s'5) (β₀ := β5) O' F' WD' W' (X' := XD C D) (fun a z => z) (fun a z => .inl (how' a z)) (fun a z e => absurd (let ⟨o, e⟩ := Zes q'5; Heap.lt_size e : D < s'5.heap.objs.size) (Nat.not_lt.mpr (e ▸ how' a z)) : ∀ a, ow' a -> a ≠ D) hAu (a7.mono fun a z => .inl z) i7 T7 q7' hst fun β8 s'8 a8 i8 q'8 =>
    hk β8 s'8 a8 i8.less q'8.less
end
section
variable {G : GC} {C : Cx} {β β' β'' : List Addr} {B B' B₁ : Bx} {σ : St} {s s' s'' : Shared} {H : Nat} {d acc acc0 : V} {v : Value} {b : Bool} {ow : Addr -> Prop} {tp : Bool} {it : Value} {src : Src} {r : Out} {k : K} {D : Addr} {X : Addr -> Prop}
noncomputable def Cx.withAv (C : Cx) (p : Addr -> Prop) : Cx := { C with av := p }
theorem Inv.weak {p : Addr -> Prop} (I : Inv G (C.withAv p) β B σ s) {q : Addr -> Prop} (h : ∀ a, q a -> p a) : Inv G (C.withAv q) β B σ s := by
 have hm : ∀ a, avB q β a -> avB p β a := fun a z => z.imp (h a) id;refine ⟨I.wd, fun a z => I.low a (h a z), I.ns, I.cells, fun y d e k => ?_, I.slots, I.boxes.len, I.boxes.nodup, fun a ha z => I.boxes.apart a ha (h a z), I.boxes.high, fun n a d e1 e2 => ?_⟩
 ·refine Ze (I.vars y d e k) fun v b r => ?_
  exact ⟨v, b, ZhB hm r⟩
 ·exact (I.boxes.at' n a d e1 e2).mono (fun b o e n => ⟨e, fun z => n (hm b z)⟩) (fun _ _ z => z) fun o z => z
theorem Inv.back (O : Zw G C) (I : Inv G C β B σ s) (a : Adv G X β s β' s') (hX : ∀ q, X q -> C.av q) (hL : ¬ X C.env.locals) (hc : ∀ x c, C.env.cells.lookup x = some c -> ¬ X c)
  (W : Wd G s') (Bx' : ZcN G C.av β' B' s'.heap) : Inv G C β' B' σ s' := by
 have h0 : ∀ {q}, G.H0.objs.size <= q -> ¬ G.Tb q := fun h ⟨c, z⟩ => absurd (O.gok.tabs c _ z).2.1 (Nat.not_lt.mpr h);have hβ : ∀ q, C.av q -> q ∉ β := fun q h z => I.boxes.apart q z h
 have hcell : ∀ {x c v}, C.env.cells.lookup x = some c -> s.heap.IsCell c v -> s'.heap.IsCell c v := fun hc' ⟨o, e1, e2⟩ =>
  ⟨o, a.grow.keep _ o e1 (fun z => z.elim (hc _ _ hc') (hβ _ (O.cellav _ _ hc'))) (h0 (O.cell0 _ _ hc')), e2⟩
 have hns : ∀ {m}, s.heap.Ns C.env.locals m -> s'.heap.Ns C.env.locals m := fun hn => hn.at fun o e => a.grow.keep _ o e (fun z => z.elim hL (hβ _ (O.muav _ O.muL))) (h0 (O.mu0 _ O.muL));refine ⟨W, fun q h => Nat.lt_of_lt_of_le (I.low q h) a.grow.size, let ⟨m, hn⟩ := I.ns; ⟨m, hns hn⟩, fun x xa hx => let ⟨c, v, h1, h2⟩ := I.cells x xa hx; ⟨c, v, h1, hcell h1 h2⟩, fun y d e ky => ?_, I.slots, Bx'⟩;refine Ze (I.vars y d e ky) fun v b r => ?_;refine ⟨v, ?_, Rep.mono (a.repKeep O hX) a.pre' r⟩;rcases b with ⟨k1, m, hn, hm⟩ | ⟨k1, c, hc', hv⟩
 ·exact .inl ⟨k1, m, hns hn, hm⟩
 ·exact .inr ⟨k1, c, hc', hcell hc' hv⟩
theorem ZcN.weak {p q : Addr -> Prop} {h : Heap} (x : ZcN G p β B h) (hq : ∀ a, q a -> p a) : ZcN G q β B h :=
 ⟨x.len, x.nodup, fun a ha z => x.apart a ha (hq a z), x.high, fun n a d e1 e2 => (x.at' n a d e1 e2).mono (fun b o e n => ⟨e, fun z => n (z.imp (hq b) id)⟩) (fun _ _ z => z) fun o z => z⟩
theorem Adv.transF {Y : Addr -> Prop} (x : Adv G X β s β' s') (y : Adv G Y β' s' β'' s'') (h : ∀ q, Y q -> X q \/ s.heap.objs.size <= q) : Adv G X β s β'' s'' := by
 refine Ze x.pre fun βn z_1 h1 => ?_;subst z_1;refine Ze y.pre fun βm z_1 h2 => ?_;subst z_1;refine ⟨⟨βn ++ βm, by simp, fun a ha => ?_⟩, x.grow.trans y.grow fun q hq hy => ?_⟩
 ·rcases List.mem_append.mp ha with h | h
  ·exact h1 a h
  ·exact Nat.le_trans x.grow.size (h2 a h)
 ·rcases hy with hy | hy
  ·rcases h q hy with z | z
   ·exact .inl z
   ·exact absurd hq (Nat.not_lt.mpr z)
  ·rcases List.mem_append.mp hy with h | h
   ·exact .inr h
   ·exact absurd hq (Nat.not_lt.mpr (h1 q h))
noncomputable def Zq0 (G : GC) (C : Cx) (β : List Addr) (σ : St) (s : Shared) (acc : V) (B' : Bx) (D n : Addr) (s' : Shared) : Prop :=
 ∃ p, (∀ a, C.av a -> p a) /\ p n /\ s.heap.objs.size <= n /\ D ≠ n /\ (∃ m, s'.heap.Ns n m) /\ Zw G (C.withAv p) /\ XK G (C.withAv p) β σ s acc B' (.ref D) s'
theorem ZiX {e : Expr} {g : Comprehension} {rest : List Comprehension} {emitT : Addr -> Env -> Sem Unit} {emit : Zhq} {S : Xy} {Ss : List Xy} {scope : Scope} {pos : Pos} {newAcc : Sem Value} {o'0 : Obj} {r : ZaW} {use : Option (Value -> Sem Unit)}
  (O : Zw G C) (F : XI k C) (ce : Zen G e (g :: rest) emitT) (hem : ZdV G H (k.child scope) emitT emit) (hg : Zet G H (k.child scope) g S) (hrest : Zc8 G H (k.child scope) rest Ss) (hc : Zbk k scope = true)
  (hfold : ∀ x, foldedSetIterable g.iter C.env x = pure x) (hi : Ziw G H C σ B (eval g.iter C.env) src S.tp B₁)
  (hacc : ∀ (A : Around) (s : Shared) (Q : Value -> Shared -> Prop) (E : Value -> Shared -> Prop), Q (.ref s.heap.objs.size) { s with heap := s.heap.push o'0 } -> wpAny (model G.prog G.w) A newAcc Q E s)
  (hbox : ∀ (av : Addr -> Prop) (β : List Addr) (h : Heap), (h.objs.size == sysModules) = false -> Yo G av β (h.push o'0) h.objs.size acc0)
  (h : cl (Jz S (cgo emit Ss)) (src.fuel B₁) src (List.replicate (Ys scope.names).length none ++ σ) B₁ acc0 = some r)
  {A : Around} {E : Value -> Shared -> Prop} {Q : Value -> Shared -> Prop} (hA : AOk H A) (I : Inv G C β B σ s)
  (hQ : ∀ D n s', Zq0 G C β σ s r.2.2 r.2.1 D n s' -> compPost (model G.prog G.w) A E use Q (.ref D) n (.ok .next) s') :
  wpAny (model G.prog G.w) A (comprehension e scope C.env pos newAcc false (eval g.iter C.env) use) Q E s := by
 have hcc := hc;unfold Zbk at hcc;simp only [Bool.and_eq_true, beq_iff_eq, decide_eq_true_eq, List.all_eq_true, Option.isNone_iff_eq_none] at hcc;obtain ⟨⟨⟨hkind, hnd⟩, hdbg⟩, hall⟩ := hcc
 obtain ⟨cl', hcl⟩ := ZmI (C := C) O.has scope.names [] fun x hx hf => by
  have := hall x hx;rw [hf] at this;rw [F.kind];simp only [bne_self_eq_false, Bool.false_or, Bool.and_eq_true, Bool.or_eq_true, beq_iff_eq] at this;exact this.1
 refine wpAny_comprehension_free ce.clauses hfold (ZeC hcl) hkind (fun x hx hl => YV hnd (by rw [<- hl]; exact hx)) ?_;refine (hi A β s hA I).to fun x s'1 hx => hx.to fun it s'2 hz => ?_;refine JQ hz fun β2 ow a'2 how i'2 W T => ?_;refine hacc A s'2 _ E ?_;have O2 := O.more ow;have x'3 := Ext.push s'2 o'0;have hD : ∀ a, Yr s'2.heap.objs.size a -> s'2.heap.objs.size <= a /\ a < ({ s'2 with heap := s'2.heap.push o'0 } : Shared).heap.objs.size := fun a z => ⟨Nat.le_of_eq z.symm, by show a < (s'2.heap.push o'0).objs.size; rw [Heap.size_push]; exact z ▸ Nat.lt_succ_self _⟩;have i3 := i'2.more x'3 hD;have O3 := O2.more (Yr s'2.heap.objs.size);have WD3 : XF G ((C.more ow).more (Yr s'2.heap.objs.size)) (Yr s'2.heap.objs.size) := ZeK O2 i'2 fun a z => Nat.le_of_eq z.symm;have q'3 : Yo G (avB ((C.more ow).more (Yr s'2.heap.objs.size)).av β2) β2 (s'2.heap.push o'0) s'2.heap.objs.size acc0 := hbox _ _ _ (Zka O2 i'2 (Nat.le_refl _));generalize hs3 : ({ s'2 with heap := s'2.heap.push o'0 } : Shared) = s'3 at i3 x'3 hD ⊢;have q'3 : Yo G (avB ((C.more ow).more (Yr s'2.heap.objs.size)).av β2) β2 s'3.heap s'2.heap.objs.size acc0 := by rw [<- hs3]; exact q'3
 have hDlt : s'2.heap.objs.size < s'3.heap.objs.size := (hD _ rfl).2;have hsD : s.heap.objs.size <= s'2.heap.objs.size := a'2.grow.size;have lt2 : ∀ b o, s'2.heap.get? b = some o -> b < s'2.heap.objs.size := fun b o e => Heap.lt_size e;have low2 : ∀ a, (C.more ow).av a -> a < s'2.heap.objs.size := i'2.low;refine Zl7 ?_;generalize hs4 : ({ s'3 with heap := pushCells (s'3.heap.push { cls := .type "dict", data := .dict #[] }) scope.names } : Shared) = s'4;refine Zh2 (Zsj (s' := s'4) O3 ((F.more ow).more (Yr s'2.heap.objs.size)) i3 hc (cl := cl') hcl hs4.symm) fun O4 i'4 x'4 hcells hlt => ?_;clear hs3 hs4 hD;generalize s'2.heap.objs.size = D at *;generalize hn : s'3.heap.objs.size = n at *;generalize hm : s'4.heap.objs.size = m at *;generalize hC4 : ((C.more ow).more (Yr D)).sub (X6 ((C.more ow).more (Yr D)) scope cl' n) scope n m = C4 at O4 i'4;have env4 : C4.env = X6 ((C.more ow).more (Yr D)) scope cl' n := by rw [<- hC4]; rfl
 have av4 : C4.av = fun a => ((C.av a \/ ow a) \/ a = D) \/ (n <= a /\ a < m) := by rw [<- hC4]; rfl
 have mu4 : C4.mu = fun a => n <= a /\ a < m := by rw [<- hC4]; rfl
 show codeAny (model G.prog G.w) A (.compStart e 0 it (.ref D) (X6 ((C.more ow).more (Yr D)) scope cl' n)) (compPost (model G.prog G.w) A E use Q (.ref D) n) s'4;rw [<- env4];have how4 : ∀ a, ow a -> a < D := fun a z => low2 a (.inr z)
 have T4 : Xj G (C4.more ow) β2 s'4 ow S.tp it src := by
  refine T.move (fun b o e nav => ⟨x'4.keep b o (x'3.keep b o e), ?_⟩) (fun _ _ z => z) fun b o _ e => x'4.keep b o (x'3.keep b o e);have hb := lt2 b o e
  rintro (z | z)
  ·have z : C4.av b \/ ow b := z
   rw [av4] at z;rcases z with (((z | z) | z) | z) | z
   ·exact nav (.inl (.inl z))
   ·exact nav (.inl (.inr z))
   ·rw [z] at hb; exact Nat.lt_irrefl _ hb
   ·exact absurd (Nat.lt_trans hb hDlt) (Nat.not_lt.mpr z.1)
   ·exact nav (.inl (.inr z))
  ·exact nav (.inr z)
 have q'4 : Yo G (avB (C4.more ow).av β2) β2 s'4.heap D acc0 := by
  refine q'3.mono (fun b o e nav => ⟨x'4.keep b o e, ?_⟩) (fun _ _ z => z) fun o e => x'4.keep D o e
  rintro (z | z)
  ·have z : C4.av b \/ ow b := z
   rw [av4] at z;rcases z with (z | z) | z
   ·exact nav (.inl z)
   ·exact absurd (hn ▸ Heap.lt_size e : b < n) (Nat.not_lt.mpr z.1)
   ·exact nav (.inl (.inl (.inr z)))
  ·exact nav (.inr z)
 refine Zh9 ce (g := g) rfl hg.sync ?_ fun A E Q hq => ZgC T4 hq
 refine ZlJ ce hem hrest [] g S hg rfl (s₀ := s'4) (β₀ := β2) (X' := fun a => XD C4 D a \/ ow a) O4 (by rw [<- hC4]; exact Zpj O3 ((F.more ow).more (Yr D)) : XI (k.child scope) C4) (by
   refine ⟨fun a z => ?_, fun a z => ?_, WD3.high, fun x c hc' z => ?_⟩
   ·rw [av4]; exact .inl (.inr z)
   ·rw [mu4]; rintro ⟨z1, _⟩; rw [show a = D from z] at z1; exact absurd hDlt (Nat.not_lt.mpr z1)
   ·rw [env4] at hc'
    rcases hcells x c hc' with z1 | z1
    ·exact WD3.nocell x c z1 z
    ·rw [show c = D from z] at z1; exact absurd hDlt (Nat.not_lt.mpr z1)
  : XF G C4 (Yr D)) (by
    refine ⟨fun a z => .inr z, fun a z => ?_, W.high, fun x c hc' z => ?_⟩
    ·show ¬ C4.mu a
     rw [mu4]; rintro ⟨z1, _⟩;exact absurd (Nat.lt_trans (how4 a z) hDlt) (Nat.not_lt.mpr z1)
    ·have hc' : C4.env.cells.lookup x = some c := hc'
     rw [env4] at hc';rcases hcells x c hc' with z1 | z1
     ·exact W.nocell x c z1 z
     ·exact absurd (Nat.lt_trans (how4 c z) hDlt) (Nat.not_lt.mpr z1)
   : XF G (C4.more ow) ow) (fun a z => .inl z) (fun a z => .inr (.inr z)) (fun a z e => Nat.lt_irrefl _ (e ▸ how4 a z)) hA .refl (by
     refine Inv.weak (C := C4) (p := C4.av) i'4 (q := fun a => C4.av a \/ ow a) fun a z => ?_;rcases z with z | z
     ·exact z
     ·rw [av4]; exact .inl (.inl (.inr z))
    : Inv G (C4.more ow) β2 B₁ (List.replicate (Ys scope.names).length none ++ σ) s'4) T4 q'4 h fun β' s' a' i' q' => ?_
 have h0 : ∀ a, C.av a -> a < s.heap.objs.size := I.low
 have hX : ∀ q, (XD C4 D q \/ ow q) -> s.heap.objs.size <= q := by
  rintro q ((z | z) | z)
  ·rw [mu4] at z; exact Nat.le_trans (Nat.le_trans hsD (Nat.le_of_lt hDlt)) z.1
  ·rw [show q = D from z]; exact hsD
  ·exact how q z
 refine hQ D n s' ⟨fun a => C.av a \/ (ow a \/ (n <= a /\ a < m)), fun a z => .inl z, .inr (.inr ⟨Nat.le_refl _, hlt⟩), Nat.le_trans hsD (Nat.le_of_lt hDlt), Nat.ne_of_lt hDlt, ?_, O.more _, β', D, rfl, hsD, ?_, ?_, ?_, ?_⟩
 ·obtain ⟨m', hm'⟩ := i'.ns
  have hm' : s'.heap.Ns C4.env.locals m' := hm';rw [env4] at hm';exact ⟨m', hm'⟩
 ·rintro (z | z | z)
  ·exact absurd (h0 D z) (Nat.not_lt.mpr hsD)
  ·exact Nat.lt_irrefl _ (how4 D z)
  ·exact absurd hDlt (Nat.not_lt.mpr z.1)
 ·exact ((a'2.trans (.ofExt x'3)).trans (.ofExt x'4)).transF a' fun q z => .inr (hX q z)
 ·have iP : Inv G ((C.withAv fun a => C.av a \/ (ow a \/ (n <= a /\ a < m))).more (Yr D)) β2 B₁ σ s'4 := by
   refine Inv.weak (C := C) (p := fun a => ((C.av a \/ ow a) \/ a = D) \/ (n <= a /\ a < m)) (i3.more x'4 fun a z => ⟨hn ▸ z.1, hm ▸ z.2⟩ : Inv G (((C.more ow).more (Yr D)).more fun a => n <= a /\ a < m) β2 B₁ σ s'4) (q := fun a => (C.av a \/ (ow a \/ (n <= a /\ a < m))) \/ a = D) fun a z => ?_;rcases z with (z | z | z) | z
   ·exact .inl (.inl (.inl z))
   ·exact .inl (.inl (.inr z))
   ·exact .inr z
   ·exact .inl (.inr z)
  refine iP.back ((O.more _).more _) a' ?_ ?_ ?_ i'.wd (i'.boxes.weak ?_)
  ·rintro q ((z | z) | z)
   ·rw [mu4] at z; exact .inl (.inr (.inr z))
   ·exact .inr z
   ·exact .inl (.inr (.inl z))
  ·intro z
   exact absurd (h0 _ (O.muav _ O.muL)) (Nat.not_lt.mpr (hX _ z))
  ·intro x c hc' z
   exact absurd (h0 _ (O.cellav x c hc')) (Nat.not_lt.mpr (hX _ z))
  ·intro q z
   show C4.av q \/ ow q;rw [av4];rcases z with (z | z | z) | z
   ·exact .inl (.inl (.inl (.inl z)))
   ·exact .inr z
   ·exact .inl (.inr z)
   ·exact .inl (.inl (.inr z))
 ·refine q'.mono (fun b o e nav => ⟨e, fun z => nav ?_⟩) (fun _ _ z => z) fun o e => e
  refine z.imp (fun z => ?_) id;show C4.av b \/ ow b;rw [av4];rcases z with (z | z | z) | z
  ·exact .inl (.inl (.inl (.inl z)))
  ·exact .inr z
  ·exact .inl (.inr z)
  ·exact .inl (.inl (.inr z))
theorem XK.letGo {p : Addr -> Prop} {D n : Addr} {h' : Heap} (O : Zw G C) (I : Inv G C β B σ s) (hp : ∀ a, C.av a -> p a) (pn : p n) (hn : s.heap.objs.size <= n) (hD : D ≠ n) (Op : Zw G (C.withAv p))
  (y : XK G (C.withAv p) β σ s acc B' (.ref D) s') (hs : Heap.SameBut n s'.heap h') : XK G C β σ s acc B' (.ref D) { s' with heap := h' } := by
 refine ZbT y fun β' a e h1 h2 x i q => ?_;clear y
 cases e
 have W : XF G ((C.withAv p).more (Yr D)) (Yr n) := ⟨fun q z => .inl (by rw [show q = n from z]; exact pn), fun q z m => (fun q z e => absurd (I.low q (O.muav q z)) (Nat.not_lt.mpr (e ▸ hn)) : ∀ q, C.mu q -> q ≠ n) q m z, fun q z => by rw [show q = n from z]; exact Nat.le_trans (I.H0 O) hn,
  fun y c hc z => absurd (I.low c (O.cellav y c hc)) (Nat.not_lt.mpr (by rw [show c = n from z]; exact hn))⟩
 have st : YM (Yr n) s' { s' with heap := h' } := ⟨fun b o nb e => (hs.2 b nb).trans e, by show _ <= h'.objs.size; rw [hs.1]; exact Nat.le_refl _, rfl, rfl⟩
 refine ⟨β', D, rfl, h1, fun z => h2 (hp D z), ⟨x.pre, fun b o e nb t => st.keep b o (fun z => absurd (Heap.lt_size e) (Nat.not_lt.mpr (by rw [show b = n from z]; exact hn))) (x.grow.keep b o e nb t), Nat.le_trans x.grow.size st.size⟩,
  Inv.weak (C := C) (p := fun a => p a \/ a = D) (YM.inv (Op.more _) W i st) (q := fun a => C.av a \/ a = D) (fun a z => z.imp (hp a) id), (q.stepO (ow := Yr n) W st (fun z => hD z)).mono (fun b o e nav => ⟨e, fun z => nav (z.imp (fun z => z.imp (hp b) id) id)⟩) (fun _ _ z => z) fun o e => e⟩
end
theorem mE {γ : Type} {P : Prop} {o : Option (V × Bx)} {K : V -> Bx -> Option γ} {r : γ} (h : (match o with | none => none | some (a, b) => K a b) = some r) (k : ∀ a b, o = some (a, b) -> K a b = some r -> P) : P := by
 cases o with
 | none => exact nn h
 | some p => exact k p.1 p.2 rfl h
theorem mR {γ : Type} {P : Prop} {o : Option (List V × Bx)} {K : List V -> Bx -> Option γ} {r : γ} (h : (match o with | none => none | some (a, b) => K a b) = some r) (k : ∀ a b, o = some (a, b) -> K a b = some r -> P) : P := by
 cases o with
 | none => exact nn h
 | some p => exact k p.1 p.2 rfl h
theorem mS {γ : Type} {P : Prop} {o : Option (Src × Bx)} {K : Src -> Bx -> Option γ} {r : γ} (h : (match o with | none => none | some (a, b) => K a b) = some r) (k : ∀ a b, o = some (a, b) -> K a b = some r -> P) : P := by
 cases o with
 | none => exact nn h
 | some p => exact k p.1 p.2 rfl h
theorem mV {γ : Type} {P : Prop} {o : Option V} {K : V -> Option γ} {r : γ} (h : (match o with | none => none | some a => K a) = some r) (k : ∀ a, o = some a -> K a = some r -> P) : P := by
 cases o with
 | none => exact nn h
 | some p => exact k p rfl h
theorem mX {γ : Type} {P : Prop} {o : Option Bx} {K : Bx -> Option γ} {r : γ} (h : (match o with | none => none | some a => K a) = some r) (k : ∀ a, o = some a -> K a = some r -> P) : P := by
 cases o with
 | none => exact nn h
 | some p => exact k p rfl h
theorem mT {γ : Type} {P : Prop} {o : Option St} {K : St -> Option γ} {r : γ} (h : (match o with | none => none | some a => K a) = some r) (k : ∀ a, o = some a -> K a = some r -> P) : P := by
 cases o with
 | none => exact nn h
 | some p => exact k p rfl h
theorem mB {γ : Type} {P : Prop} {o : Option (Bool × Bx)} {K : Bool -> Bx -> Option γ} {r : γ} (h : (match o with | none => none | some (a, b) => K a b) = some r) (k : ∀ a b, o = some (a, b) -> K a b = some r -> P) : P := by
 cases o with
 | none => exact nn h
 | some p => exact k p.1 p.2 rfl h
theorem mQ {γ : Type} {P : Prop} {o : Option Bool} {K : Bool -> Option γ} {r : γ} (h : (match o with | none => none | some a => K a) = some r) (k : ∀ a, o = some a -> K a = some r -> P) : P := by
 cases o with
 | none => exact nn h
 | some p => exact k p rfl h
theorem mO {γ : Type} {P : Prop} {o : Option (Option Int × Bx)} {K : Option Int -> Bx -> Option γ} {r : γ} (h : (match o with | none => none | some (a, b) => K a b) = some r) (k : ∀ a b, o = some (a, b) -> K a b = some r -> P) : P := by
 cases o with
 | none => exact nn h
 | some p => exact k p.1 p.2 rfl h
theorem mP {γ : Type} {P : Prop} {o : Option (List (Str × V) × Bx)} {K : List (Str × V) -> Bx -> Option γ} {r : γ} (h : (match o with | none => none | some (a, b) => K a b) = some r) (k : ∀ a b, o = some (a, b) -> K a b = some r -> P) : P := by
 cases o with
 | none => exact nn h
 | some p => exact k p.1 p.2 rfl h
noncomputable abbrev DE := St -> Bx -> Option (V × Bx)
noncomputable abbrev DT := St -> Bx -> Option (Bool × Bx)
noncomputable abbrev DI := St -> Bx -> Option (Src × Bx)
noncomputable abbrev DS := St -> Bx -> Option Out
structure Den (G : GC) (H : Nat) (k : K) (e : Expr) (f : DE) : Prop where
 ok : ∀ C, Zw G C -> XI k C -> ∀ σ B d B', f σ B = some (d, B') -> Yu G H C σ B (eval e C.env) d B'
structure Ym (G : GC) (H : Nat) (k : K) (e : Expr) (f : DE) : Prop where
 ok : ∀ C, Zw G C -> XI k C -> ∀ σ B d B', f σ B = some (d, B') -> ZiO G H C σ B (eval e C.env) d B'
structure ZiK (G : GC) (H : Nat) (k : K) (e : Expr) (f : DT) : Prop where
 ok : ∀ C, Zw G C -> XI k C -> ∀ σ B b B', f σ B = some (b, B') -> EvB G H C σ B (PySem.isTrue e C.env (eval e C.env)) b B'
structure ZiF (G : GC) (H : Nat) (k : K) (e : Expr) (tp : Bool) (f : DI) : Prop where
 ok : ∀ C, Zw G C -> XI k C -> ∀ σ B src B', f σ B = some (src, B') -> Ziw G H C σ B (eval e C.env) src tp B'
structure Zqi (G : GC) (H : Nat) (k : K) (t : Expr) (f : V -> St -> Option St) : Prop where
 ok : ∀ C, Zw G C -> XI k C -> ∀ σ B x σ', f x σ = some σ' -> Ziu G H C σ B (assign t C.env) x σ' B
noncomputable def Ztn (G : GC) (H : Nat) (k : K) (ifs : List Expr) (f : DT) : Prop :=
 ∀ C, Zw G C -> XI k C -> ∀ σ B b B', f σ B = some (b, B') -> EvB G H C σ B (ZfU ifs C.env) b B'
structure Zbn (G : GC) (H : Nat) (k : K) (st : Stmt) (f : DS) : Prop where
 ok : ∀ C, Zw G C -> XI k C -> ∀ σ B r, f σ B = some r -> ZaN G H C σ B (exec st C.env) r
structure Xe (G : GC) (H : Nat) (k : K) (sts : List Stmt) (f : DS) : Prop where
 ok : ∀ C, Zw G C -> XI k C -> ∀ σ B r, f σ B = some r -> ZaN G H C σ B (execs sts C.env) r
noncomputable def emL (f : DE) : Zhq := fun σ B acc => (f σ B).bind fun p => (ZrI acc).1.bind fun xs => if ZH xs.length then some (p.2, .list (xs ++ [p.1])) else none
noncomputable def emD (f g : DE) : Zhq := fun σ B acc => (f σ B).bind fun p => (Zt7 p.1).1.bind fun x => (g σ p.2).bind fun q => (Zrt acc).1.bind fun r => if ZH r.1.length then some (q.2, .dict (JP r.1 r.2 x q.1).1 (JP r.1 r.2 x q.1).2) else none
section
variable {G : GC} {C : Cx} {β β' β'' : List Addr} {B B' B₁ B₂ : Bx} {σ : St} {s s' s'' : Shared} {H : Nat} {d d₂ acc acc' acc0 : V} {v : Value} {b : Bool} {tp : Bool} {it : Value} {src : Src} {r r' : Out} {k : K} {D : Addr}
theorem Zf7 (O : Zw G C) (WD : XF G C (Yr D)) (I : Inv G C β B σ s) {h' : Heap} {tk : Nat} (hs : Heap.SameBut D s.heap h') :
  YM (Yr D) s { s with heap := h', toks := tk } /\ Inv G C β B σ { s with heap := h', toks := tk } /\ Adv G (XD C D) β s β { s with heap := h', toks := tk } /\
  ∀ b o, s.heap.get? b = some o -> ¬ avB C.av β b -> h'.get? b = some o /\ ¬ avB C.av β b := by
 have st : YM (Yr D) s { s with heap := h', toks := tk } := ⟨fun b o nb e => (hs.2 b nb).trans e, Zdx hs, rfl, rfl⟩;exact ⟨st, YM.inv O WD I st, ⟨⟨[], by simp, fun _ h => by simp at h⟩, fun b o e n t => st.keep b o (fun z => n (.inl (.inr z))) e, st.size⟩, fun b o e n => ⟨st.keep b o (fun z => n (.inl (WD.sub b z))) e, n⟩⟩
set_option tactic.hygienic true in
theorem ZfV {elt : Expr} {f : DE} (hf : Den G H k elt f) : ZdV G H k (fun D env => Zk1 elt (.ref D) env) (emL f) := by
 intro C D O F WD A β s σ B acc B' acc' hA I q h E;refine ZgS h fun p hd h => ZgS h fun xs hx h => ?_;obtain ⟨hz, h⟩ := YG h;obtain ⟨e1, e2⟩ := Prod.mk.inj (Option.some.inj h);rw [(ZrI acc).2 _ hx] at q;rw [<- e1, <- e2];unfold Zk1;refine wpAny_bind ((hf.ok C O F σ B _ _ hd A β s hA I).t3 fun v s'1 β1 a'1 i'1 r'1 => ?_);have q'1 := q.advX O WD I a'1 O.muav (WD.nomu D rfl);refine YU (ZoB q'1) fun vs m e rr => ?_;have n1 : vs.size = xs.length := by rw [<- rr.length]; simp
 refine wpAny_bind (wpAny_list_append_plain ⟨m, e⟩ (fun h' ⟨m', e'⟩ hs => ?_) (by rw [n1]; exact Yy hz));refine ZgV (Zf7 (tk := s'1.toks) O WD i'1 hs) fun _ i'2 a'2 hk => ?_;exact wpAny_pure ⟨β1, (a'1.mono fun a z => .inl z).trans a'2, i'2, .list e' (by rw [Array.toList_push]; exact (Zd.mono hk (fun _ _ z => z) rr).append (.cons (Rep.mono hk (fun _ _ z => z) r'1) .nil))⟩
set_option tactic.hygienic true in
theorem ZoQ {kx vx : Expr} {f g : DE} (hf : Den G H k kx f) (hg : Den G H k vx g) : ZdV G H k (fun D env => Zk8 kx vx D env) (emD f g) := by
 intro C D O F WD A β s σ B acc B' acc' hA I q h E;refine ZgS h fun p hp h => ZgS h fun x hx h => ZgS h fun y hq h => ZgS h fun r hr h => ?_;obtain ⟨hz, h⟩ := YG h;obtain ⟨e1, e2⟩ := Prod.mk.inj (Option.some.inj h);rw [(Zrt acc).2 _ hr] at q;rw [<- e1, <- e2];unfold Zk8;refine wpAny_bind ((hf.ok C O F σ B _ _ hp A β s hA I).t3 fun kv s'1 β1 a'1 i'1 r'1 => ?_);rw [(Zt7 p.1).2 _ hx] at r'1;obtain ⟨t, e'1⟩ := Z9 r'1;rw [e'1];refine wpAny_bind (wpAny_holding ((hg.ok C O F σ _ _ _ hq A β1 s'1 hA i'1).t3 fun vv s'2 β2 a'2 i'2 r'2 => ?_));have a12 := a'1.trans a'2;have q'2 := q.advX O WD I a12 O.muav (WD.nomu D rfl);refine Zcf (ZtS q'2) fun kvs e hs he rr => ?_;have hlen : kvs.length = r.1.length := by rw [<- he]; simp
 refine wpAny_bind (wpAny_standAt (wpAny_holding ?_));refine wpAny_dictSet_pairs (strKind_is G.prog G.w x t) e (fun h' hd' hs' => ?_) (by rw [hlen]; exact Yy hz);refine ZgV (Zf7 (tk := s'2.toks + 1) O WD i'2 hs') fun _ i3 a'3 hk => ?_;have hnd : (kvs.map (·.1)).Nodup := by obtain ⟨_, _, _, _, _, _, _, _, z⟩ := e; exact z
 obtain ⟨q1, q2⟩ := ZcZ (k := x) (v := vv) (d := y.1) hnd rr r'2;rw [he] at q1 q2;exact ⟨β2, (a12.mono fun a z => .inl z).trans a'3, i3, .dict hd' hs q1 (Zd.mono hk (fun _ _ z => z) q2)⟩
theorem Zhg {elt : Expr} {gens : List Comprehension} {scope : Scope} {pos : Pos} : Zen G (.ListComp elt gens scope pos) gens fun D env => Zk1 elt (.ref D) env :=
 ⟨fun depth it D env g g' h ha h' hb => Zr5 h ha h' hb, rfl, fun _ _ _ _ => rfl, fun _ _ _ _ => rfl, fun _ _ _ _ _ => Around.under_of_weight rfl⟩
theorem ZqV {kx vx : Expr} {gens : List Comprehension} {scope : Scope} {pos : Pos} : Zen G (.DictComp kx vx gens scope pos) gens fun D env => Zk8 kx vx D env :=
 ⟨fun depth it D env g g' h ha h' hb => Zs9 h ha h' hb, rfl, fun _ _ _ _ => rfl, fun _ _ _ _ => rfl, fun _ _ _ _ _ => Around.under_of_weight rfl⟩
noncomputable def Zq (own : Nat) (emit : Zhq) (S : Xy) (Ss : List Xy) (acc0 : V) : DE := fun σ B => match S.it σ B with
 | none => none
 | some (src, B₁) => (cl (Jz S (cgo emit Ss)) (src.fuel B₁) src (List.replicate own none ++ σ) B₁ acc0).map fun r => (r.2.2, r.2.1)
theorem ZsJ (A : Around) (s : Shared) (Q : Value -> Shared -> Prop) (E : Value -> Shared -> Prop) (h : Q (.ref s.heap.objs.size) { s with heap := s.heap.push (YO #[] 0) }) : wpAny (model G.prog G.w) A (newList []) Q E s :=
 wpAny_newObj_type h (by show (0 : Nat) <= sizeLine; exact Nat.zero_le _)
theorem Zuj (A : Around) (s : Shared) (Q : Value -> Shared -> Prop) (E : Value -> Shared -> Prop) (h : Q (.ref s.heap.objs.size) { s with heap := s.heap.push { cls := .type "dict", data := .dict #[] } }) : wpAny (model G.prog G.w) A newDict Q E s :=
 wpAny_bind (wpAny_alloc (wpAny_pure h))
theorem Zg0 (av : Addr -> Prop) (β : List Addr) (h : Heap) (_ : (h.objs.size == sysModules) = false) : Yo G av β (h.push (YO #[] 0)) h.objs.size (.list []) :=
 .list (Heap.get?_push_size _ rfl) .nil
theorem ZqF (av : Addr -> Prop) (β : List Addr) (h : Heap) (hs : (h.objs.size == sysModules) = false) : Yo G av β (h.push { cls := .type "dict", data := .dict #[] }) h.objs.size (.dict [] []) :=
 .dict (kvs := []) (Heap.DictOf.new _) hs rfl .nil
structure ZkB (G : GC) (H : Nat) (k : K) (scope : Scope) (g : Comprehension) (rest : List Comprehension) (S : Xy) (Ss : List Xy) : Prop where
 fits : Zbk k scope = true
 fold : ∀ env x, foldedSetIterable g.iter env x = pure x
 it : ZiF G H k g.iter S.tp S.it
 g : Zet G H (k.child scope) g S
 rest : Zc8 G H (k.child scope) rest Ss
theorem gens {scope : Scope} {g : Comprehension} {rest : List Comprehension} {S : Xy} {Ss : List Xy} (it : ZiF G H k g.iter S.tp S.it) (hg : Zet G H (k.child scope) g S) (hr : Zc8 G H (k.child scope) rest Ss) (fits : Zbk k scope = true := by kernel_rfl)
  (fold : ∀ env x, foldedSetIterable g.iter env x = pure x := by exact fun _ _ => rfl) : ZkB G H k scope g rest S Ss := ⟨fits, fold, it, hg, hr⟩
set_option tactic.hygienic true in
theorem ZlG {e : Expr} {g : Comprehension} {rest : List Comprehension} {emitT : Addr -> Env -> Sem Unit} {emit : Zhq} {S : Xy} {Ss : List Xy} {scope : Scope} {pos : Pos} {newAcc : Sem Value} {o'0 : Obj}
  (ce : Zen G e (g :: rest) emitT) (hem : ZdV G H (k.child scope) emitT emit) (hG : ZkB G H k scope g rest S Ss)
  (hacc : ∀ (A : Around) (s : Shared) (Q : Value -> Shared -> Prop) (E : Value -> Shared -> Prop), Q (.ref s.heap.objs.size) { s with heap := s.heap.push o'0 } -> wpAny (model G.prog G.w) A newAcc Q E s)
  (hbox : ∀ (av : Addr -> Prop) (β : List Addr) (h : Heap), (h.objs.size == sysModules) = false -> Yo G av β (h.push o'0) h.objs.size acc0)
  (O : Zw G C) (F : XI k C) (h : Zq (Ys scope.names).length emit S Ss acc0 σ B = some (d, B')) :
  ZiO G H C σ B (comprehension e scope C.env pos newAcc false (eval g.iter C.env)) d B' := by
 intro A β s hA I E;refine mS h fun src B₁ hsrc h => ?_;refine Ze (Option.map_eq_some_iff.mp h) fun r hr e => ?_
 cases e
 refine ZiX O F ce hem hG.g hG.rest hG.fits (hG.fold _) (hG.it.ok C O F σ B src B₁ hsrc) hacc hbox hr hA I fun D n s' ce => ?_;refine Zru ce fun p hp pn hn hD hns Op y => ?_;clear ce;obtain ⟨m, hm⟩ := hns;exact ⟨m, hm, fun h' hs => XK.letGo O I hp pn hn hD Op y hs⟩
theorem Zp {elt : Expr} {g : Comprehension} {rest : List Comprehension} {f : DE} {S : Xy} {Ss : List Xy} {scope : Scope} {pos : Pos} (hG : ZkB G H k scope g rest S Ss) (hf : Den G H (k.child scope) elt f) :
  Ym G H k (.ListComp elt (g :: rest) scope pos) (Zq (Ys scope.names).length (emL f) S Ss (.list [])) := .mk fun C O F σ B d B' h => by
 rw [eval_ListComp];have hs := hG.g.sync;obtain ⟨t, i, fs, a⟩ := g;simp only at hs;subst hs;exact ZlG Zhg (ZfV hf) hG ZsJ Zg0 O F h
theorem ZfR (kx vx gens scope pos env) : eval (.DictComp kx vx gens scope pos) env =
  comprehension (.DictComp kx vx gens scope pos) scope env (firstIterPos gens pos) newDict (firstAsync gens) (firstIter gens env) := rfl
theorem Zdv {kx vx : Expr} {g : Comprehension} {rest : List Comprehension} {f f' : DE} {S : Xy} {Ss : List Xy} {scope : Scope} {pos : Pos} (hG : ZkB G H k scope g rest S Ss) (hf : Den G H (k.child scope) kx f) (hf' : Den G H (k.child scope) vx f') :
  Ym G H k (.DictComp kx vx (g :: rest) scope pos) (Zq (Ys scope.names).length (emD f f') S Ss (.dict [] [])) := .mk fun C O F σ B d B' h => by
 rw [ZfR];have hs := hG.g.sync;obtain ⟨t, i, fs, a⟩ := g;simp only at hs;subst hs;exact ZlG ZqV (ZoQ hf hf') hG Zuj ZqF O F h
noncomputable def XE (f : DE) : DE := fun σ B => (f σ B).map fun r => (.box r.2.length, r.2 ++ [r.1])
theorem Ym.tree {e : Expr} {f : DE} (h : Ym G H k e f) : Den G H k e f := .mk fun C O F σ B d B' hd => (h.ok C O F σ B d B' hd).tree O
theorem Ym.box {e : Expr} {f : DE} (h : Ym G H k e f) : Den G H k e (XE f) := .mk fun C O F σ B d B' hd => by
 refine Ze (Option.map_eq_some_iff.mp hd) fun r hr e => ?_
 cases e
 exact (h.ok C O F σ B r.1 r.2 hr).box O
set_option tactic.hygienic true in
theorem Zk7 {e : Expr} {g : Comprehension} {rest : List Comprehension} {emitT : Addr -> Env -> Sem Unit} {emit : Zhq} {S : Xy} {Ss : List Xy} {scope : Scope} {pos px spos : Pos} {x : Str} {newAcc : Sem Value} {o'0 : Obj}
  (ce : Zen G e (g :: rest) emitT) (hem : ZdV G H (k.child scope) emitT emit) (hG : ZkB G H k scope g rest S Ss)
  (hacc : ∀ (A : Around) (s : Shared) (Q : Value -> Shared -> Prop) (E : Value -> Shared -> Prop), Q (.ref s.heap.objs.size) { s with heap := s.heap.push o'0 } -> wpAny (model G.prog G.w) A newAcc Q E s)
  (hbox : ∀ (av : Addr -> Prop) (β : List Addr) (h : Heap), (h.objs.size == sysModules) = false -> Yo G av β (h.push o'0) h.objs.size acc0)
  (O : Zw G C) (F : XI k C) (h : Zq (Ys scope.names).length emit S Ss acc0 σ B = some (d, B')) (hxa : x ∈ C.asg) (hk : C.env.kindOf x = some .local \/ C.env.kindOf x = some .cell)
  (hsw : swapsWith e (some (.Name x px)) spos.line C.env = pure true)
  (hev : ∀ use, evalThenUse e C.env use = do let _ <- comprehension e scope C.env pos newAcc false (eval g.iter C.env) (some use))
  (hconv : ∀ (C : Cx) (β : List Addr) (σ : St) (s : Shared) (v : Value) (s' : Shared), XK G C β σ s d B' v s' -> G.H0.objs.size <= s.heap.objs.size -> Zv G C β σ s d₂ B₂ v s') :
  ZaN G H C σ B (exec (.Assign [.Name x px] e spos) C.env) (.next, σ.set (C.names.idxOf x) (some d₂), B₂) := by
 intro A β s hA I E;refine mS h fun src B₁ hsrc h => ?_;refine Ze (Option.map_eq_some_iff.mp h) fun r hr e' => ?_
 cases e'
 rw [exec_Assign_Name_used _ _ _ _ hsw, hev];refine wpAny_bind (wpAny_standAt (wpAny_bind (wpAny_bind ?_)));refine ZiX (use := some (assign (.Name x px) C.env)) O F ce hem hG.g hG.rest hG.fits (hG.fold _) (hG.it.ok C O F σ B src B₁ hsrc) hacc hbox hr hA I fun D n s' ce => ?_;refine Zru ce fun p hp pn hn hD hns Op y => ?_;clear ce;obtain ⟨m, hm⟩ := hns;refine Xn (hconv _ _ _ _ _ _ y (I.H0 O)) fun β' a' i' r' => ?_;show wpAny _ A (assign (.Name x px) C.env (.ref D)) _ E s';refine (ZhV (H := H) (C := C.withAv p) (B := B₂) (σ := σ) (d := d₂) Op (x := x) (pos := px) hxa hk A β' s' (.ref D) hA i' r').t2 fun _ s'' β'' a'' i'' => ?_;have hmu : ∀ q, C.mu q -> q ≠ n := fun q z e => absurd (I.low q (O.muav q z)) (Nat.not_lt.mpr (e ▸ hn));have hn0 : G.H0.objs.size <= n := Nat.le_trans (I.H0 O) hn;refine ⟨m, hm.at fun o e => a''.grow.keep n o e (fun z => z.elim (fun z => hmu n z rfl) fun z => i'.boxes.apart n z pn) (fun ⟨c, z⟩ => absurd (O.gok.tabs c n z).2.1 (Nat.not_lt.mpr hn0)), fun h' hs => ?_⟩
 have W : XF G (C.withAv p) (Yr n) := ⟨fun q z => by rw [show q = n from z]; exact pn, fun q z m => hmu q m z, fun q z => by rw [show q = n from z]; exact hn0,
  fun y c hc z => absurd (I.low c (O.cellav y c hc)) (Nat.not_lt.mpr (by rw [show c = n from z]; exact hn))⟩
 have st : YM (Yr n) s'' { s'' with heap := h' } := ⟨fun b o nb e => (hs.2 b nb).trans e, by show _ <= h'.objs.size; rw [hs.1]; exact Nat.le_refl _, rfl, rfl⟩;have i3 := YM.inv Op W i'' st;have a'3 : Adv G C.mu β s β'' s'' := a'.trans a'';refine wpAny_pure (wpAny_pure ⟨β'', ⟨a'3.pre, fun b o e nb t => st.keep b o (fun z => absurd (Heap.lt_size e) (Nat.not_lt.mpr (by rw [show b = n from z]; exact hn))) (a'3.grow.keep b o e nb t), Nat.le_trans a'3.grow.size st.size⟩, ?_, trivial⟩);exact Inv.weak (C := C) (p := p) i3 (q := C.av) hp
end
namespace D
noncomputable def var (i : Nat) : DE := fun σ B => match σ[i]? with
 | some (some d) => some (d, B)
 | _ => none
noncomputable def const (d : V) : DE := fun _ B => some (d, B)
noncomputable def bin (op : Bx -> V -> V -> Option V) (f g : DE) : DE := fun σ B => match f σ B with
 | none => none
 | some (a, B₁) => match g σ B₁ with
  | none => none
  | some (b, B₂) => (op B₂ a b).map (·, B₂)
noncomputable def un (op : Bx -> V -> Option V) (f : DE) : DE := fun σ B => match f σ B with
 | none => none
 | some (a, B₁) => (op B₁ a).map (·, B₁)
noncomputable def row : List DE -> St -> Bx -> Option (List V × Bx)
 | [], _, B => some ([], B)
 | f :: fs, σ, B => match f σ B with
  | none => none
  | some (a, B₁) => match row fs σ B₁ with
   | none => none
   | some (as, B₂) => some (a :: as, B₂)
noncomputable def tup (fs : List DE) : DE := fun σ B => match row fs σ B with
 | none => none
 | some (as, B₁) => some (.tup as, B₁)
noncomputable def list (fs : List DE) : DE := fun σ B => match row fs σ B with
 | none => none
 | some (as, B₁) => some (.list as, B₁)
noncomputable def ite (t : DT) (f g : DE) : DE := fun σ B => match t σ B with
 | none => none
 | some (true, B₁) => f σ B₁
 | some (false, B₁) => g σ B₁
noncomputable def boolop (isAnd : Bool) : List DE -> DE
 | [], _, _ => none
 | [f], σ, B => f σ B
 | f :: fs, σ, B => match f σ B with
  | none => none
  | some (a, B₁) => match JC B₁ a with
   | none => none
   | some c => if c = isAnd then boolop isAnd fs σ B₁ else some (a, B₁)
noncomputable def call (op : Bx -> List V -> Option (V × Bx)) (fs : List DE) : DE := fun σ B => match row fs σ B with
 | none => none
 | some (as, B₁) => op B₁ as
noncomputable def slice (pick : Bx -> V -> Option Int -> Option Int -> Option V) (f : DE) (lo hi : Option DE) : DE := fun σ B => match f σ B with
 | none => none
 | some (a, B₁) => match (match lo with | none => some (none, B₁) | some l => match l σ B₁ with | some (.int i, B₂) => some (some i, B₂) | _ => none) with
  | none => none
  | some (l, B₂) => match (match hi with | none => some (none, B₂) | some h => match h σ B₂ with | some (.int i, B3) => some (some i, B3) | _ => none) with
   | none => none
   | some (h, B3) => (pick B3 a l h).map (·, B3)
end D
namespace T
noncomputable def of (f : DE) : DT := fun σ B => match f σ B with
 | none => none
 | some (a, B₁) => (JC B₁ a).map (·, B₁)
noncomputable def not (t : DT) : DT := fun σ B => match t σ B with
 | none => none
 | some (b, B₁) => some (!b, B₁)
noncomputable def cmp (op : Bx -> V -> V -> Option Bool) (f g : DE) : DT := fun σ B => match f σ B with
 | none => none
 | some (a, B₁) => match g σ B₁ with
  | none => none
  | some (b, B₂) => (op B₂ a b).map (·, B₂)
noncomputable def ite (t x y : DT) : DT := fun σ B => match t σ B with
 | none => none
 | some (true, B₁) => x σ B₁
 | some (false, B₁) => y σ B₁
noncomputable def bool (isAnd : Bool) : List DT -> DT
 | [], _, B => some (isAnd, B)
 | t :: ts, σ, B => match t σ B with
  | none => none
  | some (b, B₁) => if b = isAnd then bool isAnd ts σ B₁ else some (!isAnd, B₁)
noncomputable def all : List DT -> DT
 | [], _, B => some (true, B)
 | t :: ts, σ, B => match t σ B with
  | none => none
  | some (true, B₁) => all ts σ B₁
  | some (false, B₁) => some (false, B₁)
end T
namespace S
noncomputable def skip : DS := fun σ B => some (.next, σ, B)
noncomputable def seq (a b : DS) : DS := fun σ B => match a σ B with
 | none => none
 | some (.next, σ₁, B₁) => b σ₁ B₁
 | some r => some r
noncomputable def assign (i : Nat) (f : DE) : DS := fun σ B => match f σ B with
 | none => none
 | some (d, B₁) => some (.next, σ.set i (some d), B₁)
noncomputable def sets : List Nat -> List V -> St -> Option St
 | [], [], σ => some σ
 | i :: is, d :: ds, σ => sets is ds (σ.set i (some d))
 | _, _, _ => none
noncomputable def parts (is : List Nat) (d : V) (σ : St) : Option St := match JB d with
 | none => none
 | some ds => sets is ds σ
noncomputable def assigns (is : List Nat) (f : DE) : DS := fun σ B => match f σ B with
 | none => none
 | some (d, B₁) => match parts is d σ with
  | none => none
  | some σ₁ => some (.next, σ₁, B₁)
noncomputable def swapped (is : List Nat) (f : DE) : DS := fun σ B => match f σ B with
 | none => none
 | some (d, B₁) => match JB d with
  | none => none
  | some ds => if ds.length = is.length then match sets is.reverse ds.reverse σ with
   | none => none
   | some σ₁ => some (.next, σ₁, B₁) else none
noncomputable def put (f o i : DE) : DS := fun σ B => match f σ B with
 | none => none
 | some (d, B₁) => match o σ B₁ with
  | some (.box n, B₂) => match i σ B₂ with
   | none => none
   | some (j, B3) => match Zcj B3 n j d with
    | none => none
    | some B4 => some (.next, σ, B4)
  | _ => none
noncomputable def aug (op : Bx -> V -> V -> Option V) (i : Nat) (f : DE) : DS := fun σ B => match σ[i]? with
 | some (some d₁) => match f σ B with
  | none => none
  | some (d₂, B₁) => match op B₁ d₁ d₂ with
   | none => none
   | some d => some (.next, σ.set i (some d), B₁)
 | _ => none
noncomputable def augput (op : Bx -> V -> V -> Option V) (o i f : DE) : DS := fun σ B => match o σ B with
 | some (.box n, B₁) => match i σ B₁ with
  | none => none
  | some (j, B₂) => match Zc B₂ (.box n) j with
   | none => none
   | some d₂ => match f σ B₂ with
    | none => none
    | some (d₃, B3) => match op B3 d₂ d₃ with
     | none => none
     | some d₄ => match Zcj B3 n j d₄ with
      | none => none
      | some B4 => some (.next, σ, B4)
 | _ => none
noncomputable def del (o i : DE) : DS := fun σ B => match o σ B with
 | some (.box n, B₁) => match i σ B₁ with
  | none => none
  | some (j, B₂) => match Zh6 B₂ n j with
   | none => none
   | some B3 => some (.next, σ, B3)
 | _ => none
noncomputable def expr (f : DE) : DS := fun σ B => match f σ B with
 | none => none
 | some (_, B₁) => some (.next, σ, B₁)
noncomputable def ret (f : DE) : DS := fun σ B => match f σ B with
 | none => none
 | some (d, B₁) => some (.ret d, σ, B₁)
noncomputable def brk : DS := fun σ B => some (.brk, σ, B)
noncomputable def assert (t : DT) : DS := fun σ B => match t σ B with
 | some (true, B₁) => some (.next, σ, B₁)
 | _ => none
noncomputable def ite (t : DT) (x y : DS) : DS := fun σ B => match t σ B with
 | none => none
 | some (true, B₁) => x σ B₁
 | some (false, B₁) => y σ B₁
noncomputable def loopS (it : DI) (tgt : V -> St -> Option St) (body els : DS) : DS := fun σ B => match it σ B with
 | none => none
 | some (src, B₁) => Jx (fun x σ B => match tgt x σ with | none => none | some σ₁ => body σ₁ B) els (src.fuel B₁) src σ B₁
end S
namespace I
noncomputable def val (f : DE) : DI := fun σ B => match f σ B with
 | none => none
 | some (d, B₁) => (Zaf B₁ d).map (·, B₁)
noncomputable def items (f : DE) : DI := fun σ B => match f σ B with
 | some (.dict ks ds, B₁) => some (.seq ((ks.zip ds).map fun p => .tup [.str p.1, p.2]), B₁)
 | _ => none
noncomputable def values (f : DE) : DI := fun σ B => match f σ B with
 | some (.dict ks ds, B₁) => some (.seq ds, B₁)
 | _ => none
noncomputable def zip (f g : DE) : DI := fun σ B => match f σ B with
 | some (.list xs, B₁) => match g σ B₁ with
  | some (.list ys, B₂) => some (.seq ((xs.zip ys).map fun p => .tup [p.1, p.2]), B₂)
  | _ => none
 | _ => none
end I
section
variable {G : GC} {C : Cx} {β : List Addr} {B B' B₁ B₂ B3 B4 : Bx} {σ σ' : St} {s : Shared} {H : Nat} {d d₁ d₂ d₃ d₄ : V} {b : Bool} {ds : List V} {ow : Addr -> Prop} {tp : Bool} {src : Src} {r r' : Out} {k : K}
noncomputable def Zjy (x : Option NameKind) : Bool := x == some .local || x == some .cell || x == some .free
theorem Zmr {x : Option NameKind} (h : Zjy x = true) : ZbS x := by
 unfold Zjy at h;simp only [Bool.or_eq_true, beq_iff_eq] at h;rcases h with (h | h) | h
 ·exact .inl h
 ·exact .inr (.inl h)
 ·exact .inr (.inr h)
noncomputable def ZeQ (x : Option NameKind) : Bool := x == some .local || x == some .cell
theorem Je {x : Option NameKind} (h : ZeQ x = true) : x = some .local \/ x = some .cell := by
 unfold ZeQ at h
 simpa using h
noncomputable def Zth (k : K) (x : Str) (i : Nat) : Bool := Zjy (k.kind x) && (Nat.beq (k.names.idxOf x) i && !(x == ("__classdict__" : Str)))
theorem ZqR {x : Str} {i : Nat} (h : Zth k x i = true) : ZbS (k.kind x) /\ k.names.idxOf x = i /\ (x == ("__classdict__" : Str)) = false := by
 unfold Zth at h;rw [Bool.and_eq_true, Bool.and_eq_true, Bool.not_eq_true'] at h;exact ⟨Zmr h.1, Nat.eq_of_beq_eq_true h.2.1, h.2.2⟩
noncomputable def Zf8 (k : K) (x : Str) (i : Nat) : Bool := ZeQ (k.kind x) && (k.asg.contains x && Nat.beq (k.names.idxOf x) i)
theorem Zcw {x : Str} {i : Nat} (h : Zf8 k x i = true) : x ∈ k.asg /\ ZeQ (k.kind x) = true /\ k.names.idxOf x = i := by
 unfold Zf8 at h;rw [Bool.and_eq_true, Bool.and_eq_true, List.contains_iff_mem] at h;exact ⟨h.2.1, h.1, Nat.eq_of_beq_eq_true h.2.2⟩
noncomputable def ZlF (k : K) (x : Str) : Bool := k.kind x == some .globalImplicit && !(x == ("__debug__" : Str))
theorem Zdk {x : Str} (h : ZlF k x = true) : k.kind x = some .globalImplicit /\ (x == ("__debug__" : Str)) = false := by
 unfold ZlF at h;rw [Bool.and_eq_true, beq_iff_eq, Bool.not_eq_true'] at h;exact h
set_option tactic.hygienic true in
theorem Za {x : Str} {pos : Pos} {i : Nat} (hk : Zth k x i = true := by kernel_rfl) : Den G H k (.Name x pos) (D.var i) := .mk fun C O F σ B d B' h => by
 refine XR (ZqR hk) fun hk hi hx => ?_;unfold D.var at h
 split at h
 ·rename_i e hd
  cases h
  refine Zs7 O (by rw [F.kind]; exact hk) ?_ hx;unfold Cx.look;rw [F.names, hi, hd]; rfl
 ·exact nn h
theorem Zb {i : Int} {n : Nat} {pos : Pos} : Den G H k (.Constant (.int i) n pos) (D.const (.int i)) := .mk fun C O F σ B d B' h => by cases h; exact Zsp O
theorem Yw {x : Str} {n : Nat} {pos : Pos} : Den G H k (.Constant (.str x) n pos) (D.const (.str x)) := .mk fun C O F σ B d B' h => by cases h; exact ZsE O
theorem Xv {b : Bool} {n : Nat} {pos : Pos} : Den G H k (.Constant (.bool b) n pos) (D.const (.bool b)) := .mk fun C O F σ B d B' h => by cases h; exact Zp5 O
theorem Zkr {x : Str} {y : Str} {t : Tok} {pos : Pos} (hk : k.kind x = some .globalImplicit) (hf : YW G x (.str y t)) (hd : (x == ("__debug__" : Str)) = false) : Den G H k (.Name x pos) (D.const (.str y)) := .mk fun C O F σ B d B' h => by
 cases h
 exact fun A β s hA I E => ZaH O I (by rw [F.kind]; exact hk) hf hd (Zv.ofExt I (Ext.refl s) (.str _ _))
set_option tactic.hygienic true in
theorem Zk {l r : Expr} {op : Operator} {pos : Pos} {vop : Bx -> V -> V -> Option V} {f g : DE} (hop : ∀ B d₁ d₂ d, vop B d₁ d₂ = some d -> Op2 G H B (binaryOp op) d₁ d₂ d) (hf : Den G H k l f) (hg : Den G H k r g) :
  Den G H k (.BinOp l op r pos) (D.bin vop f g) := .mk fun C O F σ B d B' h => by
 refine mE h fun a B₁ h1 h => ?_;refine mE h fun b B₂ h2 h => ?_;refine Ze (Option.map_eq_some_iff.mp h) fun e he hh => ?_
 cases hh
 exact ZsU O (hf.ok C O F _ _ _ _ h1) (hg.ok C O F _ _ _ _ h2) (hop _ _ _ _ he)
set_option tactic.hygienic true in
theorem XA {x : Expr} {op : UnaryOp} {pos : Pos} {vop : Bx -> V -> Option V} {f : DE} (hop : ∀ B d₁ d, vop B d₁ = some d -> Op1 G H B (unaryOp op) d₁ d) (hf : Den G H k x f) : Den G H k (.UnaryOp op x pos) (D.un vop f) := .mk fun C O F σ B d B' h => by
 refine mE h fun a B₁ h1 h => ?_;refine Ze (Option.map_eq_some_iff.mp h) fun e he hh => ?_
 cases hh
 exact ZtY O (hf.ok C O F _ _ _ _ h1) (hop _ _ _ he)
noncomputable def bv (op : Bx -> V -> V -> Option Bool) : Bx -> V -> V -> Option V := fun B a b => (op B a b).map .bool
set_option tactic.hygienic true in
theorem Jh {l r : Expr} {op : CmpOp} {pos : Pos} {vop : Bx -> V -> V -> Option Bool} {f g : DE} (hop : ∀ B d₁ d₂ b, vop B d₁ d₂ = some b -> Op2 G H B (compareOp op) d₁ d₂ (.bool b)) (hf : Den G H k l f) (hg : Den G H k r g)
  (hm : behindInMarks op r = false) : Den G H k (.Compare l [op] [r] pos) (D.bin (bv vop) f g) := .mk fun C O F σ B d B' h => by
 refine mE h fun a B₁ h1 h => ?_;refine mE h fun b B₂ h2 h => ?_;refine Ze (Option.map_eq_some_iff.mp h) fun e he hh => ?_;refine Ze (Option.map_eq_some_iff.mp he) fun c hc z_2 => ?_;subst z_2
 cases hh
 exact ZsB O (hf.ok C O F _ _ _ _ h1) (hg.ok C O F _ _ _ _ h2) (hop _ _ _ _ hc) hm
set_option tactic.hygienic true in
theorem Ye {l r : Expr} {op : CmpOp} {pos : Pos} {vop : Bx -> V -> V -> Option Bool} {f g : DE} (hop : ∀ B d₁ d₂ b, vop B d₁ d₂ = some b -> Op2 G H B (compareOp op) d₁ d₂ (.bool b)) (hf : Den G H k l f) (hg : Den G H k r g)
  (hm : behindInMarks op r = false) : ZiK G H k (.Compare l [op] [r] pos) (T.cmp vop f g) := .mk fun C O F σ B d B' h => by
 refine mE h fun a B₁ h1 h => ?_;refine mE h fun b B₂ h2 h => ?_;refine Ze (Option.map_eq_some_iff.mp h) fun e he hh => ?_
 cases hh
 exact ZtG O (hf.ok C O F _ _ _ _ h1) (hg.ok C O F _ _ _ _ h2) (hop _ _ _ _ he) hm
set_option tactic.hygienic true in
theorem Jg {e : Expr} {f : DE} (hp : Zd9 e = true) (hf : Den G H k e f) : ZiK G H k e (T.of f) := .mk fun C O F σ B b B' h => by
 refine mE h fun a B₁ h1 h => ?_;refine Ze (Option.map_eq_some_iff.mp h) fun e he hh => ?_
 cases hh
 exact Zqr O hp (hf.ok C O F _ _ _ _ h1) he
set_option tactic.hygienic true in
theorem Zik {x : Expr} {pos : Pos} {t : DT} (ht : ZiK G H k x t) : ZiK G H k (.UnaryOp .Not x pos) (T.not t) := .mk fun C O F σ B b B' h => by
 refine mB h fun c B₁ h1 h => ?_
 cases h
 exact ZtH (ht.ok C O F _ _ _ _ h1)
set_option tactic.hygienic true in
theorem Zhd {t x y : Expr} {pos : Pos} {ft : DT} {fx fy : DE} (ht : ZiK G H k t ft) (hx : Den G H k x fx) (hy : Den G H k y fy) : Den G H k (.IfExp t x y pos) (D.ite ft fx fy) := .mk fun C O F σ B d B' h => by
 unfold D.ite at h
 split at h
 ·exact nn h
 ·rename_i B₁ h1
  exact Zoi (ht.ok C O F _ _ _ _ h1) (fun _ => hx.ok C O F _ _ _ _ h) (fun e => by cases e)
 ·rename_i B₁ h1
  exact Zoi (ht.ok C O F _ _ _ _ h1) (fun e => by cases e) (fun _ => hy.ok C O F _ _ _ _ h)
inductive ZkS (G : GC) (H : Nat) (k : K) : List Expr -> List DT -> Prop
 | nil : ZkS G H k [] []
 | cons {e : Expr} {es : List Expr} {t : DT} {ts : List DT} : ZiK G H k e t -> ZkS G H k es ts -> ZkS G H k (e :: es) (t :: ts)
inductive ZaK (G : GC) (H : Nat) (k : K) : List Expr -> List DE -> Prop
 | nil : ZaK G H k [] []
 | cons {e : Expr} {es : List Expr} {f : DE} {fs : List DE} : Ji e = true -> Den G H k e f -> ZaK G H k es fs -> ZaK G H k (e :: es) (f :: fs)
set_option tactic.hygienic true in
theorem ZaK.row {es : List Expr} {fs : List DE} (h : ZaK G H k es fs) (O : Zw G C) (F : XI k C) : ∀ {B : Bx} {ds : List V} {B' : Bx}, D.row fs σ B = some (ds, B') -> Row G H C σ B es ds B' := by
 induction h with
 | nil => intro B ds B' h; cases h; exact .nil B
 | cons hn h1 _ ih =>
  intro B ds B' h;simp only [D.row] at h;refine mE h fun a B₁ ha h => ?_;refine mR h fun as B₂ has h => ?_
  cases h
  exact .cons _ _ _ _ _ _ _ hn (h1.ok C O F _ _ _ _ ha) (ih has)
set_option tactic.hygienic true in
theorem ZaK.vals {op : BoolOp} {es : List Expr} {fs : List DE} (h : ZaK G H k es fs) (O : Zw G C) (F : XI k C) : ∀ {B : Bx} {d : V} {B' : Bx}, D.boolop (op == .And) fs σ B = some (d, B') -> ZiV G H C σ op B es d B' := by
 induction h with
 | nil => intro B d B' h; cases h
 | @cons e es f fs hn h1 h2 ih =>
  intro B d B' h
  cases h2 with
  | nil => exact .one _ _ _ _ (h1.ok C O F _ _ _ _ h)
  | cons hn' h1' h2' =>
   simp only [D.boolop] at h;refine mE h fun a B₁ ha h => ?_;refine mQ h fun c hc h => ?_
   split at h
   ·rename_i hcc
    exact .go _ B₁ _ _ _ _ _ _ (h1.ok C O F _ _ _ _ ha) (by rw [hc, hcc]) (ih h)
   ·rename_i hcc
    cases h
    have e1 : c = (op == .Or) := by cases op <;> cases c <;> simp_all
    exact .stop _ _ _ _ _ _ (h1.ok C O F _ _ _ _ ha) (by rw [hc, e1])
theorem ZjW {op : BoolOp} {es : List Expr} {pos : Pos} {fs : List DE} (h : ZaK G H k es fs) : Den G H k (.BoolOp op es pos) (D.boolop (op == .And) fs) := .mk fun C O F σ B d B' hd => ZlW (h.vals O F hd)
theorem ZgX {n : Nat} (h : n.ble 100 = true) : n <= sizeLine := by
 have := Nat.le_of_ble_eq_true h;show n <= 2 ^ 24;omega
set_option tactic.hygienic true in
theorem Z5 {es : List Expr} {n : Nat} {pos : Pos} {fs : List DE} (h : ZaK G H k es fs) (hz : es.length.ble 100 = true) : Den G H k (.Tuple es n pos) (D.tup fs) := .mk fun C O F σ B d B' hd => by
 refine mR hd fun as B₁ has hd => ?_
 cases hd
 have R := h.row O F has;exact Zos O R (by rw [<- R.len]; exact ZgX hz)
set_option tactic.hygienic true in
theorem Yq {es : List Expr} {pos : Pos} {fs : List DE} (h : ZaK G H k es fs) (hz : es.length.ble 100 = true) : Ym G H k (.List es pos) (D.list fs) := .mk fun C O F σ B d B' hd => by
 refine mR hd fun as B₁ has hd => ?_
 cases hd
 have R := h.row O F has;exact Zq3 O R (by rw [<- R.len]; exact ZgX hz)
theorem Zfs {pos : Pos} : Ym G H k (.Dict [] [] pos) (D.const (.dict [] [])) := .mk fun C O F σ B d B' hd => by cases hd; exact ZnP O
set_option tactic.hygienic true in
theorem Zg {o i : Expr} {pos : Pos} {f g : DE} (hn : ZfY i = true) (hf : Den G H k o f) (hg : Den G H k i g) : Den G H k (.Subscript o i pos) (D.bin Zc f g) := .mk fun C O F σ B d B' h => by
 refine mE h fun a B₁ h1 h => ?_;refine mE h fun b B₂ h2 h => ?_;refine Ze (Option.map_eq_some_iff.mp h) fun e he hh => ?_
 cases hh
 exact Zr9 O hn (hf.ok C O F _ _ _ _ h1) (hg.ok C O F _ _ _ _ h2) he
theorem ZA : Xe G H k [] S.skip := .mk fun C O F σ B r h => by cases h; exact Zot
set_option tactic.hygienic true in
theorem Zh {st : Stmt} {rest : List Stmt} {f g : DS} (hf : Zbn G H k st f) (hg : Xe G H k rest g) : Xe G H k (st :: rest) (S.seq f g) := .mk fun C O F σ B r h => by
 unfold S.seq at h
 split at h
 ·exact nn h
 ·rename_i σ₁ B₁ h1
  exact Zg8 (hf.ok C O F _ _ _ h1) (fun σ' B' e => by cases e; exact hg.ok C O F _ _ _ h) (fun hn => absurd rfl (hn _ _))
 ·rename_i r' hr' h1
  cases h
  exact Zg8 (hf.ok C O F _ _ _ h1) (fun σ' B' e => absurd (e ▸ h1) (by intro h2; exact hr' _ _ e)) (fun _ => rfl)
theorem Zj {st : Stmt} {f : DS} (hf : Zbn G H k st f) : Xe G H k [st] f := .mk fun C O F σ B r h =>
 Zg8 (hf.ok C O F _ _ _ h) (fun σ' B' e => by subst e; exact Zot) (fun _ => rfl)
set_option tactic.hygienic true in
theorem YL {t : Expr} {x y : List Stmt} {pos : Pos} {ft : DT} {fx fy : DS} (ht : ZiK G H k t ft) (hx : Xe G H k x fx) (hy : Xe G H k y fy) : Zbn G H k (.If t x y pos) (S.ite ft fx fy) := .mk fun C O F σ B r h => by
 unfold S.ite at h
 split at h
 ·exact nn h
 ·rename_i B₁ h1
  exact Zri (ht.ok C O F _ _ _ _ h1) (fun _ => hx.ok C O F _ _ _ h) (fun e => by cases e)
 ·rename_i B₁ h1
  exact Zri (ht.ok C O F _ _ _ _ h1) (fun e => by cases e) (fun _ => hy.ok C O F _ _ _ h)
set_option tactic.hygienic true in
theorem Z2 {e : Expr} {pos : Pos} {f : DE} (hf : Den G H k e f) : Zbn G H k (.Return (some e) pos) (S.ret f) := .mk fun C O F σ B r h => by
 refine mE h fun d B₁ h1 h => ?_
 cases h
 exact Zsf (hf.ok C O F _ _ _ _ h1)
theorem Zn2 {pos : Pos} : Zbn G H k (.Break pos) S.brk := .mk fun C O F σ B r h => by cases h; exact ZrW
set_option tactic.hygienic true in
theorem Zi2 {t : Expr} {pos : Pos} {ft : DT} (ht : ZiK G H k t ft) : Zbn G H k (.Assert t none pos) (S.assert ft) := .mk fun C O F σ B r h => by
 unfold S.assert at h
 split at h
 ·rename_i B₁ h1
  cases h
  exact ZmK (ht.ok C O F _ _ _ _ h1)
 ·exact nn h
noncomputable def Zhx (e : Expr) : Bool := !(Nat.beq e.ctorIdx 8 || (Nat.beq e.ctorIdx 9 || Nat.beq e.ctorIdx 10))
theorem ZbA {e : Expr} (h : Zhx e = true) (t : Option Expr) (n : Nat) (env : Env) : swapsWith e t n env = pure false := by
 cases e <;> first | rfl | cases h
set_option tactic.hygienic true in
theorem ZaD {e : Expr} {pos : Pos} {f : DE} (hn : Zhx e = true) (hf : Den G H k e f) : Zbn G H k (.Expr e pos) (S.expr f) := .mk fun C O F σ B r h => by
 refine mE h fun d B₁ h1 h => ?_
 cases h
 exact Zqp O (hf.ok C O F _ _ _ _ h1) (ZbA hn _ _ _)
theorem ZG {x : Str} {pos : Pos} {i : Nat} (hx : Zf8 k x i = true := by kernel_rfl) : Zqi G H k (.Name x pos) fun d σ => some (σ.set i (some d)) := .mk fun C O F σ B d σ' h => by
 refine XR (Zcw hx) fun hxa hk hi => ?_;rw [<- Option.some.inj h];have := ZhV (H := H) (B := B) (σ := σ) (d := d) (pos := pos) O (by rw [F.asg]; exact hxa) (by rw [F.kind]; exact Je hk);rw [F.names, hi] at this;exact this
inductive Zga (k : K) : List Expr -> List Nat -> Prop
 | nil : Zga k [] []
 | cons {x : Str} {pos : Pos} {es : List Expr} {i : Nat} {is : List Nat} (h : Zga k es is) (hx : Zf8 k x i = true := by kernel_rfl) : Zga k (.Name x pos :: es) (i :: is)
theorem Zga.each {es : List Expr} {is : List Nat} (h : Zga k es is) (O : Zw G C) (F : XI k C) : ∀ {ds : List V} {σ σ' : St}, S.sets is ds σ = some σ' ->
  ZdB G H C B σ ((assignEach es C.env).map (·.2)) ds σ' /\ es.length = ds.length /\ (assignEach es C.env).findIdx? (·.1) = none /\ (assignEach es C.env).length = es.length := by
 induction h with
 | nil => intro ds σ σ' h; cases ds with
  | nil => cases h; exact ⟨.nil _, rfl, rfl, rfl⟩
  | cons => exact nn h
 | @cons x pos es i is _ hx ih =>
  intro ds σ σ' h
  cases ds with
  | nil => exact nn h
  | cons d ds =>
   refine XR (Zcw hx) fun hxa hk hi => ?_;simp only [S.sets] at h;refine ZgV (ih h) fun h1 h2 h3 h4 => ?_;have e : assignEach (.Name x pos :: es) C.env = (false, assign (.Name x pos) C.env) :: assignEach es C.env := rfl;rw [e];refine ⟨?_, by simp [h2], by simp [List.findIdx?_cons, h3], by simp [h4]⟩;have := ZhV (H := H) (B := B) (σ := σ) (d := d) (pos := pos) O (by rw [F.asg]; exact hxa) (by rw [F.kind]; exact Je hk);rw [F.names, hi] at this;exact .cons _ _ _ _ _ _ _ this h1
set_option tactic.hygienic true in
theorem Xp {es : List Expr} {n : Nat} {pos : Pos} {is : List Nat} (h : Zga k es is) : Zqi G H k (.Tuple es n pos) (S.parts is) := .mk fun C O F σ B d σ' hd => by
 refine mX hd fun ds hds hd => ?_;obtain ⟨h1, h2, h3, h4⟩ := h.each (B := B) O F hd;exact ZoA O hds h2 h3 h4 h1
set_option tactic.hygienic true in
theorem ZfK {x : Str} {e : Expr} {px pos : Pos} {f : DE} {i : Nat} (hf : Den G H k e f) (hs : ∀ env : Env, env.scope.kind = .function -> env.scope.names = k.sc -> swapsWith e (some (.Name x px)) pos.line env = pure false)
  (hx : Zf8 k x i = true) : Zbn G H k (.Assign [.Name x px] e pos) (S.assign i f) := .mk fun C O F σ B r h => by
 refine mE h fun d B₁ h1 h => ?_;rw [<- Option.some.inj h];exact ZgN O (hf.ok C O F _ _ _ _ h1) ((ZG hx).ok C O F σ B₁ d _ rfl) (hs _ O.kind F.sc) rfl rfl
set_option tactic.hygienic true in
theorem Zy {x : Str} {e : Expr} {px pos : Pos} {f : DE} {i : Nat} (hf : Den G H k e f) (hn : Zhx e = true := by rfl) (hx : Zf8 k x i = true := by kernel_rfl) : Zbn G H k (.Assign [.Name x px] e pos) (S.assign i f) :=
 ZfK hf (fun _ _ _ => ZbA hn _ _ _) hx
set_option tactic.hygienic true in
theorem ZdA {o i e : Expr} {p pos : Pos} {f fo fi : DE} (hf : Den G H k e f) (ho : Den G H k o fo) (hi : Den G H k i fi) (hn : Zhx e = true) : Zbn G H k (.Assign [.Subscript o i p] e pos) (S.put f fo fi) := .mk fun C O F σ B r h => by
 refine mE h fun d B₁ h1 h => ?_
 split at h
 ·rename_i n B₂ h2
  refine mE h fun j B3 h3 h => ?_;refine mX h fun B4 h4 h => ?_
  cases h
  exact ZrT O (hf.ok C O F _ _ _ _ h1) (ho.ok C O F _ _ _ _ h2) (hi.ok C O F _ _ _ _ h3) h4 (ZbA hn _ _ _)
 ·exact nn h
set_option tactic.hygienic true in
theorem Zcn {x : Str} {e : Expr} {op : Operator} {p pos : Pos} {f : DE} {i : Nat} {vop : Bx -> V -> V -> Option V} (hop : ∀ B d₁ d₂ d, vop B d₁ d₂ = some d -> Op2 G H B (inplaceOp op) d₁ d₂ d) (hf : Den G H k e f)
  (hx : Zf8 k x i = true := by kernel_rfl) (hc : (x == ("__classdict__" : Str)) = false := by kernel_rfl) : Zbn G H k (.AugAssign (.Name x p) op e pos) (S.aug vop i f) := .mk fun C O F σ B r h => by
 refine XR (Zcw hx) fun hxa hk hi => ?_;unfold S.aug at h
 split at h
 ·rename_i d₁ hd
  refine mE h fun d₂ B₁ h1 h => ?_;refine mV h fun d h2 h => ?_
  cases h
  have := Zti (H := H) (σ := σ) (p := p) (pos := pos) (op := op) (d₁ := d₁) O (by rw [F.asg]; exact hxa) (by rw [F.kind]; exact Je hk) hc (by unfold Cx.look; rw [F.names, hi, hd]; rfl) (hf.ok C O F _ _ _ _ h1) (hop _ _ _ _ h2);rw [F.names, hi] at this;exact this
 ·exact nn h
set_option tactic.hygienic true in
theorem Za3 {o i e : Expr} {op : Operator} {p pos : Pos} {f fo fi : DE} {vop : Bx -> V -> V -> Option V} (hop : ∀ B d₁ d₂ d, vop B d₁ d₂ = some d -> Op2 G H B (inplaceOp op) d₁ d₂ d) (ho : Den G H k o fo) (hi : Den G H k i fi) (hf : Den G H k e f)
  (ha : ∀ ov iv new, augStore i ov iv new = (do holding [new, ov, iv] (setItem ov iv new); release [new, ov, iv] []; pure .next)) : Zbn G H k (.AugAssign (.Subscript o i p) op e pos) (S.augput vop fo fi f) := .mk fun C O F σ B r h => by
 unfold S.augput at h
 split at h
 ·rename_i n B₁ h1
  refine mE h fun j B₂ h2 h => ?_;refine mV h fun d₂ h3 h => ?_;refine mE h fun d₃ B3 h4 h => ?_;refine mV h fun d₄ h5 h => ?_;refine mX h fun B4 h6 h => ?_
  cases h
  exact Zmz O (ho.ok C O F _ _ _ _ h1) (hi.ok C O F _ _ _ _ h2) h3 (hf.ok C O F _ _ _ _ h4) (hop _ _ _ _ h5) h6 ha
 ·exact nn h
set_option tactic.hygienic true in
theorem Zjv {o i : Expr} {p pos : Pos} {fo fi : DE} (ho : Den G H k o fo) (hi : Den G H k i fi) : Zbn G H k (.Delete [.Subscript o i p] pos) (S.del fo fi) := .mk fun C O F σ B r h => by
 unfold S.del at h
 split at h
 ·rename_i n B₁ h1
  refine mE h fun j B₂ h2 h => ?_;refine mX h fun B3 h3 h => ?_
  cases h
  exact ZsG O (ho.ok C O F _ _ _ _ h1) (hi.ok C O F _ _ _ _ h2) h3
 ·exact nn h
set_option tactic.hygienic true in
theorem Yp {t e : Expr} {body orelse : List Stmt} {pos : Pos} {fi : DI} {g : V -> St -> Option St} {fb fe : DS} (hi : ZiF G H k e tp fi) (ht : Ze1 tp t = true) (hg : Zqi G H k t g) (hb : Xe G H k body fb) (he : Xe G H k orelse fe)
  (hs : ∀ env x, foldedSetIterable e env x = pure x) : Zbn G H k (.For t e body orelse pos) (S.loopS fi g fb fe) := .mk fun C O F σ B r h => by
 refine mS h fun src B₁ h1 h => ?_;refine Zr3 O (hs _) (hi.ok C O F _ _ _ _ h1) ht (fun ow x σ B r O' hr => ?_) (fun ow σ B r O' hr => he.ok _ O' (F.more ow) _ _ _ hr) h;refine mT hr fun σ₁ h2 hr => ?_;exact ⟨σ₁, B, hg.ok _ O' (F.more ow) _ _ _ _ h2, hb.ok _ O' (F.more ow) _ _ _ hr⟩
set_option tactic.hygienic true in
theorem Zl {e : Expr} {f : DE} (hf : Den G H k e f) : ZiF G H k e false (I.val f) := .mk fun C O F σ B src B' h => by
 refine mE h fun d B₁ h1 h => ?_;refine Ze (Option.map_eq_some_iff.mp h) fun e he hh => ?_
 cases hh
 exact Zst O (hf.ok C O F _ _ _ _ h1) he
set_option tactic.hygienic true in
theorem ZeZ {o : Expr} {apos pos : Pos} {f : DE} (hb : X3 o = true) (hl : (apos.endLine == pos.line) = true) (hf : Den G H k o f) : ZiF G H k (.Call (.Attribute o "items" apos) [] [] pos) true (I.items f) := .mk fun C O F σ B src B' h => by
 unfold I.items at h
 split at h
 ·rename_i ks ds B₁ h1
  cases h
  exact Znz O hb hl (hf.ok C O F _ _ _ _ h1)
 ·exact nn h
set_option tactic.hygienic true in
theorem Zi3 {o : Expr} {apos pos : Pos} {f : DE} (hb : X3 o = true) (hl : (apos.endLine == pos.line) = true) (hf : Den G H k o f) : ZiF G H k (.Call (.Attribute o "values" apos) [] [] pos) false (I.values f) := .mk fun C O F σ B src B' h => by
 unfold I.values at h
 split at h
 ·rename_i ks ds B₁ h1
  cases h
  exact ZmC O hb hl (hf.ok C O F _ _ _ _ h1)
 ·exact nn h
set_option tactic.hygienic true in
theorem ZnY {p pos : Pos} {e'1 e'2 : Expr} {f g : DE} (hk : k.kind "zip" = some .globalImplicit) (ht : YW G "zip" (.type "zip")) (hn1 : Ji e'1 = true) (hn2 : Ji e'2 = true) (hf : Den G H k e'1 f) (hg : Den G H k e'2 g) :
  ZiF G H k (.Call (.Name "zip" p) [e'1, e'2] [] pos) true (I.zip f g) := .mk fun C O F σ B src B' h => by
 unfold I.zip at h
 split at h
 ·rename_i xs B₁ h1
  split at h
  ·rename_i ys B₂ h2
   cases h
   exact ZsW O (by rw [F.kind]; exact hk) ht (by rfl) (.cons _ _ _ _ _ _ _ hn1 (hf.ok C O F _ _ _ _ h1) (.cons _ _ _ _ _ _ _ hn2 (hg.ok C O F _ _ _ _ h2) (.nil _)))
  ·exact nn h
 ·exact nn h
end
noncomputable def small (a : Int) : Bool := decide (-(2 ^ 60) < a) && decide (a < 2 ^ 60)
noncomputable def X9 (_ : Bx) : V -> V -> Option V
 | .int a, .int b => if b = 0 then none else some (.int (Int.fmod a b))
 | _, _ => none
noncomputable def ZcL (_ : Bx) : V -> V -> Option V
 | .int a, .int b => if b = 0 || !small b then none else some (.int (Int.fdiv a b))
 | _, _ => none
noncomputable def Zhp (_ : Bx) : V -> V -> Option V
 | .int a, .int n => if decide (0 <= n) && decide (n <= 100) && small a then some (.int (a ^ n.toNat)) else none
 | _, _ => none
noncomputable def ZfD (_ : Bx) : V -> V -> Option V
 | .int a, .int n => if decide (0 <= n) && decide (n <= 1000000) && small a then some (.int (a * 2 ^ n.toNat)) else none
 | _, _ => none
noncomputable def Zkt (_ : Bx) : V -> V -> Option V
 | .int a, .int n => if decide (0 <= n) then some (.int (Int.fdiv a (2 ^ n.toNat))) else none
 | _, _ => none
noncomputable def ZeE (_ : Bx) : V -> V -> Option V
 | .int a, .int b => some (.int (Builtin.bitAnd a b))
 | _, _ => none
noncomputable def ZmM (_ : Bx) : V -> V -> Option V
 | .int a, .int b => some (.int (Builtin.bitXor a b))
 | _, _ => none
noncomputable def Zbj (_ : Bx) : V -> V -> Option V
 | .int a, .int b => some (.int (a + b))
 | _, _ => none
noncomputable def Zqh (_ : Bx) : V -> V -> Option V
 | .int a, .int b => some (.int (a - b))
 | _, _ => none
noncomputable def YH (_ : Bx) : V -> Option V
 | .int a => some (.int (-a))
 | _ => none
noncomputable def vlt (_ : Bx) : V -> V -> Option Bool
 | .int a, .int b => some (decide (a < b))
 | _, _ => none
noncomputable def vgt (_ : Bx) : V -> V -> Option Bool
 | .int a, .int b => some (decide (b < a))
 | _, _ => none
noncomputable def vge (_ : Bx) : V -> V -> Option Bool
 | .int a, .int b => some (decide (b <= a))
 | _, _ => none
noncomputable def vin (B : Bx) (a c : V) : Option Bool := match c with
 | .str y => match a with
  | .str x => some (ZcT x y)
  | _ => none
 | c => match Jl B c with
  | some (ks, _) => match a with
   | .str x => some (ks.contains x)
   | _ => none
  | none => ZmO B a c
noncomputable def Jp (B : Bx) (a c : V) : Option Bool := (vin B a c).map (!·)
noncomputable def ZaX (B : Bx) (a c : V) : Option Bool := (X8 B a c).map (!·)
section
variable {G : GC} {C : Cx} {β : List Addr} {B B' B₁ B₂ : Bx} {σ : St} {s s' : Shared} {H : Nat} {d d₁ d₂ acc : V} {v : Value} {b : Bool} {r : Out} {k : K}
theorem Zda {a : Int} (h : small a = true) : Builtin.Int.intBits a <= 64 := by
 unfold small at h;simp only [Bool.and_eq_true, decide_eq_true_eq] at h;exact intBits_le_64 (by omega) (by omega)
theorem ZqP {xs ys : List V} (h1 : Zx B d₁ = some xs) (h2 : Zx B d₂ = some ys) (hz : ZH (xs.length + ys.length) = true) : Op2 G H B (binaryOp .Add) d₁ d₂ (.list (xs ++ ys)) := fun C σ A β s v w O hA I rv rw E => by
 refine Y7 (Y1 I rv h1) fun a vs n z_3 e q => ?_;subst z_3;refine Y7 (Y1 I rw h2) fun a2 ws n2 z_3 e2 q2 => ?_;subst z_3;have n1 : vs.size = xs.length := by rw [<- q.length]; simp
 have n2' : ws.size = ys.length := by rw [<- q2.length]; simp
 refine concat_meets ⟨_, e, rfl⟩ ⟨_, e2, rfl⟩ noFill_list_add seq_list_add PySem.F.slot_list_add PySem.F.entry_list_add (PySem.F.args_list_add_2 _ _) (AutoSeq1.list___add___list_list_0 a vs n a2 ws n2 (by rw [n1, n2']; exact Yy hz)) ⟨e, e2, ?_⟩;exact (XL (vs := vs ++ ws) (n := 0) (tk := s.toks) O I (by rw [Array.toList_append]; exact q.append q2)).tree
theorem ZqZ {xs ys : List V} (hz : ZH (xs.length + ys.length) = true) : Op2 G H B (binaryOp .Add) (.tup xs) (.tup ys) (.tup (xs ++ ys)) := fun C σ A β s v w O hA I rv rw E => by
 refine Y7 (ZaS rv) fun a vs n z_3 e q => ?_;subst z_3;refine Y7 (ZaS rw) fun a2 ws n2 z_3 e2 q2 => ?_;subst z_3;have n1 : vs.size = xs.length := by rw [<- Array.length_toList]; exact q.length
 have n2' : ws.size = ys.length := by rw [<- Array.length_toList]; exact q2.length
 have hT : ∀ {a vs n}, s.heap.get? a = some (Jm vs n) -> s.TypeIs (.ref a) "tuple" := fun e => ⟨_, e, rfl⟩
 by_cases hv : vs.isEmpty = true
 ·refine concat_meets (hT e) (hT e2) noFill_tuple_add seq_tuple_add PySem.F.slot_tuple_add PySem.F.entry_tuple_add (PySem.F.args_tuple_add_2 _ _) (tuple_addW0 a a2 vs ws n n2 none none #[] #[] hv) ⟨e, e2, ?_⟩
  have hx : xs = [] := by
   have : vs.size = 0 := by simpa [Array.isEmpty] using hv
   rw [n1] at this; exact List.length_eq_zero_iff.mp this
  subst hx;exact Zv.ofExt I (Ext.refl s) rw
 ·by_cases hw : ws.isEmpty = true
  ·refine concat_meets (hT e) (hT e2) noFill_tuple_add seq_tuple_add PySem.F.slot_tuple_add PySem.F.entry_tuple_add (PySem.F.args_tuple_add_2 _ _) (tuple_addW1 a a2 vs ws n n2 none none #[] #[] hv hw) ⟨e, e2, ?_⟩
   have hy : ys = [] := by
    have : ws.size = 0 := by simpa [Array.isEmpty] using hw
    rw [n2'] at this; exact List.length_eq_zero_iff.mp this
   subst hy;rw [List.append_nil];exact Zv.ofExt I (Ext.refl s) rv
  ·refine concat_meets (hT e) (hT e2) noFill_tuple_add seq_tuple_add PySem.F.slot_tuple_add PySem.F.entry_tuple_add (PySem.F.args_tuple_add_2 _ _) (tuple_addW2 a a2 vs ws n n2 none none #[] #[] hv hw (by rw [n1, n2']; exact Yy hz)) ⟨e, e2, ?_⟩
   have x := Ext.push s (Jm (vs ++ ws) 0);exact Zv.ofExt I (x.trans (Ext.toks _ _)) (.tup (vs := vs ++ ws) (n := 0) (Heap.get?_push_size _ rfl) (I.fresh (Nat.le_refl _)) (x.repAll (by rw [Array.toList_append]; exact q.append q2)))
noncomputable def Zrf (B : Bx) (a b : V) : Sb fun r => ∀ (G : GC) (H : Nat), Op2 G H B (binaryOp .Add) a b r := match a, b with
 | .int a, .int b => .ok (.int (a + b)) fun _ _ => ZsN
 | .str x, .str y => .ite (c := ZH (x.length + y.length) = true) (.str (x ++ y)) fun hz _ _ => ZrY (Yy hz)
 | .tup xs, .tup ys => .ite (c := ZH (xs.length + ys.length) = true) (.tup (xs ++ ys)) fun hz _ _ => ZqZ hz
 | a, b => .bind (Zx B a) fun xs h1 => .bind (Zx B b) fun ys h2 => .ite (c := ZH (xs.length + ys.length) = true) (.list (xs ++ ys)) fun hz _ _ => ZqP h1 h2 hz
noncomputable def ZE (B : Bx) (a b : V) : Option V := (Zrf B a b).1
theorem ZqJ {a b : Int} : ZE B (.int a) (.int b) = some (.int (a + b)) := rfl
theorem Zhz {x y : Str} : ZE B (.str x) (.str y) = if ZH (x.length + y.length) then some (.str (x ++ y)) else none := rfl
theorem ZeM {xs ys : List V} : ZE B (.list xs) (.list ys) = if ZH (xs.length + ys.length) then some (.list (xs ++ ys)) else none := rfl
theorem Zqn {n : Nat} {xs ys : List V} (h : Zx B (.box n) = some xs) : ZE B (.box n) (.list ys) = if ZH (xs.length + ys.length) then some (.list (xs ++ ys)) else none := by
 show (Sb.bind (Zx B (.box n)) _).1 = _;rw [Sb.bind_eq h];rfl
theorem ZW : ∀ B d₁ d₂ d, ZE B d₁ d₂ = some d -> Op2 G H B (binaryOp .Add) d₁ d₂ d := fun B d₁ d₂ d h => (Zrf B d₁ d₂).2 d h G H
noncomputable def Zrs (B : Bx) (a b : V) : Sb fun r => ∀ (G : GC) (H : Nat), Op2 G H B (binaryOp .Sub) a b r := match a, b with
 | .int a, .int b => .ok (.int (a - b)) fun _ _ => Zta
 | .bool a, .bool b => .ok (.int ((if a then 1 else 0) - (if b then 1 else 0))) fun G _ C σ A β s v w O hA I rv rw E => by
  rw [ZdH rv, ZdH rw];exact PyProof.Rows.sub_bool (Zv.ofExt I (Ext.toks s _) (by cases a <;> cases b <;> exact .int _ _))
 | _, _ => .no
noncomputable def ZbX (B : Bx) (a b : V) : Option V := (Zrs B a b).1
set_option tactic.hygienic true in
theorem Zbu : ∀ B d₁ d₂ d, ZbX B d₁ d₂ = some d -> Op2 G H B (binaryOp .Sub) d₁ d₂ d := fun B d₁ d₂ d h => (Zrs B d₁ d₂).2 d h G H
noncomputable def ZrK (B : Bx) (a b : V) : Sb fun r => ∀ (G : GC) (H : Nat), Op2 G H B (binaryOp .Mult) a b r := match a, b with
 | .int a, .int b => .ite (c := small a = true) (.int (a * b)) fun hs _ _ => Zr2 (IntMulOk.of_left (Zda hs))
 | .str x, .int n => .ite (c := (decide (0 <= n) && decide (n <= 1000) && decide (x.length <= 1000)) = true) (.str (Txt.mul x n)) fun hs _ _ => by
  simp only [Bool.and_eq_true, decide_eq_true_eq] at hs;refine Zmd ⟨?_, fun h1 _ => ?_, fun h1 _ => ?_⟩
  ·simp; omega
  ·have h2 : (9223372036854775807 : Int) / 1000 <= (2 ^ 63 - 1) / n := by
    show (9223372036854775807 : Int) / 1000 <= 9223372036854775807 / n;rw [Int.le_ediv_iff_mul_le (by omega)];have : (9223372036854775807 : Int) / 1000 = 9223372036854775 := by decide
    rw [this];omega
   have : (9223372036854775807 : Int) / 1000 = 9223372036854775 := by decide
   omega
  ·unfold Builtin.Str.tooLong
   rw [sizeLine_eq];have h2 : n.toNat <= 1000 := by omega
   have := Nat.mul_le_mul hs.2 h2;simp; omega
 | _, _ => .no
noncomputable def Xb (B : Bx) (a b : V) : Option V := (ZrK B a b).1
theorem Zk9 {a b : Int} : Xb B (.int a) (.int b) = if small a then some (.int (a * b)) else none := rfl
theorem Zre {x : Str} {n : Int} : Xb B (.str x) (.int n) = if decide (0 <= n) && decide (n <= 1000) && decide (x.length <= 1000) then some (.str (Txt.mul x n)) else none := rfl
set_option tactic.hygienic true in
theorem Xc : ∀ B d₁ d₂ d, Xb B d₁ d₂ = some d -> Op2 G H B (binaryOp .Mult) d₁ d₂ d := fun B d₁ d₂ d h => (ZrK B d₁ d₂).2 d h G H
theorem Za2 : ∀ B d₁ d₂ d, X9 B d₁ d₂ = some d -> Op2 G H B (binaryOp .Mod) d₁ d₂ d := by
 intro B d₁ d₂ d h;unfold X9 at h
 split at h
 ·split at h
  ·exact nn h
  ·rename_i hb; cases h; exact Zsx hb
 ·exact nn h
theorem ZhZ {a b : Int} (h : small b = true) : Builtin.divisionGoesByPylong a b = false := by
 have hb := Zda h;unfold small at h;simp only [Bool.and_eq_true, decide_eq_true_eq] at h;unfold Builtin.divisionGoesByPylong
 have : (if (b == 0) = true then 0 else b.natAbs.log2 / 30 + 1) <= 300 := by
  split
  ·omega
  ·rename_i h0
   have h0 : b ≠ 0 := by simpa using h0
   have h1 : b.natAbs < 2 ^ 60 := by omega
   have h2 := (Nat.log2_lt (n := b.natAbs) (k := 60) (by omega)).mpr h1;omega
 simp only [Bool.and_eq_false_iff, decide_eq_false_iff_not];exact .inl (by omega)
theorem ZeH : ∀ B d₁ d₂ d, ZcL B d₁ d₂ = some d -> Op2 G H B (binaryOp .FloorDiv) d₁ d₂ d := by
 intro B d₁ d₂ d h;unfold ZcL at h
 split at h
 ·split at h
  ·exact nn h
  ·rename_i hb
   cases h
   simp only [Bool.or_eq_true, decide_eq_true_eq, Bool.not_eq_true', not_or, Bool.not_eq_false] at hb;exact ZsH hb.1 (ZhZ hb.2)
 ·exact nn h
set_option tactic.hygienic true in
theorem Zqa : ∀ B d₁ d₂ d, Zhp B d₁ d₂ = some d -> Op2 G H B (binaryOp .Pow) d₁ d₂ d := by
 intro B d₁ d₂ d h;unfold Zhp at h
 split at h
 ·split at h
  ·rename_i a n hs
   cases h
   simp only [Bool.and_eq_true, decide_eq_true_eq] at hs;have := Zda hs.2;refine ZsQ hs.1.1 ?_;have h1 : ((Builtin.Int.intBits a : Nat) : Int) <= 64 := by omega
   have := Int.mul_le_mul h1 hs.1.2 hs.1.1 (by omega);omega
  ·exact nn h
 ·exact nn h
set_option tactic.hygienic true in
theorem ZkN : ∀ B d₁ d₂ d, ZfD B d₁ d₂ = some d -> Op2 G H B (binaryOp .LShift) d₁ d₂ d := by
 intro B d₁ d₂ d h;unfold ZfD at h
 split at h
 ·split at h
  ·rename_i a n hs
   cases h
   simp only [Bool.and_eq_true, decide_eq_true_eq, small] at hs;exact ZsF hs.1.1 hs.1.2 (by omega)
  ·exact nn h
 ·exact nn h
theorem Zqz : ∀ B d₁ d₂ d, Zkt B d₁ d₂ = some d -> Op2 G H B (binaryOp .RShift) d₁ d₂ d := by
 intro B d₁ d₂ d h;unfold Zkt at h
 split at h
 ·split at h
  ·rename_i hs; cases h; exact Zso (of_decide_eq_true hs)
  ·exact nn h
 ·exact nn h
theorem ZkJ : ∀ B d₁ d₂ d, ZeE B d₁ d₂ = some d -> Op2 G H B (binaryOp .BitAnd) d₁ d₂ d := by
 intro B d₁ d₂ d h;unfold ZeE at h
 split at h
 ·cases h; exact Zsz
 ·exact nn h
theorem ZqO : ∀ B d₁ d₂ d, ZmM B d₁ d₂ = some d -> Op2 G H B (inplaceOp .BitXor) d₁ d₂ d := by
 intro B d₁ d₂ d h;unfold ZmM at h
 split at h
 ·cases h
  exact fun C σ A β s v w O hA I rv rw E => by
   obtain ⟨t, rfl⟩ := Zu rv; obtain ⟨u, rfl⟩ := Zu rw;exact ixor_int (Zv.ofExt I (Ext.toks s _) (.int _ _))
 ·exact nn h
theorem Zbz : ∀ B d₁ d₂ d, Zbj B d₁ d₂ = some d -> Op2 G H B (inplaceOp .Add) d₁ d₂ d := by
 intro B d₁ d₂ d h;unfold Zbj at h
 split at h
 ·cases h
  exact fun C σ A β s v w O hA I rv rw E => by
   obtain ⟨t, rfl⟩ := Zu rv; obtain ⟨u, rfl⟩ := Zu rw;exact iadd_int (Zv.ofExt I (Ext.toks s _) (.int _ _))
 ·exact nn h
theorem Zq4 : ∀ B d₁ d₂ d, Zqh B d₁ d₂ = some d -> Op2 G H B (inplaceOp .Sub) d₁ d₂ d := by
 intro B d₁ d₂ d h;unfold Zqh at h
 split at h
 ·cases h
  exact fun C σ A β s v w O hA I rv rw E => by
   obtain ⟨t, rfl⟩ := Zu rv; obtain ⟨u, rfl⟩ := Zu rw;exact isub_int (Zv.ofExt I (Ext.toks s _) (.int _ _))
 ·exact nn h
theorem Y5 : ∀ B d₁ d, YH B d₁ = some d -> Op1 G H B (unaryOp .USub) d₁ d := by
 intro B d₁ d h;unfold YH at h
 split at h
 ·cases h; exact Zto
 ·exact nn h
theorem Ze9 : ∀ B d₁ d₂ b, vlt B d₁ d₂ = some b -> Op2 G H B (compareOp .Lt) d₁ d₂ (.bool b) := by
 intro B d₁ d₂ d h;unfold vlt at h
 split at h
 ·cases h; exact Zty
 ·exact nn h
theorem Zf4 : ∀ B d₁ d₂ b, vgt B d₁ d₂ = some b -> Op2 G H B (compareOp .Gt) d₁ d₂ (.bool b) := by
 intro B d₁ d₂ d h;unfold vgt at h
 split at h
 ·cases h; exact Zt4
 ·exact nn h
theorem Zsc : ∀ B d₁ d₂ b, vge B d₁ d₂ = some b -> Op2 G H B (compareOp .GtE) d₁ d₂ (.bool b) := by
 intro B d₁ d₂ d h;unfold vge at h
 split at h
 ·cases h; exact ZtM
 ·exact nn h
theorem Zby : ∀ B d₁ d₂ b, X8 B d₁ d₂ = some b -> Op2 G H B (compareOp .Eq) d₁ d₂ (.bool b) := fun B d₁ d₂ b h => (ZrJ h).1
theorem Zd2 : ∀ B d₁ d₂ b, ZaX B d₁ d₂ = some b -> Op2 G H B (compareOp .NotEq) d₁ d₂ (.bool b) := fun B d₁ d₂ b h => by
 refine Ze (Option.map_eq_some_iff.mp h) fun c hc z_2 => ?_;subst z_2;exact (ZrJ hc).2
theorem ZkM {b : Bool} (h : vin B d₁ d₂ = some b) : Op2 G H B (compareOp .In) d₁ d₂ (.bool b) /\ Op2 G H B (compareOp .NotIn) d₁ d₂ (.bool (!b)) := by
 unfold vin at h
 split at h
 ·split at h
  ·cases h; exact Zmt
  ·exact nn h
 ·split at h
  ·rename_i hd
   split at h
   ·cases h; exact ZjZ hd
   ·exact nn h
  ·exact Zuc h
theorem Zd1 : ∀ B d₁ d₂ b, vin B d₁ d₂ = some b -> Op2 G H B (compareOp .In) d₁ d₂ (.bool b) := fun B d₁ d₂ b h => (ZkM h).1
theorem ZcB : ∀ B d₁ d₂ b, Jp B d₁ d₂ = some b -> Op2 G H B (compareOp .NotIn) d₁ d₂ (.bool b) := fun B d₁ d₂ b h => by
 refine Ze (Option.map_eq_some_iff.mp h) fun c hc z_2 => ?_;subst z_2;exact (ZkM hc).2
theorem ZcQ {av : Addr -> Prop} {h : Heap} {vs : List Value} {xs : List V} (q : Zd G av β h vs xs) : ∀ n, Zd G av β h (List.replicate n vs).flatten (List.replicate n xs).flatten
 | 0 => .nil
 | n + 1 => by
  rw [List.replicate_succ, List.replicate_succ, List.flatten_cons, List.flatten_cons]; exact q.append (ZcQ q n)
noncomputable def D.rep (f g : DE) : DE := fun σ B => match f σ B with
 | some (.list xs, B₁) => match g σ B₁ with
  | some (.int n, B₂) => if decide (0 <= n) && decide (n <= 1000) && decide (xs.length <= 1000) then some (.list (List.replicate n.toNat xs).flatten, B₂) else none
  | _ => none
 | _ => none
set_option tactic.hygienic true in
theorem Znd {l r : Expr} {pos : Pos} {f g : DE} (hf : Den G H k l f) (hg : Den G H k r g) : Ym G H k (.BinOp l .Mult r pos) (D.rep f g) := .mk fun C O F σ B d B' h => by
 unfold D.rep at h
 split at h
 ·rename_i xs B₁ h1
  split at h
  ·rename_i n B₂ h2
   split at h
   ·rename_i hs
    cases h
    simp only [Bool.and_eq_true, decide_eq_true_eq] at hs;refine fun A β s hA I E => wpAny_BinOp ((hf.ok C O F _ _ _ _ h1 A β s hA I).t3 fun v s'1 β1 a'1 i'1 r'1 => (hg.ok C O F _ _ _ _ h2 A β1 s'1 hA i'1).t3 fun u s'2 β2 a'2 i'2 r'2 => ?_);obtain ⟨t, rfl⟩ := Zu r'2;have r1' := a'2.e O r'1;refine Xs r1'.sh fun l vs m ev e nv q => ?_;rw [ev];have n1 : vs.size = xs.length := by rw [<- q.length]; simp
    have hmul : vs.size * n.toNat <= 1000 * 1000 := Nat.mul_le_mul (by omega) (by omega)
    refine wpAny_binaryOp_repeat_ref (T := "list") (U := "int") (by decide) ⟨_, e, rfl⟩ (fun s' => typeIs_int s' n t) noFill_list_mul PySem.F.fills_int_mul PySem.F.slot_int_rmul repeat_list PySem.F.slot_int_index.lookup
     (call_meets PySem.F.slot_int_rmul (typeIs_int s'2 n t) PySem.F.entry_int_rmul (PySem.F.args_int_rmul_2 _ _) (int___rmul___int_list n t l vs m)
      ⟨e, rfl, ⟨_, e, rfl⟩, call_meets PySem.F.slot_list_mul ⟨_, e, rfl⟩ PySem.F.entry_list_mul (PySem.F.args_list_mul_2 _ _)
       (AutoListH.list___mul___list_int_3 l vs m n t (by simp [Builtin.List.listFitsIndex]; omega) (by omega) (by simp [Builtin.List.listTooLong, sizeLine]; omega)) ⟨e, ?_⟩⟩)
    have hz := (XL (vs := (List.replicate n.toNat vs.toList).flatten.toArray) (n := 0) (tk := s'2.toks) O i'2 (by rw [List.toList_toArray]; exact ZcQ q n.toNat))
    have hflat : List.foldl (fun x1 x2 => x1 ++ x2) #[] (List.replicate (if vs.isEmpty = true then 0 else n.toNat) vs) = (List.replicate n.toNat vs.toList).flatten.toArray := by
     have key : ∀ (k : Nat) (acc : Array Value), List.foldl (fun x1 x2 => x1 ++ x2) acc (List.replicate k vs) = acc ++ (List.replicate k vs.toList).flatten.toArray := by
      intro k
      induction k with
      | zero => intro acc; simp
      | succ k ih => intro acc; rw [List.replicate_succ, List.foldl_cons, ih, List.replicate_succ, List.flatten_cons]; apply Array.ext'; simp
     split
     ·rename_i he
      have : vs = #[] := by simpa [Array.isEmpty] using he
      subst this;simp
     ·rw [key, Array.empty_append]
    rw [hflat];exact ((hz.from a'2).from a'1)
   ·exact nn h
  ·exact nn h
 ·exact nn h
end
open PySem PySem.Calls PyProof.Rows
noncomputable def JO (f : V -> Option V) : List V -> Option (List V)
 | [] => some []
 | x :: xs => match f x, JO f xs with
  | some y, some ys => some (y :: ys)
  | _, _ => none
noncomputable def frz (n : Nat) (B : Bx) : Nat -> V -> Option V
 | 0, _ => none
 | m + 1, d => match d with
  | .tup xs => (JO (frz n B m) xs).map .tup
  | .list xs => (JO (frz n B m) xs).map .list
  | .dict ks xs => (JO (frz n B m) xs).map (.dict ks)
  | .tc c => (frz n B m c).map .tc
  | .box i => if i < n then some (.box i) else match B[i]? with
   | some (.list xs) => (JO (frz n B m) xs).map .list
   | some (.dict ks xs) => (JO (frz n B m) xs).map (.dict ks)
   | _ => none
  | d => some d
section
variable {G : GC} {C : Cx} {β β' : List Addr} {B B' : Bx} {σ σ' : St} {s : Shared} {H : Nat} {d d₁ : V} {v : Value} {b : Bool} {ds : List V} {r : Out} {k : K} {X : Addr -> Prop} {av av' : Addr -> Prop} {h : Heap}
structure Cut (av av' : Addr -> Prop) (β β' : List Addr) (n : Nat) : Prop where
 get : ∀ {i : Nat} {a : Addr}, β'[i]? = some a -> i < n -> β[i]? = some a
 sub : ∀ a, avB av β a -> avB av' β' a
 apart : ∀ (i : Nat) (a : Addr), n <= i -> β'[i]? = some a -> ¬ avB av β a
theorem Rep.cut {av0 : Addr -> Prop} {h0 : Heap} {v0 : Value} (c : Cut av av' β β' β.length) (r0 : Rep G av0 β h0 v0 d) : ∀ v, Rep G (avB av' β') β' h v d -> Rep G (avB av β) β h v d :=
 Rep.rec (motive_1 := fun _ d _ => ∀ v, Rep G (avB av' β') β' h v d -> Rep G (avB av β) β h v d) (motive_2 := fun _ ds _ => ∀ vs, Zd G (avB av' β') β' h vs ds -> Zd G (avB av β) β h vs ds)
  (fun v r => by rw [r.sh]; exact .none) (fun _ v r => by rw [r.sh]; exact .bool _) (fun _ _ v r => by obtain ⟨t, e⟩ := r.sh; rw [e]; exact .int _ _) (fun _ _ v r => by obtain ⟨t, e⟩ := r.sh; rw [e]; exact .str _ _)
  (fun _ _ _ ih v r => by obtain ⟨a, vs, k, ev, e, na, q⟩ := r.sh; rw [ev]; exact .tup e (fun z => na (c.sub _ z)) (ih _ q))
  (fun _ _ _ ih v r => by obtain ⟨a, vs, k, ev, e, na, q⟩ := r.sh; rw [ev]; exact .list e (fun z => na (c.sub _ z)) (ih _ q))
  (fun _ _ _ _ _ ih v r => by obtain ⟨a, kvs, ev, e, hs, na, he, q⟩ := r.sh; rw [ev]; exact .dict e hs (fun z => na (c.sub _ z)) he (ih _ q))
  (fun e0 v r => by obtain ⟨a, ev, e⟩ := r.sh; rw [ev]; exact .box (c.get e (List.getElem?_eq_some_iff.mp e0).1))
  (fun _ _ v r => by obtain ⟨a, t, u, w, ev, e, na⟩ := r.sh; rw [ev]; exact .range e fun z => na (c.sub _ z))
  (fun _ _ _ _ _ _ ih v r => by obtain ⟨a, D, od, x, ev, e, na, nd, hn, hm, r⟩ := r.sh; rw [ev]; exact .tc e (fun z => na (c.sub _ z)) (fun z => nd (c.sub _ z)) hn hm (ih _ r))
  (fun vs r => by rw [r.sh.1 rfl]; exact .nil) (fun _ _ ih ihs vs r => by obtain ⟨v, vs', e, r1, r2⟩ := r.sh.2 _ _ rfl; rw [e]; exact .cons (ih _ r1) (ihs _ r2)) r0
theorem Zd.cut {av0 : Addr -> Prop} {h0 : Heap} {vs0 : List Value} {ds : List V} (c : Cut av av' β β' β.length) (r0 : Zd G av0 β h0 vs0 ds) : ∀ vs, Zd G (avB av' β') β' h vs ds -> Zd G (avB av β) β h vs ds :=
 Zd.ind (P := fun _ ds => ∀ vs, Zd G (avB av' β') β' h vs ds -> Zd G (avB av β) β h vs ds) (fun vs r => by rw [r.sh.1 rfl]; exact .nil)
  (fun r0 _ ih vs r => by obtain ⟨v, vs', e, r1, r2⟩ := r.sh.2 _ _ rfl; rw [e]; exact .cons (r0.cut c _ r1) (ih _ r2)) r0
theorem Zbr {f : V -> Option V} {av1 av2 : Addr -> Prop} {β1 β2 : List Addr} {h'1 : Heap} (hf : ∀ v d d', Rep G av1 β1 h'1 v d -> f d = some d' -> Rep G av2 β2 h'1 v d') {vs : List Value} {ds : List V} (r : Zd G av1 β1 h'1 vs ds) : ∀ ds', JO f ds = some ds' -> Zd G av2 β2 h'1 vs ds' :=
 Zd.ind (P := fun vs ds => ∀ ds', JO f ds = some ds' -> Zd G av2 β2 h'1 vs ds') (fun ds' e => Option.some.inj e ▸ .nil) (fun r _ ih ds' e => by
  unfold JO at e
  split at e
  ·rename_i e1 e2
   rw [<- Option.some.inj e];exact .cons (hf _ _ _ r e1) (ih _ e2)
  ·cases e) r
theorem Zny {n : Nat} (c : Cut av av' β β' n) (hx : ZcN G av' β' B' h) : ∀ (m : Nat) (v : Value) (d d' : V), Rep G (avB av' β') β' h v d -> frz n B' m d = some d' -> Rep G (avB av β) β h v d' := by
 intro m
 induction m with
 | zero => intro v d d' r hf; cases hf
 | succ m ih =>
  intro v d d' r hf;have S := r.sh;clear r
  cases d with
  | none => rw [<- Option.some.inj hf, show v = _ from S]; exact .none
  | bool b => rw [<- Option.some.inj hf, show v = _ from S]; exact .bool _
  | int i => obtain ⟨t, e⟩ := S; rw [<- Option.some.inj hf, e]; exact .int _ _
  | str x => obtain ⟨t, e⟩ := S; rw [<- Option.some.inj hf, e]; exact .str _ _
  | range x y => obtain ⟨a, t, u, w, ev, e, na⟩ := S; rw [<- Option.some.inj hf, ev]; exact .range e fun z => na (c.sub _ z)
  | tup xs =>
   refine Xs S fun a vs k ev e na q => ?_;clear S;refine Ze (Option.map_eq_some_iff.mp hf) fun ys hy ed => ?_;rw [<- ed, ev]; exact .tup e (fun z => na (c.sub _ z)) (Zbr ih q _ hy)
  | list xs =>
   refine Xs S fun a vs k ev e na q => ?_;clear S;refine Ze (Option.map_eq_some_iff.mp hf) fun ys hy ed => ?_;rw [<- ed, ev]; exact .list e (fun z => na (c.sub _ z)) (Zbr ih q _ hy)
  | dict ks xs =>
   refine ZbT S fun a kvs ev e hs na he q => ?_;clear S;refine Ze (Option.map_eq_some_iff.mp hf) fun ys hy ed => ?_;rw [<- ed, ev]; exact .dict e hs (fun z => na (c.sub _ z)) he (Zbr ih q _ hy)
  | tc x =>
   refine Zpv S fun a D od w ev e na nd hn hm r => ?_;clear S;refine Ze (Option.map_eq_some_iff.mp hf) fun y hy ed => ?_;rw [<- ed, ev]; exact .tc e (fun z => na (c.sub _ z)) (fun z => nd (c.sub _ z)) hn hm (ih _ _ _ r hy)
  | box i =>
   refine Ze S fun a ev e => ?_;clear S;rw [ev];have hf : (if i < n then some (V.box i) else match B'[i]? with | some (.list xs) => (JO (frz n B' m) xs).map .list | some (.dict ks xs) => (JO (frz n B' m) xs).map (.dict ks) | _ => none) = some d' := hf
   by_cases hi : i < n
   ·rw [if_pos hi] at hf
    rw [<- Option.some.inj hf];exact .box (c.get e hi)
   ·rw [if_neg hi] at hf
    have na := c.apart i a (Nat.le_of_not_lt hi) e
    cases hB : B'[i]? with
    | none => rw [hB] at hf; cases hf
    | some y =>
     rw [hB] at hf;have X := (hx.at' i a _ e hB).sh
     cases y with
     | list xs =>
      refine YU X fun vs k e2 r2 => ?_;clear X;refine Ze (Option.map_eq_some_iff.mp hf) fun ys hy ed => ?_;rw [<- ed]; exact .list e2 na (Zbr ih r2 _ hy)
     | dict ks xs =>
      refine Zcf X fun kvs e2 hs he r2 => ?_;clear X;refine Ze (Option.map_eq_some_iff.mp hf) fun ys hy ed => ?_;rw [<- ed]; exact .dict e2 hs na he (Zbr ih r2 _ hy)
     | _ => exact nn hf
structure Zt5 (G : GC) (g : Bool) (name : Str) (params : Arguments) (body : List Stmt) (scope : Scope) (a : Addr) : Prop where
 top : YW G name (.ref a)
 at' : ∃ o pm cd doc c, G.H0.get? a = some o /\ ¬ G.Tb a /\ o.data = .func (docDef name params body scope pm cd doc) /\ cd = .ref c /\ G.H0.CodeRec cd name /\ ¬ G.Tb c /\ (g = true -> ∃ P, (c, P) ∈ G.tabs)
noncomputable def ZaV (G : GC) (g : Bool) (name qual : Str) (params : Arguments) (body : List Stmt) (scope : Scope) (a : Addr) : Prop :=
 ∃ o pm cd doc c, G.H0.get? a = some o /\ ¬ G.Tb a /\ o.data = .func (methDef name qual params body scope pm cd doc) /\ cd = .ref c /\ G.H0.CodeRec cd qual /\ ¬ G.Tb c /\ (g = true -> ∃ P, (c, P) ∈ G.tabs)
noncomputable def Zp1 (G : GC) (H : Nat) (a : Addr) (F : Bx -> List V -> Option (V × Bx)) : Prop := ∀ B ds d B', F B ds = some (d, B') -> OpN G H B B' (fun vs => call (.ref a) vs) ds d
noncomputable def K.fn (scope : Scope) (g : Bool) : K := { sc := scope.names, names := Ys scope.names, asg := Ys scope.names, gen := g }
noncomputable def Zbc (scope : Scope) (ps : List Str) : Bool :=
 scope.kind == .function && !scope.isGenerator && !scope.isCoroutine && decide (scope.names.map (·.1)).Nodup && (scope.names.lookup ("__debug__" : Str)).isNone && scope.names.all (fun x => x.2 != .free) && ps.all fun x => ZeQ (scope.names.lookup x)
noncomputable def st0 (names : List Str) : List Str -> List V -> St -> St
 | p :: ps, d :: ds, σ => st0 names ps ds (σ.set (names.idxOf p) (some d))
 | _, _, σ => σ
noncomputable def ZkW (scope : Scope) (ps : List Str) (ds : List V) : St := st0 (Ys scope.names) ps ds (List.replicate (Ys scope.names).length none)
theorem ZcW (names : List Str) : ∀ (ps : List Str) (ds : List V) (σ : St), (st0 names ps ds σ).length = σ.length
 | [], [], σ => rfl
 | [], _ :: _, σ => rfl
 | _ :: _, [], σ => rfl
 | p :: ps, d :: ds, σ => by simp only [st0]; rw [ZcW]; simp
theorem ZdT {names : List Str} {kindOf : Str -> Option NameKind} {P : Value -> V -> Prop} : ∀ (ps : List Str) (vs : List Value) (ds : List V) (m cm : Str -> Option Value) (σ : St), σ.length = names.length -> (∀ p ∈ ps, p ∈ names) -> vs.length = ps.length ->
  (∀ (i : Nat) (v : Value) (d : V), vs[i]? = some v -> ds[i]? = some d -> P v d) -> ds.length = vs.length ->
  (∀ x d, (σ[names.idxOf x]?).join = some d -> ∃ v, (if kindOf x = some .local then m x else cm x) = some v /\ P v d) ->
  ∀ x d, ((st0 names ps ds σ)[names.idxOf x]?).join = some d -> ∃ v, (if kindOf x = some .local then bindL kindOf (ps.zip vs) m x else bindC kindOf (ps.zip vs) cm x) = some v /\ P v d
 | [], vs, ds, m, cm, σ, hσ, hp, hv, hr, hd, hP => by
  cases vs with
  | nil =>
   cases ds with
   | nil => exact hP
   | cons => simp at hd
  | cons => simp at hv
 | p :: ps, [], ds, m, cm, σ, hσ, hp, hv, hr, hd, hP => by simp at hv
 | p :: ps, v :: vs, [], m, cm, σ, hσ, hp, hv, hr, hd, hP => by simp at hd
 | p :: ps, v :: vs, d :: ds, m, cm, σ, hσ, hp, hv, hr, hd, hP => by
  have hpn := hp p (.head _)
  have := ZdT (names := names) (kindOf := kindOf) (P := P) ps vs ds (if kindOf p = some .local then fun y => if y = p then some v else m y else m) (if kindOf p = some .local then cm else fun y => if y = p then some v else cm y)
   (σ.set (names.idxOf p) (some d)) (by simp [hσ]) (fun q hq => hp q (.tail _ hq)) (by simpa using hv) (fun i v d h1 h2 => hr (i + 1) v d (by simpa using h1) (by simpa using h2)) (by simpa using hd) fun x e he => by
    by_cases hx : x = p
    ·subst hx
     have hlt : names.idxOf x < σ.length := by rw [hσ]; exact List.idxOf_lt_length_of_mem hpn
     rw [List.getElem?_set_self hlt] at he
     cases he
     refine ⟨v, ?_, hr 0 v d rfl rfl⟩
     by_cases hk : kindOf x = some .local <;> simp [hk]
    ·have hne : names.idxOf p ≠ names.idxOf x := Zih hpn (Ne.symm hx)
     rw [List.getElem?_set_ne hne] at he;refine Ze (hP x e he) fun w hw hPw => ?_;refine ⟨w, ?_, hPw⟩
     by_cases hk : kindOf x = some .local
     ·rw [if_pos hk] at hw ⊢
      by_cases hk2 : kindOf p = some .local <;> simp [hk2, hx, hw]
     ·rw [if_neg hk] at hw ⊢
      by_cases hk2 : kindOf p = some .local <;> simp [hk2, hx, hw]
  intro x e he;refine Ze (this x e he) fun w hw hPw => ?_;exact ⟨w, hw, hPw⟩
theorem Zg7 {av : Addr -> Prop} {β : List Addr} {h : Heap} {vs : List Value} {ds : List V} (r : Zd G av β h vs ds) (i : Nat) (v : Value) (d : V) (h1 : vs[i]? = some v) (h2 : ds[i]? = some d) : Rep G av β h v d := by
 refine Ze (r.getV h1) fun d' e q => ?_;exact Option.some.inj (e.symm.trans h2) ▸ q
noncomputable def Cx.callee (C : Cx) (env : Env) (scope : Scope) (n m : Nat) (g : Bool) : Cx :=
 { env := env, names := Ys scope.names, av := fun a => C.av a \/ (n <= a /\ a < m), mu := fun a => n <= a /\ a < m, asg := Ys scope.names, gen := g }
theorem ZlL (O : Zw G C) (I : Inv G C β B σ s) {fd : FuncData} {a : Addr} {ps : List Str} {vs : List Value} (hf : Zbc fd.scope ps = true) (hg : fd.globals = mainGlobals) (hb : fd.builtins = builtinsNs) {g : Bool} (hcode : g = true -> ∃ c P, fd.code = .ref c /\ (c, P) ∈ G.tabs) (hps : vs.length = ps.length)
  (rr : Zd G (avB C.av β) β s.heap vs ds) {s'1 : Shared}
  (x : InCallC s (callEnvC fd s.heap.objs.size a).locals (bindL (callEnvC fd s.heap.objs.size a).kindOf (ps.zip vs) fun _ => none) (callEnvC fd s.heap.objs.size a).cells (bindC (callEnvC fd s.heap.objs.size a).kindOf (ps.zip vs) fun _ => none) s'1) :
  Zw G (C.callee (callEnvC fd s.heap.objs.size a) fd.scope s.heap.objs.size s'1.heap.objs.size g) /\
  Inv G (C.callee (callEnvC fd s.heap.objs.size a) fd.scope s.heap.objs.size s'1.heap.objs.size g) β B (ZkW fd.scope ps ds) s'1 /\ Ext s s'1 /\ s.heap.objs.size < s'1.heap.objs.size /\
  XI (K.fn fd.scope g) (C.callee (callEnvC fd s.heap.objs.size a) fd.scope s.heap.objs.size s'1.heap.objs.size g) := by
 unfold Zbc at hf;simp only [Bool.and_eq_true, beq_iff_eq, decide_eq_true_eq, List.all_eq_true, Option.isNone_iff_eq_none, Bool.not_eq_true'] at hf;obtain ⟨⟨⟨⟨⟨⟨hk, _⟩, _⟩, hnd⟩, hdbg⟩, hnf⟩, hpar⟩ := hf;have hL : (callEnvC fd s.heap.objs.size a).locals = s.heap.objs.size := rfl;have hcells : (callEnvC fd s.heap.objs.size a).cells = cellsFrom (s.heap.objs.size + 1) fd.scope.names [] := rfl;have hkind : ∀ y, (callEnvC fd s.heap.objs.size a).kindOf y = fd.scope.names.lookup y := fun y => rfl;have hlt : s.heap.objs.size < s'1.heap.objs.size := x.toInCall.ns.lt;refine Zei x.toInCall.same fun h' tk hs1 => ?_;have ext : Ext s s'1 := ⟨x.toInCall.keep, Nat.le_of_lt hlt, by rw [hs1], by rw [hs1]⟩;have h0 := I.H0 O;have hcl : ∀ y c, (cellsFrom (s.heap.objs.size + 1) fd.scope.names []).lookup y = some c -> s.heap.objs.size <= c /\ c < s'1.heap.objs.size := fun y c h => ⟨Nat.le_of_lt (x.above y c (mem_of_lookup h)), (x.cell y c h).lt⟩;have hnew : ∀ y, (y, NameKind.cell) ∈ fd.scope.names -> ∃ c, (cellsFrom (s.heap.objs.size + 1) fd.scope.names []).lookup y = some c := fun y hy => let ⟨c, h1, _⟩ := Ja (n₀ := 0) _ _ [] y (.inl hy) (Nat.zero_le _); ⟨c, h1⟩
 have hvar : ∀ y, ZbS (fd.scope.names.lookup y) -> y ∈ Ys fd.scope.names := fun y hy => by
  rcases hy with h | h | h
  ·exact X2.mpr (.inl (Ya h))
  ·exact X2.mpr (.inr (Ya h))
  ·have := hnf _ (Ya h); simp at this
 refine ⟨⟨O.gok, hk, hg, hb, fun a h => .inr h, fun a h => .inl (O.tbav a h), ⟨Nat.le_refl _, hlt⟩, fun a h => Nat.le_trans h0 h.1, fun y c _ _ h => hcl y c h, fun y c h => .inr (hcl y c h), fun y z c h1 h2 => ?_, fun y hy => ?_, fun y c h => Nat.le_trans h0 (hcl y c h).1, hvar, hdbg, hcode⟩, ?_, ext, hlt, ⟨rfl, rfl, rfl, rfl⟩⟩
 ·exact name_of_addr x.apart (mem_of_lookup h1) (mem_of_lookup h2)
 ·rcases hy with h | h
  ·exact hnew y (Ya h)
  ·have := hnf _ (Ya h); simp at this
 ·have Im : Inv G (C.more fun a => s.heap.objs.size <= a /\ a < s'1.heap.objs.size) β B σ s'1 := I.more ext fun a h => h
  refine ⟨Im.wd, Im.low, ⟨_, x.toInCall.ns⟩, fun y ya hy => ?_, fun y e hy ky => ?_, ?_, Im.boxes⟩
  ·obtain ⟨c, hc⟩ := hnew y (Ya hy)
   exact ⟨c, _, hc, x.cell y c hc⟩
  ·have hpn : ∀ p ∈ ps, p ∈ Ys fd.scope.names := fun p hp => hvar p ((Je (hpar p hp)).elim .inl fun z => .inr (.inl z))
   have hrep : ∀ (i : Nat) (v : Value) (d : V), vs[i]? = some v -> ds[i]? = some d -> Rep G (avB (C.more fun a => s.heap.objs.size <= a /\ a < s'1.heap.objs.size).av β) β s'1.heap v d := fun i v d h1 h2 => by
    refine Rep.mono (fun b o e n => ⟨ext.keep b o e, ?_⟩) (fun _ _ z => z) (Zg7 rr i v d h1 h2)
    rintro ((z | z) | z)
    ·exact n (.inl z)
    ·exact absurd (Heap.lt_size e) (Nat.not_lt.mpr z.1)
    ·exact n (.inr z)
   obtain ⟨v, hv, hr⟩ := ZdT (kindOf := (callEnvC fd s.heap.objs.size a).kindOf) (P := fun v d => Rep G (avB (C.more fun a => s.heap.objs.size <= a /\ a < s'1.heap.objs.size).av β) β s'1.heap v d) ps vs ds (fun _ => none) (fun _ => none) (List.replicate (Ys fd.scope.names).length none)
    (by simp) hpn hps hrep rr.length.symm (fun y d hy => by
     rw [List.getElem?_replicate] at hy
     split at hy <;> simp at hy) y e hy
   refine ⟨v, ?_, hr⟩
   by_cases hkl : (callEnvC fd s.heap.objs.size a).kindOf y = some .local
   ·rw [if_pos hkl] at hv
    exact .inl ⟨hkl, _, x.toInCall.ns, hv⟩
   ·rw [if_neg hkl] at hv
    have hky : (callEnvC fd s.heap.objs.size a).kindOf y = some .cell := by
     rcases ky with h | h | h
     ·exact absurd h hkl
     ·exact h
     ·have := hnf _ (Ya h); simp at this
    obtain ⟨c, hc⟩ := hnew y (Ya hky);refine .inr ⟨.inl hky, c, hc, ?_⟩;have := x.cell y c hc;rw [hv] at this;exact this
  ·show (st0 _ _ _ _).length = _
   rw [ZcW, List.length_replicate];rfl
noncomputable def Zho (n : Nat) (B B' B'' : Bx) : Prop := B''.length = n /\ B.length = n /\ ∀ i, i < n -> (B'[i]? = B[i]? /\ B''[i]? = B[i]?) \/ ∃ m d d', B'[i]? = some d /\ Zt6 d = true /\ frz n B' m d = some d' /\ B''[i]? = some d'
theorem Zj0 (I : Inv G C β B σ s) {C1 : Cx} {β2 : List Addr} {s'2 : Shared} (i'2 : Inv G C1 β2 B' σ' s'2) (hp : ∀ (n : Nat) (a : Addr), β[n]? = some a -> β2[n]? = some a) (hav : ∀ q, C.av q -> C1.av q) : Cut C.av C1.av β β2 β.length := by
 refine ⟨fun e hi => ?_, fun q z => z.elim (fun z => .inl (hav q z)) fun z => ?_, fun i q hi e z => z.elim (fun z => i'2.boxes.apart q (List.mem_of_getElem? e) (hav q z)) fun z => ?_⟩
 ·rw [<- e, hp _ _ (List.getElem?_eq_getElem hi)]; exact List.getElem?_eq_getElem hi
 ·obtain ⟨j, hj⟩ := List.getElem?_of_mem z
  exact .inr (List.mem_of_getElem? (hp _ _ hj))
 ·obtain ⟨j, hj⟩ := List.getElem?_of_mem z
  have h1 := List.getElem?_eq_some_iff.mp (hp _ _ hj);have h2 := List.getElem?_eq_some_iff.mp e;have e3 := Zgy i'2.boxes.nodup h2.1 h1.1 (h2.2.trans h1.2.symm);exact absurd (List.getElem?_eq_some_iff.mp hj).1 (Nat.not_lt.mpr (e3 ▸ hi))
theorem Zj9 (I : Inv G C β B σ s) {C1 : Cx} {β2 : List Addr} {s'2 : Shared} {B'' : Bx} (i'2 : Inv G C1 β2 B' σ' s'2) (hp : ∀ (n : Nat) (a : Addr), β[n]? = some a -> β2[n]? = some a) (c : Cut C.av C1.av β β2 β.length) (hB : Zho β.length B B' B'') : ZcN G C.av β B'' s'2.heap := by
 refine ⟨hB.1.symm, I.boxes.nodup, I.boxes.apart, I.boxes.high, fun i q e h1 h2 => ?_⟩;rcases hB.2.2 i (List.getElem?_eq_some_iff.mp h1).1 with ⟨g1, g2⟩ | ⟨m', d', e', g1, gm, g2, g3⟩
 ·have h3 := g2.symm.trans h2
  have X := (i'2.boxes.at' i q e (hp _ _ h1) (g1.trans h3)).sh;have X0 := (I.boxes.at' i q e h1 h3).sh
  cases e with
  | list xs =>
   refine YU X fun vs k e4 r4 => ?_;clear X;refine YU X0 fun _ _ _ r0 => ?_;clear X0;exact .list e4 (r0.cut c _ r4)
  | dict ks xs =>
   refine Zcf X fun kvs e4 hs he r4 => ?_;clear X;refine Zcf X0 fun _ _ _ _ r0 => ?_;clear X0;exact .dict e4 hs he (r0.cut c _ r4)
  | _ => exact X.elim
 ·rw [<- Option.some.inj (g3.symm.trans h2)]
  have X := (i'2.boxes.at' i q d' (hp _ _ h1) g1).sh
  cases m' with
  | zero => exact nn g2
  | succ m' =>
   have ih := Zny c i'2.boxes m'
   cases d' with
   | list xs =>
    refine YU X fun vs k e4 r4 => ?_;clear X;refine Ze (Option.map_eq_some_iff.mp g2) fun ys hy ed => ?_;rw [<- ed]; exact .list e4 (Zbr ih r4 _ hy)
   | dict ks xs =>
    refine Zcf X fun kvs e4 hs he r4 => ?_;clear X;refine Ze (Option.map_eq_some_iff.mp g2) fun ys hy ed => ?_;rw [<- ed]; exact .dict e4 hs he (Zbr ih r4 _ hy)
   | _ => exact X.elim
theorem ZqH {g : Bool} {name qual : Str} {params : Arguments} {body : List Stmt} {scope : Scope} {a : Addr} {ps : List Str} {f : DS} {B'' : Bx} {m : Nat} {σ₁ : St} (hfn : ZaV G g name qual params body scope a) (hfit : Zbc scope ps = true)
  (hbind : ∀ pm cd doc vs, vs.length = ps.length -> bindArgs (methDef name qual params body scope pm cd doc) ⟨vs, []⟩ = pure (ps.zip vs)) (hbody : Xe G H (K.fn scope g) body f)
  (hrun : f (ZkW scope ps ds) B = some (.ret d, σ₁, B')) (hd : frz B.length B' m d = some d₁) (hB : Zho B.length B B' B'') (hl : ds.length = ps.length) : OpN G (H + 1) B B'' (fun vs => call (.ref a) vs) ds d₁ := by
 intro C σ A β s vs O hA I rr E;refine Zrj hfn fun o pm cd doc c ho hTa hdat hcd hrec hTc hP0 => ?_;clear hfn;have hlen : vs.length = ps.length := rr.length.trans hl;have hfit' := hfit;unfold Zbc at hfit';simp only [Bool.and_eq_true, beq_iff_eq, List.all_eq_true, Bool.not_eq_true'] at hfit';refine wpAny_call (codeAny_call_cells (fd := methDef name qual params body scope pm cd doc) (body := body) (binds := ps.zip vs) hA.room (I.wd.keep _ _ ho hTa) hdat (I.wd.nolimit O.gok) ?_ rfl (hbind pm cd doc vs hlen) rfl (fun x hx => ?_) (fun s'1 x => ?_) hfit'.1.1.1.1.2 hfit'.1.1.1.1.1.2 hfit'.1.1.1.1.1.1)
 ·refine Zdn hrec fun c' oc vs' t e1 e2 e3 e4 => ?_
  clear hrec;exact ⟨c', oc, vs', t, e1, I.wd.keep _ _ e2 (Value.ref.inj (hcd.symm.trans e1) ▸ hTc), e3, e4⟩
 ·rcases Je (hfit'.2 x.1 (List.of_mem_zip hx).1) with h | h
  ·exact .inl h
  ·refine Ze (Ja (n₀ := 0) scope.names (s.heap.objs.size + 1) [] x.1 (.inl (Ya h)) (Nat.zero_le _)) fun c h1 _ => ?_
   exact .inr ⟨h, Option.isSome_iff_exists.mpr ⟨c, h1⟩⟩
 ·refine Zh2 (ZlL O I (fd := methDef name qual params body scope pm cd doc) hfit rfl rfl (fun e => (hP0 e).elim fun P h => ⟨c, P, hcd, h⟩) hlen rr x) fun O1 i'1 x'1 hlt F'1 => ?_
  clear hfit' hbind x ho hdat hrec hTc hP0 hTa hcd;refine (hbody.ok _ O1 F'1 _ _ _ hrun (A.deeper (callEnvC (methDef name qual params body scope pm cd doc) s.heap.objs.size a)) β s'1 (hA.deeper _) i'1).t3 fun fl s'2 β2 a'2 i'2 q'2 => ?_
  cases fl with
  | ret v =>
   have hcut := Zj0 I i'2 a'2.pre' fun q z => .inl z;have h0 := I.boxes.len;have a'3 : Adv G (fun _ => False) β s β s'2 := ⟨⟨[], (List.append_nil _).symm, fun _ h => nomatch h⟩, fun b o e n t => a'2.grow.keep b o (x'1.keep b o e) (fun z => z.elim (fun z => absurd (Heap.lt_size e) (Nat.not_lt.mpr z.1)) fun z => n (.inr z)) t, Nat.le_trans x'1.size a'2.grow.size⟩;rw [<- h0] at hB hd;exact ⟨β, a'3.mono fun _ z => z.elim, I.back O a'3 (fun q z => z.elim) (fun z => z) (fun _ _ _ z => z) i'2.wd (Zj9 I i'2 a'2.pre' hcut hB), Zny hcut i'2.boxes m v d d₁ q'2 hd⟩
  | _ => exact q'2.elim
end
noncomputable abbrev VF := Bx -> List V -> Option (V × Bx)
noncomputable def Y4 (f : Bx -> List V -> Option V) : VF := fun B ds => (f B ds).map (·, B)
section
variable {G : GC} {C : Cx} {β : List Addr} {B B' B₁ B₂ : Bx} {σ : St} {s : Shared} {H H' : Nat} {d d₁ d₂ d₃ : V} {v : Value} {b : Bool} {ds : List V} {r : Out} {k : K}
theorem OpN.le {op : List Value -> Sem Value} (h : OpN G H' B B' op ds d) (hl : H' <= H) : OpN G H B B' op ds d := fun C σ A β s vs O hA I rr => h C σ A β s vs O (hA.le hl) I rr
set_option tactic.hygienic true in
theorem ZlQ {g : Bool} {x : Str} {a : Addr} {params : Arguments} {body : List Stmt} {scope : Scope} {es : List Expr} {fs : List DE} {p pos : Pos} {F : VF} (hF : Zp1 G H' a F) (hat : Zt5 G g x params body scope a) (hle : H' <= H)
  (hk : k.kind x = some .globalImplicit) (hd : (x == ("__debug__" : Str)) = false) (h : ZaK G H k es fs) (hne : es ≠ []) : Den G H k (.Call (.Name x p) es [] pos) (D.call F fs) := .mk fun C O F' σ B d B' hr => by
 refine mR hr fun as B₁ has hr => ?_;refine ZtD hat.at' fun o pm cd doc c ho hT hdat _ => ?_;exact Zpo O (by rw [F'.kind]; exact hk) hat.top hd ho hT hdat (h.row O F' has) hne ((hF _ _ _ _ hr).le hle)
set_option tactic.hygienic true in
theorem Zn {x : Str} {f : Value} {es : List Expr} {fs : List DE} {p pos : Pos} {F : VF} (hF : ∀ B ds d B', F B ds = some (d, B') -> OpN G H B B' (fun vs => call f vs) ds d) (hf : YW G x f) (h : ZaK G H k es fs) (hp : ZlD f = true := by rfl)
  (hg : ZlF k x = true := by kernel_rfl) (hne : es.isEmpty = false := by rfl) : Den G H k (.Call (.Name x p) es [] pos) (D.call F fs) := .mk fun C O F' σ B d B' hr => by
 refine mR hr fun as B₁ has hr => ?_;exact Zni O (by rw [F'.kind]; exact (Zdk hg).1) hf hp (Zdk hg).2 (h.row O F' has) (fun z => by rw [z] at hne; cases hne) (hF _ _ _ _ hr)
noncomputable def XU : VF := Y4 fun B ds => match ds with
 | [d] => (ZjH B d).map .int
 | _ => none
noncomputable def Zi6 : VF := Y4 fun B ds => match ds with
 | [d] => match Zx B d with
  | some xs => (Xz xs).map fun ns => .int ns.sum
  | none => none
 | _ => none
noncomputable def Zry (ds : List V) : Sb fun (r : V) => ∃ a b, ds = [.int a, .int b] /\ r = .int (if b < a then b else a) := match ds with
 | [.int a, .int b] => .ok (.int (if b < a then b else a)) ⟨a, b, rfl, rfl⟩
 | _ => .no
noncomputable def Zmy : VF := Y4 fun B ds => (Zry ds).1
noncomputable def Zk0 (ds : List V) : Sb fun (r : V) => (∃ n, ds = [.int n] /\ r = .range 0 n) \/ ∃ a b, ds = [.int a, .int b] /\ r = .range a b := match ds with
 | [.int n] => .ok (.range 0 n) (.inl ⟨n, rfl, rfl⟩)
 | [.int a, .int b] => .ok (.range a b) (.inr ⟨a, b, rfl, rfl⟩)
 | _ => .no
noncomputable def Zo : VF := Y4 fun B ds => (Zk0 ds).1
noncomputable def ZrB (ds : List V) : Sb fun (r : V) => ∃ i, ds = [.int i] /\ ZH (baseText "0x" 16 i).length = true /\ r = .str (baseText "0x" 16 i) := match ds with
 | [.int i] => .ite (c := ZH (baseText "0x" 16 i).length = true) (.str (baseText "0x" 16 i)) fun h => ⟨i, rfl, h, rfl⟩
 | _ => .no
noncomputable def Zgd : VF := Y4 fun B ds => (ZrB ds).1
theorem ZoU {B : Bx} {i : Int} : Zgd B [.int i] = (if ZH (baseText "0x" 16 i).length then some (V.str (baseText "0x" 16 i)) else none).map (·, B) := rfl
noncomputable def Zrm (ds : List V) : Sb fun (r : V) => ∃ c, ds = [.bool c] /\ r = .int (if c then 1 else 0) := match ds with
 | [.bool c] => .ok (.int (if c then 1 else 0)) ⟨c, rfl, rfl⟩
 | _ => .no
noncomputable def ZkF : VF := Y4 fun B ds => (Zrm ds).1
theorem Yt {f : Bx -> List V -> Option V} (h : Y4 f B ds = some (d, B')) : f B ds = some d /\ B' = B := by
 refine Ze (Option.map_eq_some_iff.mp h) fun e he hh => ?_
 cases hh
 exact ⟨he, rfl⟩
theorem J5 : ∀ B ds d B', XU B ds = some (d, B') -> OpN G H B B' (fun vs => call (.builtin "len") vs) ds d := by
 intro B ds d B' h;replace h := Yt h;obtain ⟨h, rfl⟩ := h
 split at h
 ·refine Ze (Option.map_eq_some_iff.mp h) fun n hn z_2 => ?_
  subst z_2;exact Zs3 hn
 ·exact nn h
theorem Zk2 : ∀ B ds d B', Zi6 B ds = some (d, B') -> OpN G H B B' (fun vs => call (.builtin "sum") vs) ds d := by
 intro B ds d B' h;replace h := Yt h;obtain ⟨h, rfl⟩ := h
 split at h
 ·split at h
  ·rename_i hx
   refine Ze (Option.map_eq_some_iff.mp h) fun n hn z_2 => ?_;subst z_2;exact ZrV hx hn
  ·exact nn h
 ·exact nn h
theorem Zqw : ∀ B ds d B', Zmy B ds = some (d, B') -> OpN G H B B' (fun vs => call (.builtin "min") vs) ds d := by
 intro B ds d B' h;replace h := Yt h;obtain ⟨h, rfl⟩ := h;refine YU ((Zry ds).2 _ h) fun a b e e2 => ?_;rw [e, e2];exact Ztk
theorem ZI : ∀ B ds d B', Zo B ds = some (d, B') -> OpN G H B B' (fun vs => call (.type "range") vs) ds d := by
 intro B ds d B' h;replace h := Yt h;obtain ⟨h, rfl⟩ := h;refine ((Zk0 ds).2 _ h).elim (fun h => Ze h fun n e e2 => ?_) fun h => YU h fun a b e e2 => ?_
 ·rw [e, e2]; exact ZmD
 ·rw [e, e2]; exact Zl9
theorem Zlc : ∀ B ds d B', Zgd B ds = some (d, B') -> OpN G H B B' (fun vs => call (.builtin "hex") vs) ds d := by
 intro B ds d B' h;replace h := Yt h;obtain ⟨h, rfl⟩ := h;refine Xn ((ZrB ds).2 _ h) fun i e hz e2 => ?_;rw [e, e2];exact Zsm hz
theorem Zlq : ∀ B ds d B', ZkF B ds = some (d, B') -> OpN G H B B' (fun vs => call (.type "int") vs) ds d := by
 intro B ds d B' h;replace h := Yt h;obtain ⟨h, rfl⟩ := h;refine Ze ((Zrm ds).2 _ h) fun c e e2 => ?_;rw [e, e2];exact Zs8
noncomputable def D.meth (isT : Bx -> V -> Bool) (F : VF) (f : DE) (fs : List DE) : DE := fun σ B => match f σ B with
 | none => none
 | some (o, B₁) => if isT B₁ o then match D.row fs σ B₁ with
  | none => none
  | some (as, B₂) => F B₂ (o :: as) else none
set_option tactic.hygienic true in
theorem Y3 {o : Expr} {nm : Str} {apos pos : Pos} {es : List Expr} {fs : List DE} {T id : String} {f : DE} {F : VF} {isT : Bx -> V -> Bool} (hP : PlainAttrs T) (hS : PySem.Slot T nm id) (hT : typeOf (.builtin id) = pure (.type "method_descriptor"))
  (hty : ∀ B d, isT B d = true -> ∀ C σ β s v, Inv G C β B σ s -> Rep G (avB C.av β) β s.heap v d -> Zha s v T) (hF : ∀ B ds d B', F B ds = some (d, B') -> OpN G H B B' (fun vs => call (.builtin id) vs) ds d)
  (hb : X3 o = true) (hl : (apos.endLine == pos.line) = true) (hf : Den G H k o f) (h : ZaK G H k es fs) (hn : es.length < 29) : Den G H k (.Call (.Attribute o nm apos) es [] pos) (D.meth isT F f fs) := .mk fun C O F' σ B d B' hr => by
 refine mE hr fun d₁ B₁ h1 hr => ?_
 split at hr
 ·rename_i ht
  refine mR hr fun as B₂ has hr => ?_;exact Zp7 O hb hl hP hS hT (hf.ok C O F' _ _ _ _ h1) (fun β s v I r => hty _ _ ht C σ β s v I r) (h.row O F' has) hn (hF _ _ _ _ hr)
 ·exact nn hr
noncomputable def Y8 : Bx -> V -> Bool := fun _ d => match d with
 | .str _ => true
 | _ => false
noncomputable def YK : Bx -> V -> Bool := fun B d => (Zx B d).isSome
noncomputable def ZeJ : Bx -> V -> Bool := fun B d => (Jl B d).isSome
theorem Jq : ∀ B d, Y8 B d = true -> ∀ (C : Cx) σ β s v, Inv G C β B σ s -> Rep G (avB C.av β) β s.heap v d -> Zha s v "str" := fun B d h C σ β s v I r => by
 cases d with
 | str x => exact Zm9 β s v I r
 | _ => cases h
theorem JV : ∀ B d, YK B d = true -> ∀ (C : Cx) σ β s v, Inv G C β B σ s -> Rep G (avB C.av β) β s.heap v d -> Zha s v "list" := fun B d h C σ β s v I r => by
 obtain ⟨xs, hx⟩ := Option.isSome_iff_exists.mp h;exact Zqy hx β s v I r
theorem Zki : ∀ B d, ZeJ B d = true -> ∀ (C : Cx) σ β s v, Inv G C β B σ s -> Rep G (avB C.av β) β s.heap v d -> Zha s v "dict" := fun B d h C σ β s v I r => by
 obtain ⟨⟨ks, xs⟩, hx⟩ := Option.isSome_iff_exists.mp h;exact ZeI hx β s v I r
noncomputable def ZiT (ds : List V) : Sb fun (r : Str × Str) => ds = [.str r.1, .str r.2] := match ds with
 | [.str x, .str y] => .ok (x, y) rfl
 | _ => .no
noncomputable def Zhn : VF := Y4 fun _ ds => (ZiT ds).1.map fun p => .bool (Txt.startswith p.1 p.2)
noncomputable def Zla : VF := Y4 fun _ ds => (ZiT ds).1.map fun p => .bool (Txt.endswith p.1 p.2)
noncomputable def JW : VF := Y4 fun _ ds => (ZiT ds).1.map fun p => .int (Txt.count p.1 p.2)
noncomputable def findIn (x y : Str) (i j : Int) : Int := match Builtin.Str.occurrences x y (fromIndex x.length i) (min (fromIndex x.length j) x.length) 1 with
 | i :: _ => (i : Int)
 | [] => -1
noncomputable def Zon (ds : List V) : Sb fun (r : V) => ∃ x y i j, ds = [.str x, .str y, .int i, .int j] /\ r = .int (findIn x y i j) := match ds with
 | [.str x, .str y, .int i, .int j] => .ok (.int (findIn x y i j)) ⟨x, y, i, j, rfl, rfl⟩
 | _ => .no
noncomputable def ZgQ : VF := Y4 fun _ ds => (Zon ds).1
noncomputable def Zb6 : List V -> Option (List Str)
 | [] => some []
 | .str x :: r => (Zb6 r).map (x :: ·)
 | _ => none
noncomputable def ZpZ (B : Bx) (ds : List V) : Sb fun (r : V) => ∃ x d xs ys, ds = [.str x, d] /\ Zx B d = some xs /\ Zb6 xs = some ys /\ (ys.map (·.length)).sum + ys.length * x.length <= 16777216 /\ r = .str (Txt.join x ys) := match ds with
 | [.str x, d] => .bind (Zx B d) fun xs h1 => .bind (Zb6 xs) fun ys h2 => .ite (c := (ys.map (·.length)).sum + ys.length * x.length <= 16777216) (.str (Txt.join x ys)) fun h => ⟨x, d, xs, ys, rfl, h1, h2, h, rfl⟩
 | _ => .no
noncomputable def ZcO : VF := Y4 fun B ds => (ZpZ B ds).1
theorem ZlK {B : Bx} {x : Str} {d : V} {xs : List V} {ys : List Str} (h1 : Zx B d = some xs) (h2 : Zb6 xs = some ys) (h : (ys.map (·.length)).sum + ys.length * x.length <= 16777216) : ZcO B [.str x, d] = some (.str (Txt.join x ys), B) := by
 show Option.map _ (Sb.bind _ _).1 = _;rw [Sb.bind_eq h1, Sb.bind_eq h2];exact congrArg (Option.map _) (if_pos h)
noncomputable def ZoZ (B : Bx) (ds : List V) : Sb fun (r : V) => ∃ o x e p, ds = [o, .str x, e] /\ Jl B o = some p /\ (if p.1.contains x then X5 p.1 p.2 x else some e) = some r := match ds with
 | [o, .str x, e] => .bind (Jl B o) fun p h1 => ⟨if p.1.contains x then X5 p.1 p.2 x else some e, fun r h => ⟨o, x, e, p, rfl, h1, h⟩⟩
 | _ => .no
noncomputable def Zjh : VF := Y4 fun B ds => (ZoZ B ds).1
noncomputable def ZiC (B : Bx) (ds : List V) : Sb fun (r : V × Bx) => ∃ n d, ds = [.box n, d] /\ (ZhS B n d).map (V.none, ·) = some r := match ds with
 | [.box n, d] => ⟨(ZhS B n d).map (.none, ·), fun _ h => ⟨n, d, rfl, h⟩⟩
 | _ => .no
noncomputable def Jj : VF := fun B ds => (ZiC B ds).1
theorem Za4 {B : Bx} {n : Nat} {d : V} : Jj B [.box n, d] = (ZhS B n d).map (.none, ·) := rfl
noncomputable def Zaz : VF := fun B ds => match ds with
 | [.box n, d] => (Zpc B n d).map (.none, ·)
 | _ => none
theorem ZiA {av : Addr -> Prop} {h : Heap} {vs : List Value} (r : Zd G av β h vs [d, d₁, d₂]) : ∃ v w u, vs = [v, w, u] /\ Rep G av β h v d /\ Rep G av β h w d₁ /\ Rep G av β h u d₂ :=
 let ⟨v, _, e, r1, rs⟩ := r.sh.2 _ _ rfl; let ⟨w, u, e2, r2⟩ := Xr rs; ⟨v, w, u, e.trans (congrArg (v :: ·) e2), r1, r2⟩
theorem Zo3 {av : Addr -> Prop} {h : Heap} {vs : List Value} (r : Zd G av β h vs [d, d₁, d₂, d₃]) : ∃ v w u z, vs = [v, w, u, z] /\ Rep G av β h v d /\ Rep G av β h w d₁ /\ Rep G av β h u d₂ /\ Rep G av β h z d₃ :=
 let ⟨v, _, e, r1, rs⟩ := r.sh.2 _ _ rfl; let ⟨w, u, z, e2, r2⟩ := ZiA rs; ⟨v, w, u, z, e.trans (congrArg (v :: ·) e2), r1, r2⟩
theorem Zj5 : ∀ B ds d B', Zhn B ds = some (d, B') -> OpN G H B B' (fun vs => call (.builtin "str.startswith") vs) ds d := by
 intro B ds d B' h;replace h := Yt h;obtain ⟨h, rfl⟩ := h;refine Ze (Option.map_eq_some_iff.mp h) fun p hp e => ?_;rw [<- e, (ZiT ds).2 _ hp]
 exact fun C σ A β s vs O hA I rr E => by
  refine Xh (Xr rr) fun v w z_2 r1 r2 => ?_;obtain ⟨t, e1⟩ := Z9 r1;obtain ⟨u, e2⟩ := Z9 r2;rw [z_2, e1, e2];exact SC.startswith (Zv.ofExt I (Ext.refl s) (.bool _))
theorem Zn9 : ∀ B ds d B', Zla B ds = some (d, B') -> OpN G H B B' (fun vs => call (.builtin "str.endswith") vs) ds d := by
 intro B ds d B' h;replace h := Yt h;obtain ⟨h, rfl⟩ := h;refine Ze (Option.map_eq_some_iff.mp h) fun p hp e => ?_;rw [<- e, (ZiT ds).2 _ hp]
 exact fun C σ A β s vs O hA I rr E => by
  refine Xh (Xr rr) fun v w z_2 r1 r2 => ?_;obtain ⟨t, e1⟩ := Z9 r1;obtain ⟨u, e2⟩ := Z9 r2;rw [z_2, e1, e2];exact SC.endswith (Zv.ofExt I (Ext.refl s) (.bool _))
theorem ZdJ : ∀ B ds d B', JW B ds = some (d, B') -> OpN G H B B' (fun vs => call (.builtin "str.count") vs) ds d := by
 intro B ds d B' h;replace h := Yt h;obtain ⟨h, rfl⟩ := h;refine Ze (Option.map_eq_some_iff.mp h) fun p hp e => ?_;rw [<- e, (ZiT ds).2 _ hp]
 exact fun C σ A β s vs O hA I rr E => by
  refine Xh (Xr rr) fun v w z_2 r1 r2 => ?_;obtain ⟨t, e1⟩ := Z9 r1;obtain ⟨u, e2⟩ := Z9 r2;rw [z_2, e1, e2];exact SC.count (Zv.ofExt I (Ext.toks s _) (.int _ _))
theorem ZiB (x y : Str) (i j : Int) (t u v w : Tok) : Gives (Builtin.«str.find» ⟨[.str x t, .str y u, .int i v, .int j w], []⟩) (.int (findIn x y i j)) := by
 show Gives (match Builtin.Str.occurrences x y (fromIndex x.length i) (min (fromIndex x.length j) x.length) 1 with | k :: _ => retInt k | [] => (do rule "str.find.not-found"; retInt (-1))) _;unfold findIn
 cases Builtin.Str.occurrences x y (fromIndex x.length i) (min (fromIndex x.length j) x.length) 1 with
 | nil => exact .rule (.of_eq rfl)
 | cons k _ => exact .of_eq rfl
theorem Zpn : ∀ B ds d B', ZgQ B ds = some (d, B') -> OpN G H B B' (fun vs => call (.builtin "str.find") vs) ds d := by
 intro B ds d B' h;replace h := Yt h;obtain ⟨h, rfl⟩ := h;refine Zud ((Zon ds).2 _ h) fun x y i j e e' => ?_;rw [e, e']
 exact fun C σ A β s vs O hA I rr E => by
  refine Zgs (Zo3 rr) fun v w a b z_4 r1 r2 r3 r4 => ?_;obtain ⟨t, e1⟩ := Z9 r1;obtain ⟨u, e2⟩ := Z9 r2;obtain ⟨t3, e3⟩ := Zu r3;obtain ⟨t4, e4⟩ := Zu r4;rw [z_4, e1, e2, e3, e4];exact call_gives PySem.F.slot_str_find (typeIs_str _ _ _) PySem.F.entry_str_find (PySem.F.args_str_find_4 _ _ _ _) (ZiB _ _ _ _ _ _ _ _) (Zv.ofExt I (Ext.toks s _) (.int _ _))
theorem ZoL {av : Addr -> Prop} {h : Heap} {vs : List Value} {xs : List V} (r : Zd G av β h vs xs) : ∀ ys, Zb6 xs = some ys -> StrsAre vs ys :=
 Zd.ind (P := fun vs xs => ∀ ys, Zb6 xs = some ys -> StrsAre vs ys) (fun ys e => Option.some.inj e ▸ .nil) (fun {v d vs xs} r rs ih ys e => by
  cases d with
  | str x =>
   refine Ze (Option.map_eq_some_iff.mp e) fun zs hz e2 => ?_;obtain ⟨t, e1⟩ := Z9 r;rw [<- e2, e1];exact .cons x t (ih zs hz)
  | _ => exact nn e) r
theorem Zfx : ∀ B ds d B', ZcO B ds = some (d, B') -> OpN G H B B' (fun vs => call (.builtin "str.join") vs) ds d := by
 intro B ds d B' h;replace h := Yt h;obtain ⟨h, rfl⟩ := h;refine Zgs ((ZpZ B' ds).2 _ h) fun x d xs ys e hx hs hz e' => ?_;rw [e, e']
 exact fun C σ A β s vs O hA I rr E => by
  refine Xh (Xr rr) fun v w z_2 r1 r2 => ?_;obtain ⟨t, e1⟩ := Z9 r1;refine Y7 (Y1 I r2 hx) fun a ws n z_3 e q => ?_;rw [z_2, e1, z_3];exact join_list (Rep.isList e) (ZoL q _ hs) hz fun t' k => Zv.ofExt I (Ext.toks s _) (.str _ _)
set_option tactic.hygienic true in
theorem Zo7 : ∀ B ds d B', Zjh B ds = some (d, B') -> OpN G H B B' (fun vs => call (.builtin "dict.get") vs) ds d := by
 intro B ds d B' h;replace h := Yt h;obtain ⟨h, rfl⟩ := h;refine Zlp ((ZoZ B' ds).2 _ h) fun o x e0 p e1 hx h => ?_;rw [e1]
 exact fun C σ A β s vs O hA I rr E => by
    refine Xs (ZiA rr) fun v w u z_3 r1 r2 r3 => ?_;obtain ⟨t, e2⟩ := Z9 r2;refine JQ (Zbi I r1 hx) fun a kvs z_2 e hs he q => ?_;rw [z_3, e2, z_2];refine call_meetsIn PySem.F.slot_dict_get e.typeIs PySem.F.entry_dict_get (PySem.F.args_dict_get_3 _ _ _) (meets_dict_get_default (PySem.strKind G.prog G.w) a (strKind_is G.prog G.w x t) hs u) ⟨_, e.mapOf, ?_⟩;rw [<- he] at h
    split at h
    ·rename_i hc
     unfold X5 at h;rw [if_pos hc] at h;refine Ze (q.get h) fun z hz rz => ?_;rw [Zdb hc, hz];exact Zv.ofExt I (Ext.toks s _) rz
    ·rename_i hc
     cases h
     have : valueAt kvs x = none := by rw [<- Option.not_isSome_iff_eq_none, ZaO]; exact hc
     rw [this];exact Zv.ofExt I (Ext.toks s _) r3
theorem ZbP : ∀ B ds d B', Jj B ds = some (d, B') -> OpN G H B B' (fun vs => call (.builtin "list.append") vs) ds d := by
 intro B ds d B' h;refine YU ((ZiC B ds).2 _ h) fun n d' e h => ?_;refine Ze (Option.map_eq_some_iff.mp h) fun B₁ hB hh => ?_;rw [e, <- (Prod.mk.inj hh).1, <- (Prod.mk.inj hh).2];exact ZmB hB
theorem ZfF : ∀ B ds d B', Zaz B ds = some (d, B') -> OpN G H B B' (fun vs => call (.builtin "list.extend") vs) ds d := by
 intro B ds d B' h;unfold Zaz at h
 split at h
 ·refine Ze (Option.map_eq_some_iff.mp h) fun B₁ hB hh => ?_
  cases hh
  exact Zm1 hB
 ·exact nn h
end
section
variable {prog : Program} {w : World} {A : Around} {E : Value -> Shared -> Prop} {s : Shared}
theorem ZdS {b i l c : Addr} (h : b = i \/ b = l) (h1 : i ≠ c) (h2 : l ≠ c) : b ≠ c := h.elim (fun e => e ▸ h1) fun e => e ▸ h2
structure Zfv (h : Heap) (i l k : Addr) (xs : Array Value) : Prop where
 it : h.IsTupleIter i l k
 tu : h.IsTuple l xs
theorem ZfX {h h' : Heap} {a t : Addr} {i : Nat} (x : h.IsTupleIter a t i) (e : ∀ o, h.get? a = some o -> h'.get? a = some o) : h'.IsTupleIter a t i := let ⟨o, ho, r⟩ := x; ⟨o, e _ ho, r⟩
theorem ZaL {h h' : Heap} {t : Addr} {vs : Array Value} (x : h.IsTuple t vs) (e : ∀ o, h.get? t = some o -> h'.get? t = some o) : h'.IsTuple t vs := let ⟨o, ho, r⟩ := x; ⟨o, e _ ho, r⟩
theorem Zfv.at {h h' : Heap} {i l k : Addr} {xs : Array Value} (x : Zfv h i l k xs) (e : ∀ b o, (b = i \/ b = l) -> h.get? b = some o -> h'.get? b = some o) : Zfv h' i l k xs :=
 ⟨ZfX x.it fun o => e _ o (.inl rfl), ZaL x.tu fun o => e _ o (.inr rfl)⟩
theorem ZgH {i l : Addr} {k : Nat} {xs : Array Value} {x : Value} {Q : Value -> Shared -> Prop} (T : Zfv s.heap i l k xs) (hx : xs[k]? = some x) (hil : l ≠ i)
  (hQ : ∀ h', Zfv h' i l (k + 1) xs -> Heap.SameBut i s.heap h' -> Q x { s with heap := h' }) : wpAny (model prog w) A (Builtin.SmallTypes.nextOf (.ref i)) Q E s := by
 refine Xn (id T.it) fun o ho hc hd => ?_;obtain ⟨ol, hol, _, nl, hdl⟩ := id T.tu;unfold Builtin.SmallTypes.nextOf
 refine wpAny_bind (wpAny_callSpecial?_slot (name := Str.ofString "__next__") T.it.typeIs PySem.F.slot_tuple_iterator_next
  (wpAny_call_entry PySem.F.slot_tuple_iterator_next T.it.typeIs PySem.F.entry_tuple_iterator_next ?_ (PySem.F.args_tuple_iterator_next_1 _)))
 show wpAny _ _ (field (.ref i) 0 >>= _) _ _ s;refine wpAny_bind (wpAny_field ho hd (x := .ref l) rfl ?_);show wpAny _ _ (if (Value.ref l == Value.none) = true then _ else _) _ _ s;rw [if_neg (show ¬ ((Value.ref l == Value.none) = true) from Bool.false_ne_true)];show wpAny _ _ (field (.ref i) 1 >>= _) _ _ s;refine wpAny_bind (wpAny_field ho hd (x := .int k 0) rfl ?_);show wpAny _ _ (seqItems? (.ref l) >>= _) _ _ s;refine wpAny_bind (wpAny_seqItems hol hdl ?_);simp only [Int.toNat_natCast, hx];refine wpAny_bind (wpAny_setField ho hd (by simp) (wpAny_pure ⟨x, rfl, wpAny_pure (hQ _ ⟨?_, ?_⟩ (Heap.SameBut.update ..))⟩))
 ·exact ⟨_, Heap.get?_update_self _ ho (Obj.isFreed_of_fields (Obj.data_mapFields hd _)), (Obj.cls_mapFields ..).trans hc, by
   rw [Obj.data_mapFields hd]; simp [rawInt]⟩
 ·exact ZaL T.tu fun o e => (Heap.SameBut.update ..).extBut _ _ hil e
theorem ZhQ {i l : Addr} {k : Nat} {xs : Array Value} {Q : Value -> Shared -> Prop} (hh : A.handled = none) (T : Zfv s.heap i l k xs) (hx : xs[k]? = none)
  (hE : ∀ h' e, Heap.ExtBut i s.heap h' -> (∃ o, h'.get? e = some o /\ o.cls = .type "StopIteration") -> E (.ref e) { s with heap := h' }) :
  wpAny (model prog w) A (Builtin.SmallTypes.nextOf (.ref i)) Q E s := by
 refine Xn (id T.it) fun o ho hc hd => ?_;obtain ⟨ol, hol, _, nl, hdl⟩ := id T.tu;unfold Builtin.SmallTypes.nextOf
 refine wpAny_bind (wpAny_callSpecial?_slot (name := Str.ofString "__next__") T.it.typeIs PySem.F.slot_tuple_iterator_next
  (wpAny_call_entry PySem.F.slot_tuple_iterator_next T.it.typeIs PySem.F.entry_tuple_iterator_next ?_ (PySem.F.args_tuple_iterator_next_1 _)))
 show wpAny _ _ (field (.ref i) 0 >>= _) _ _ s;refine wpAny_bind (wpAny_field ho hd (x := .ref l) rfl ?_);show wpAny _ _ (if (Value.ref l == Value.none) = true then _ else _) _ _ s;rw [if_neg (show ¬ ((Value.ref l == Value.none) = true) from Bool.false_ne_true)];show wpAny _ _ (field (.ref i) 1 >>= _) _ _ s;refine wpAny_bind (wpAny_field ho hd (x := .int k 0) rfl ?_);show wpAny _ _ (seqItems? (.ref l) >>= _) _ _ s;refine wpAny_bind (wpAny_seqItems hol hdl ?_);simp only [Int.toNat_natCast, hx];refine wpAny_bind (wpAny_rule (wpAny_bind (wpAny_setField ho hd (by simp) ?_)));show wpAny _ _ (newExc (.type "StopIteration") [] >>= _) _ _ _;refine wpAny_bind ?_;simp only [newExc, newTuple];refine wpAny_bind (wpAny_newObj_type ?_ (by size_fits));refine wpAny_bind (m := firstArgMember _ _) (wpAny_of_eq (a := Value.none) (by first | rfl | (simp only [firstArgMember]; rfl)) ?_);refine wpAny_newObj_type ?_ (by size_fits);simp only [raiseNew];refine wpAny_bind (wpAny_handled ?_)
 first | rw [show A.in1.handled = none from hh] | rw [hh]
 refine wpAny_bind (wpAny_pure (wpAny_throw ?_));exact hE _ _ (((Heap.SameBut.update ..).extBut.push _).push _) ⟨_, Heap.get?_push_size _ rfl, rfl⟩
structure ZT (h : Heap) (z TI TO i1 i2 l1 l2 : Addr) (f0 : Value) (k : Nat) (xs ys : Array Value) : Prop where
 z : IsZip h z TI TO f0
 ti : IsPair h TI (.ref i1) (.ref i2)
 to : ∃ a b, IsPair h TO a b
 t1 : Zfv h i1 l1 k xs
 t2 : Zfv h i2 l2 k ys
noncomputable def zWr (z TO i1 i2 b : Addr) : Prop := b = z \/ b = TO \/ b = i1 \/ b = i2
theorem ZT.next {z TI TO i1 i2 l1 l2 : Addr} {k : Nat} {xs ys : Array Value} {x y : Value} {Q : Option Value -> Shared -> Prop} (D : ZipApart z TI TO i1 i2 l1 l2) (T : ZT s.heap z TI TO i1 i2 l1 l2 .none k xs ys)
  (hx : xs[k]? = some x) (hy : ys[k]? = some y)
  (hQ : ∀ h', ZT h' z TI TO i1 i2 l1 l2 (rawInt s.heap.objs.size) (k + 1) xs ys -> IsPair h' s.heap.objs.size x y -> h'.objs.size = s.heap.objs.size + 1 ->
   (∀ c o, ¬ zWr z TO i1 i2 c -> s.heap.get? c = some o -> h'.get? c = some o) -> Q (some (.ref s.heap.objs.size)) { s with heap := h' }) :
  wpAny (model prog w) A (pyNext (.ref z)) Q E s := by
 obtain ⟨hz, hTI, ⟨a, b, hTO⟩, t1, t2⟩ := T;have hT : s.TypeIs (.ref z) "zip" := ⟨_, hz, rfl⟩;unfold pyNext;refine wpAny_bind (wpAny_attempt (wpAny_callSpecial?_slot (name := Str.ofString "__next__") hT PySem.F.slot_zip_next (wpAny_call_entry PySem.F.slot_zip_next hT PySem.F.entry_zip_next ?_ (PySem.F.args_zip_next_1 _))));show wpAny _ _ (field (.ref z) 2 >>= _) _ _ _;refine wpAny_bind (wpAny_field hz rfl (x := .bool false) rfl ?_);show wpAny _ _ (field (.ref z) 3 >>= _) _ _ _;refine wpAny_bind (wpAny_field hz rfl (x := .ref TI) rfl ?_);refine wpAny_bind (wpAny_seqItems hTI rfl ?_);show wpAny _ _ (Builtin.SmallTypes.ownedTupleIsFree (.ref z) >>= _) _ _ _;refine wpAny_bind ?_;unfold Builtin.SmallTypes.ownedTupleIsFree;refine wpAny_bind (wpAny_field hz rfl (x := .none) rfl (wpAny_pure ?_));simp only [if_true];refine wpAny_bind (wpAny_rule ?_);refine wpAny_bind (wpAny_field hz rfl (x := .ref TO) rfl ?_);refine wpAny_bind (wpAny_setField_rec hz (by simp) fun h'1 hz1 q'1 => ?_);replace hz1 : IsZip h'1 z TI TO .ellipsis := hz1;refine wpAny_bind ?_;simp only [List.zipIdx_cons, List.zipIdx_nil, List.forIn_cons, List.forIn_nil];refine wpAny_bind (wpAny_bind (wpAny_onRaise ?_));show wpAny _ _ (Builtin.SmallTypes.nextOf (.ref i1) >>= _) _ _ _;refine wpAny_bind (ZgH (t1.at fun c o hc e => q'1.extBut _ _ (ZdS hc D.i1z D.l1z) e) hx D.l1i1 fun h'2 t12 q'2 => wpAny_pure ?_);have hTO2 : IsPair h'2 TO a b := q'2.extBut _ _ D.TOi1 (q'1.extBut _ _ D.TOz hTO);refine wpAny_bind (wpAny_seqItems hTO2 rfl ?_);refine wpAny_bind (wpAny_updateSeq_pair hTO2 fun h'3 hTO3 q'3 => ?_);replace hTO3 : IsPair h'3 TO x b := hTO3;refine wpAny_bind (wpAny_letGo (wpAny_pure ?_));refine wpAny_bind (wpAny_bind (wpAny_onRaise ?_));show wpAny _ _ (Builtin.SmallTypes.nextOf (.ref i2) >>= _) _ _ _
 have k'3 : ∀ c o, ¬ zWr z TO i1 i2 c -> s.heap.get? c = some o -> h'3.get? c = some o := fun c o n e =>
  q'3.extBut _ _ (fun z => n (.inr (.inl z))) (q'2.extBut _ _ (fun z => n (.inr (.inr (.inl z)))) (q'1.extBut _ _ (fun z => n (.inl z)) e))
 have t23 : Zfv h'3 i2 l2 k ys := t2.at fun c o hc e => q'3.extBut _ _ (ZdS hc D.TOi2.symm D.l2TO) (q'2.extBut _ _ (ZdS hc D.i12.symm D.l2i1)
  (q'1.extBut _ _ (ZdS hc D.i2z D.l2z) e))
 refine wpAny_bind (ZgH t23 hy D.l2i2 fun h'4 t24 q'4 => wpAny_pure ?_);have hTO4 : IsPair h'4 TO x b := q'4.extBut _ _ D.TOi2 hTO3;refine wpAny_bind (wpAny_seqItems hTO4 rfl ?_);refine wpAny_bind (wpAny_updateSeq_pair hTO4 fun h'5 hTO5 q'5 => ?_);replace hTO5 : IsPair h'5 TO x y := hTO5;refine wpAny_bind (wpAny_letGo (wpAny_pure (wpAny_pure ?_)));refine wpAny_bind (wpAny_seqItems hTO5 rfl ?_);refine wpAny_bind (wpAny_newTuple ?_);have hsz : h'5.objs.size = s.heap.objs.size := by rw [q'5.1, q'4.1, q'3.1, q'2.1, q'1.1]
 have k'5 : ∀ c o, ¬ zWr z TO i1 i2 c -> s.heap.get? c = some o -> h'5.get? c = some o := fun c o n e => q'5.extBut _ _ (fun z => n (.inr (.inl z))) (q'4.extBut _ _ (fun z => n (.inr (.inr (.inr z)))) (k'3 c o n e));have hz5 : IsZip h'5 z TI TO .ellipsis := q'5.extBut _ _ D.TOz.symm (q'4.extBut _ _ D.i2z.symm (q'3.extBut _ _ D.TOz.symm (q'2.extBut _ _ D.i1z.symm hz1)))
 have t15 : Zfv h'5 i1 l1 (k + 1) xs := t12.at fun c o hc e => q'5.extBut _ _ (ZdS hc D.TOi1.symm D.l1TO) (q'4.extBut _ _ (ZdS hc D.i12 D.l1i2)
  (q'3.extBut _ _ (ZdS hc D.TOi1.symm D.l1TO) e))
 have t25 : Zfv h'5 i2 l2 (k + 1) ys := t24.at fun c o hc e => q'5.extBut _ _ (ZdS hc D.TOi2.symm D.l2TO) e;have hTI5 : IsPair h'5 TI (.ref i1) (.ref i2) := k'5 _ _ (fun z => z.elim D.TIz fun z => z.elim D.TITO fun z => z.elim D.TIi1 D.TIi2) hTI;have hzlt : z < h'5.objs.size := Heap.lt_size hz5;show wpAny _ _ (Builtin.SmallTypes.ownedTupleHandOut (.ref z) (.ref h'5.objs.size) >>= _) _ _ _;refine wpAny_bind ?_;unfold Builtin.SmallTypes.ownedTupleHandOut;have hz6 : IsZip (h'5.push { cls := .type "tuple", data := .seq #[x, y] }) z TI TO .ellipsis := Heap.get?_push_of_some _ hz5;refine wpAny_bind (wpAny_setField_rec hz6 (by simp) fun h'7 hz7 q'7 => ?_);replace hz7 : IsZip h'7 z TI TO (rawInt h'5.objs.size) := hz7;refine wpAny_setField_rec hz7 (by simp) fun h'8 hz'8 q'8 => ?_;replace hz'8 : IsZip h'8 z TI TO (rawInt h'5.objs.size) := hz'8;have up : ∀ c o, c ≠ z -> h'5.get? c = some o -> h'8.get? c = some o := fun c o c1 e => q'8.extBut _ _ c1 (q'7.extBut _ _ c1 (Heap.get?_push_of_some _ e));have hT8 : IsPair h'8 h'5.objs.size x y := q'8.extBut _ _ (Nat.ne_of_gt hzlt) (q'7.extBut _ _ (Nat.ne_of_gt hzlt) (Heap.get?_push_size _ rfl));have hz8 : h'8.objs.size = h'5.objs.size + 1 := by rw [q'8.1, q'7.1, Heap.size_push]
 rw [hsz] at hz'8 hT8 hz8;refine wpAny_pure ⟨_, rfl, ?_⟩;refine wpAny_pure ?_;show Q (some (.ref h'5.objs.size)) _;rw [hsz]
 exact hQ h'8 ⟨hz'8, up _ _ D.TIz hTI5, ⟨_, _, up _ _ D.TOz hTO5⟩, t15.at fun c o hc e => up c o (ZdS hc D.i1z D.l1z) e, t25.at fun c o hc e => up c o (ZdS hc D.i2z D.l2z) e⟩
  hT8 hz8 fun c o n e => up c o (fun z => n (.inl z)) (k'5 c o n e)
theorem ZT.stop {z TI TO i1 i2 l1 l2 : Addr} {k : Nat} {xs ys : Array Value} {Q : Option Value -> Shared -> Prop} (hh : A.handled = none) (D : ZipApart z TI TO i1 i2 l1 l2) (T : ZT s.heap z TI TO i1 i2 l1 l2 .none k xs ys) (hx : xs[k]? = none)
  (hQ : ∀ h', (∀ c o, ¬ zWr z TO i1 i2 c -> s.heap.get? c = some o -> h'.get? c = some o) -> Q none { s with heap := h' }) : wpAny (model prog w) A (pyNext (.ref z)) Q E s := by
 obtain ⟨hz, hTI, ⟨a, b, hTO⟩, t1, t2⟩ := T;have hT : s.TypeIs (.ref z) "zip" := ⟨_, hz, rfl⟩;unfold pyNext;refine wpAny_bind (wpAny_attempt (wpAny_callSpecial?_slot (name := Str.ofString "__next__") hT PySem.F.slot_zip_next (wpAny_call_entry PySem.F.slot_zip_next hT PySem.F.entry_zip_next ?_ (PySem.F.args_zip_next_1 _))));show wpAny _ _ (field (.ref z) 2 >>= _) _ _ _;refine wpAny_bind (wpAny_field hz rfl (x := .bool false) rfl ?_);show wpAny _ _ (field (.ref z) 3 >>= _) _ _ _;refine wpAny_bind (wpAny_field hz rfl (x := .ref TI) rfl ?_);refine wpAny_bind (wpAny_seqItems hTI rfl ?_);show wpAny _ _ (Builtin.SmallTypes.ownedTupleIsFree (.ref z) >>= _) _ _ _;refine wpAny_bind ?_;unfold Builtin.SmallTypes.ownedTupleIsFree;refine wpAny_bind (wpAny_field hz rfl (x := .none) rfl (wpAny_pure ?_));simp only [if_true];refine wpAny_bind (wpAny_rule ?_);refine wpAny_bind (wpAny_field hz rfl (x := .ref TO) rfl ?_);refine wpAny_bind (wpAny_setField_rec hz (by simp) fun h'1 hz1 q'1 => ?_);replace hz1 : IsZip h'1 z TI TO .ellipsis := hz1;refine wpAny_bind ?_;simp only [List.zipIdx_cons, List.zipIdx_nil, List.forIn_cons, List.forIn_nil];refine wpAny_bind (wpAny_bind (wpAny_onRaise ?_));show wpAny _ _ (Builtin.SmallTypes.nextOf (.ref i1) >>= _) _ _ _;refine wpAny_bind (ZhQ (by exact hh) (t1.at fun c o hc e => q'1.extBut _ _ (ZdS hc D.i1z D.l1z) e) hx fun h'2 e q'2 he => ?_);refine Ze he fun oe hoe hce => ?_;clear he;have hz2 : IsZip h'2 z TI TO .ellipsis := q'2 _ _ D.i1z.symm hz1;have hez : e ≠ z := fun x => by subst x; rw [hz2] at hoe; cases hoe; simp at hce
 refine wpAny_setField_rec hz2 (by simp) fun h'3 _ q'3 => ?_;refine wpAny_bind (wpAny_isInstance (T := "StopIteration") (b := true) ⟨oe, q'3.extBut _ _ hez hoe, hce⟩ isSubtype_stop ?_);exact wpAny_pure (hQ _ fun c o n x => q'3.extBut _ _ (fun z => n (.inl z)) (q'2 _ _ (fun z => n (.inr (.inr (.inl z)))) (q'1.extBut _ _ (fun z => n (.inl z)) x)))
theorem ZkU {z TO i1 i2 c : Addr} (n : zWr z TO i1 i2 c) : c ∈ [z, TO, i1, i2] := n.elim (fun e => e ▸ .head _) fun n => n.elim (fun e => e ▸ .tail _ (.head _)) fun n => n.elim (fun e => e ▸ .tail _ (.tail _ (.head _))) fun e => e ▸ .tail _ (.tail _ (.tail _ (.head _)))
theorem ZkX {z TO i1 i2 c : Addr} (h : c ∈ [z, TO, i1, i2]) : zWr z TO i1 i2 c := (List.mem_cons.mp h).imp id fun h => (List.mem_cons.mp h).imp id fun h => (List.mem_cons.mp h).imp id fun h => List.mem_singleton.mp h
theorem ZT.walks (hh : A.handled = none) {z TI TO i1 i2 l1 l2 : Addr} (D : ZipApart z TI TO i1 i2 l1 l2) {xs ys : Array Value} (hs : xs.size = ys.size) :
  WalksU prog w A z [z, TI, TO, i1, i2, l1, l2] [z, TO, i1, i2] xs.size (fun i vals => ∃ x y, xs[i]? = some x /\ ys[i]? = some y /\ vals = #[x, y]) (fun i h => ZT h z TI TO i1 i2 l1 l2 .none i xs ys)
   (fun i T h => ZT h z TI TO i1 i2 l1 l2 (rawInt T) (i + 1) xs ys /\ T ≠ z /\ T ≠ TO /\ T ≠ i1 /\ T ≠ i2) where
 sub := fun c hc => (ZkX hc).elim (fun e => e ▸ .head _) fun n => n.elim (fun e => e ▸ .tail _ (.tail _ (.head _))) fun n => n.elim (fun e => e ▸ .tail _ (.tail _ (.tail _ (.head _)))) fun e => e ▸ .tail _ (.tail _ (.tail _ (.tail _ (.head _))))
 frame := fun i h h' T hk => ⟨hk z (.head _) _ T.z, hk TI (.tail _ (.head _)) _ T.ti, let ⟨a, b, e⟩ := T.to; ⟨a, b, hk TO (.tail _ (.tail _ (.head _))) _ e⟩,
  T.t1.at fun c o hc e => hk c (hc.elim (fun e => e ▸ .tail _ (.tail _ (.tail _ (.head _)))) fun e => e ▸ .tail _ (.tail _ (.tail _ (.tail _ (.tail _ (.head _)))))) o e, T.t2.at fun c o hc e => hk c (hc.elim (fun e => e ▸ .tail _ (.tail _ (.tail _ (.tail _ (.head _))))) fun e => e ▸ .tail _ (.tail _ (.tail _ (.tail _ (.tail _ (.tail _ (.head _))))))) o e⟩
 item := fun i s Q E hi T hQ => by
  have hy : i < ys.size := hs ▸ hi;have lt : ∀ {c o}, s.heap.get? c = some o -> s.heap.objs.size ≠ c := fun e => Nat.ne_of_gt (Heap.lt_size e);have l2 : s.heap.objs.size ≠ TO := let ⟨_, _, e⟩ := T.to; lt e
  have l3 : s.heap.objs.size ≠ i1 := let ⟨_, e, _⟩ := T.t1.it; lt e
  have l4 : s.heap.objs.size ≠ i2 := let ⟨_, e, _⟩ := T.t2.it; lt e
  exact T.next D (Array.getElem?_eq_getElem hi) (Array.getElem?_eq_getElem hy) fun h' T' hp hz hk => hQ s.heap.objs.size #[xs[i], ys[i]] h' s.toks ⟨_, _, Array.getElem?_eq_getElem hi, Array.getElem?_eq_getElem hy, rfl⟩ ⟨_, hp, rfl, _, rfl⟩
   ⟨T', lt T.z, l2, l3, l4⟩ fun c o hc e => hk c o (fun n => hc (ZkU n)) e
 go := fun elts k pos i T s Q E hm hQ => wpAny_letOwnedTupleGo_zip hm.1.z fun h' hz' hs' => hQ h' ⟨hz', hs'.extBut _ _ D.TIz hm.1.ti, let ⟨a, b, e⟩ := hm.1.to; ⟨a, b, hs'.extBut _ _ D.TOz e⟩,
   hm.1.t1.at fun c o hc e => hs'.extBut _ _ (ZdS hc D.i1z D.l1z) e, hm.1.t2.at fun c o hc e => hs'.extBut _ _ (ZdS hc D.i2z D.l2z) e⟩
   fun c o hc e => hs'.extBut _ _ (fun x => hc (x ▸ .head _)) e
 apart := fun i T h hm hT => (ZkX hT).elim hm.2.1 fun n => n.elim hm.2.2.1 fun n => n.elim hm.2.2.2.1 hm.2.2.2.2
 done := fun s Q E T hQ => T.stop hh D (Array.getElem?_eq_none (Nat.le_refl _)) fun h' hk => hQ h' s.toks fun c o hc e => hk c o (fun n => hc (ZkU n)) e
 self := fun i s Q E T hQ => wpAny_pyIter_zip T.z hQ
noncomputable abbrev zt1 (h : Heap) (l1 : Addr) : Heap := h.push { cls := .type "tuple_iterator", data := .fields #[.ref l1, .int 0 0] }
noncomputable abbrev zt2 (h : Heap) (l1 l2 : Addr) : Heap := (zt1 h l1).push { cls := .type "tuple_iterator", data := .fields #[.ref l2, .int 0 0] }
noncomputable abbrev zt3 (h : Heap) (l1 l2 : Addr) : Heap := (zt2 h l1 l2).push { cls := .type "tuple", data := .seq #[.ref h.objs.size, .ref (zt1 h l1).objs.size] }
noncomputable abbrev zt4 (h : Heap) (l1 l2 : Addr) : Heap := (zt3 h l1 l2).push { cls := .type "tuple", data := .seq #[.none, .none] }
noncomputable abbrev zt5 (h : Heap) (l1 l2 : Addr) : Heap := (zt4 h l1 l2).push { cls := .type "zip", data := .fields #[.none, .bool false, .bool false, .ref (zt2 h l1 l2).objs.size, .ref (zt3 h l1 l2).objs.size] }
theorem Zse (l1 l2 : Addr) (xs ys : Array Value) :
  Meets (Builtin.«zip.__new__» ⟨[.type "zip", .ref l1, .ref l2], []⟩) (fun _ R s => s.heap.IsTuple l1 xs /\ s.heap.IsTuple l2 ys /\ R (.ok (.ret (.ref (zt4 s.heap l1 l2).objs.size))) { s with heap := zt5 s.heap l1 l2 }) :=
 .of_wp fun prog w A R s h => by
  obtain ⟨hp, g, d, tk, os⟩ := s; obtain ⟨hl1, hl2, h⟩ := h;have hsub := sub_zip;have hL1 : Heap.IsTuple (Shared.heap ⟨hp, g, d, tk, os⟩) l1 xs := hl1;have hL2 : Heap.IsTuple (Shared.heap ⟨hp.push { cls := .type "tuple_iterator", data := .fields #[.ref l1, .int 0 0] }, g, d, tk, os⟩) l2 ys := ZaL hl2 fun o e => Heap.get?_push_of_some _ e
  wp_walk using wpAny_pyIter_tuple hL1, wpAny_pyIter_tuple hL2
  exact ⟨_, rfl, h⟩
theorem ZqW {l1 l2 : Addr} {xs ys : Array Value} {Q : Value -> Shared -> Prop} (hl1 : s.heap.IsTuple l1 xs) (hl2 : s.heap.IsTuple l2 ys)
  (h : ∀ h', ZT h' (s.heap.objs.size + 4) (s.heap.objs.size + 2) (s.heap.objs.size + 3) s.heap.objs.size (s.heap.objs.size + 1) l1 l2 .none 0 xs ys -> h'.objs.size = s.heap.objs.size + 5 ->
   (∀ c o, s.heap.get? c = some o -> h'.get? c = some o) -> Q (.ref (s.heap.objs.size + 4)) { s with heap := h' }) : wpAny (model prog w) A (call (.type "zip") [.ref l1, .ref l2]) Q E s := by
 refine callType_new PySem.F.called_zip (by decide) (PySem.F.typeCall_zip_2 _ _) (PySem.F.newCall_zip_2 _ _) (fun obj => PySem.F.args_object_init_3 obj _ _) PySem.F.entry_zip_new (Zse l1 l2 xs ys) ⟨hl1, hl2, ?_⟩;have z1 : (zt1 s.heap l1).objs.size = s.heap.objs.size + 1 := Heap.size_push ..;have z2 : (zt2 s.heap l1 l2).objs.size = s.heap.objs.size + 2 := by rw [Heap.size_push, z1]
 have z3 : (zt3 s.heap l1 l2).objs.size = s.heap.objs.size + 3 := by rw [Heap.size_push, z2]
 have z4 : (zt4 s.heap l1 l2).objs.size = s.heap.objs.size + 4 := by rw [Heap.size_push, z3]
 have z5 : (zt5 s.heap l1 l2).objs.size = s.heap.objs.size + 5 := by rw [Heap.size_push, z4]
 have g5 : (zt5 s.heap l1 l2).get? (zt4 s.heap l1 l2).objs.size = some _ := Heap.get?_push_size _ rfl;have g4 : (zt5 s.heap l1 l2).get? (zt3 s.heap l1 l2).objs.size = some _ := Heap.get?_push_of_some _ (Heap.get?_push_size _ rfl);have g3 : (zt5 s.heap l1 l2).get? (zt2 s.heap l1 l2).objs.size = some _ := Heap.get?_push_of_some _ (Heap.get?_push_of_some _ (Heap.get?_push_size _ rfl));have g2 : (zt5 s.heap l1 l2).get? (zt1 s.heap l1).objs.size = some _ := Heap.get?_push_of_some _ (Heap.get?_push_of_some _ (Heap.get?_push_of_some _ (Heap.get?_push_size _ rfl)));have g1 : (zt5 s.heap l1 l2).get? s.heap.objs.size = some _ := Heap.get?_push_of_some _ (Heap.get?_push_of_some _ (Heap.get?_push_of_some _ (Heap.get?_push_of_some _ (Heap.get?_push_size _ rfl))))
 have up : ∀ c o, s.heap.get? c = some o -> (zt5 s.heap l1 l2).get? c = some o := fun c o x =>
  Heap.get?_push_of_some _ (Heap.get?_push_of_some _ (Heap.get?_push_of_some _ (Heap.get?_push_of_some _ (Heap.get?_push_of_some _ x))))
 show _ /\ _;rw [z2, z3, z4] at g5;rw [z1, z2] at g3;rw [z3] at g4;rw [z1] at g2;rw [z4];exact ⟨⟨_, g5, rfl⟩, h _ ⟨g5, g3, ⟨_, _, g4⟩, ⟨⟨_, g1, rfl, rfl⟩, ZaL hl1 fun o => up _ o⟩, ⟨⟨_, g2, rfl, rfl⟩, ZaL hl2 fun o => up _ o⟩⟩ z5 up⟩
end
section
variable {G : GC} {C : Cx} {β : List Addr} {B B' B₁ : Bx} {σ : St} {s s' : Shared} {H : Nat} {d acc : V} {v : Value} {b : Bool} {it : Value} {r : Out} {k : K}
theorem Inv.grow (O : Zw G C) (I : Inv G C β B σ s) (hk : ∀ b o, s.heap.get? b = some o -> ¬ G.Tb b -> s'.heap.get? b = some o) (hz : s.heap.objs.size <= s'.heap.objs.size) (W : Wd G s') :
  Inv G C β B σ s' /\ Adv G C.mu β s β s' /\ ∀ b o, s.heap.get? b = some o -> ¬ avB C.av β b -> s'.heap.get? b = some o /\ ¬ avB C.av β b := by
 have a : Adv G (fun _ => False) β s β s' := ⟨⟨[], by simp, fun _ h => by simp at h⟩, fun b o e _ t => hk b o e t, hz⟩;have hav : ∀ b o, s.heap.get? b = some o -> ¬ avB C.av β b -> s'.heap.get? b = some o /\ ¬ avB C.av β b := fun b o e n => ⟨hk b o e fun t => n (.inl (O.tbav b t)), n⟩
 refine ⟨I.back O a (fun q z => z.elim) (fun z => z) (fun _ _ _ z => z) W ⟨I.boxes.len, I.boxes.nodup, I.boxes.apart, I.boxes.high, fun n q e e1 e2 => (I.boxes.at' n q e e1 e2).mono hav (fun _ _ z => z) fun o z => hk q o z fun t =>
  I.boxes.apart q (List.mem_of_getElem? e1) (O.tbav q t)⟩, a.mono (fun _ z => z.elim), hav⟩
theorem ZqB {M : Model} {A : Around} {E : Value -> Shared -> Prop} {env : Env} {c P : Addr} {ps : Array Value} {pos : Pos} {qualname : Str} {scope : Scope} {Q : Value -> Shared -> Prop} (hc : env.code = .ref c) (hok : s.heap.IsCode c P ps)
  (htab : s.heap.TableAt c P ps) (hQ : ∀ code h' tk ps', Heap.ExtBut P s.heap h' -> h'.IsCode c P ps' -> h'.TableAt c P ps' -> Q code { s with heap := h', toks := tk }) : wpAny M A (genexprCode env pos qualname scope) Q E s := by
 cases hnf : codeAmong pos ps.toList with
 | none => exact wpAny_genexprCodeX hc hok htab hnf fun c' h' tk hx _ _ h1 _ h2 _ => hQ _ _ _ _ hx h1 h2
 | some cv =>
  obtain ⟨o, vs, file, tf, flags, tg, inF, text, tt, op, ho, hd, h11, h2, h7, h9, h10, hop, hpd, htr, hne⟩ := id hok;unfold genexprCode codeAt;rw [hc, if_neg (show ¬ ((Value.ref c == Value.none) = true) from Bool.false_ne_true)];refine wpAny_bind (wpAny_fieldsOf ho hd ?_);rw [h11];refine wpAny_bind (wpAny_fieldsOf hop hpd ?_);rw [hnf];exact wpAny_pure (hQ cv s.heap s.toks ps (Heap.ExtBut.refl _ _) hok htab)
theorem Wd.tabTurn (gok : GOk G) (W : Wd G s) {c P : Addr} {ps' : Array Value} {h' : Heap} {tk : Nat} (hm : (c, P) ∈ G.tabs) (hx : Heap.ExtBut P s.heap h') (h1 : h'.IsCode c P ps') (h2 : h'.TableAt c P ps') : Wd G { s with heap := h', toks := tk } := by
 refine ⟨fun b o e n => hx b o (fun z => n ⟨c, z ▸ hm⟩) (W.keep b o e n), fun c' P' hm' => ?_, W.gens, W.os⟩
 by_cases hP : P' = P
 ·subst hP
  have := gok.one _ _ _ hm' hm;subst this;exact ⟨ps', h1, h2⟩
 ·refine Ze (W.tab c' P' hm') fun ps h3 h4 => ?_
  have hc : c' ≠ P := fun z => (gok.tabs c' P' hm').2.2 ⟨c, z ▸ hm⟩;exact ⟨ps, h3.extBut hx hc hP, h4.extBut hx hc hP⟩
noncomputable def zsum (xs ys : List V) : Option (List V) := (Xz xs).bind fun ns => (Xz ys).bind fun ms => if ns.length = ms.length then some ((List.zipWith (· + ·) ns ms).map .int) else none
theorem ZgG {xs ys zs : List V} (h : zsum xs ys = some zs) : ∃ ns ms : List Int, xs = ns.map .int /\ ys = ms.map .int /\ ns.length = ms.length /\ zs = (List.zipWith (· + ·) ns ms).map .int := by
 refine Ze (Option.bind_eq_some_iff.mp h) fun ns hn h => ?_;refine Ze (Option.bind_eq_some_iff.mp h) fun ms hm h => ?_;exact ⟨ns, ms, JS hn, JS hm, (YG h).1, (Option.some.inj (YG h).2).symm⟩
noncomputable def D.zsum (f g : DE) : DE := fun σ B => (f σ B).bind fun p => (Zqo p.1).1.bind fun xs => (g σ p.2).bind fun q => (Zqo q.1).1.bind fun ys => (Mine.zsum xs ys).bind fun zs => if ZH xs.length then some (.tup zs, q.2) else none
theorem Wd.kept (gok : GOk G) (W : Wd G s) (k0 : ∀ b o, b < G.H0.objs.size -> s.heap.get? b = some o -> s'.heap.get? b = some o) (hg : AllBare s'.gens) (ho : s'.os = s.os) : Wd G s' := by
 refine ⟨fun b o e n => k0 b o (Heap.lt_size e) (W.keep b o e n), fun c P hm => ?_, hg, ho.trans W.os⟩;refine Ze (W.tab c P hm) fun ps g1 g2 => ?_;refine XR (gok.tabs c P hm) fun hc hP _ => ?_;obtain ⟨o, vs, file, tf, flags, tg, inF, text, tt, op, q1, q2, q3, q4, q5, q6, q7, q8, q9⟩ := g1;obtain ⟨⟨o2, vs2, p1, p2⟩, p3⟩ := g2;exact ⟨ps, ⟨o, vs, file, tf, flags, tg, inF, text, tt, op, k0 _ _ hc q1, q2, q3, q4, q5, q6, q7, k0 _ _ hP q8, q9⟩, ⟨⟨o2, vs2, k0 _ _ hc p1, p2⟩, k0 _ _ hP p3⟩⟩
theorem ZpN {av : Addr -> Prop} {h : Heap} : ∀ (l : List Value) (n m : List Int), l.length = n.length -> n.length = m.length -> (∀ (j : Nat) (v : Value), l[j]? = some v -> ∃ a b t, n[j]? = some a /\ m[j]? = some b /\ v = .int (a + b) t) ->
  Zd G av β h l ((List.zipWith (· + ·) n m).map .int) := by
 intro l
 induction l with
 | nil => intro n m h1 h2 _; rw [List.eq_nil_of_length_eq_zero h1.symm]; exact .nil
 | cons v l ih =>
  intro n m h1 h2 h3
  cases n with
  | nil => cases h1
  | cons a n =>
   cases m with
   | nil => cases h2
   | cons b m =>
    refine Y7 (h3 0 v rfl) fun a' b' t g1 g2 e => ?_;rw [e, <- Option.some.inj g1, <- Option.some.inj g2];exact .cons (.int _ _) (ih n m (Nat.succ.inj h1) (Nat.succ.inj h2) fun j v hv => h3 (j + 1) v hv)
noncomputable def zfp (x l1 l2 : Nat) : List Addr := [x + 4, x + 2, x + 3, x, x + 1, l1, l2]
noncomputable def zwr (x : Nat) : List Addr := [x + 4, x + 3, x, x + 1]
theorem Zn4 {x b : Nat} (h : b ∈ zwr x) : x <= b := by
 simp only [zwr, List.mem_cons, List.not_mem_nil, or_false] at h;rcases h with h | h | h | h <;> rw [h]
 ·exact Nat.le_add_right _ _
 ·exact Nat.le_add_right _ _
 ·exact Nat.le_refl _
 ·exact Nat.le_add_right _ _
noncomputable def ZtE (G : GC) (β : List Addr) (s'1 s' : Shared) (v : Value) (ns ms : List Int) : Prop :=
 (∀ b o, s'1.heap.get? b = some o -> ¬ G.Tb b -> s'.heap.get? b = some o) /\ s'1.heap.objs.size < s'.heap.objs.size /\ Wd G s' /\ ∃ a vs, v = .ref a /\ s'1.heap.objs.size <= a /\ s'.heap.get? a = some (Jm vs 0) /\ ∀ av β, Zd G av β s'.heap vs.toList ((List.zipWith (· + ·) ns ms).map .int)
theorem ZoG {s'1 s'3 s'5 : Shared} {acc : Array Value} {ns ms : List Int} {n : Nat} {Gf : Array GenState -> Array GenState -> Prop} (gok : GOk G) (W3 : Wd G s'3) (hH0 : G.H0.objs.size <= s'1.heap.objs.size) (hle : s'1.heap.objs.size <= s'3.heap.objs.size) (k'3 : ∀ b o, s'1.heap.get? b = some o -> ¬ G.Tb b -> s'3.heap.get? b = some o)
  (hk5 : ∀ b o, s'3.heap.get? b = some o -> s'5.heap.get? b = some o) (hmv : Moved (s'3.heap.objs.size :: zwr s'1.heap.objs.size) Gf s'5 s') (hb : AllBare s'.gens) (ho : s'5.os = s'3.os) {ot : Obj} (hti : s'3.heap.get? (s'1.heap.objs.size + 2) = some ot)
  (hacc : acc.size = n /\ ∀ (j : Nat) (v : Value), acc[j]? = some v -> ∃ i, (List.range n)[j]? = some i /\ ∃ a b t, ns[i]? = some a /\ ms[i]? = some b /\ v = .int (a + b) t) (hn : n = ns.length) (hl : ns.length = ms.length) :
  ZtE G β s'1 { s' with heap := s'.heap.push (Jm acc 0) } (.ref s'.heap.objs.size) ns ms := by
 have kk : ∀ b o, b < s'1.heap.objs.size -> s'3.heap.get? b = some o -> s'.heap.get? b = some o := fun b o hb e => hmv.heap b o (fun hm => (List.mem_cons.mp hm).elim (fun z => absurd hb (Nat.not_lt.mpr (z ▸ hle))) fun z => absurd hb (Nat.not_lt.mpr (Zn4 z))) (hk5 b o e)
 have hz : s'1.heap.objs.size <= s'.heap.objs.size := by
  have hm : s'1.heap.objs.size + 2 ∉ s'3.heap.objs.size :: zwr s'1.heap.objs.size := fun hm => (List.mem_cons.mp hm).elim (fun z => absurd (Heap.lt_size hti) (Nat.not_lt.mpr (Nat.le_of_eq z.symm))) fun hm => by
   simp only [zwr, List.mem_cons, List.not_mem_nil, or_false] at hm;rcases hm with h | h | h | h
   ·exact absurd (Nat.add_left_cancel h) (by decide)
   ·exact absurd (Nat.add_left_cancel h) (by decide)
   ·exact absurd (Nat.add_left_cancel (k := 0) h) (by decide)
   ·exact absurd (Nat.add_left_cancel h) (by decide)
  exact Nat.le_trans (Nat.le_add_right _ 2) (Nat.le_of_lt (Heap.lt_size (hmv.heap _ _ hm (hk5 _ _ hti))))
 refine ⟨fun b o e n => Heap.get?_push_of_some _ (kk b o (Heap.lt_size e) (k'3 b o e n)), by show _ < (s'.heap.push _).objs.size; rw [Heap.size_push]; exact Nat.lt_succ_of_le hz,
  (W3.kept gok (fun b o hb e => kk b o (Nat.lt_of_lt_of_le hb hH0) e) hb (hmv.os.trans ho)).ext (Ext.push s' _), _, acc, rfl, hz, Heap.get?_push_size _ rfl, fun av β => ?_⟩
 refine ZpN _ _ _ (by rw [Array.length_toList, hacc.1, hn]) hl fun j v hv => ?_;refine Ze (hacc.2 j v (Array.getElem?_toList.symm.trans hv)) fun i hi r => ?_;rw [List.getElem?_eq_some_iff] at hi;obtain ⟨h1, h2⟩ := hi;rw [List.getElem_range] at h2;rw [h2];exact r
theorem Znr {e'1 e'2 : Expr} {f g : DE} {xi xj : Str} {pi pj pa pb pt pbin pz pzc pg pn pos : Pos} {kt : Nat} {scope : Scope} (hf : Den G H k e'1 f) (hg : Den G H k e'2 g) (hn1 : Ji e'1 = true) (hn2 : Ji e'2 = true)
  (hgen : k.gen = true) (hkt : k.kind "tuple" = some .globalImplicit) (hkz : k.kind "zip" = some .globalImplicit) (htt : YW G "tuple" (.type "tuple")) (htz : YW G "zip" (.type "zip"))
  (hco : scope.isCoroutine = false) (hcell : ∀ y ∈ scope.names, y.2 ≠ .cell) (hfree : ∀ y ∈ scope.names, y.2 ≠ .free) (h0 : scope.names.lookup (".0" : Str) = some NameKind.local) (hxi : scope.names.lookup xi = some .local) (hxj : scope.names.lookup xj = some .local)
  (hij : xi ≠ xj) (hki : scope.kind = .function) (hdi : (xi == ("__debug__" : Str)) = false) (hdj : (xj == ("__debug__" : Str)) = false) :
  Den G H k (.Call (.Name "tuple" pn) [.GeneratorExp (.BinOp (.Name xi pa) .Add (.Name xj pb) pbin) [⟨.Tuple [.Name xi pi, .Name xj pj] kt pt, .Call (.Name "zip" pz) [e'1, e'2] [] pzc, [], 0⟩] scope pg] [] pos) (D.zsum f g) := .mk fun C O F σ B d B' h => by
 have h' : ∃ ns ms B₁, f σ B = some (.tup (ns.map .int), B₁) /\ g σ B₁ = some (.tup (ms.map .int), B') /\ ns.length = ms.length /\ ZH ns.length = true /\ d = .tup ((List.zipWith (· + ·) ns ms).map .int) := by
  refine Ze (Option.bind_eq_some_iff.mp h) fun p hp h => ?_;refine Ze (Option.bind_eq_some_iff.mp h) fun xs hx h => ?_;refine Ze (Option.bind_eq_some_iff.mp h) fun q hq h => ?_;refine Ze (Option.bind_eq_some_iff.mp h) fun ys hy h => ?_;refine Ze (Option.bind_eq_some_iff.mp h) fun zs hzs h => ?_;obtain ⟨hsh, h⟩ := YG h;obtain ⟨e1, e2⟩ := Prod.mk.inj (Option.some.inj h);refine Zfq (ZgG hzs) fun ns ms e3 e4 hlen e5 => ?_;rw [e3, List.length_map] at hsh;exact ⟨ns, ms, p.2, hp.trans (congrArg (fun z => some (z, p.2)) (((Zqo p.1).2 _ hx).trans (congrArg V.tup e3))), hq.trans (congrArg some (Prod.ext (((Zqo q.1).2 _ hy).trans (congrArg V.tup e4)) e2)), hlen, hsh, by rw [<- e1, e5]⟩
 clear h;refine Zi7 h' fun ns ms B₁ h1 h2 hlen hsh hd => ?_;clear h';intro A β s hA I E;have hroom := hA.room;have hR : Row G H C σ B [e'1, e'2] [.tup (ns.map .int), .tup (ms.map .int)] B' := .cons _ _ _ _ _ _ _ hn1 (hf.ok C O F _ _ _ _ h1) (.cons _ _ _ _ _ _ _ hn2 (hg.ok C O F _ _ _ _ h2) (.nil _));have hE := hR.evs O (pos := pzc) A β s hA I;have hpl := hR.plain (pos := pzc);refine YU (O.code (F.gen.trans hgen)) fun cc P hcode hm => ?_;have hkt' := (F.kind _).trans hkt;have hkz' := (F.kind _).trans hkz;clear hf hg h1 h2 hR hkt hkz F hgen
 have main : Ok G.prog G.w A (eval (.Call (.Name "tuple" pn) [.GeneratorExp (.BinOp (.Name xi pa) .Add (.Name xj pb) pbin) [⟨.Tuple [.Name xi pi, .Name xj pj] kt pt, .Call (.Name "zip" pz) [e'1, e'2] [] pzc, [], 0⟩] scope pg] [] pos) C.env) s
   (fun v s' => ∃ β1 s'1, Adv G C.mu β s β1 s'1 /\ Inv G C β1 B' σ s'1 /\ ZtE G β1 s'1 s' v ns ms) := by
  intro E;refine wpAny_Call_NameR (ZaH O I hkt' htt (by rfl) (PySem.callWith_type (by rfl) ?_));refine evalArgs_plain (spliced_cons ?_);refine wpAny_GeneratorExp_walksQT hA.handled hco (closureFor_none hfree) hcell h0 hxi hxj hij hki hroom ?_ (fun x => rfl);refine wpAny_Call_NameR (ZaH O I hkz' htz (by rfl) (PySem.callWith_type hpl ?_));clear hpl I htt htz hkt' hkz';rw [ZL hn1, Yh] at hE ⊢;refine evalArgs_plain (hE.t3 fun vs s'1 β1 a'1 i'1 r'1 => ?_);clear hE;refine Xh (Xr r'1) fun v1 v2 ev r1 r2 => ?_;refine Xs r1.sh fun l1 us n1 ev1 e1 nav1 q1 => ?_;refine Xs r2.sh fun l2 ws n2 ev2 e2 nav2 q2 => ?_;rw [ev, ev1, ev2];clear r1 r2 r'1 ev ev1 ev2;refine Ze (Zfu q1) fun ps1 hp1 hn1' => ?_;refine Ze (Zfu q2) fun ps2 hp2 hn2' => ?_;have hu : us.size = ns.length := Array.length_toList.symm.trans (q1.length.trans (List.length_map _));have hw : ws.size = ms.length := Array.length_toList.symm.trans (q2.length.trans (List.length_map _));clear q1 q2;refine ZqW (Rep.isTuple e1) (Rep.isTuple e2) fun h'2 Z hsz2 hk'2 => ?_;refine wpAny_pyIter_zip Z.z ?_;have D := Zek s'1.heap.objs.size l1 l2 (Heap.lt_size e1) (Heap.lt_size e2);have x'2 : Ext s'1 { s'1 with heap := h'2 } := ⟨hk'2, by show _ <= h'2.objs.size; rw [hsz2]; exact Nat.le_add_right _ _, rfl, rfl⟩;have W2 := i'1.wd.ext x'2;refine ⟨W2.nolimit O.gok, ?_⟩;refine Ze (W2.tab cc P hm) fun psc hIs hTab => ?_;refine ZqB hcode hIs hTab fun code h'3 tk3 ps3 hx3 hIs3 hTab3 => ?_;have W3 := W2.tabTurn (tk := tk3) O.gok hm hx3 hIs3 hTab3;have hnT : ∀ {b}, ¬ G.Tb b -> b ≠ P := fun n z => n ⟨cc, z ▸ hm⟩;have hH0 := i'1.H0 O;have hge : ∀ {b}, s'1.heap.objs.size <= b -> b ≠ P := fun hb z => absurd (O.gok.tabs cc P hm).2.1 (Nat.not_lt.mpr (Nat.le_trans hH0 (z ▸ hb)));have hTbl : ∀ {b}, ¬ avB C.av β1 b -> b ≠ P := fun n => hnT fun t => n (.inl (O.tbav _ t));have k'3 : ∀ b o, s'1.heap.get? b = some o -> ¬ G.Tb b -> h'3.get? b = some o := fun b o e n => hx3 b o (hnT n) (hk'2 b o e);have hnP : ∀ {b o} (j : Nat), b = s'1.heap.objs.size + j -> h'2.get? b = some o -> h'3.get? b = some o := fun j hb e => hx3 _ _ (hge (hb ▸ Nat.le_add_right _ j)) e
  have Z3 : ZT h'3 (s'1.heap.objs.size + 4) (s'1.heap.objs.size + 2) (s'1.heap.objs.size + 3) s'1.heap.objs.size (s'1.heap.objs.size + 1) l1 l2 .none 0 us ws :=
   ⟨hnP 4 rfl Z.z, hnP 2 rfl Z.ti, let ⟨a, b, e⟩ := Z.to; ⟨a, b, hnP 3 rfl e⟩, Z.t1.at fun b o hb e => hx3 b o (hb.elim (fun z => hge (z ▸ Nat.le_refl _)) fun z => z ▸ hTbl nav1) e,
    Z.t2.at fun b o hb e => hx3 b o (hb.elim (fun z => hge (z ▸ Nat.le_add_right _ _)) fun z => z ▸ hTbl nav2) e⟩
  have a1' := a'1;clear hx3 hIs3 hTab3 hnT hge hTbl hnP W2 x'2 hIs hTab Z nav1 nav2 hk'2 hsz2 e1 e2;generalize hs'3 : ({ heap := h'3, gens := s'1.gens, drawn := s'1.drawn, toks := tk3, os := s'1.os } : Shared) = s'3 at W3 ⊢;have e'3 : h'3 = s'3.heap := by rw [<- hs'3]
  rw [e'3] at k'3 Z3;clear hs'3 e'3 h'3;refine ZnK O.gok.bm fun bm ob hb1 hb2 hb3 hb4 hb5 hb6 hb7 => ?_;have hG : s'3.heap.Ns C.env.globals G.mg := by rw [O.globals]; exact W3.g O.gok
  refine wpAny_builtinsFor (m := G.mg) (o := ob) hG hb1 hb2 (W3.keep _ _ hb3 hb7) hb4 hb5 hb6 ?_;clear hG hb1 hb2 hb3 hb4 hb5 hb6 hb7
  have hlt3 : ∀ b ∈ zfp s'1.heap.objs.size l1 l2, b < s'3.heap.objs.size := by
   intro b hb;simp only [zfp, List.mem_cons, List.not_mem_nil, or_false] at hb;rcases hb with hb | hb | hb | hb | hb | hb | hb <;> rw [hb]
   ·exact Heap.lt_size Z3.z
   ·exact Heap.lt_size Z3.ti
   ·obtain ⟨a, b, e⟩ := Z3.to; exact Heap.lt_size e
   ·obtain ⟨o, e, _⟩ := Z3.t1.it; exact Heap.lt_size e
   ·obtain ⟨o, e, _⟩ := Z3.t2.it; exact Heap.lt_size e
   ·obtain ⟨o, e, _⟩ := Z3.t1.tu; exact Heap.lt_size e
   ·obtain ⟨o, e, _⟩ := Z3.t2.tu; exact Heap.lt_size e
  have hle : s'1.heap.objs.size <= s'3.heap.objs.size := Nat.le_of_lt (hlt3 _ (.tail _ (.tail _ (.tail _ (.head _)))));have hst : cStatics < s'1.heap.objs.size := Nat.lt_of_lt_of_le (let ⟨mc, hn, _⟩ := O.gok.nolimit; hn.lt) hH0
  refine ⟨s'1.heap.objs.size + 4, zfp s'1.heap.objs.size l1 l2, zwr s'1.heap.objs.size,
   us.size, _, _, _, fun _ => true, fun i y => ∃ a b t, ns[i]? = some a /\ ms[i]? = some b /\ y = .int (a + b) t, rfl, fun A' hA' => ZT.walks hA' D (hu.trans (hlen.trans hw.symm)), ?_, Z3, hlt3, W3.nolimit O.gok, ?_, ?_, ?_⟩
  ·rintro i vals ⟨x, y, _, _, e⟩; exact ⟨x, y, e⟩
  ·exact fun hmem => absurd hst (Nat.not_lt.mpr (Zn4 hmem))
  ·intro href _
   refine ⟨fun A' E' i va vb s'2 m'2 _ _ _ _ _ _ => wpAny_pure ⟨rfl, s'2.heap, s'2.toks, rfl, fun _ _ e => e⟩, fun A' E' i va vb s'2 m'2 _ hP _ hns ha hb _ => ?_⟩;refine Xh hP fun x y hx hy hxy => ?_;clear hP;have hxy := List.cons.inj (congrArg Array.toList hxy);rw [<- hxy.1, <- Array.getElem?_toList, hp1, List.getElem?_map] at hx;rw [<- (List.cons.inj hxy.2).1, <- Array.getElem?_toList, hp2, List.getElem?_map] at hy;refine Ze (Option.map_eq_some_iff.mp hx) fun p hp e1 => ?_;refine Ze (Option.map_eq_some_iff.mp hy) fun q hq e2 => ?_;rw [<- e1] at ha;rw [<- e2] at hb;refine wpAny_BinOp (wpAny_Name (wpAny_loadName_local hki hxi hns ha ?_) hdi);refine wpAny_Name (wpAny_loadName_local hki hxj hns hb ?_) hdj;exact add_int ⟨⟨p.1, q.1, _, by rw [<- hn1', List.getElem?_map, hp]; rfl, by rw [<- hn2', List.getElem?_map, hq]; rfl, rfl⟩, s'2.heap, s'2.toks + 1, rfl, fun _ _ e => e⟩
  ·intro a h'5 tk gs hbare hlt hsz5 hk5 hW hGA
   have hpass : passing (fun _ => true) us.size 0 = List.range us.size := List.filter_eq_self.mpr fun _ _ => rfl;rw [hpass, List.length_range] at hW;refine spliced_nil ?_;refine call_tuple_gen (n := us.size) hW.in4_3 (fun i s' hg => hg.1.typeIs) hGA (fun b hb => ?_) (List.mem_cons_self) (fun s' acc hmv hacc => ?_) (by rw [hu]; exact Yy hsh)
   ·show b < h'5.objs.size
    rw [hsz5];exact Nat.lt_succ_of_le ((List.mem_cons.mp hb).elim (fun z => Nat.le_of_eq z) fun hb => (List.mem_cons.mp hb).elim (fun z => z ▸ Nat.le_of_lt hlt) fun hb => Nat.le_of_lt (Nat.lt_trans (List.mem_range.mp hb) hlt))
   ·exact ⟨β1, s'1, a'1, i'1, ZoG O.gok W3 hH0 hle k'3 hk5 hmv (AllBare.movedS (W3.gens.push hbare) hmv) rfl Z3.ti hacc hu hlen⟩
 refine main.to fun v s' hz => ?_;refine ZbT hz fun β1 s'1 a'1 i'1 hk hlt W hz => ?_;refine Zfq hz fun a vs e ha hg hr => ?_;refine XR (i'1.grow O hk (Nat.le_of_lt hlt) W) fun i'2 a'2 _ => ?_;rw [e, hd];exact ⟨β1, a'1.trans a'2, i'2, .tup hg (i'1.fresh ha) (hr _ _)⟩
end
noncomputable def Zsh : V -> Option Bool
 | .tup _ => some true
 | .int _ => some false
 | _ => none
noncomputable def D.isTup (f : DE) : DE := fun σ B => match f σ B with
 | none => none
 | some (d, B₁) => (Zsh d).map fun b => (.bool b, B₁)
noncomputable def ZaG : List (Int × Str) := [(1, "OPTIMIZED"), (2, "NEWLOCALS"), (4, "VARARGS"), (8, "VARKEYWORDS"), (16, "NESTED"), (32, "GENERATOR"), (64, "NOFREE"), (128, "COROUTINE"), (256, "ITERABLE_COROUTINE"), (512, "ASYNC_GENERATOR")]
noncomputable def ZdC (i : Int) (y : Str) : Str := match ZaG.find? fun p => p.1 = i with
 | some p => p.2
 | none => y
noncomputable def D.flagGet (f g : DE) : DE := fun σ B => match f σ B with
 | some (.int i, B₁) => match g σ B₁ with
  | some (.str y, B₂) => some (.str (ZdC i y), B₂)
  | _ => none
 | _ => none
noncomputable def Zhl (G : GC) : Prop := ∃ a kvs, YW G "COMPILER_FLAG_NAMES" (.ref a) /\ ¬ G.Tb a /\ (a == sysModules) = false /\ G.H0.DictOf (intKind G.prog G.w) a kvs /\ ∃ ts : List Tok, kvs = List.zipWith (fun (p : Int × Str) t => (p.1, Value.str p.2 t)) ZaG ts /\ ts.length = 10
noncomputable def D.pairs : List (DE × DE) -> St -> Bx -> List Str -> List V -> Option (V × Bx)
 | [], _, B, ks, vs => some (.dict ks vs, B)
 | (f, g) :: r, σ, B, ks, vs => match f σ B with
  | some (.str x, B₁) => match g σ B₁ with
   | none => none
   | some (d, B₂) => match D.pairs r σ B₂ ks vs with
    | none => none
    | some z => some z
  | _ => none
noncomputable def D.pairRow : List (DE × DE) -> St -> Bx -> Option (List (Str × V) × Bx)
 | [], _, B => some ([], B)
 | (f, g) :: r, σ, B => match f σ B with
  | some (.str x, B₁) => match g σ B₁ with
   | none => none
   | some (d, B₂) => match D.pairRow r σ B₂ with
    | none => none
    | some (ps, B3) => some ((x, d) :: ps, B3)
  | _ => none
noncomputable def Zeu : List (Str × V) -> List Str × List V -> List Str × List V
 | [], a => a
 | (x, d) :: r, a => Zeu r (JP a.1 a.2 x d)
noncomputable def D.dict (fs : List (DE × DE)) : DE := fun σ B => match D.pairRow fs σ B with
 | none => none
 | some (ps, B₁) => some (.dict (Zeu ps ([], [])).1 (Zeu ps ([], [])).2, B₁)
noncomputable def Zf5 (B : Bx) (d : V) (l u : Option Int) : Option V := match Zx B d with
 | some xs => if ZH xs.length then some (.list (Zic xs l u)) else none
 | none => none
section
variable {G : GC} {C : Cx} {β β' : List Addr} {B B' B₁ B₂ B3 : Bx} {σ : St} {s s' : Shared} {H : Nat} {d d₁ acc : V} {v : Value} {b : Bool} {ds : List V} {ow : Addr -> Prop} {r : Out} {k : K}
set_option tactic.hygienic true in
theorem Zme {e : Expr} {f : DE} {pi pt pos : Pos} (hf : Den G H k e f) (hn : Ji e = true) (hki : k.kind "isinstance" = some .globalImplicit) (hkt : k.kind "tuple" = some .globalImplicit) (hti : YW G "isinstance" (.builtin "isinstance"))
  (htt : YW G "tuple" (.type "tuple")) : Den G H k (.Call (.Name "isinstance" pi) [e, .Name "tuple" pt] [] pos) (D.isTup f) := .mk fun C O F σ B d B' h => by
 refine mE h fun d₁ B₁ h1 h => ?_;refine Ze (Option.map_eq_some_iff.mp h) fun c hc hh => ?_
 cases hh
 intro A β s hA I E;refine wpAny_Call_NameR (ZaH O I (by rw [F.kind]; exact hki) hti (by rfl) (Calls.callWith_builtin (by rw [ZL hn, Yh]; rfl) ?_));rw [ZL hn, Yh];refine evalArgs_plain (spliced_cons ((hf.ok C O F _ _ _ _ h1 A β s hA I).t3 fun v s'1 β1 a'1 i'1 r'1 => spliced_cons ?_));refine ZaH O i'1 (by rw [F.kind]; exact hkt) htt (by rfl) (spliced_nil ?_);refine (?_ : wpAny _ A (call (.builtin "isinstance") [v, .type "tuple"]) _ E s'1);have S := r'1.sh;clear r'1
 cases d₁ with
 | tup xs =>
  refine Xs S fun a vs m ev e4 n4 q4 => ?_;rw [ev, <- Option.some.inj hc];exact call_isinstance_yes (Tx := "tuple") ⟨_, e4, rfl⟩ PySem.F.isi_meta_tuple AutoSeq1.sub_tuple_tuple ((Zv.ofExt i'1 (Ext.refl _) (.bool _)).from a'1)
 | int i =>
  obtain ⟨t, ev⟩ := S;rw [ev, <- Option.some.inj hc];exact IsiPair.int_tuple ((Zv.ofExt i'1 (Ext.toks _ _) (.bool _)).from a'1)
 | _ => exact nn hc
theorem ZjI {ts : List Tok} (h : ts.length = 10) (i : Int) (y : Str) (u : Tok) : ∃ t, (valueAt (List.zipWith (fun (p : Int × Str) t => (p.1, Value.str p.2 t)) ZaG ts) i).getD (.str y u) = .str (ZdC i y) t := by
 unfold valueAt ZdC
 have key : ∀ (l : List (Int × Str)) (ts : List Tok), l.length <= ts.length -> ∃ t, (((List.zipWith (fun (p : Int × Str) t => (p.1, Value.str p.2 t)) l ts).find? fun kv => kv.1 = i).map (·.2)).getD (.str y u) = .str (match l.find? fun p => p.1 = i with | some p => p.2 | none => y) t := by
  intro l
  induction l with
  | nil => intro ts _; exact ⟨u, rfl⟩
  | cons p l ih =>
   intro ts hl
   cases ts with
   | nil => simp at hl
   | cons t ts =>
    by_cases hp : p.1 = i
    ·exact ⟨t, by simp [hp]⟩
    ·obtain ⟨t', ht'⟩ := ih ts (by simpa using hl)
     exact ⟨t', by simpa [hp] using ht'⟩
 exact key ZaG ts (by rw [h]; decide)
set_option tactic.hygienic true in
theorem ZiQ {e'1 e'2 : Expr} {f g : DE} {pn apos pos : Pos} (hf : Den G H k e'1 f) (hg : Den G H k e'2 g) (hn1 : Ji e'1 = true) (hn2 : Ji e'2 = true) (hl : (apos.endLine == pos.line) = true)
  (hk : k.kind "COMPILER_FLAG_NAMES" = some .globalImplicit) (hF : Zhl G) : Den G H k (.Call (.Attribute (.Name "COMPILER_FLAG_NAMES" pn) "get" apos) [e'1, e'2] [] pos) (D.flagGet f g) := .mk fun C O F σ B d B' h => by
 unfold D.flagGet at h
 split at h
 ·rename_i i B₁ h1
  split at h
  ·rename_i y B₂ h2
   cases h
   intro A β s hA I E;obtain ⟨a, kvs, htop, hT, hs, hd, ts, rfl, hts⟩ := hF;have R : Row G H C σ B [e'1, e'2] [.int i, .str y] B' := .cons _ _ _ _ _ _ _ hn1 (hf.ok C O F _ _ _ _ h1) (.cons _ _ _ _ _ _ _ hn2 (hg.ok C O F _ _ _ _ h2) (.nil _));have move : ∀ {s'1 : Shared}, Wd G s'1 -> s'1.heap.DictOf (intKind G.prog G.w) a _ := fun W => let ⟨o, es, ep, ho, r⟩ := hd; ⟨o, es, ep, W.keep _ _ ho hT, r⟩
   refine wpAny_Call_method (T := "dict") (id := "dict.get") (Zhw rfl) ?_ hl PySem.F.plainAttrs_dict PySem.F.slot_dict_get PySem.F.type_dict_get ?_
   ·rw [R.all]; rfl
   ·refine ZaH O I (by rw [F.kind]; exact hk) htop (by rfl) ⟨(move I.wd).typeIs, (move I.wd).mapOf.noDict, Calls.callWith_builtin R.plain ?_⟩
    have := R.evs O (pos := pos) A β s hA I;rw [ZL hn1, Yh] at this ⊢;refine evalArgs_plain (this.t3 fun vs s'1 β1 a'1 i'1 r'1 => ?_);refine Xh (Xr r'1) fun v u z_2 r1 r2 => ?_;subst z_2;obtain ⟨t1, rfl⟩ := Zu r1;obtain ⟨t2, rfl⟩ := Z9 r2;refine call_meetsIn PySem.F.slot_dict_get (move i'1.wd).typeIs PySem.F.entry_dict_get (PySem.F.args_dict_get_3 _ _ _) (meets_dict_get_default (intKind G.prog G.w) a (intKind_is G.prog G.w i t1) hs _) ⟨_, (move i'1.wd).mapOf, ?_⟩;obtain ⟨t, ht⟩ := ZjI hts i y t2;rw [ht];exact (Zv.ofExt i'1 (Ext.toks _ _) (.str _ _)).from a'1
  ·exact nn h
 ·exact nn h
inductive Zdg (G : GC) (H : Nat) (k : K) : List (Option Expr) -> List Expr -> List (DE × DE) -> Prop
 | nil : Zdg G H k [] [] []
 | cons {e e' : Expr} {ks : List (Option Expr)} {es : List Expr} {f f' : DE} {fs : List (DE × DE)} : Den G H k e f -> Den G H k e' f' -> Zdg G H k ks es fs -> Zdg G H k (some e :: ks) (e' :: es) ((f, f') :: fs)
noncomputable def prs (env : Env) (pos : Pos) : List (Option Expr) -> List Expr -> List (Sem Value × Sem Value)
 | some e :: ks, e' :: es => (eval e env, do let x <- eval e' env; standAt pos; pure x) :: prs env pos ks es
 | _, _ => []
theorem Zdg.shape {ks : List (Option Expr)} {es : List Expr} {fs : List (DE × DE)} (h : Zdg G H k ks es fs) (env : Env) (pos : Pos) :
  (evalEachOpt ks env).zip ((evalEach es env).map fun v => do let x <- v; standAt pos; pure x) = (prs env pos ks es).map fun p => (some p.1, p.2) := by
 induction h with
 | nil => rfl
 | cons _ _ _ ih =>
  show (some (eval _ env), _) :: _ = _;simp only [prs, List.map_cons];rw [<- ih];rfl
theorem Zdg.len {ks : List (Option Expr)} {es : List Expr} {fs : List (DE × DE)} (h : Zdg G H k ks es fs) (env : Env) (pos : Pos) : (prs env pos ks es).length = fs.length := by
 induction h with
 | nil => rfl
 | cons _ _ _ ih => simp [prs, ih]
set_option tactic.hygienic true in
theorem Zna (O : Zw G C) (F : XI k C) {pos : Pos} {ks : List (Option Expr)} {es : List Expr} {fs : List (DE × DE)} (h : Zdg G H k ks es fs) : ∀ {B : Bx} {ps : List (Str × V)} {B' : Bx} {A : Around} {β : List Addr} {s : Shared},
  D.pairRow fs σ B = some (ps, B') -> AOk H A -> Inv G C β B σ s -> Ok G.prog G.w A (evalPairs (prs C.env pos ks es)) s fun vs s' => ∃ β', Adv G C.mu β s β' s' /\ Inv G C β' B' σ s' /\
   ∃ kvs : List (Str × Value), Carries (PySem.strKind G.prog G.w) vs kvs /\ kvs.map (·.1) = ps.map (·.1) /\ Zd G (avB C.av β') β' s'.heap (kvs.map (·.2)) (ps.map (·.2)) := by
 induction h with
 | nil => intro B ps B' A β s h hA I E; cases h; exact evalPairs_nil ⟨β, .refl, I, [], trivial, rfl, .nil⟩
 | cons hf hf' _ ih =>
  intro B ps B' A β s h hA I E;simp only [D.pairRow] at h
  split at h
  ·rename_i x B₁ h1
   refine mE h fun d B₂ h2 h => ?_;refine mP h fun ps' B3 h3 h => ?_
   cases h
   refine evalPairs_cons ((hf.ok C O F _ _ _ _ h1 A β s hA I).t3 fun kv s'1 β1 a'1 i'1 r'1 => wpAny_bind ((hf'.ok C O F _ _ _ _ h2 A β1 s'1 hA i'1).t3 fun vv s'2 β2 a'2 i'2 r'2 => wpAny_bind (wpAny_standAt (wpAny_pure
    ((ih h3 hA i'2).to fun vs s'3 hz => ?_)))))
   refine Xn hz fun β3 a'3 i3 hz => ?_;refine Xn hz fun kvs hc hk hr => ?_;obtain ⟨t, rfl⟩ := Z9 r'1;exact ⟨β3, (a'1.trans a'2).trans a'3, i3, (x, vv) :: kvs, ⟨strKind_is G.prog G.w x t, rfl, hc⟩, by simp [hk], .cons (a'3.e O r'2) hr⟩
  ·exact nn h
theorem Zfz {av : Addr -> Prop} {h : Heap} : ∀ (kvs : List (Str × Value)) (ps : List (Str × V)) (acc : List (Str × Value)) (vs : List V), kvs.map (·.1) = ps.map (·.1) -> Zd G av β h (kvs.map (·.2)) (ps.map (·.2)) -> (acc.map (·.1)).Nodup -> Zd G av β h (acc.map (·.2)) vs ->
  (merged acc kvs).map (·.1) = (Zeu ps (acc.map (·.1), vs)).1 /\ Zd G av β h ((merged acc kvs).map (·.2)) (Zeu ps (acc.map (·.1), vs)).2
 | [], [], acc, vs, _, _, _, hr => by simp only [merged, List.foldl_nil, Zeu]; exact ⟨trivial, hr⟩
 | [], _ :: _, _, _, h, _, _, _ => by simp at h
 | _ :: _, [], _, _, h, _, _, _ => by simp at h
 | (x, v) :: kvs, (y, d) :: ps, acc, vs, h, hrr, hn, hr => by
  simp only [List.map_cons, List.cons.injEq] at h;obtain ⟨rfl, h⟩ := h
  cases hrr with
  | cons r1 rs =>
   obtain ⟨q1, q2⟩ := ZcZ (k := x) hn hr r1
   have hnd : ((stored acc x v).map (·.1)).Nodup := by
    rw [Zeh]
    split
    ·exact hn
    ·rename_i hc
     refine List.nodup_append.mpr ⟨hn, by simp, fun a ha b hb => ?_⟩;rw [List.mem_singleton.mp hb]
     rintro rfl
     exact hc (by rw [List.contains_iff_mem]; exact ha)
   have := Zfz kvs ps (stored acc x v) _ h rs hnd q2;rw [q1] at this;exact this
set_option tactic.hygienic true in
theorem Zgt {ks : List (Option Expr)} {es : List Expr} {fs : List (DE × DE)} {pos : Pos} (h : Zdg G H k ks es fs) (hne : fs ≠ []) (hlen : fs.length <= 15) : Ym G H k (.Dict ks es pos) (D.dict fs) := .mk fun C O F σ B d B' hd => by
 refine mP hd fun ps B₁ hps hd => ?_
 cases hd
 intro A β s hA I E;have x0 := Ext.push s { cls := .type "dict", data := .dict #[] };have how : ∀ a, Yr s.heap.objs.size a -> s.heap.objs.size <= a := fun a z => Nat.le_of_eq z.symm;have I0 := I.more (ow := Yr s.heap.objs.size) x0 fun a z => ⟨how a z, by show a < (s.heap.push _).objs.size; rw [Heap.size_push]; exact z ▸ Nat.lt_succ_self _⟩;have O0 := O.more (Yr s.heap.objs.size);have WD := ZeK O I how;refine wpAny_Dict_pairs (knd := PySem.strKind G.prog G.w) (h.shape C.env pos) (fun e => hne (List.length_eq_zero_iff.mp (by rw [<- h.len C.env pos, e]; rfl))) (by rw [h.len]; exact hlen) ?_;refine (Zna O0 (F.more _) h hps hA I0).to fun vs s'1 hz => ?_;refine Xn hz fun β1 a'1 i'1 hz => ?_;refine Xn hz fun kvs hc hk hr => ?_;have hnew : (s.heap.push { cls := .type "dict", data := .dict #[] }).DictOf (PySem.strKind G.prog G.w) s.heap.objs.size [] := Heap.DictOf.new _
 have hkeep : ∀ o, (s.heap.push { cls := .type "dict", data := .dict #[] }).get? s.heap.objs.size = some o -> s'1.heap.get? s.heap.objs.size = some o := fun o e => a'1.grow.keep _ o e (by
  rintro (z | z)
  ·exact WD.nomu _ rfl z
  ·exact I0.boxes.apart _ z (.inr rfl)) fun ⟨c, z⟩ => absurd (O.gok.tabs c _ z).2.1 (Nat.not_lt.mpr (I.H0 O))
 refine ⟨kvs, hc, Zcd hnew hkeep, fun h' hd' hs' => ?_⟩;refine ZgV (Zf7 (tk := s'1.toks + vs.length) O0 WD i'1 hs') fun _ i'2 _ hk'2 => ?_;obtain ⟨q1, q2⟩ := Zfz kvs ps [] [] hk hr (by simp) .nil;refine ⟨β1, _, rfl, Nat.le_refl _, fun z => Nat.lt_irrefl _ (I.low _ z), ?_, i'2, .dict hd' (Zka O I (Nat.le_refl _)) q1 (Zd.mono hk'2 (fun _ _ z => z) q2)⟩;refine ⟨a'1.pre.imp fun βn ⟨e, hz⟩ => ⟨e, fun a ha => Nat.le_trans x0.size (hz a ha)⟩, fun b o e n t => ?_, ?_⟩
 ·have hb : b ≠ s.heap.objs.size := fun z => Nat.lt_irrefl _ (z ▸ Heap.lt_size e)
  exact (hs'.2 b hb).trans (a'1.grow.keep b o (x0.keep b o e) n t)
 ·show _ <= h'.objs.size
  rw [hs'.1];exact Nat.le_trans x0.size a'1.grow.size
set_option tactic.hygienic true in
theorem Zgm {o : Expr} {lo hi : Option Expr} {p pos : Pos} {f : DE} {fl fu : Option DE} (hn : Zhj o = true) (hf : Den G H k o f) (hl : ∀ e, lo = some e -> ∃ g, fl = some g /\ Den G H k e g) (hl0 : lo = none -> fl = none)
  (hu : ∀ e, hi = some e -> ∃ g, fu = some g /\ Den G H k e g) (hu0 : hi = none -> fu = none) : Den G H k (.Subscript o (.Slice lo hi none p) pos) (D.slice Zf5 f fl fu) := .mk fun C O F σ B d B' h => by
 refine mE h fun a B₁ h1 h => ?_;refine mO h fun l B₂ h2 h => ?_;refine mO h fun u B3 h3 h => ?_;refine Ze (Option.map_eq_some_iff.mp h) fun z hz hh => ?_
 cases hh
 unfold Zf5 at hz
 split at hz
 ·rename_i xs hx
  split at hz
  ·rename_i hs
   cases hz
   refine Znv (B₂ := B₂) O hn (hf.ok C O F _ _ _ _ h1) ?_ ?_ hx hs
   ·cases lo with
    | none => rw [hl0 rfl] at h2; cases h2; exact .none _
    | some e =>
     refine Ze (hl e rfl) fun g z_1 hg => ?_;subst z_1;simp only at h2
     split at h2
     ·cases h2; exact .some _ _ _ _ (hg.ok C O F _ _ _ _ (by assumption))
     ·exact nn h2
   ·cases hi with
    | none => rw [hu0 rfl] at h3; cases h3; exact .none _
    | some e =>
     refine Ze (hu e rfl) fun g z_1 hg => ?_;subst z_1;simp only at h3
     split at h3
     ·cases h3; exact .some _ _ _ _ (hg.ok C O F _ _ _ _ (by assumption))
     ·exact nn h3
  ·exact nn hz
 ·exact nn hz
noncomputable def D.split (f g : DE) : DE := fun σ B => match f σ B with
 | some (.str x, B₁) => match g σ B₁ with
  | some (.str y, B₂) => if ZH (x.length + 2) && decide (y.length ≠ 0) then some (.list ((Txt.split x y).map .str), B₂) else none
  | _ => none
 | _ => none
noncomputable def D.words (f : DE) : DE := fun σ B => match f σ B with
 | some (.str x, B₁) => if ZH x.length && ZH (Builtin.Str.spaceWords x (x.length + 1)).length then some (.list ((Txt.words x).map .str), B₁) else none
 | _ => none
theorem Zfb {av : Addr -> Prop} {h : Heap} : ∀ (tk : Nat) (l : List Str), Zd G av β h (strsFrom tk l) (l.map .str)
 | _, [] => .nil
 | tk, x :: l => .cons (.str x tk) (Zfb (tk + 1) l)
theorem Zix (O : Zw G C) {o : Expr} {nm : Str} {apos pos : Pos} {es : List Expr} {id : String} {x : Str} {A : Around} {E : Value -> Shared -> Prop} {Q : Value -> Shared -> Prop}
  (hA : AOk H A) (I : Inv G C β B σ s) (hb : X3 o = true) (hl : (apos.endLine == pos.line) = true) (hS : PySem.Slot "str" nm id) (hT : typeOf (.builtin id) = pure (.type "method_descriptor")) (h1 : Yu G H C σ B (eval o C.env) (.str x) B₁)
  (R : Row G H C σ B₁ es ds B₂) (hn : es.length < 29)
  (k : ∀ β' s' v vs, Adv G C.mu β s β' s' -> Inv G C β' B₂ σ s' -> Rep G (avB C.av β') β' s'.heap v (.str x) -> Zd G (avB C.av β') β' s'.heap vs ds -> wpAny (model G.prog G.w) A (call (.builtin id) (v :: vs)) Q E s') :
  wpAny (model G.prog G.w) A (eval (.Call (.Attribute o nm apos) es [] pos) C.env) Q E s := Zdl O hA I hb hl PySem.F.plainAttrs_str hS hT h1 Zm9 R hn k
set_option tactic.hygienic true in
theorem Zj2 {o e : Expr} {apos pos : Pos} {f g : DE} (hb : X3 o = true) (hl : (apos.endLine == pos.line) = true) (hns : Ji e = true) (hf : Den G H k o f) (hg : Den G H k e g) :
  Ym G H k (.Call (.Attribute o "split" apos) [e] [] pos) (D.split f g) := .mk fun C O F σ B d B' h => by
 unfold D.split at h
 split at h
 ·rename_i x B₁ h1
  split at h
  ·rename_i y B₂ h2
   split at h
   ·rename_i hs
    cases h
    obtain ⟨hs, hy⟩ := Bool.and_eq_true_iff.mp hs;have hy := of_decide_eq_true hy;have hsx : x.length <= sizeLine := Nat.le_trans (Nat.le_add_right _ 2) (Yy hs);intro A β s hA I E;refine Zix O hA I hb hl PySem.F.slot_str_split PySem.F.type_str_split (hf.ok C O F _ _ _ _ h1) (.cons _ _ _ _ _ _ _ hns (hg.ok C O F _ _ _ _ h2) (.nil _)) (by show 1 < 29; omega) fun β' s' v vs a i r rs => ?_;obtain ⟨t, rfl⟩ := Z9 r;refine Ze (JH rs) fun w z_1 r2 => ?_;subst z_1;obtain ⟨u, rfl⟩ := Z9 r2;have hy' : (y.length == 0) = false := by simpa using hy
    have hlen := split_le x y
    cases c1 : (decide (x.length < y.length) || decide (Builtin.Str.strKind x < Builtin.Str.strKind y))
    ·cases c2 : (Builtin.Str.occurrences x y 0 x.length (x.length + 1)).isEmpty
     ·have e : Txt.split x y = Builtin.Str.partsBetween x (Builtin.Str.occurrences x y 0 x.length (x.length + 1)) y.length := (if_neg (ne_true_of_eq_false c1)).trans (if_neg (ne_true_of_eq_false c2))
      rw [e] at hlen ⊢
      exact call_meets PySem.F.slot_str_split (typeIs_str _ _ _) PySem.F.entry_str_split (PySem.F.args_str_split_2 _ _) (meets_str_split_sep x y t u c1 hy' c2 hsx (Nat.le_trans hlen (Yy hs)))
       ((XL (vs := (strsFrom s'.toks _).toArray) (n := 0) (tk := _) O i (by rw [List.toList_toArray]; exact Zfb _ _)).from a)
     ·have e : Txt.split x y = [x] := (if_neg (ne_true_of_eq_false c1)).trans (if_pos c2)
      rw [e];exact call_meets PySem.F.slot_str_split (typeIs_str _ _ _) PySem.F.entry_str_split (PySem.F.args_str_split_2 _ _) (meets_str_split_not_found x y t u c1 hy' c2) ((XL (vs := #[.str x t]) (n := 0) (tk := s'.toks) O i (.cons (.str x t) .nil)).from a)
    ·have e : Txt.split x y = [x] := if_pos c1
     rw [e];exact call_meets PySem.F.slot_str_split (typeIs_str _ _ _) PySem.F.entry_str_split (PySem.F.args_str_split_2 _ _) (meets_str_split_cannot_occur x y t u c1) ((XL (vs := #[.str x t]) (n := 0) (tk := s'.toks) O i (.cons (.str x t) .nil)).from a)
   ·exact nn h
  ·exact nn h
 ·exact nn h
set_option tactic.hygienic true in
theorem ZjY {o : Expr} {apos pos : Pos} {f : DE} (hb : X3 o = true) (hl : (apos.endLine == pos.line) = true) (hf : Den G H k o f) : Ym G H k (.Call (.Attribute o "split" apos) [] [] pos) (D.words f) := .mk fun C O F σ B d B' h => by
 unfold D.words at h
 split at h
 ·rename_i x B₁ h1
  split at h
  ·rename_i hs
   cases h
   obtain ⟨hs, hz⟩ := Bool.and_eq_true_iff.mp hs;intro A β s hA I E;refine Zix O hA I hb hl PySem.F.slot_str_split PySem.F.type_str_split (hf.ok C O F _ _ _ _ h1) (.nil _) (by decide) fun β' s' v vs a i r rs => ?_;obtain ⟨t, rfl⟩ := Z9 r
   cases rs
   refine call_meets PySem.F.slot_str_split (typeIs_str _ _ _) PySem.F.entry_str_split (PySem.F.args_str_split_1 _) (meets_str_split_space x t (Yy hs) (Yy hz)) ?_
   cases hw : Builtin.Str.spaceWords x (x.length + 1) == [(0, x.length)]
   ·have e : Txt.words x = wordsOf x := if_neg (ne_true_of_eq_false hw)
    rw [e];simp only [Bool.false_eq_true, if_false];exact (XL (vs := (strsFrom s'.toks _).toArray) (n := 0) (tk := _) O i (by rw [List.toList_toArray]; exact Zfb _ _)).from a
   ·have e : Txt.words x = [x] := if_pos hw
    rw [e];simp only [if_true];exact (XL (vs := #[.str x t]) (n := 0) (tk := s'.toks) O i (.cons (.str x t) .nil)).from a
  ·exact nn h
 ·exact nn h
end
noncomputable def ZpJ (sc : List (Str × NameKind)) (ts vs : List Expr) : Option (Option (List Str)) :=
 if !(ts.length == 2 || ts.length == 3) || vs.length != ts.length then some none
 else if vs.any (fun | .Starred .. => true | _ => false) then some none
 else
  let line := (ts.head?.map (·.pos.line)).getD 0
  let names := ts.filterMap fun
   | .Name id pos => if sc.lookup id == some .local && pos.line == line then some id else none
   | _ => none
  if names.length != ts.length || names.eraseDups.length != names.length then some none
  else if vs.all (foldedForSure 8) then some none
  else if vs.all (constantsAlone 8) then none
  else some (some names)
theorem ZhA {α : Type} {c : Prop} [Decidable c] {a r : α} {o : Option α} {T : Sem α} (h : (if c then some a else o) = some r) (k : o = some r -> T = pure r) : (if c then pure a else T) = pure r := by
 by_cases hc : c
 ·rw [if_pos hc] at h ⊢; rw [Option.some.inj h]
 ·rw [if_neg hc] at h ⊢; exact k h
theorem Zuf {α : Type} {x y : Bool} {a r : α} {o : Option α} {T : Sem α} (e : y = false) (h : (if x = true then some a else o) = some r) (k : o = some r -> T = pure r) : (if (x || y) = true then pure a else T) = pure r := by
 rw [e, Bool.or_false];exact ZhA h k
theorem Ztg {α : Type} {c : Prop} [Decidable c] {a r : α} {T : Sem α} (h : (if c then none else some a) = some r) : (if c then T else pure a) = pure r := by
 by_cases hc : c
 ·rw [if_pos hc] at h; exact nn h
 ·rw [if_neg hc] at h ⊢; rw [Option.some.inj h]
theorem Zjn {env : Env} {sc : List (Str × NameKind)} {ts vs : List Expr} {k1 k2 : Nat} {p1 p2 : Pos} {r : Option (List Str)} (hk : env.scope.kind = .function) (hn : env.scope.names = sc) (h : ZpJ sc ts vs = some r) :
  swappedStores [.Tuple ts k1 p1] (.Tuple vs k2 p2) env = pure r := by
 rw [<- hn] at h;have hb : env.blockKind = .function := by unfold Env.blockKind; rw [hk]; rfl
 unfold swappedStores;exact Zuf (by rw [hb]; rfl) h fun h => ZhA h fun h => ZhA h fun h => ZhA h fun h => Ztg h
noncomputable def swB (sc : List (Str × NameKind)) (e : Expr) (t : Str) (p : Pos) : Bool := match e with
 | .ListComp _ _ s q | .DictComp _ _ _ s q => sc.lookup t == some .local && p.line == q.line && !(s.names.any fun x => x.1 == t && (x.2 == .local || x.2 == .cell))
 | _ => false
theorem Zj6 {env : Env} {sc : List (Str × NameKind)} {e : Expr} {t : Str} {p : Pos} {n : Nat} {b : Bool} (hk : env.scope.kind = .function) (hn : env.scope.names = sc) (hs : ∀ a b c d, e ≠ .SetComp a b c d) (h : swB sc e t p = b) :
  swapsWith e (some (.Name t p)) n env = pure b := by
 subst hn;have hb : env.blockKind = .function := by unfold Env.blockKind; rw [hk]; rfl
 cases e with
 | ListComp a g s q =>
  show pure (env.blockKind == .function && env.kindOf t == some .local && p.line == q.line && !(s.names.any _)) = _;rw [hb]; rw [<- h]; rfl
 | DictComp a c g s q =>
  show pure (env.blockKind == .function && env.kindOf t == some .local && p.line == q.line && !(s.names.any _)) = _;rw [hb]; rw [<- h]; rfl
 | SetComp a b c d => exact absurd rfl (hs a b c d)
 | _ => rw [<- h]; rfl
section
variable {G : GC} {C : Cx} {β : List Addr} {B B' B₁ B₂ : Bx} {σ σ' : St} {s s' : Shared} {H H' : Nat} {d d₂ : V} {v : Value} {b : Bool} {ds : List V} {it : Value} {r : Out} {k : K}
set_option tactic.hygienic true in
theorem ZdE {es : List Expr} {n : Nat} {tpos pos : Pos} {e : Expr} {is : List Nat} {f : DE} (hf : Den G H k e f) (hg : Zga k es is)
  (hw : ∀ env : Env, env.scope.kind = .function -> env.scope.names = k.sc -> swappedStores [.Tuple es n tpos] e env = pure none) : Zbn G H k (.Assign [.Tuple es n tpos] e pos) (S.assigns is f) := .mk fun C O F σ B r h => by
 refine mE h fun d B₁ h1 h => ?_;refine mT h fun σ₁ h2 h => ?_
 cases h
 refine ZgN O (hf.ok C O F _ _ _ _ h1) ((Xp hg).ok C O F σ B₁ d _ h2) ?_ (hw _ O.kind F.sc) rfl
 cases e <;> rfl
theorem ZcM {es vs : List Expr} {n k2 : Nat} {tpos p2 pos : Pos} {is : List Nat} {f : DE} (hf : Den G H k (.Tuple vs k2 p2) f) (hg : Zga k es is) (hw : ZpJ k.sc es vs = some none := by kernel_rfl) :
  Zbn G H k (.Assign [.Tuple es n tpos] (.Tuple vs k2 p2) pos) (S.assigns is f) := ZdE hf hg fun _ hk hn => Zjn hk hn hw
theorem ZbB {x : Str} {e : Expr} {px pos : Pos} {f : DE} {i : Nat} (hf : Den G H k e f) (h9 : Nat.beq e.ctorIdx 9 = false := by rfl) (hw : swB k.sc e x px = false := by kernel_rfl) (hx : Zf8 k x i = true := by kernel_rfl) :
  Zbn G H k (.Assign [.Name x px] e pos) (S.assign i f) := ZfK hf (fun _ hk hn => Zj6 hk hn (fun _ _ _ _ e => by rw [e] at h9; cases h9) hw) hx
theorem ZmE (O : Zw G C) (F : XI k C) {es : List Expr} {is : List Nat} (hg : Zga k es is) : ∃ names : List Str, (∀ x ∈ names, x ∈ k.asg) /\ names.map (k.names.idxOf ·) = is /\ (∀ x ∈ names, ZeQ (k.kind x) = true) /\ es.filterMap (fun | .Name id _ => some id | _ => none) = names := by
 induction hg with
 | nil => exact ⟨[], by simp, rfl, by simp, rfl⟩
 | @cons x pos es i is _ hx ih =>
  refine XR (Zcw hx) fun hxa hk hi => ?_;refine Zcf ih fun ns h1 h2 h3 h4 => ?_;clear ih;refine ⟨x :: ns, ?_, by simp [hi, h2], ?_, by simp [h4]⟩
  ·intro y hy
   rcases List.mem_cons.mp hy with rfl | hy
   ·exact hxa
   ·exact h1 y hy
  ·intro y hy
   rcases List.mem_cons.mp hy with rfl | hy
   ·exact hk
   ·exact h3 y hy
theorem ZeT (O : Zw G C) (F : XI k C) : ∀ (names : List Str) (ds : List V) (σ σ' : St), (∀ x ∈ names, x ∈ k.asg) -> (∀ x ∈ names, ZeQ (k.kind x) = true) -> S.sets (names.map (k.names.idxOf ·)) ds σ = some σ' -> ZdB G H C B σ (names.map fun n => bindName C.env n) ds σ'
 | [], [], σ, σ', _, _, h => by cases h; exact .nil _
 | [], _ :: _, σ, σ', _, _, h => by cases h
 | _ :: _, [], σ, σ', _, _, h => by cases h
 | x :: ns, d :: ds, σ, σ', h1, h2, h => by
  simp only [List.map_cons, S.sets] at h;have := Zqq (H := H) (B := B) (σ := σ) (d := d) O (by rw [F.asg]; exact h1 x (.head _)) (by rw [F.kind]; exact Je (h2 x (.head _)));rw [F.names] at this;exact .cons _ _ _ _ _ _ _ this (ZeT O F ns ds _ σ' (fun y hy => h1 y (.tail _ hy)) (fun y hy => h2 y (.tail _ hy)) h)
set_option tactic.hygienic true in
theorem Zdz {es vs : List Expr} {n k2 : Nat} {tpos p2 pos : Pos} {is : List Nat} {f : DE} {names : List Str} (hf : Den G H k (.Tuple vs k2 p2) f) (hg : Zga k es is) (hnames : es.filterMap (fun | .Name id _ => some id | _ => none) = names)
  (hw : ZpJ k.sc es vs = some (some names) := by kernel_rfl) : Zbn G H k (.Assign [.Tuple es n tpos] (.Tuple vs k2 p2) pos) (S.swapped is f) := .mk fun C O F σ B r h => by
 refine mE h fun d B₁ h1 h => ?_;refine mX h fun ds h2 h => ?_
 split at h
 ·rename_i hl
  refine mT h fun σ₁ h3 h => ?_
  cases h
  refine Zcf (ZmE O F hg) fun ns g1 g2 g3 g4 => ?_;rw [hnames] at g4;subst g4;refine Zkj (names := names) O (hf.ok C O F _ _ _ _ h1) h2 (by rw [hl, <- g2, List.length_map]) ?_ rfl (Zjn O.kind F.sc hw);refine ZeT O F names.reverse ds.reverse σ σ₁ (fun x hx => g1 x (List.mem_reverse.mp hx)) (fun x hx => g3 x (List.mem_reverse.mp hx)) ?_;rw [List.map_reverse, g2]; exact h3
 ·exact nn h
set_option tactic.hygienic true in
theorem ZdP {elt : Expr} {g : Comprehension} {rest : List Comprehension} {f : DE} {S : Xy} {Ss : List Xy} {scope : Scope} {pos px spos : Pos} {x : Str} {i : Nat} (hG : ZkB G H k scope g rest S Ss) (hf : Den G H (k.child scope) elt f)
  (hx : Zf8 k x i = true := by kernel_rfl) (hsw : swB k.sc (.ListComp elt (g :: rest) scope pos) x px = true := by kernel_rfl) :
  Zbn G H k (.Assign [.Name x px] (.ListComp elt (g :: rest) scope pos) spos) (Mine.S.assign i (Zq (Ys scope.names).length (emL f) S Ss (.list []))) := .mk fun C O F σ B r h => by
 refine XR (Zcw hx) fun hxa hk hi => ?_;refine mE h fun d B₁ h1 h => ?_
 cases h
 have hs := hG.g.sync;obtain ⟨t, it, fs, a⟩ := g;simp only at hs;subst hs;have := Zk7 (d₂ := d) (B₂ := B₁) (px := px) (spos := spos) Zhg (ZfV hf) hG ZsJ Zg0 O F h1 (by rw [F.asg]; exact hxa) (by rw [F.kind]; exact Je hk) (Zj6 O.kind F.sc (fun _ _ _ _ e => by cases e) hsw) (fun use => rfl) fun C β σ s v s' y _ => y.tree;rw [F.names, hi] at this;exact this
set_option tactic.hygienic true in
theorem ZiD {elt : Expr} {g : Comprehension} {rest : List Comprehension} {f : DE} {S : Xy} {Ss : List Xy} {scope : Scope} {pos px spos : Pos} {x : Str} {i : Nat} (hG : ZkB G H k scope g rest S Ss) (hf : Den G H (k.child scope) elt f)
  (hx : Zf8 k x i = true := by kernel_rfl) (hsw : swB k.sc (.ListComp elt (g :: rest) scope pos) x px = true := by kernel_rfl) :
  Zbn G H k (.Assign [.Name x px] (.ListComp elt (g :: rest) scope pos) spos) (Mine.S.assign i (XE (Zq (Ys scope.names).length (emL f) S Ss (.list [])))) := .mk fun C O F σ B r h => by
 refine XR (Zcw hx) fun hxa hk hi => ?_;refine mE h fun d B₁ h1 h => ?_
 cases h
 refine Ze (Option.map_eq_some_iff.mp h1) fun r hr e => ?_
 cases e
 have hs := hG.g.sync;obtain ⟨t, it, fs, a⟩ := g;simp only at hs;subst hs;have := Zk7 (d₂ := .box r.2.length) (B₂ := r.2 ++ [r.1]) (px := px) (spos := spos) Zhg (ZfV hf) hG ZsJ Zg0 O F hr (by rw [F.asg]; exact hxa) (by rw [F.kind]; exact Je hk) (Zj6 O.kind F.sc (fun _ _ _ _ e => by cases e) hsw) (fun use => rfl) fun C β σ s v s' y h0 => y.box h0;rw [F.names, hi] at this;exact this
set_option tactic.hygienic true in
theorem Jk {es : List Expr} {ts : List DT} (h : ZkS G H k es ts) : ∀ C, Zw G C -> XI k C -> ∀ σ B b B', T.all ts σ B = some (b, B') -> EvB G H C σ B (ZfU es C.env) b B' := fun C O F σ => by
 have off : ∀ (es : List Expr) (env : Env), (forIn es false fun c r => if r = true then do let ok <- PySem.isTrue c env (eval c env); pure (ForInStep.yield ok) else pure (ForInStep.yield r) : Sem Bool) = pure false := by
  intro es env
  induction es with
  | nil => rfl
  | cons e es ih => rw [List.forIn_cons]; simp only [Bool.false_eq_true, if_false, pure_bind]; exact ih
 induction h with
 | nil => intro B b B' h A β s hA I E; cases h; exact wpAny_pure ⟨β, .refl, I, rfl⟩
 | cons h1 _ ih =>
  intro B b B' h A β s hA I E;simp only [T.all] at h;unfold ZfU;rw [List.forIn_cons];simp only [if_true]
  split at h
  ·exact nn h
  ·rename_i B₁ hc
   refine wpAny_bind (wpAny_bind ((h1.ok C O F _ _ _ _ hc A β s hA I).t3 fun c s'1 β1 a'1 i'1 e => ?_));subst e;refine wpAny_pure ?_;exact (ih _ _ _ h A β1 s'1 hA i'1).to fun c' s'2 p => p.from a'1
  ·rename_i B₁ hc
   cases h
   refine wpAny_bind (wpAny_bind ((h1.ok C O F _ _ _ _ hc A β s hA I).t3 fun c s'1 β1 a'1 i'1 e => ?_));subst e;refine wpAny_pure ?_;show wpAny _ _ (forIn _ false _) _ _ _;rw [off];exact wpAny_pure ⟨β1, a'1, i'1, rfl⟩
structure Yx (G : GC) (H : Nat) (x : Str) (F : VF) : Prop where
 at' : ∃ H' g a params body scope, H' <= H /\ Zt5 G g x params body scope a /\ Zp1 G H' a F
theorem YS {x : Str} {es : List Expr} {fs : List DE} {p pos : Pos} {F : VF} (hF : Yx G H x F) (h : ZaK G H k es fs) (hg : ZlF k x = true := by kernel_rfl) (hne : es.isEmpty = false := by rfl) :
  Den G H k (.Call (.Name x p) es [] pos) (D.call F fs) :=
 let ⟨_, _, _, _, _, _, hle, hat, hF⟩ := hF.at'
 ZlQ hF hat hle (Zdk hg).1 (Zdk hg).2 h fun z => by rw [z] at hne; cases hne
structure Zb2 (G : GC) : Prop where
 len : YW G "len" (.builtin "len")
 sum : YW G "sum" (.builtin "sum")
 min : YW G "min" (.builtin "min")
 range : YW G "range" (.type "range")
 hex : YW G "hex" (.builtin "hex")
 int : YW G "int" (.type "int")
 repr : YW G "repr" (.builtin "repr")
 sorted : YW G "sorted" (.builtin "sorted")
 dict : YW G "dict" (.type "dict")
 list : YW G "list" (.type "list")
 set : YW G "set" (.type "set")
 tuple : YW G "tuple" (.type "tuple")
 zip : YW G "zip" (.type "zip")
 isinstance : YW G "isinstance" (.builtin "isinstance")
 marker : ∃ t, YW G "ELLIPSIS_MARKER" (.str "..." t)
 flags : Zhl G
section
variable {G : GC} {H : Nat} {k : K}
theorem Zfg {pos : Pos} (TB : Zb2 G) (hk : k.kind "ELLIPSIS_MARKER" = some .globalImplicit) : Den G H k (.Name "ELLIPSIS_MARKER" pos) (D.const (.str "...")) :=
 let ⟨_, ht⟩ := TB.marker
 Zkr hk ht (by rfl)
end
end
theorem Za1 {G : GC} {H : Nat} {k : K} {g : Comprehension} {S : Xy} (h1 : g.is_async = 0) (h2 : Ze1 S.tp g.target = true) (h3 : Zqi G H k g.target S.tgt) (h4 : Ztn G H k g.ifs S.ifs) : Zet G H k g S :=
 ⟨h1, h2, h3.ok, h4⟩
theorem Yb {G : GC} {H : Nat} {k : K} {g : Comprehension} {x : Str} {p : Pos} {i : Nat} {it : DI} (h1 : g.is_async = 0 := by rfl) (h2 : g.target = .Name x p := by rfl) (h4 : g.ifs = [] := by rfl) (hx : Zf8 k x i = true := by kernel_rfl) : Zet G H k g { it := it, tp := false, tgt := fun d σ => some (σ.set i (some d)), ifs := T.all [] } :=
 ⟨h1, by rw [h2]; rfl, by rw [h2]; exact (ZG hx).ok, by rw [h4]; exact Jk .nil⟩
theorem ZnA {G : GC} {H : Nat} {k : K} {g : Comprehension} {S : Xy} (h1 : ∀ env x, foldedSetIterable g.iter env x = pure x) (h2 : ZiF G H k g.iter S.tp S.it) : ZrN G H k g S :=
 ⟨h1, h2.ok⟩
mutual
noncomputable def ZeD : V -> Option PyData
 | .none => some .none
 | .bool b => some (.bool b)
 | .int i => some (.int i)
 | .str x => some (.str x)
 | .tup xs => (Zem xs).map .tuple
 | .list xs => (Zem xs).map .list
 | _ => none
noncomputable def Zem : List V -> Option (List PyData)
 | [] => some []
 | x :: xs => match ZeD x, Zem xs with
  | some y, some ys => some (y :: ys)
  | _, _ => none
end
noncomputable def Zff (d : V) : Option Str := match ZeD d with
 | some p => if p.showable && decide (p.depth <= 400) && ZH p.shown.length then some p.shown else none
 | none => none
noncomputable def ZhI : V -> Bool
 | .tup _ | .list _ => true
 | _ => false
noncomputable def Zeo : VF := Y4 fun B ds => match ds with
 | [d] => if ZhI d then (Zff d).map .str else none
 | _ => none
section
variable {G : GC} {C : Cx} {β : List Addr} {B B' : Bx} {σ : St} {s s' : Shared} {H : Nat} {d : V} {v : Value} {h : Heap} {av : Addr -> Prop}
theorem Rep.reads (r : Rep G av β h v d) : ∀ p, ZeD d = some p -> p.hasDict = false /\ ∃ as, Reads h v p as :=
 Rep.rec (motive_1 := fun v d _ => ∀ p, ZeD d = some p -> p.hasDict = false /\ ∃ as, Reads h v p as) (motive_2 := fun vs ds _ => ∀ ps, Zem ds = some ps -> PyData.hasDictAll ps = false /\ ∃ as, ReadsAll h vs ps as)
  (fun p e => Option.some.inj e ▸ ⟨by simp only [PyData.hasDict], _, .none⟩) (fun b p e => Option.some.inj e ▸ ⟨by simp only [PyData.hasDict], _, .bool b⟩) (fun i t p e => Option.some.inj e ▸ ⟨by simp only [PyData.hasDict], _, .int i t⟩)
  (fun x t p e => Option.some.inj e ▸ ⟨by simp only [PyData.hasDict], _, .str x t⟩)
  (fun q na r ih p e => Ze (Option.map_eq_some_iff.mp e) fun ys hy z => z ▸ Ze (A := List Addr) (P1 := fun _ => PyData.hasDictAll ys = false) (let ⟨h1, as, h2⟩ := ih ys hy; ⟨as, h1, h2⟩) fun as h1 h2 => ⟨by simp only [PyData.hasDict, h1], _, .tuple q rfl rfl h2⟩)
  (fun q na r ih p e => Ze (Option.map_eq_some_iff.mp e) fun ys hy z => z ▸ Ze (A := List Addr) (P1 := fun _ => PyData.hasDictAll ys = false) (let ⟨h1, as, h2⟩ := ih ys hy; ⟨as, h1, h2⟩) fun as h1 h2 => ⟨by simp only [PyData.hasDict, h1], _, .list q rfl rfl h2⟩)
  (fun _ _ _ _ _ _ p e => nn e) (fun _ p e => nn e) (fun _ _ p e => nn e) (fun _ _ _ _ _ _ _ p e => nn e)
  (fun ps e => Option.some.inj e ▸ ⟨by simp only [PyData.hasDictAll], _, .nil⟩)
  (fun {v d vs ds} r rs ih ihs ps e => by
   unfold Zem at e
   split at e
   ·rename_i e1 e2
    rw [<- Option.some.inj e];obtain ⟨h1, as, h2⟩ := ih _ e1;obtain ⟨h3, bs, h4⟩ := ihs _ e2;exact ⟨by simp only [PyData.hasDictAll, h1, h3, Bool.or_self], _, .cons h2 h4⟩
   ·exact nn e) r
theorem ZqQ (r : Rep G av β h v d) (hq : ZhI d = true) : ∃ a, v = .ref a := by
 have S := r.sh
 cases d with
 | tup xs => obtain ⟨a, _, _, e, _⟩ := S; exact ⟨a, e⟩
 | list xs => obtain ⟨a, _, _, e, _⟩ := S; exact ⟨a, e⟩
 | _ => cases hq
set_option tactic.hygienic true in
theorem Zqk {x : Str} (hq : ZhI d = true) (hd : Zff d = some x) : OpN G H B B (fun vs => call (.builtin "repr") vs) [d] (.str x) := fun C σ A β s vs O hA I rr E => by
 refine Ze (JH rr) fun v z_1 r => ?_;subst z_1;unfold Zff at hd
 split at hd
 ·rename_i p hp
  split at hd
  ·rename_i hc
   cases hd
   simp only [Bool.and_eq_true, decide_eq_true_eq] at hc;obtain ⟨a, rfl⟩ := ZqQ r hq;obtain ⟨hn, as, hr⟩ := Rep.reads r _ hp;refine (Ok.ext (P := fun v s' => ∃ t, v = .str p.shown t) fun E => repr_of_reads' hr hc.1.1 (PyData.noDict_hsm hn) hA.guards (by have h1 := hA.units; have h2 := hc.1.2; show _ < 9900; omega) (fun _ _ e => e) (fun h' u tk hk => ⟨⟨hk, rfl, rfl⟩, u, rfl⟩) (Yy hc.2)).to fun v s' ⟨x, t, hv⟩ => ?_;subst hv;exact Zv.ofExt I x (.str _ _)
  ·exact nn hd
 ·exact nn hd
theorem Zh4 : ∀ B ds d B', Zeo B ds = some (d, B') -> OpN G H B B' (fun vs => call (.builtin "repr") vs) ds d := by
 intro B ds d B' h;replace h := Yt h;obtain ⟨h, rfl⟩ := h
 split at h
 ·split at h
  ·rename_i hq
   refine Ze (Option.map_eq_some_iff.mp h) fun x hx z_2 => ?_;subst z_2;exact Zqk hq hx
  ·exact nn h
 ·exact nn h
end
open PySem PySem.Calls PyProof.Rows
noncomputable def Zbe (ks : List Str) (ds : List V) : List V := (ks.zip ds).map fun p => .tup [.str p.1, p.2]
noncomputable def D.listItems (f : DE) : DE := fun σ B => match f σ B with
 | some (.dict ks ds, B') => if ZH ks.length then some (.list (Zbe ks ds), B') else none
 | _ => none
section
variable {G : GC} {C : Cx} {β : List Addr} {B B' B₁ : Bx} {σ : St} {s s' : Shared} {H : Nat} {d : V} {ds : List V} {v : Value} {h h' : Heap} {av : Addr -> Prop} {k : K} {tk : Nat}
theorem Zmn {vs : List Value} {ds : List V} (hl : vs.length = ds.length) (hp : ∀ (i : Nat) v d, vs[i]? = some v -> ds[i]? = some d -> Rep G av β h v d) : Zd G av β h vs ds := by
 induction vs generalizing ds with
 | nil => cases ds with
  | nil => exact .nil
  | cons => simp at hl
 | cons v vs ih => cases ds with
  | nil => simp at hl
  | cons d ds => exact .cons (hp 0 v d rfl rfl) (ih (by simpa using hl) fun i v d h1 h2 => hp (i + 1) v d (by simpa using h1) (by simpa using h2))
theorem Zqs {k : Str} {key : Value} (hk : (PySem.strKind G.prog G.w).is k key = true) : ∃ t, key = .str k t := by
 have : Value.isStrOf k key = true := hk
 cases key <;> simp [Value.isStrOf] at this
 subst this; exact ⟨_, rfl⟩
theorem ZmS {as : List Addr} {kvs : List (Str × Value)} {lo : Addr} (g : PySem.W.KdxG (PySem.strKind G.prog G.w) kvs lo h as) (hl : as.length = kvs.length) (hn : ∀ a ∈ as, ¬ av a) (r : Zd G av β h (kvs.map (·.2)) ds) :
  Zd G av β h (as.map Value.ref) (Zbe (kvs.map (·.1)) ds) := by
 have hlen := r.length;rw [List.length_map] at hlen;refine Zmn (by simp [Zbe, hl, hlen]) fun i v d h1 h2 => ?_;rw [List.getElem?_map] at h1;refine Ze (Option.map_eq_some_iff.mp h1) fun a ha z_2 => ?_;subst z_2;refine Y7 (g.pairs i a ha) fun key kx x e1 e2 e3 => ?_;obtain ⟨t, rfl⟩ := Zqs e2;unfold Zbe at h2;rw [List.getElem?_map] at h2;refine Ze (Option.map_eq_some_iff.mp h2) fun p hp z_2 => ?_;subst z_2;rw [List.getElem?_zip_eq_some, List.getElem?_map, e1] at hp;obtain ⟨hp1, hp2⟩ := hp;have hp1 : kx = p.1 := Option.some.inj hp1;have hr := Zg7 r i x p.2 (by rw [List.getElem?_map, e1]; rfl) hp2;exact .tup (vs := #[.str kx t, x]) (n := 0) e3 (hn a (List.mem_of_getElem? ha)) (.cons (hp1 ▸ .str _ _) (.cons hr .nil))
set_option tactic.hygienic true in
theorem Zf9 {o : Expr} {f : DE} {p'1 apos p'3 pos : Pos} (hkl : k.kind "list" = some .globalImplicit) (htl : YW G "list" (.type "list")) (hb : X3 o = true) (hl : (apos.endLine == p'3.line) = true)
  (hf : Den G H k o f) : Den G H k (.Call (.Name "list" p'1) [.Call (.Attribute o "items" apos) [] [] p'3] [] pos) (D.listItems f) := .mk fun C O F σ B d B' hh => by
 unfold D.listItems at hh
 split at hh
 ·rename_i ks ds B₁ h1
  split at hh
  ·rename_i hsh
   cases hh
   intro A β s hA I
   have main : Ok G.prog G.w A (eval (.Call (.Name "list" p'1) [.Call (.Attribute o "items" apos) [] [] p'3] [] pos) C.env) s
     (fun v s' => ∃ β1 s'1 a, Adv G C.mu β s β1 s'1 /\ Inv G C β1 B' σ s'1 /\ Ext s'1 s' /\ v = .ref a /\ s'1.heap.objs.size <= a /\ ∃ vs n, s'.heap.get? a = some (YO vs n) /\ Zd G (avB C.av β1) β1 s'.heap vs.toList (Zbe ks ds)) := by
    intro E;refine wpAny_Call_NameR (ZaH O I (by rw [F.kind]; exact hkl) htl (by rfl) (PySem.callWith_type (by rfl) ?_));refine evalArgs_plain (spliced_cons ?_);refine Zdl O hA I hb hl PySem.F.plainAttrs_dict PySem.F.slot_dict_items PySem.F.type_dict_items (hf.ok C O F _ _ _ _ h1) (ZeI (by rfl)) (.nil B') (by decide) fun β1 s'1 v vs a'1 i'1 r'1 rs => ?_;rw [rs.sh.1 rfl];refine ZbT r'1.sh fun a kvs ev x hs n e r => ?_;rw [ev];clear r'1 rs ev;subst e;obtain ⟨o', ho'⟩ := XV x;refine call_meetsIn PySem.F.slot_dict_items x.typeIs PySem.F.entry_dict_items (PySem.F.args_dict_items_1 _) (meets_dict_items (PySem.strKind G.prog G.w) a hs) ⟨⟨kvs, x⟩, ?_⟩;refine spliced_nil ?_;refine (?_ : wpAny _ A (call (.type "list") [.ref s'1.heap.objs.size]) _ E _);have x1 := Ext.push s'1 { cls := .type "dict_items", data := .fields #[.ref a] };obtain ⟨ep, hd⟩ := (x.push { cls := .type "dict_items", data := .fields #[.ref a] }).dictAt;refine PySem.W.kdx_call (knd := PySem.strKind G.prog G.w) (d := a) (kvs := kvs) (ep := ep) hA.handled ⟨_, Heap.get?_push_size _ rfl, rfl, rfl⟩ hd (by simpa using Yy hsh) fun h' tk acc c as hk hS hlen hG hacc => ?_;have i2 := i'1.ext x1;have hsz : (s'1.heap.push { cls := .type "dict_items", data := .fields #[.ref a] }).objs.size = s'1.heap.objs.size + 1 := by rw [Heap.size_push]
    have hk2 : ∀ b o, s'1.heap.get? b = some o -> h'.get? b = some o := fun b o e => hk b o (x1.keep b o e);refine ⟨β1, s'1, _, a'1, i'1, ⟨hk2, ?_, rfl, rfl⟩, rfl, ?_, acc, c, hS, ?_⟩
    ·have := Heap.lt_size hS
     show s'1.heap.objs.size <= h'.objs.size;rw [hsz] at this; exact Nat.le_of_lt (Nat.lt_of_succ_lt this)
    ·show s'1.heap.objs.size <= (s'1.heap.push _).objs.size
     rw [hsz]; omega
    ·rw [hacc]
     refine ZmS hG hlen (fun b hb => i'1.fresh ?_) (Zd.mono (fun b o e n => ⟨hk2 b o e, n⟩) (fun _ _ z => z) r);have := hG.above b hb;rw [hsz] at this;exact Nat.le_of_lt (Nat.lt_of_succ_lt this)
   refine fun E => main.to fun v s' hz => ?_;refine ZtX hz fun β1 s'1 a a'1 i'1 x hv ha hz => ?_;refine YU hz fun vs n e r => ?_;subst hv;exact (Zv.ofExt i'1 x (.list e (i'1.fresh ha) r)).from a'1
  ·exact nn hh
 ·exact nn hh
end
structure Zgg (G : GC) (K : PySem.W.Frag) (fI fC : Addr) : Prop where
 mem : K.In G.H0
 apart : ∀ a o, K.lookup a = some o -> ¬ G.Tb a
 makes : PySem.W.makesIn K G.tcC = true
 init : PySem.W.findIn K (.ref G.tcC) "__init__" = some (some (.ref fI))
 initT : PySem.W.typeIn K (.ref fI) = some (.type "function")
 ga : PySem.W.findIn K (.ref G.tcC) "__getattribute__" = some (some (.builtin "object.__getattribute__"))
 gat : PySem.W.findIn K (.ref G.tcC) "__getattr__" = some none
 sa : PySem.W.findIn K (.ref G.tcC) "__setattr__" = some (some (.builtin "object.__setattr__"))
 plain : PySem.W.plainOver K G.tcC = true
 taker : PySem.W.takerIn K G.tcC "comp_select_list" = some none
 hasD : PySem.W.hasDictIn K G.tcC = true
 cmp : PySem.W.findIn K (.ref G.tcC) "compare" = some (some (.ref fC))
 cmpT : PySem.W.typeIn K (.ref fC) = some (.type "function")
 sel : PySem.W.findIn K (.ref G.tcC) "comp_select_list" = some none
section
variable {G : GC} {C : Cx} {β : List Addr} {B B' B₁ : Bx} {σ : St} {s s' : Shared} {H : Nat} {d : V} {v : Value} {h : Heap} {av : Addr -> Prop} {k : K} {fI fC : Addr} {K : PySem.W.Frag}
theorem Zgg.mem_at (T : Zgg G K fI fC) (W : Wd G s) : K.In s.heap := fun a o e => W.keep a o (T.mem a o e) (T.apart a o e)
theorem ZkZ (r : Rep G av β h v d) {c : V} (hd : d = .tc c) : ∃ a D od x, v = .ref a /\ h.get? a = some ⟨.ref G.tcC, some D, .plain, #[]⟩ /\ h.get? D = some od /\ Zkp od x /\ Rep G av β h x c := by
 rw [hd] at r;exact Zpv r.sh fun a D od x e1 e2 _ _ e3 e4 e5 => ⟨a, D, od, x, e1, e2, e3, e4, e5⟩
theorem Zkf (r : Rep G av β h v d) : PySem.W.handedIn v = true := by
 have S := r.sh
 cases d with
 | none => rw [show v = _ from S]; rfl
 | bool _ => rw [show v = _ from S]; rfl
 | int _ => obtain ⟨_, e⟩ := S; rw [e]; rfl
 | str _ => obtain ⟨_, e⟩ := S; rw [e]; rfl
 | tup _ => exact Xs S fun _ _ _ e _ _ _ => e ▸ rfl
 | list _ => exact Xs S fun _ _ _ e _ _ _ => e ▸ rfl
 | dict _ _ => exact ZbT S fun _ _ e _ _ _ _ _ => e ▸ rfl
 | box _ => exact Ze S fun _ e _ => e ▸ rfl
 | range _ _ => exact Zlp S fun _ _ _ _ e _ _ => e ▸ rfl
 | tc _ => exact Zpv S fun _ _ _ _ e _ _ _ _ _ _ => e ▸ rfl
theorem Zlt {a D : Addr} {od : Obj} (e : h.get? a = some ⟨.ref G.tcC, some D, .plain, #[]⟩) (eD : h.get? D = some od) : PySem.W.InstAt h a ⟨.ref G.tcC, some D, .plain, #[]⟩ G.tcC (some od) := ⟨e, rfl, rfl, eD⟩
noncomputable def D.tcGet (f : DE) : DE := fun σ B => match f σ B with
 | some (.tc c, B') => some (c, B')
 | _ => none
set_option tactic.hygienic true in
theorem Zmf {n : Str} {np : Pos} {f : DE} {pos : Pos} (T : Zgg G K fI fC) (hf : Den G H k (.Name n np) f) : Den G H k (.Attribute (.Name n np) "comp_select_list" pos) (D.tcGet f) := .mk fun C O F σ B d B' hh => by
 unfold D.tcGet at hh
 split at hh
 ·rename_i c B₁ h1
  cases hh
  intro A β s hA I E;refine PyProof.Rows.Attribute_name ((hf.ok C O F _ _ _ _ h1 A β s hA I).t3 fun v s'1 β1 a'1 i'1 r'1 => ?_);refine Zgs (ZkZ r'1 rfl) fun a D od x z_4 e eD hm r => ?_;subst z_4;refine PySem.W.get_value (T.mem_at i'1.wd) (Zlt e eD) T.ga (PySem.W.findObj_own T.hasD T.sel (by rfl) hm.1) (Zkf r) ?_;exact (Zv.ofExt (s' := { s'1 with toks := s'1.toks + 1 }) i'1 (Ext.toks _ _) r).from a'1
 ·exact nn hh
section
variable {prog : Program} {w : World} {A : Around} {E : Value -> Shared -> Prop} {env : Env}
theorem Zkq {o : Expr} {name : Str} {apos pos : Pos} {args : List Expr} {Q : Value -> Shared -> Prop}
  (hbase : attributeBase o name env (eval o env) = eval o env)
  (hfew : ((backTo pos (starEach args env)).all (fun x => !x.1) && (backToKw pos (keywordEach [] env)).all (fun x => x.1.isSome)
   && decide (args.length + ([] : List Keyword).length + (if ([] : List Keyword).isEmpty then 0 else 1) < 30)) = true)
  (hline : (apos.endLine == pos.line) = true)
  (h : wpAny (model prog w) A (eval o env) (fun ov s'1 => ∃ f, (∀ pl (Q' : Value × List Value -> Shared -> Prop), Q' (.ref f, [ov]) s'1 -> wpAny (model prog w) A (getMethod ov name pl) Q' E s'1) /\ wpAny (model prog w) A (callWith pos (.ref f) [ov] (backTo pos (starEach args env)) []) Q E s'1) E s) :
  wpAny (model prog w) A (eval (.Call (.Attribute o name apos) args [] pos) env) Q E s := by
 rw [arm_eval_Call, hbase];refine wpAny_bind (wpAny_mono h (fun ov s'1 h'1 => ?_) fun _ _ e => e);refine Ze h'1 fun f hg hc => ?_;clear h'1;refine wpAny_bind (wpAny_standAt ?_);have hform : methodCallForm (args.length + ([] : List Keyword).length) (backTo pos (starEach args env)) (backToKw pos (keywordEach [] env)) = true := hfew;have hpos : methodCallPos true o env apos pos = pure pos := by unfold methodCallPos; simp [hline]
 unfold methodCall;rw [hform];refine wpAny_bind (wpAny_holding (hg _ _ ?_));exact wpAny_bind (wpAny_of_eq hpos hc)
end
noncomputable def D.tcCmp (F : VF) (f : DE) (fs : List DE) : DE := fun σ B => match f σ B with
 | some (.tc c, B₁) => match D.row fs σ B₁ with
  | none => none
  | some (as, B₂) => F B₂ (.tc c :: as)
 | _ => none
structure Zo1 (G : GC) (H : Nat) (fC : Addr) (F : VF) : Prop where
 is : ∃ H' g name qual params body scope, H' <= H /\ ZaV G g name qual params body scope fC /\ Zp1 G H' fC F
set_option tactic.hygienic true in
theorem ZmN {o : Expr} {apos pos : Pos} {es : List Expr} {fs : List DE} {f : DE} {F : VF} (T : Zgg G K fI fC) (hC : Zo1 G H fC F) (hb : X3 o = true) (hl : (apos.endLine == pos.line) = true)
  (hf : Den G H k o f) (h : ZaK G H k es fs) (hne : es ≠ []) (hn : es.length < 29) : Den G H k (.Call (.Attribute o "compare" apos) es [] pos) (D.tcCmp F f fs) := .mk fun C O F' σ B d B' hr => by
 unfold D.tcCmp at hr
 split at hr
 ·rename_i c B₁ h1
  refine mR hr fun as B₂ has hr => ?_;intro A β s hA I E;have R := h.row O F' has;refine Zkq (Zhw hb) ?_ hl ?_
  ·rw [R.all]
   show (true && true && decide (es.length + 0 + 0 < 30)) = true
   simpa using (by omega : es.length < 30)
  ·refine (hf.ok C O F' _ _ _ _ h1 A β s hA I).t3 fun v s'1 β1 a'1 i'1 r'1 => ?_
   refine Zgs (ZkZ r'1 rfl) fun a D od x z_4 e eD hm r => ?_;subst z_4;refine ⟨fC, fun pl Q' hq => PySem.W.method_fn (T.mem_at i'1.wd) (Zlt e eD) T.ga T.gat T.cmp T.cmpT (by show (PySem.W.lookIn "compare" od).map (·.isSome) = some false; rw [hm.2]; rfl) hq, ?_⟩;obtain ⟨H', g, name, qual, params, body, scope, hle, ⟨oF, pm, cd, doc, cc, ho, hTb, hdat, _⟩, hF⟩ := hC.is;refine Calls.callWith_function (o := oF) (fd := methDef name qual params body scope pm cd doc) ?_
   cases R with
   | nil => exact absurd rfl hne
   | cons _ B1 _ e1 es' d' ds' hn' h1' hr' =>
    have := (Row.cons B₁ B1 B₂ e1 es' d' ds' hn' h1' hr').evs O (pos := pos) A β1 s'1 hA i'1;rw [ZL hn', Yh] at this ⊢;exact evalArgs_plain (this.t3 fun vs s'2 β2 a'2 i'2 r'2 => ⟨⟨i'2.wd.keep _ _ ho hTb, hdat⟩, (hF _ _ _ _ hr C σ (A) β2 s'2 (.ref a :: vs) O (hA.le hle) i'2 (.cons (a'2.e O r'1) r'2)).to fun v s'3 q => (q.from a'2).from a'1⟩)
 ·exact nn hr
end
structure ZrL (G : GC) (fI : Addr) : Prop where
 is : ∃ (g : Bool) (name qual : Str) (params : Arguments) (scope : Scope) (p1 p2 p3 p4 : Pos), ZaV G g name qual params [.Assign [.Attribute (.Name "self" p1) "comp_select_list" p2] (.Name "comp_select_list" p3) p4] scope fI /\
  scope.kind = .function /\ scope.isGenerator = false /\ scope.isCoroutine = false /\ scope.names.lookup ("self" : Str) = some .local /\ scope.names.lookup ("comp_select_list" : Str) = some .local /\
  ∀ pm cd doc a b, bindArgs (methDef name qual params [.Assign [.Attribute (.Name "self" p1) "comp_select_list" p2] (.Name "comp_select_list" p3) p4] scope pm cd doc) ⟨[a, b], []⟩ = pure [(("self" : Str), a), (("comp_select_list" : Str), b)]
section
variable {G : GC} {C : Cx} {β : List Addr} {B B' B₁ : Bx} {σ : St} {s : Shared} {H : Nat} {d : V} {v : Value} {h h' : Heap} {k : K} {fI fC : Addr} {K : PySem.W.Frag}
theorem ZrF {kindOf : Str -> Option NameKind} (h1 : kindOf "self" = some .local) (h2 : kindOf "comp_select_list" = some .local) (a b : Value) :
  bindL kindOf [(("self" : Str), a), (("comp_select_list" : Str), b)] (fun _ => none) "comp_select_list" = some b /\ bindL kindOf [(("self" : Str), a), (("comp_select_list" : Str), b)] (fun _ => none) "self" = some a := by
 have hne : ((("self" : Str) = "comp_select_list")) = False := eq_false (by decide +kernel);simp [bindL, h1, h2, hne]
theorem Zo2 (T : Zgg G K fI fC) (N : ZrL G fI) : OpN G (H + 1) B B (fun vs => call (.ref G.tcC) vs) [d] (.tc d) := fun C σ A β s vs O hA I rr E => by
 refine Ze (JH rr) fun v z_1 r => ?_;subst z_1;obtain ⟨g, name, qual, params, scope, p1, p2, p3, p4, ⟨oF, pm, cd, doc, cc, ho, hTb, hdat, hcd, hrec, hTc, hP⟩, hk, hgen, hco, hs, hc, hbind⟩ := N.is;have X := T.mem_at I.wd;have ho' := I.wd.keep _ _ ho hTb
 have hrec' : s.heap.CodeRec cd qual := by
  refine Zdn hrec fun c' oc vs' t e1 e2 e3 e4 => ?_;clear hrec;rw [hcd] at e1
  cases e1
  exact ⟨cc, oc, vs', t, hcd, I.wd.keep _ _ e2 hTc, e3, e4⟩
 have hlim := I.wd.nolimit O.gok;obtain ⟨hh, g, dd, t, os⟩ := s;have kp : ∀ b o, hh.get? b = some o -> ((hh.push PySem.W.emptyDict).push (PySem.W.instObj G.tcC hh.objs.size)).get? b = some o := fun b o e => Heap.get?_push_of_some _ (Heap.get?_push_of_some _ e);refine wpAny_call ?_;refine PySem.W.make_core (PySem.W.makes_of X T.makes) (PySem.W.looks_findIn X T.init) (fun self => PySem.W.bind_fn X self T.initT) (.inl rfl) ?_;refine codeAny_call_cells (fd := methDef name qual params _ scope pm cd doc) (binds := [(("self" : Str), .ref (hh.objs.size + 1)), (("comp_select_list" : Str), v)]) ?_ (kp _ _ ho') hdat (hlim.keeps kp) (hrec'.keeps kp) rfl (hbind pm cd doc _ _) rfl (fun x hx => ?_) (fun s'1 x => ?_) hco hgen hk
 ·show A.depth + 1 < 1000
  have := hA.depth; omega
 ·simp only [List.mem_cons, List.not_mem_nil, or_false] at hx
  rcases hx with rfl | rfl
  ·exact .inl hs
  ·exact .inl hc
 ·have hx1 : ((hh.push PySem.W.emptyDict).push (PySem.W.instObj G.tcC hh.objs.size)).get? (hh.objs.size + 1) = some (PySem.W.instObj G.tcC hh.objs.size) := by rw [<- Heap.size_push hh PySem.W.emptyDict]; exact Heap.get?_push_size _ rfl
  have hx2 : ((hh.push PySem.W.emptyDict).push (PySem.W.instObj G.tcC hh.objs.size)).get? hh.objs.size = some PySem.W.emptyDict := Heap.get?_push_of_some _ (Heap.get?_push_size _ rfl);have hsz : ((hh.push PySem.W.emptyDict).push (PySem.W.instObj G.tcC hh.objs.size)).objs.size = hh.objs.size + 2 := by rw [Heap.size_push, Heap.size_push]
  replace x := x.toInCall;generalize (hh.push PySem.W.emptyDict).push (PySem.W.instObj G.tcC hh.objs.size) = h2 at x hx1 hx2 hsz kp ⊢;have hn := x.ns;have k1 : (callEnvC (methDef name qual params [.Assign [.Attribute (.Name "self" p1) "comp_select_list" p2] (.Name "comp_select_list" p3) p4] scope pm cd doc) h2.objs.size fI).kindOf "self" = some .local := hs;have k2 : (callEnvC (methDef name qual params [.Assign [.Attribute (.Name "self" p1) "comp_select_list" p2] (.Name "comp_select_list" p3) p4] scope pm cd doc) h2.objs.size fI).kindOf "comp_select_list" = some .local := hc;replace hk : (callEnvC (methDef name qual params [.Assign [.Attribute (.Name "self" p1) "comp_select_list" p2] (.Name "comp_select_list" p3) p4] scope pm cd doc) h2.objs.size fI).scope.kind = .function := hk;have hfr := x.fresh;have hkk := x.keep;rw [execs_cons];refine Zei x.same fun hA1 tk1 e1 => ?_;clear x hs hc hbind hdat;generalize callEnvC (methDef name qual params [.Assign [.Attribute (.Name "self" p1) "comp_select_list" p2] (.Name "comp_select_list" p3) p4] scope pm cd doc) h2.objs.size fI = env at hn k1 k2 hk hfr hkk ⊢;have hl : hh.objs.size + 2 <= env.locals := hsz ▸ hfr;have F1 : Fr hh env.locals s'1.heap _ := ⟨hn, fun b o e => hkk _ _ (kp b o e), Nat.le_trans (Nat.le_add_right _ 2) hl⟩
  have N1 : News hh env.locals s'1.heap [(hh.objs.size + 1, PySem.W.instObj G.tcC hh.objs.size), (hh.objs.size, PySem.W.dictOf [] 0)] := by
   intro q hq;rcases List.mem_cons.mp hq with rfl | hq
   ·exact ⟨hkk _ _ hx1, Nat.ne_of_lt hl, by cases e : hh.get? (hh.objs.size + 1) with
     | none => rfl
     | some o => exact absurd (Heap.lt_size e) (Nat.not_lt.mpr (Nat.le_succ _))⟩
   ·rcases List.mem_cons.mp hq with rfl | hq
    ·exact ⟨hkk _ _ hx2, Nat.ne_of_lt (Nat.lt_of_succ_lt hl), by cases e : hh.get? hh.objs.size with
      | none => rfl
      | some o => exact absurd (Heap.lt_size e) (Nat.lt_irrefl _)⟩
    ·nomatch hq
  refine wpAny_bind (plainObj_wpAny_Assign_Attribute ?_);refine wpAny_Name (wpAny_loadName_local hk k2 hn (v := v) (ZrF k1 k2 _ _).1 ?_);refine wpAny_Name (wpAny_loadName_local hk k1 hn (v := .ref (hh.objs.size + 1)) (ZrF k1 k2 _ _).2 ?_);refine PySem.W.set_dict F1 X N1 (PySem.W.InstAt.of_news N1 (.head _) (.tail _ (.head _))) rfl T.sa T.plain T.taker T.hasD (by rfl) rfl (.tail (Nat.succ_ne_self _) (.head (fun _ h => nomatch h))) (by show 1 <= 1000; decide) fun h' F' N' => ?_;refine wpAny_pure ?_;have y1 := (N' _ (.head _)).1;have y2 := (N' _ (.tail _ (.head _))).1;refine ⟨rfl, ?_⟩;subst e1;have X1 : Ext ⟨hh, g, dd, t, os⟩ { (⟨hA1, g, dd, tk1, os⟩ : Shared) with heap := h', toks := tk1 + 2 } := ⟨F'.keep, Nat.le_of_lt (Nat.lt_of_le_of_lt (Nat.le_succ _) (Heap.lt_size y1)), rfl, rfl⟩;exact Zv.ofExt I X1 (.tc y1 (I.fresh (Nat.le_succ _)) (I.fresh (Nat.le_refl _)) y2 ⟨by rfl, by rfl⟩ (Rep.mono (fun b o e n => ⟨F'.keep b o e, n⟩) (fun _ _ z => z) r))
noncomputable def D.tcNew (f : DE) : DE := fun σ B => match f σ B with
 | some (d, B') => some (.tc d, B')
 | none => none
structure Zog (G : GC) (H : Nat) (K : PySem.W.Frag) (fI : Addr) : Prop where
 top : YW G "TupleComp" (.ref G.tcC)
 keep : PySem.W.keepIn K (.ref G.tcC) = true
 new : ZrL G fI
 pos : 1 <= H
set_option tactic.hygienic true in
theorem ZmG {e : Expr} {f : DE} {p pos : Pos} (T : Zgg G K fI fC) (N : Zog G H K fI) (hk : k.kind "TupleComp" = some .globalImplicit) (hn : Ji e = true) (hf : Den G H k e f) :
  Den G H k (.Call (.Name "TupleComp" p) [e] [] pos) (D.tcNew f) := .mk fun C O F σ B d B' hh => by
 unfold D.tcNew at hh
 split at hh
 ·rename_i d₁ B₁ h1
  cases hh
  intro A β s hA I E;refine wpAny_Call_NameR (ZaH O I (by rw [F.kind]; exact hk) N.top (by rfl) ?_);refine PySem.W.callWith_K (T.mem_at I.wd) N.keep ?_ (ZL hn);rw [ZL hn, Yh];refine spliced_cons ((hf.ok C O F _ _ _ _ h1 A β s hA I).t3 fun v s'1 β1 a'1 i'1 r'1 => spliced_nil ⟨T.mem_at i'1.wd, ?_⟩);exact ((Zo2 (H := H - 1) T N.new C σ A β1 s'1 [v] O (hA.le (by have := N.pos; omega)) i'1 (.cons r'1 .nil)).to fun v' s'2 q => q.from a'1)
 ·exact nn hh
end
noncomputable def ZiU (_ : Bx) (d : V) (l u : Option Int) : Option V := match d, l, u with
 | .tup xs, none, some b => if decide (0 <= b) && decide (b < xs.length) && ZH xs.length then some (.tup (xs.take b.toNat)) else none
 | _, _, _ => none
section
variable {prog : Program} {w : World} {A : Around} {E : Value -> Shared -> Prop} {s : Shared}
theorem Zm7 (b n : Nat) (hb : b <= n) : Builtin.Slice.sliceAdjust none (some (b : Int)) 1 (n : Int) = (0, (b : Int)) := by
 unfold Builtin.Slice.sliceAdjust;have h1 : ¬ ((1 : Int) < 0) := by omega
 have h2 : ¬ ((b : Int) < 0) := by omega
 simp only [h1, h2, if_false];congr 1;omega
theorem Zl6 (b : Nat) : Builtin.Slice.slicePlaces 0 (b : Int) 1 = b := by
 unfold Builtin.Slice.slicePlaces;have h1 : (1 : Int) > 0 := by omega
 simp only [h1, if_true, Int.ediv_one]
 split <;> omega
theorem Zey {sl : Addr} {b n : Nat} {u : Tok} {Q : Int × Int × Nat -> Shared -> Prop} (hs : s.heap.IsSliceOf sl .none (.int b u) .none) (hb : b <= n) (h : Q (0, 1, b) s) :
  wpAny (model prog w) A (Builtin.Slice.sliceApplied (.ref sl) (pure (n : Int))) Q E s := by
 refine Xn (id hs) fun os hos hcs hds => ?_;unfold Builtin.Slice.sliceApplied Builtin.Slice.sliceFields;refine wpAny_bind (wpAny_bind (wpAny_field hos hds (x := .none) rfl (wpAny_bind (wpAny_field hos hds (x := .int b u) rfl (wpAny_bind (wpAny_field hos hds (x := .none) rfl (wpAny_pure ?_)))))));refine wpAny_bind (slicePart_none ?_);show wpAny _ _ (if ((1 : Int) == 0) = true then _ else _) _ _ s;rw [if_neg (by decide)];refine wpAny_bind (slicePart_none (wpAny_bind (slicePart_int (wpAny_bind (wpAny_pure ?_)))));show wpAny _ _ (match Builtin.Slice.sliceAdjust none (some (b : Int)) 1 (n : Int) with | (lo, hi) => pure (lo, (1 : Int), Builtin.Slice.slicePlaces lo hi 1)) _ _ s;rw [Zm7 b n hb];show wpAny _ _ (pure ((0 : Int), (1 : Int), Builtin.Slice.slicePlaces 0 (b : Int) 1)) _ _ s;rw [Zl6 b];exact wpAny_pure h
theorem Zp4 (xs : Array Value) (b : Nat) : ((List.range b).filterMap fun (k : Nat) => xs[((0 : Int) + (k : Int) * 1).toNat]?).toArray = (xs.toList.take b).toArray := by
 have e : (fun (k : Nat) => xs[((0 : Int) + (k : Int) * 1).toNat]?) = fun k => xs[0 + k]? := by
  funext k;have : ((0 : Int) + (k : Int) * 1).toNat = 0 + k := by omega
  rw [this]
 rw [e];have := pick_run xs 0 b;rw [List.filterMap_map] at this;have e2 : ((fun x => xs[x]?) ∘ fun x => 0 + x) = fun k => xs[0 + k]? := rfl;rw [e2] at this;rw [this, List.drop_zero]
theorem Zec {t sl : Addr} {items : Array Value} {b : Nat} {u : Tok} {Q : Value -> Shared -> Prop} (ht : IsTup s.heap t items) (hs : s.heap.IsSliceOf sl .none (.int b u) .none) (hb : b < items.size)
  (h : Q (.ref s.heap.objs.size) { s with heap := s.heap.push { cls := .type "tuple", data := .seq (items.toList.take b).toArray } })
  (hsz : items.size <= sizeLine) : wpAny (model prog w) A (getItem (.ref t) (.ref sl)) Q E s := by
 have hdrop : sizeOk (.seq (items.toList.take b).toArray) := by
  show (items.toList.take b).toArray.size <= sizeLine;rw [List.size_toArray, List.length_take, Array.length_toList];omega
 refine Xn (id hs) fun os hos hcs hds => ?_;have hTs : s.TypeIs (.ref sl) "slice" := ⟨os, hos, hcs⟩;unfold getItem
 try with_reducible refine wpAny_holding ?_
 first | refine wpAny_bind (wpAny_pure ?_) | skip
 refine wpAny_bind (wpAny_sequenceKey ht.typeIs (by decide) ?_)
 refine wpAny_bind (wpAny_callSpecial?_slot (name := Str.ofString "__getitem__") ht.typeIs slot_tuple_getitem
  (wpAny_call_entry slot_tuple_getitem ht.typeIs entry_tuple_getitem ?_ (args_tuple_getitem _ _)))
 show wpAny _ _ (Builtin.Tuple.tupleItemsOf (.ref t) >>= _) _ _ s;refine wpAny_bind (tupleItemsOf_ ht ?_);refine wpAny_bind (wpAny_typeOf hTs ?_);rw [if_pos (by decide)];refine wpAny_bind (Zey hs (Nat.le_of_lt hb) ?_)
 have hno : ¬ (((0 : Int) == 0 && (1 : Int) == 1 && b == items.size) = true) := by
  have : (b == items.size) = false := by rw [beq_eq_false_iff_ne]; omega
  rw [this]; simp
 show wpAny _ _ (if ((0 : Int) == 0 && (1 : Int) == 1 && b == items.size) = true then _ else _) _ _ s;rw [if_neg hno, Zp4 items b]
 first
  | exact wpAny_bind (m := Builtin.Tuple.tupleExact _) (wpAny_newObj_type (wpAny_pure ⟨_, rfl, wpAny_pure h⟩) hdrop)
  | exact wpAny_bind (m := Builtin.Tuple.tupleExact _) (wpAny_newObj_type (wpAny_bind (wpAny_pure (wpAny_pure ⟨_, rfl, wpAny_pure h⟩))) hdrop)
  | exact wpAny_bind (wpAny_bind (m := Builtin.Tuple.tupleExact _) (wpAny_newObj_type (wpAny_pure (wpAny_pure ⟨_, rfl, wpAny_pure h⟩)) hdrop))
  | exact wpAny_bind (wpAny_bind (m := Builtin.Tuple.tupleExact _) (wpAny_newObj_type (wpAny_pure ⟨_, rfl, wpAny_pure h⟩) hdrop))
end
section
variable {G : GC} {H : Nat} {k : K}
set_option tactic.hygienic true in
theorem ZhF {o : Expr} {lo hi : Option Expr} {p pos : Pos} {f : DE} {fl fu : Option DE} (hn : Zhj o = true) (hf : Den G H k o f) (hl : ∀ e, lo = some e -> ∃ g, fl = some g /\ Den G H k e g) (hl0 : lo = none -> fl = none)
  (hu : ∀ e, hi = some e -> ∃ g, fu = some g /\ Den G H k e g) (hu0 : hi = none -> fu = none) : Den G H k (.Subscript o (.Slice lo hi none p) pos) (D.slice ZiU f fl fu) := .mk fun C O F σ B d B' h => by
 unfold D.slice at h
 split at h
 ·exact nn h
 ·rename_i a B₁ h1
  split at h
  ·exact nn h
  ·rename_i l B₂ h2
   split at h
   ·exact nn h
   ·rename_i u B3 h3
    refine Ze (Option.map_eq_some_iff.mp h) fun z hz hh => ?_
    cases hh
    unfold ZiU at hz
    split at hz
    ·rename_i xs b
     split at hz
     ·rename_i hs
      cases hz
      simp only [Bool.and_eq_true, decide_eq_true_eq] at hs;obtain ⟨⟨hb0, hb1⟩, hsz⟩ := hs
      have P1 : lo = none /\ B₁ = B₂ := by
       cases lo with
       | none => rw [hl0 rfl] at h2; cases h2; exact ⟨rfl, rfl⟩
       | some e =>
        refine Ze (hl e rfl) fun g z_1 hg => ?_;subst z_1;simp only at h2
        split at h2 <;> cases h2
      obtain ⟨rfl, rfl⟩ := P1
      have P2 : ∃ e, hi = some e /\ Yu G H C σ B₁ (eval e C.env) (.int b) B' := by
       cases hi with
       | none => rw [hu0 rfl] at h3; cases h3
       | some e =>
        refine Ze (hu e rfl) fun g z_1 hg => ?_;subst z_1;simp only at h3
        split at h3
        ·cases h3; exact ⟨e, rfl, hg.ok C O F _ _ _ _ (by assumption)⟩
        ·exact nn h3
      refine Ze P2 fun e z_1 he => ?_;clear P2;subst z_1;intro A β s hA I E;refine wpAny_Subscript_Slice (T := "tuple") slot_tuple_getitem.lookup ((hf.ok C O F _ _ _ _ h1 A β s hA I).t3 fun v s'1 β1 a'1 i'1 r'1 => wpAny_Slice ?_) (Zfl hn);rw [evalPart_none];refine wpAny_pure ?_;rw [evalPart_some];refine (he A β1 s'1 hA i'1).t3 fun vu s'3 β3 a'3 i3 r'3 => ?_;refine wpAny_pure ?_;obtain ⟨t, rfl⟩ := Zu r'3;refine Y7 (ZaS (a'3.e O r'1)) fun ad vs n z_3 e1 q => ?_;subst z_3;have n1 : vs.size = xs.length := by rw [<- q.length]; simp
      have x1 := Ext.push s'3 { cls := .type "slice", data := .fields #[.none, .int b t, .none] };have ht : IsTup (s'3.heap.push { cls := .type "slice", data := .fields #[.none, .int b t, .none] }) ad vs := Rep.isTuple (x1.keep _ _ e1);have hb : ((b.toNat : Nat) : Int) = b := Int.toNat_of_nonneg hb0;refine ⟨ht.typeIs, Zec (b := b.toNat) (u := t) ht (by rw [hb]; exact Heap.IsSliceOf.new ..) (by omega) ?_ (by rw [n1]; exact Yy hsz)⟩;have x2 := Ext.push ({ s'3 with heap := s'3.heap.push { cls := .type "slice", data := .fields #[.none, .int b t, .none] } } : Shared) (Jm (vs.toList.take b.toNat).toArray 0);refine ((Zv.ofExt i3 (x1.trans x2) ?_).from a'3).from a'1;have i4 := i3.ext x1;refine .tup (vs := (vs.toList.take b.toNat).toArray) (n := 0) ?_ (i4.fresh (Nat.le_refl _)) ?_
      ·exact Heap.get?_push_size _ rfl
      ·exact Ext.repAll (x1.trans x2) (by simpa using q.take b.toNat)
     ·exact nn hz
    ·exact nn hz
end
noncomputable def Zno (G : GC) (env : Env) (scope : Scope) (n m : Nat) (g : Bool) : Cx :=
 { env := env, names := Ys scope.names, av := fun a => G.Tb a \/ (n <= a /\ a < m), mu := fun a => n <= a /\ a < m, asg := Ys scope.names, gen := g }
section
variable {G : GC} {s s' : Shared} {H : Nat} {ds : List V}
theorem ZjB (gok : GOk G) (W : Wd G s) (hH : G.H0.objs.size <= s.heap.objs.size) {fd : FuncData} {a : Addr} {ps : List Str} {vs : List Value} (hf : Zbc fd.scope ps = true) (hg : fd.globals = mainGlobals) (hb : fd.builtins = builtinsNs)
  {g : Bool} (hcode : g = true -> ∃ c P, fd.code = .ref c /\ (c, P) ∈ G.tabs) (hps : vs.length = ps.length)
  (rr : Zd G (avB G.Tb []) [] s.heap vs ds) {s'1 : Shared}
  (x : InCallC s (callEnvC fd s.heap.objs.size a).locals (bindL (callEnvC fd s.heap.objs.size a).kindOf (ps.zip vs) fun _ => none) (callEnvC fd s.heap.objs.size a).cells (bindC (callEnvC fd s.heap.objs.size a).kindOf (ps.zip vs) fun _ => none) s'1) :
  Zw G (Zno G (callEnvC fd s.heap.objs.size a) fd.scope s.heap.objs.size s'1.heap.objs.size g) /\
  Inv G (Zno G (callEnvC fd s.heap.objs.size a) fd.scope s.heap.objs.size s'1.heap.objs.size g) [] [] (ZkW fd.scope ps ds) s'1 /\ Ext s s'1 /\
  XI (K.fn fd.scope g) (Zno G (callEnvC fd s.heap.objs.size a) fd.scope s.heap.objs.size s'1.heap.objs.size g) := by
 unfold Zbc at hf;simp only [Bool.and_eq_true, beq_iff_eq, decide_eq_true_eq, List.all_eq_true, Option.isNone_iff_eq_none, Bool.not_eq_true'] at hf;obtain ⟨⟨⟨⟨⟨⟨hk, _⟩, _⟩, hnd⟩, hdbg⟩, hnf⟩, hpar⟩ := hf;have hL : (callEnvC fd s.heap.objs.size a).locals = s.heap.objs.size := rfl;have hcells : (callEnvC fd s.heap.objs.size a).cells = cellsFrom (s.heap.objs.size + 1) fd.scope.names [] := rfl;have hkind : ∀ y, (callEnvC fd s.heap.objs.size a).kindOf y = fd.scope.names.lookup y := fun y => rfl;have hlt : s.heap.objs.size < s'1.heap.objs.size := x.toInCall.ns.lt;refine Zei x.toInCall.same fun h' tk hs1 => ?_;have ext : Ext s s'1 := ⟨x.toInCall.keep, Nat.le_of_lt hlt, by rw [hs1], by rw [hs1]⟩;have h0 := hH;have hcl : ∀ y c, (cellsFrom (s.heap.objs.size + 1) fd.scope.names []).lookup y = some c -> s.heap.objs.size <= c /\ c < s'1.heap.objs.size := fun y c h => ⟨Nat.le_of_lt (x.above y c (mem_of_lookup h)), (x.cell y c h).lt⟩;have hnew : ∀ y, (y, NameKind.cell) ∈ fd.scope.names -> ∃ c, (cellsFrom (s.heap.objs.size + 1) fd.scope.names []).lookup y = some c := fun y hy => let ⟨c, h1, _⟩ := Ja (n₀ := 0) _ _ [] y (.inl hy) (Nat.zero_le _); ⟨c, h1⟩
 have hvar : ∀ y, ZbS (fd.scope.names.lookup y) -> y ∈ Ys fd.scope.names := fun y hy => by
  rcases hy with h | h | h
  ·exact X2.mpr (.inl (Ya h))
  ·exact X2.mpr (.inr (Ya h))
  ·have := hnf _ (Ya h); simp at this
 have htl : ∀ q, G.Tb q -> q < s.heap.objs.size := fun q ⟨c, hq⟩ => Nat.lt_of_lt_of_le (gok.tabs c q hq).2.1 hH;refine ⟨⟨gok, hk, hg, hb, fun a h => .inr h, fun a h => .inl h, ⟨Nat.le_refl _, hlt⟩, fun a h => Nat.le_trans h0 h.1, fun y c _ _ h => hcl y c h, fun y c h => .inr (hcl y c h), fun y z c h1 h2 => ?_, fun y hy => ?_, fun y c h => Nat.le_trans h0 (hcl y c h).1, hvar, hdbg, hcode⟩, ?_, ext, ⟨rfl, rfl, rfl, rfl⟩⟩
 ·exact name_of_addr x.apart (mem_of_lookup h1) (mem_of_lookup h2)
 ·rcases hy with h | h
  ·exact hnew y (Ya h)
  ·have := hnf _ (Ya h); simp at this
 ·refine ⟨W.ext ext, fun q h => ?_, ⟨_, x.toInCall.ns⟩, fun y ya hy => ?_, fun y e hy ky => ?_, ?_, ⟨rfl, List.nodup_nil, (fun _ h => by cases h), (fun _ h => by cases h), fun n a d h => by simp at h⟩⟩
  ·rcases h with h | h
   ·exact Nat.lt_trans (htl q h) hlt
   ·exact h.2
  ·obtain ⟨c, hc⟩ := hnew y (Ya hy)
   exact ⟨c, _, hc, x.cell y c hc⟩
  ·have hpn : ∀ p ∈ ps, p ∈ Ys fd.scope.names := fun p hp => hvar p ((Je (hpar p hp)).elim .inl fun z => .inr (.inl z))
   have hrep : ∀ (i : Nat) (v : Value) (d : V), vs[i]? = some v -> ds[i]? = some d -> Rep G (avB (fun a => G.Tb a \/ (s.heap.objs.size <= a /\ a < s'1.heap.objs.size)) []) [] s'1.heap v d := fun i v d h1 h2 => by
    refine Rep.mono (fun b o e n => ⟨ext.keep b o e, ?_⟩) (fun _ _ z => z) (Zg7 rr i v d h1 h2)
    rintro ((z | z) | z)
    ·exact n (.inl z)
    ·exact absurd (Heap.lt_size e) (Nat.not_lt.mpr z.1)
    ·exact n (.inr z)
   obtain ⟨v, hv, hr⟩ := ZdT (kindOf := (callEnvC fd s.heap.objs.size a).kindOf) (P := fun v d => Rep G (avB (fun a => G.Tb a \/ (s.heap.objs.size <= a /\ a < s'1.heap.objs.size)) []) [] s'1.heap v d) ps vs ds (fun _ => none) (fun _ => none) (List.replicate (Ys fd.scope.names).length none)
    (by simp) hpn hps hrep rr.length.symm (fun y d hy => by
     rw [List.getElem?_replicate] at hy
     split at hy <;> simp at hy) y e hy
   refine ⟨v, ?_, hr⟩
   by_cases hkl : (callEnvC fd s.heap.objs.size a).kindOf y = some .local
   ·rw [if_pos hkl] at hv
    exact .inl ⟨hkl, _, x.toInCall.ns, hv⟩
   ·rw [if_neg hkl] at hv
    have hky : (callEnvC fd s.heap.objs.size a).kindOf y = some .cell := by
     rcases ky with h | h | h
     ·exact absurd h hkl
     ·exact h
     ·have := hnf _ (Ya h); simp at this
    obtain ⟨c, hc⟩ := hnew y (Ya hky);refine .inr ⟨.inl hky, c, hc, ?_⟩;have := x.cell y c hc;rw [hv] at this;exact this
  ·show (st0 _ _ _ _).length = _
   rw [ZcW, List.length_replicate];rfl
theorem Zpw {g : Bool} {name qual : Str} {params : Arguments} {body : List Stmt} {scope : Scope} {a : Addr} {ps : List Str} {f : DS} {B' : Bx} {σ₁ : St} {vs : List Value} {A : Around}
  (gok : GOk G) (W : Wd G s) (hH : G.H0.objs.size <= s.heap.objs.size) (hA : AOk (H + 1) A) (hfn : ZaV G g name qual params body scope a) (hfit : Zbc scope ps = true)
  (hbind : ∀ pm cd doc vs, vs.length = ps.length -> bindArgs (methDef name qual params body scope pm cd doc) ⟨vs, []⟩ = pure (ps.zip vs)) (hbody : Xe G H (K.fn scope g) body f)
  (hrun : f (ZkW scope ps ds) [] = some (.ret (.bool true), σ₁, B')) (hl : ds.length = ps.length) (rr : Zd G (avB G.Tb []) [] s.heap vs ds) :
  codeAny (model G.prog G.w) A (.call (.ref a) ⟨vs, []⟩) (fun r s' => r = .ok (.ret (.bool true)) /\ Wd G s') s := by
 refine Zrj hfn fun o pm cd doc c ho hTa hdat hcd hrec hTc hP0 => ?_;clear hfn;have ho' := W.keep _ _ ho hTa
 have hrec' : s.heap.CodeRec cd qual := by
  refine Zdn hrec fun c' oc vs' t e1 e2 e3 e4 => ?_;clear hrec;rw [hcd] at e1
  cases e1
  exact ⟨c, oc, vs', t, hcd, W.keep _ _ e2 hTc, e3, e4⟩
 have hlen : vs.length = ps.length := by rw [rr.length, hl]
 have hfit' := hfit;unfold Zbc at hfit';simp only [Bool.and_eq_true, beq_iff_eq, decide_eq_true_eq, List.all_eq_true, Option.isNone_iff_eq_none, Bool.not_eq_true'] at hfit';obtain ⟨⟨⟨⟨⟨⟨hk, hgen⟩, hco⟩, hnd⟩, hdbg⟩, hnf⟩, hpar⟩ := hfit';refine codeAny_call_cells (fd := methDef name qual params body scope pm cd doc) (body := body) (binds := ps.zip vs) hA.room ho' hdat (W.nolimit gok) hrec' rfl (hbind pm cd doc vs hlen) rfl (fun x hx => ?_) (fun s'1 x => ?_) hco hgen hk
 ·have hp := hpar x.1 (List.of_mem_zip hx).1
  rcases Je hp with h | h
  ·exact .inl h
  ·refine .inr ⟨h, ?_⟩
   refine Ze (Ja (n₀ := 0) scope.names (s.heap.objs.size + 1) [] x.1 (.inl (Ya h)) (Nat.zero_le _)) fun c h1 _ => ?_;exact Option.isSome_iff_exists.mpr ⟨c, h1⟩
 ·refine ZgV (ZjB gok W hH (fd := methDef name qual params body scope pm cd doc) hfit rfl rfl (fun e => (hP0 e).elim fun P h => ⟨c, P, hcd, h⟩) hlen rr x) fun O1 i'1 x'1 F'1 => ?_
  have hrun := hbody.ok _ O1 F'1 _ _ _ hrun (A.deeper (callEnvC (methDef name qual params body scope pm cd doc) s.heap.objs.size a)) [] s'1 (hA.deeper _) i'1;refine hrun.t3 fun fl s'2 β2 a'2 i'2 q'2 => ?_
  cases fl with
  | ret v =>
   cases q'2
   exact ⟨rfl, i'2.wd⟩
  | _ => exact q'2.elim
theorem Wd.oldK (W : Wd G s) (htab0 : ∀ c P, (c, P) ∈ G.tabs -> G.H0.TableAt c P #[]) : OldK G.H0 s.heap := by
 refine ⟨fun b o e => ?_, fun b o e => ?_⟩
 ·by_cases hb : G.Tb b
  ·obtain ⟨c, hc⟩ := hb
   have t0 := htab0 c b hc;refine Ze (W.tab c b hc) fun ps _ t1 => ?_;have : o = _ := Option.some.inj (e.symm.trans t0.2);subst this;exact .inr (.inl ⟨t0.isCodeTable, rfl, #[], ps, rfl, by rw [t1.2]; simp⟩)
  ·exact .inl (W.keep b o e hb)
 ·by_cases hb : G.Tb b
  ·obtain ⟨c, hc⟩ := hb
   refine Ze (W.tab c b hc) fun ps _ t1 => ?_;exact ⟨_, t1.2⟩
  ·exact ⟨o, W.keep b o e hb⟩
end
noncomputable def mkG (prog : Program) (w : World) (s : Shared) (mg mb : Str -> Option Value) (c P tc : Addr) : GC :=
 { prog := prog, w := w, H0 := s.heap, os0 := s.os, mg := mg, mb := mb, tabs := [(c, P)], tcC := tc }
section
variable {p prog : Program} {loose : List Str} {mean : ExcName -> Option Value} {mg mb : Str -> Option Value} {s : Shared} {w : World} {c P tc : Addr} {K : PySem.W.Frag}
theorem ZfC {q : Addr} : (mkG prog w s mg mb c P tc).Tb q ↔ q = P := by
 unfold GC.Tb mkG;simp only [List.mem_singleton, Prod.mk.injEq];exact ⟨fun ⟨_, _, e⟩ => e, fun e => ⟨c, rfl, e⟩⟩
theorem Zqj (T : Top p loose mean mg mb s.heap) (hc : s.heap.IsCode c P #[]) (ht : s.heap.TableAt c P #[]) : GOk (mkG prog w s mg mb c P tc) := by
 have hP : s.heap.get? P = some { cls := .none, data := .fields #[] } := ht.2
 have ne : ∀ {a m}, s.heap.Ns a m -> ¬ (mkG prog w s mg mb c P tc).Tb a := fun {a m} h z => by
  rw [ZfC.mp z] at h;refine Y7 h fun o es ep e d _ => ?_;clear h;rw [hP] at e; cases e; cases d
 refine Ze T.nodigits fun _ hst _ => ?_;refine ⟨T.g, T.b, ne T.g, ne T.b, T.nolimit, ne hst, fun a b h => ?_, fun a b q h1 h2 => ?_, ?_⟩
 ·simp only [mkG, List.mem_singleton, Prod.mk.injEq] at h
  obtain ⟨rfl, rfl⟩ := h;obtain ⟨⟨o, vs, e, k, d, _⟩, _⟩ := ht;refine ⟨Heap.lt_size e, Heap.lt_size hP, fun z => ?_⟩;rw [ZfC.mp z, hP] at e
  cases e; cases k
 ·simp only [mkG, List.mem_singleton, Prod.mk.injEq] at h1 h2
  exact h1.1.trans h2.1.symm
 ·refine ZbT T.bmain fun bm ob h1 h2 h3 h4 h5 h6 => ?_
  refine ⟨bm, ob, h1, h2, h3, h4, h5, h6, fun z => ?_⟩;rw [ZfC.mp z, hP] at h3
  cases h3; cases h4
theorem Zr4 (hc : s.heap.IsCode c P #[]) (ht : s.heap.TableAt c P #[]) (hg : s.gens = #[]) : Wd (mkG prog w s mg mb c P tc) s := by
 refine ⟨fun _ _ e _ => e, fun a b h => ?_, .of_eq hg, rfl⟩;simp only [mkG, List.mem_singleton, Prod.mk.injEq] at h;obtain ⟨rfl, rfl⟩ := h;exact ⟨_, hc, ht⟩
theorem ZoX (ht : s.heap.TableAt c P #[]) : ∀ a b, (a, b) ∈ (mkG prog w s mg mb c P tc).tabs -> (mkG prog w s mg mb c P tc).H0.TableAt a b #[] := fun a b h => by
 simp only [mkG, List.mem_singleton, Prod.mk.injEq] at h;obtain ⟨rfl, rfl⟩ := h;exact ht
theorem ZkI (X : K.In s.heap) (ht : s.heap.TableAt c P #[]) (hn : K.lookup P = none) : ∀ a o, K.lookup a = some o -> ¬ (mkG prog w s mg mb c P tc).Tb a := fun a o e z => by
 rw [ZfC.mp z, hn] at e; cases e
theorem X7 {G : GC} {K : PySem.W.Frag} (X : K.In G.H0) (ap : ∀ a o, K.lookup a = some o -> ¬ G.Tb a) {a c : Addr} {o oc : Obj} {name qual : Str} {params : Arguments} {body : List Stmt} {scope : Scope} {pm doc : Value} {vs : Array Value} {t : Tok} {g : Bool}
  (e : K.lookup a = some o) (d : o.data = .func (methDef name qual params body scope pm (.ref c) doc)) (ec : K.lookup c = some oc) (dc : oc.data = .fields vs) (hq : vs[1]? = some (.str qual t)) (hg : g = true -> ∃ P, (c, P) ∈ G.tabs) :
  ZaV G g name qual params body scope a :=
 ⟨o, pm, _, doc, c, X _ _ e, ap _ _ e, d, rfl, ⟨c, oc, vs, t, rfl, X _ _ ec, dc, hq⟩, ap _ _ ec, hg⟩
theorem JI (T : Top p loose mean mg mb s.heap) {x : Str} {v : Value} (h1 : (startupNames.contains x || loose.contains x || ((recsOf p).map (·.name)).contains x || ((litsOf p).map (·.1)).contains x || ((clssOf p loose).map (·.name)).contains x || x == "__name__") = false)
  (h2 : bootBuiltins x = some v) : YW (mkG prog w s mg mb c P tc) x v := by
 simp only [Bool.or_eq_false_iff, List.contains_eq_mem, decide_eq_false_iff_not, beq_eq_false_iff_ne] at h1;obtain ⟨⟨⟨⟨⟨a1, a2⟩, a3⟩, a4⟩, a5⟩, a6⟩ := h1;exact .inr ⟨T.free x a1 a2 a3 a4 a5, (T.builtins x a6).trans h2⟩
theorem ZqL {G : GC} {K : PySem.W.Frag} (X : K.In G.H0) (ap : ∀ a o, K.lookup a = some o -> ¬ G.Tb a) {a : Addr} (hm : G.mg "COMPILER_FLAG_NAMES" = some (.ref a)) (hs : (a == sysModules) = false) {n : Nat} {k1 k2 k3 k4 k5 k6 k7 k8 k9 k10 v1 v2 v3 v4 v5 v6 v7 v8 v9 v10 : Tok}
  (e : K.lookup a = some { cls := .type "dict", data := .dict #[⟨1, .int 1 k1, .str "OPTIMIZED" v1⟩, ⟨2, .int 2 k2, .str "NEWLOCALS" v2⟩, ⟨4, .int 4 k3, .str "VARARGS" v3⟩, ⟨8, .int 8 k4, .str "VARKEYWORDS" v4⟩, ⟨16, .int 16 k5, .str "NESTED" v5⟩,
   ⟨32, .int 32 k6, .str "GENERATOR" v6⟩, ⟨64, .int 64 k7, .str "NOFREE" v7⟩, ⟨128, .int 128 k8, .str "COROUTINE" v8⟩, ⟨256, .int 256 k9, .str "ITERABLE_COROUTINE" v9⟩, ⟨512, .int 512 k10, .str "ASYNC_GENERATOR" v10⟩] n }) : Zhl G := by
 refine ⟨a, List.zipWith (fun (p : Int × Str) t => (p.1, Value.str p.2 t)) ZaG [v1, v2, v3, v4, v5, v6, v7, v8, v9, v10], .inl hm, ap _ _ e, hs, ⟨_, _, _, X _ _ e, ⟨rfl, rfl, rfl⟩, rfl, ?_, ?_, ?_⟩, _, rfl, rfl⟩
 ·intro q hq
  simp only [List.mem_toArray, List.mem_cons, List.not_mem_nil, or_false] at hq;rcases hq with rfl | rfl | rfl | rfl | rfl | rfl | rfl | rfl | rfl | rfl
  ·exact ⟨1, rfl, rfl⟩
  ·exact ⟨2, rfl, rfl⟩
  ·exact ⟨4, rfl, rfl⟩
  ·exact ⟨8, rfl, rfl⟩
  ·exact ⟨16, rfl, rfl⟩
  ·exact ⟨32, rfl, rfl⟩
  ·exact ⟨64, rfl, rfl⟩
  ·exact ⟨128, rfl, rfl⟩
  ·exact ⟨256, rfl, rfl⟩
  ·exact ⟨512, rfl, rfl⟩
 ·exact .cons rfl rfl (.cons rfl rfl (.cons rfl rfl (.cons rfl rfl (.cons rfl rfl (.cons rfl rfl (.cons rfl rfl (.cons rfl rfl (.cons rfl rfl (.cons rfl rfl .nil)))))))))
 ·simp only [ZaG, List.zipWith_cons_cons, List.zipWith_nil_left, List.map_cons, List.map_nil]
  decide
end
noncomputable def ZbJ {α : Type} : Nat -> (List α -> Prop) -> Prop
 | 0, P => P []
 | n + 1, P => ∀ v, ZbJ n fun vs => P (v :: vs)
theorem ZbJ.all {α : Type} : ∀ {n : Nat} {P : List α -> Prop}, ZbJ n P -> ∀ vs : List α, vs.length = n -> P vs := by
 intro n
 induction n with
 | zero => intro P h vs e; rw [List.eq_nil_of_length_eq_zero e]; exact h
 | succ n ih => intro P h vs e; cases vs with
  | nil => cases e
  | cons v vs => exact ih (h v) vs (Nat.succ.inj e)
noncomputable def Zbd (k : K) (ps : List Str) (ds : List V) : St := st0 k.names ps ds (List.replicate k.names.length none)
structure Runs (f : DS) (k : K) (ps : List Str) (F : VF) : Prop where
 ok : ∀ B ds d₁ B'', F B ds = some (d₁, B'') -> ds.length = ps.length /\ ∃ d σ₁ B' m, f (Zbd k ps ds) B = some (.ret d, σ₁, B') /\ frz B.length B' m d = some d₁ /\ Zho B.length B B' B''
section
variable {G : GC} {H : Nat}
theorem Zlg {g : Bool} {name qual : Str} {params : Arguments} {body : List Stmt} {scope : Scope} {a : Addr} {ps : List Str} {f : DS} {F : VF} {k : K} (hfn : ZaV G g name qual params body scope a) (hk : K.fn scope g = k) (hfit : Zbc scope ps = true)
  (hbind : ∀ pm cd doc vs, vs.length = ps.length -> bindArgs (methDef name qual params body scope pm cd doc) ⟨vs, []⟩ = pure (ps.zip vs)) (hbody : Xe G H k body f) (R : Runs f k ps F) : Zp1 G (H + 1) a F := fun B ds d B' h => by
 obtain ⟨hl, d0, σ₁, B1, m, hr, hz, hb⟩ := R.ok B ds d B' h;subst hk;exact ZqH hfn hfit hbind hbody hr hz hb hl
theorem Y2 {g : Bool} {name : Str} {params : Arguments} {body : List Stmt} {scope : Scope} {a : Addr} {ps : List Str} {f : DS} {F : VF} {k : K} {H' : Nat} (ht : YW G name (.ref a)) (hfn : ZaV G g name name params body scope a) (hk : K.fn scope g = k) (hfit : Zbc scope ps = true)
  (hbind : ∀ pm cd doc vs, vs.length = ps.length -> bindArgs (methDef name name params body scope pm cd doc) ⟨vs, []⟩ = pure (ps.zip vs)) (hbody : Xe G H k body f) (R : Runs f k ps F) (hle : H + 1 <= H') : Yx G H' name F :=
 ⟨H + 1, g, a, params, body, scope, hle, ⟨ht, hfn⟩, Zlg hfn hk hfit hbind hbody R⟩
end
theorem Zhm {G : GC} {av : Addr -> Prop} {β : List Addr} {h : Heap} {P : Params} : ∀ {ns : List Int} {vs : List Value}, PySem.W.WellAll P h vs (PySem.W.ofPys (ns.map .int)) -> Zd G av β h vs (ns.map .int) := by
 intro xs_
 induction xs_ with
 | nil =>
  intro vs w
  cases w; exact .nil
 | cons n ns ih_ =>
  intro vs w;simp only [List.map_cons, PySem.W.ofPys, PySem.W.ofPy] at w
  cases w with
  | cons a b => cases a; exact .cons (.int _ _) (ih_ b)
theorem Zl2 {G : GC} {av : Addr -> Prop} {β : List Addr} {h : Heap} {P : Params} {ns : List Int} {l : Addr} (w : PySem.W.Well P h (.ref l) (PySem.W.ofPy (.list (ns.map .int))))
  (hn : ∀ q, av q -> ∀ o, h.get? q = some o -> o.cls ≠ .type "list") : Rep G av β h (.ref l) (.list (ns.map .int)) := by
 simp only [PySem.W.ofPy] at w
 cases w with
 | list e r => exact .list e (fun z => hn l z _ e rfl) (Zhm r)
theorem ZmH (xs ys : List PySem.W.WData) : (PySem.W.WShape.has [] (.bool true) .bool && (PySem.W.WTm.eq .res (.lit (.bool true))).holds [] { args := xs, res := some (.bool true), after := ys }) = true := by
 simp [PySem.W.WShape.has, PySem.W.WTm.holds, PySem.W.WTm.value, PySem.W.WShape.arms, PySem.W.same]
theorem Zfk {B B1 : Bx} : Zho B.length B (B ++ B1) B := ⟨rfl, rfl, fun i hi => .inl ⟨List.getElem?_append_left hi, rfl⟩⟩
theorem ZiH {step : V -> St -> Bx -> Option Out} {els : St -> Bx -> Option Out} (P : List V -> St -> Bx -> Prop)
  (hstep : ∀ x xs σ B, P (x :: xs) σ B -> ∃ σ' B', step x σ B = some (.next, σ', B') /\ P xs σ' B') :
  ∀ (xs : List V) (n : Nat) (σ : St) (B : Bx), xs.length < n -> P xs σ B -> ∃ σ' B', P [] σ' B' /\ Jx step els n (.seq xs) σ B = els σ' B'
 | [], 0, σ, B, hn, hP => absurd hn (by simp)
 | [], n + 1, σ, B, hn, hP => ⟨σ, B, hP, rfl⟩
 | x :: xs, 0, σ, B, hn, hP => absurd hn (by simp)
 | x :: xs, n + 1, σ, B, hn, hP => by
  refine YU (hstep x xs σ B hP) fun σ' B' h1 h2 => ?_;obtain ⟨σ'', B'', h3, h4⟩ := ZiH P hstep xs n σ' B' (by simpa using hn) h2;refine ⟨σ'', B'', h3, ?_⟩;simp only [Jx, Src.at, List.head?_cons, h1, Src.adv, List.tail_cons];exact h4
theorem ZgE {it : DI} {tgt : V -> St -> Option St} {body els : DS} {σ : St} {B B₁ : Bx} {xs : List V} (P : List V -> St -> Bx -> Prop)
  (hstep : ∀ x xs σ B, P (x :: xs) σ B -> ∃ σ₁ σ' B', tgt x σ = some σ₁ /\ body σ₁ B = some (.next, σ', B') /\ P xs σ' B') (hit : it σ B = some (.seq xs, B₁)) (hP : P xs σ B₁) :
  ∃ σ' B', P [] σ' B' /\ S.loopS it tgt body els σ B = els σ' B' := by
 unfold S.loopS;simp only [hit];refine ZiH P (fun x xs σ B h => ?_) xs _ σ B₁ (Nat.lt_succ_self _) hP;refine Y7 (hstep x xs σ B h) fun σ₁ σ' B' h1 h2 h3 => ?_;exact ⟨σ', B', by simp only [h1, h2], h3⟩
theorem Jo {α : Type} {it : DI} {tgt : V -> St -> Option St} {body els : DS} {σ : St} {B B₁ : Bx} {L : List α} (f : α -> V) (P : List α -> St -> Bx -> Prop)
  (hstep : ∀ c Lc σ B, P (c :: Lc) σ B -> ∃ σ₁ σ' B', tgt (f c) σ = some σ₁ /\ body σ₁ B = some (.next, σ', B') /\ P Lc σ' B') (hit : it σ B = some (.seq (L.map f), B₁)) (hP : P L σ B₁) :
  ∃ σ' B', P [] σ' B' /\ S.loopS it tgt body els σ B = els σ' B' := by
 refine YU (ZgE (tgt := tgt) (body := body) (els := els) (fun xs σ B => ∃ Lc, xs = Lc.map f /\ P Lc σ B) (fun x xs σ B h => ?_) hit ⟨L, rfl, hP⟩) fun σ' B' h e => ?_
 ·refine Ze h fun Lc hx hp => ?_
  cases Lc with
  | nil => cases hx
  | cons c Lc =>
   refine Y7 (hstep c Lc σ B hp) fun σ₁ σ' B' h1 h2 h3 => ⟨σ₁, σ', B', ?_, h2, Lc, (List.cons.inj hx).2, h3⟩;rw [(List.cons.inj hx).1]; exact h1
 ·refine Ze h fun Lc hx hp => ⟨σ', B', ?_, e⟩
  cases Lc with
  | nil => exact hp
  | cons _ _ => cases hx
theorem Zbo {Y : Type} {it : DI} {tgt : V -> St -> Option St} {body : DS} (n : Nat) (f : Nat -> V) (Sf : Nat -> Y -> St) (Bf : Nat -> Bx) {y0 : Y}
  (hstep : ∀ k y, k < n -> ∃ σ₁ y', tgt (f k) (Sf k y) = some σ₁ /\ body σ₁ (Bf k) = some (.next, Sf (k + 1) y', Bf (k + 1))) (hit : it (Sf 0 y0) (Bf 0) = some (.seq ((List.range n).map f), Bf 0)) :
  ∃ y, S.loopS it tgt body S.skip (Sf 0 y0) (Bf 0) = some (.next, Sf n y, Bf n) := by
 have key : ∀ j k y m, k + j = n -> j < m -> ∃ y', Jx (fun x σ B => match tgt x σ with | none => none | some σ₁ => body σ₁ B) S.skip m (.seq ((List.range' k j).map f)) (Sf k y) (Bf k) = some (.next, Sf n y', Bf n) := by
  intro j
  induction j with
  | zero =>
   intro k y m hk hm
   cases m with
   | zero => cases hm
   | succ m => rw [<- show k = n from hk]; exact ⟨y, rfl⟩
  | succ j ih =>
   intro k y m hk hm
   cases m with
   | zero => cases hm
   | succ m =>
    refine YU (hstep k y (hk ▸ Nat.lt_add_of_pos_right (Nat.succ_pos _))) fun σ₁ y1 h1 h2 => ?_;refine Ziz (ih (k + 1) y1 m (by rw [<- hk, Nat.add_right_comm]; rfl) (Nat.lt_of_succ_lt_succ hm)) fun y2 h3 => ⟨y2, ?_⟩;rw [<- h3];show (match (match tgt (f k) (Sf k y) with | none => none | some σ₁ => body σ₁ (Bf k)) with | some (.next, σ', B') => _ | some (.cont, σ', B') => _ | some (.brk, σ', B') => _ | some (.ret d, σ', B') => _ | none => _) = _;simp only [h1, h2];rfl
 unfold S.loopS;simp only [hit];rw [List.range_eq_range'];exact key n 0 y0 _ (Nat.zero_add n) (by show n < _ + 1; rw [List.length_map, List.length_range']; exact Nat.lt_succ_self n)
section
variable {a b x y : DS} {t : DT} {f g : DE} {σ σ₁ : St} {B B₁ : Bx} {d : V}
theorem Yi (h : a σ B = some (.next, σ₁, B₁)) : S.seq a b σ B = b σ₁ B₁ := by simp [S.seq, h]
theorem ZhL (h : a σ B = some (.ret d, σ₁, B₁)) : S.seq a b σ B = some (.ret d, σ₁, B₁) := by simp [S.seq, h]
theorem ZaT (h : t σ B = some (true, B₁)) : S.ite t x y σ B = x σ B₁ := by simp [S.ite, h]
theorem X4 (h : t σ B = some (false, B₁)) : S.ite t x y σ B = y σ B₁ := by simp [S.ite, h]
theorem Zj4 (h : t σ B = some (true, B₁)) : D.ite t f g σ B = f σ B₁ := by simp [D.ite, h]
theorem Zke (h : t σ B = some (false, B₁)) : D.ite t f g σ B = g σ B₁ := by simp [D.ite, h]
theorem ZD {i : Nat} (h : f σ B = some (d, B₁)) : S.assign i f σ B = some (.next, σ.set i (some d), B₁) := by simp [S.assign, h]
theorem Zfm (h : f σ B = some (d, B₁)) : S.ret f σ B = some (.ret d, σ, B₁) := by simp [S.ret, h]
theorem ZcE (h : f σ B = some (d, B₁)) : S.expr f σ B = some (.next, σ, B₁) := by simp [S.expr, h]
theorem Yd {F : VF} {d' : V} {B₂ : Bx} (h : f σ B = some (d, B₁)) (hF : F B₁ [d] = some (d', B₂)) : D.call F [f] σ B = some (d', B₂) := by simp [D.call, D.row, h, hF]
theorem Zag {F : VF} {d' e : V} {B₂ B3 : Bx} (h : f σ B = some (d, B₁)) (h2 : g σ B₁ = some (e, B₂)) (hF : F B₂ [d, e] = some (d', B3)) : D.call F [f, g] σ B = some (d', B3) := by simp [D.call, D.row, h, h2, hF]
theorem Zdo {F : VF} {k : DE} {d' e c : V} {B₂ B3 B4 : Bx} (h : f σ B = some (d, B₁)) (h2 : g σ B₁ = some (e, B₂)) (h3 : k σ B₂ = some (c, B3)) (hF : F B3 [d, e, c] = some (d', B4)) : D.call F [f, g, k] σ B = some (d', B4) := by simp [D.call, D.row, h, h2, h3, hF]
theorem Zf {op : Bx -> V -> V -> Option V} {e c : V} {B₂ : Bx} (h : f σ B = some (d, B₁)) (h2 : g σ B₁ = some (e, B₂)) (ho : op B₂ d e = some c) : D.bin op f g σ B = some (c, B₂) := by simp [D.bin, h, h2, ho]
theorem Yf {op : Bx -> V -> V -> Option Bool} {e : V} {c : Bool} {B₂ : Bx} (h : f σ B = some (d, B₁)) (h2 : g σ B₁ = some (e, B₂)) (ho : op B₂ d e = some c) : T.cmp op f g σ B = some (c, B₂) := by simp [T.cmp, h, h2, ho]
theorem XC {c : Bool} (h : f σ B = some (d, B₁)) (ho : JC B₁ d = some c) : T.of f σ B = some (c, B₁) := by simp [T.of, h, ho]
theorem XS {isT : Bx -> V -> Bool} {F : VF} {o e c : V} {B₂ B3 : Bx} (h : f σ B = some (o, B₁)) (ht : isT B₁ o = true) (h2 : g σ B₁ = some (e, B₂)) (hF : F B₂ [o, e] = some (c, B3)) : D.meth isT F f [g] σ B = some (c, B3) := by simp [D.meth, D.row, h, ht, h2, hF]
theorem ZnM {isT : Bx -> V -> Bool} {F : VF} {k : DE} {o e e2 c : V} {B₂ B3 B4 : Bx} (h : f σ B = some (o, B₁)) (ht : isT B₁ o = true) (h2 : g σ B₁ = some (e, B₂)) (h3 : k σ B₂ = some (e2, B3)) (hF : F B3 [o, e, e2] = some (c, B4)) : D.meth isT F f [g, k] σ B = some (c, B4) := by simp [D.meth, D.row, h, ht, h2, h3, hF]
theorem Zox {isT : Bx -> V -> Bool} {F : VF} {k k2 : DE} {o e e2 e3 c : V} {B₂ B3 B4 B5 : Bx} (h : f σ B = some (o, B₁)) (ht : isT B₁ o = true) (h2 : g σ B₁ = some (e, B₂)) (h3 : k σ B₂ = some (e2, B3)) (h4 : k2 σ B3 = some (e3, B4)) (hF : F B4 [o, e, e2, e3] = some (c, B5)) : D.meth isT F f [g, k, k2] σ B = some (c, B5) := by simp [D.meth, D.row, h, ht, h2, h3, h4, hF]
theorem Zcr {op : Bx -> V -> V -> Option V} {o i k : DE} {n : Nat} {j d₂ d₃ d₄ : V} {B₂ B3 B4 : Bx} (ho : o σ B = some (.box n, B₁)) (hi : i σ B₁ = some (j, B₂)) (hg : Zc B₂ (.box n) j = some d₂) (hf : k σ B₂ = some (d₃, B3)) (hop : op B3 d₂ d₃ = some d₄)
  (hp : Zcj B3 n j d₄ = some B4) : S.augput op o i k σ B = some (.next, σ, B4) := by simp [S.augput, ho, hi, hg, hf, hop, hp]
theorem Zg1 {o i k : DE} {n : Nat} {j d₁ : V} {B₂ B3 B4 : Bx} (hf : k σ B = some (d₁, B₁)) (ho : o σ B₁ = some (.box n, B₂)) (hi : i σ B₂ = some (j, B3)) (hp : Zcj B3 n j d₁ = some B4) : S.put k o i σ B = some (.next, σ, B4) := by simp [S.put, ho, hi, hf, hp]
theorem ZjE {op : Bx -> V -> V -> Option V} {i : Nat} {d₁ d₂ d₃ : V} (h : σ[i]? = some (some d₁)) (hf : f σ B = some (d₂, B₁)) (hop : op B₁ d₁ d₂ = some d₃) : S.aug op i f σ B = some (.next, σ.set i (some d₃), B₁) := by simp [S.aug, h, hf, hop]
theorem ZQ {src : Src} (h : f σ B = some (d, B₁)) (hs : Zaf B₁ d = some src) : I.val f σ B = some (src, B₁) := by simp [I.val, h, hs]
theorem Zom {x : Str} {e : V} {B₂ : Bx} (h : f σ B = some (.str x, B₁)) (h2 : g σ B₁ = some (e, B₂)) : D.dict [(f, g)] σ B = some (.dict [x] [e], B₂) := by simp [D.dict, D.pairRow, h, h2, Zeu, JP]
theorem Zoe {f2 g2 : DE} {x y : Str} {e e2 : V} {B₂ B3 B4 : Bx} (h : f σ B = some (.str x, B₁)) (h2 : g σ B₁ = some (e, B₂)) (h3 : f2 σ B₂ = some (.str y, B3)) (h4 : g2 σ B3 = some (e2, B4)) (hxy : x ≠ y) : D.dict [(f, g), (f2, g2)] σ B = some (.dict [x, y] [e, e2], B4) := by
 simp [D.dict, D.pairRow, h, h2, h3, h4, Zeu, JP, Ne.symm hxy]
theorem ZdO {e : V} {B₂ : Bx} (h : f σ B = some (d, B₁)) (h2 : g σ B₁ = some (e, B₂)) : D.tup [f, g] σ B = some (.tup [d, e], B₂) := by simp [D.tup, D.row, h, h2]
theorem Zk6 {k : DE} {e c : V} {B₂ B3 : Bx} (h : f σ B = some (d, B₁)) (h2 : g σ B₁ = some (e, B₂)) (h3 : k σ B₂ = some (c, B3)) : D.tup [f, g, k] σ B = some (.tup [d, e, c], B3) := by simp [D.tup, D.row, h, h2, h3]
theorem ZlE {k k2 : DE} {e c c2 : V} {B₂ B3 B4 : Bx} (h : f σ B = some (d, B₁)) (h2 : g σ B₁ = some (e, B₂)) (h3 : k σ B₂ = some (c, B3)) (h4 : k2 σ B3 = some (c2, B4)) : D.tup [f, g, k, k2] σ B = some (.tup [d, e, c, c2], B4) := by simp [D.tup, D.row, h, h2, h3, h4]
theorem Zt {i : Nat} (h : σ[i]? = some (some d)) : D.var i σ B = some (d, B) := by simp [D.var, h]
end
noncomputable def ZbI (f : DS) (σ : St) (B : Bx) (d : V) (B' : Bx) : Prop := ∃ σ₁, f σ B = some (.ret d, σ₁, B')
section
variable {a b x y : DS} {t : DT} {f : DE} {σ σ₁ : St} {B B₁ B' : Bx} {d : V}
theorem Zi (h : a σ B = some (.next, σ₁, B₁)) (k : ZbI b σ₁ B₁ d B') : ZbI (S.seq a b) σ B d B' := let ⟨τ, e⟩ := k; ⟨τ, by rw [Yi h, e]⟩
theorem ZaF (h : ZbI a σ B d B') : ZbI (S.seq a b) σ B d B' := let ⟨τ, e⟩ := h; ⟨τ, ZhL e⟩
theorem YD (h : f σ B = some (d, B')) : ZbI (S.ret f) σ B d B' := ⟨_, Zfm h⟩
theorem ZhH (h : t σ B = some (true, B₁)) (k : ZbI x σ B₁ d B') : ZbI (S.ite t x y) σ B d B' := let ⟨τ, e⟩ := k; ⟨τ, by rw [ZaT h, e]⟩
theorem ZnO (h : t σ B = some (false, B₁)) (k : ZbI y σ B₁ d B') : ZbI (S.ite t x y) σ B d B' := let ⟨τ, e⟩ := k; ⟨τ, by rw [X4 h, e]⟩
end
theorem Jt {f : DS} {k : K} {ps : List Str} {fn : Bx -> List V -> Option V} (h : ∀ B ds d, fn B ds = some d -> ds.length = ps.length /\ ∃ B₁ d'0 m, ZbI f (Zbd k ps ds) B d'0 (B ++ B₁) /\ frz B.length (B ++ B₁) m d'0 = some d) : Runs f k ps (Y4 fn) :=
 ⟨fun B ds d B'' hF => by
  obtain ⟨h1, rfl⟩ := Yt hF;obtain ⟨hl, B₁, d'0, m, ⟨σ₁, e⟩, hz⟩ := h _ _ _ h1;exact ⟨hl, d'0, σ₁, _, m, e, hz, Zfk⟩⟩
noncomputable def Cap : Nat := 16777216
theorem ZR {n : Nat} (h : n <= Cap) : ZH n = true := decide_eq_true h
theorem ZsM {step : V -> St -> Bx -> V -> Option ZaW} {src : Src} {B : Bx} {σ : St} {acc : V} {n : Nat} (h : src.at B = some none) : cl step (n + 1) src σ B acc = some (σ, B, acc) := by
 unfold cl;rw [h]
theorem Zlh {step : V -> St -> Bx -> V -> Option ZaW} {src : Src} {B B' : Bx} {σ σ' : St} {acc acc' x : V} {n : Nat} (h : src.at B = some (some x)) (hs : step x σ B acc = some (σ', B', acc')) : cl step (n + 1) src σ B acc = cl step n src.adv σ' B' acc' := by
 show (match src.at B with | none => none | some none => some (σ, B, acc) | some (some x) => match step x σ B acc with | some (σ', B', acc') => cl step n src.adv σ' B' acc' | none => none) = _;rw [h];show (match step x σ B acc with | some (σ', B', acc') => cl step n src.adv σ' B' acc' | none => none) = _;rw [hs]
theorem Zph {S : Xy} {inner : St -> Bx -> V -> Option ZaW} {x : V} {σ σ₁ : St} {B : Bx} {acc : V} {b : Bool} (h1 : S.tgt x σ = some σ₁) (h2 : S.ifs σ₁ B = some (b, B)) : Jz S inner x σ B acc = if b then inner σ₁ B acc else some (σ₁, B, acc) := by
 unfold Jz;rw [h1];show (match S.ifs σ₁ B with | none => none | some (false, B₁) => some (σ₁, B₁, acc) | some (true, B₁) => inner σ₁ B₁ acc) = _;rw [h2]
 cases b <;> rfl
noncomputable def ZpS (B : Bx) (src : Src) (xs : List V) : Prop := match src with
 | .seq ys => ys = xs
 | .box n i => ∃ ys, B[n]? = some (.list ys) /\ ys.drop i = xs
theorem ZpS.at {B : Bx} {src : Src} {xs : List V} (h : ZpS B src xs) : src.at B = some xs.head? /\ ZpS B src.adv xs.tail := by
 cases src with
 | seq ys => rw [show ys = xs from h]; exact ⟨rfl, rfl⟩
 | box n i =>
  refine Ze h fun ys h1 h2 => ⟨?_, ys, h1, by rw [<- List.tail_drop, h2]⟩;show (match B[n]? with | some (.list ys) => some ys[i]? | _ => none) = _;rw [h1, <- h2, List.head?_drop]
theorem Zip {S : Xy} {inner : St -> Bx -> V -> Option ZaW} {B : Bx} (I : St -> Prop) (b : V -> Bool) (g : V -> List V) :
  ∀ (xs : List V) (src : Src), ZpS B src xs -> (∀ x ∈ xs, ∀ σ, I σ -> ∃ σ₁, S.tgt x σ = some σ₁ /\ S.ifs σ₁ B = some (b x, B) /\ (b x = false -> I σ₁) /\
    (b x = true -> ∀ acc : List V, acc.length + (g x).length <= Cap -> ∃ σ'2, I σ'2 /\ inner σ₁ B (.list acc) = some (σ'2, B, .list (acc ++ g x)))) ->
   ∀ (acc : List V) (σ : St) (n : Nat), I σ -> xs.length < n -> acc.length + (xs.flatMap fun x => if b x then g x else []).length <= Cap ->
   ∃ σ', I σ' /\ cl (Jz S inner) n src σ B (.list acc) = some (σ', B, .list (acc ++ xs.flatMap fun x => if b x then g x else [])) := by
 intro xs
 induction xs with
 | nil =>
  intro src hs _ acc σ n hI hn _
  cases n with
  | zero => cases hn
  | succ n => exact ⟨σ, hI, by rw [ZsM hs.at.1, List.flatMap_nil, List.append_nil]⟩
 | cons x xs ih =>
  intro src hs h acc σ n hI hn hc
  cases n with
  | zero => cases hn
  | succ n =>
   have hxs := ih src.adv hs.at.2 fun y hy => h y (List.mem_cons_of_mem _ hy);have hn := Nat.lt_of_succ_lt_succ hn;refine Zcf (h x (.head _) σ hI) fun σ₁ h1 h2 h3 h4 => ?_;rw [List.flatMap_cons] at hc ⊢;have hst := Zph (inner := inner) (acc := .list acc) h1 h2;clear h ih h1 h2
   cases hb : b x with
   | false =>
    rw [hb] at hst hc;refine Ze (hxs acc σ₁ n (h3 hb) hn hc) fun σ' h5 h6 => ⟨σ', h5, ?_⟩;rw [Zlh hs.at.1 hst, h6]; rfl
   | true =>
    rw [hb] at hst hc;rw [if_pos rfl, List.length_append, <- Nat.add_assoc] at hc;refine Ze (h4 hb acc (Nat.le_trans (Nat.le_add_right _ _) hc)) fun σ'2 h5 h6 => ?_;rw [if_pos rfl, h6] at hst;refine Ze (hxs (acc ++ g x) σ'2 n h5 hn (by rw [List.length_append]; exact hc)) fun σ' h7 h8 => ⟨σ', h7, ?_⟩;rw [Zlh hs.at.1 hst, h8, if_pos rfl, List.append_assoc]
theorem Zbv {S : Xy} {inner : St -> Bx -> V -> Option ZaW} {B : Bx} (I : St -> Prop) (b : V -> Bool) (g : V -> List V) (xs : List V) (h : ∀ x ∈ xs, ∀ σ, I σ -> ∃ σ₁, S.tgt x σ = some σ₁ /\ S.ifs σ₁ B = some (b x, B) /\ (b x = false -> I σ₁) /\
    (b x = true -> ∀ acc : List V, acc.length + (g x).length <= Cap -> ∃ σ'2, I σ'2 /\ inner σ₁ B (.list acc) = some (σ'2, B, .list (acc ++ g x))))
   (acc : List V) (σ : St) (n : Nat) (hI : I σ) (hn : xs.length < n) (hc : acc.length + (xs.flatMap fun x => if b x then g x else []).length <= Cap) :
   ∃ σ', I σ' /\ cl (Jz S inner) n (.seq xs) σ B (.list acc) = some (σ', B, .list (acc ++ xs.flatMap fun x => if b x then g x else [])) := Zip I b g xs (.seq xs) (show ZpS B (.seq xs) xs from rfl) h acc σ n hI hn hc
theorem ZnG {f : DE} {σ : St} {B B' : Bx} {d : V} {acc : List V} (h : f σ B = some (d, B')) (hc : acc.length <= Cap) : emL f σ B (.list acc) = some (B', .list (acc ++ [d])) := by
 show (f σ B).bind _ = _;rw [h];exact if_pos (ZR hc)
theorem Zpr {f g : DE} {σ : St} {B B₁ B₂ : Bx} {x : Str} {d : V} {ks : List Str} {vs : List V} (h : f σ B = some (.str x, B₁)) (h2 : g σ B₁ = some (d, B₂)) (hc : ZH ks.length = true) :
  cgo (emD f g) [] σ B (.dict ks vs) = some (σ, B₂, .dict (JP ks vs x d).1 (JP ks vs x d).2) := by
 show ((f σ B).bind _).map _ = _;rw [h];show ((g σ B₁).bind _).map _ = _;rw [h2];exact congrArg (Option.map _) (if_pos hc)
theorem ZcI {f : DE} {σ : St} {B B' : Bx} {d : V} {acc : List V} (h : f σ B = some (d, B')) (hc : acc.length <= Cap) : cgo (emL f) [] σ B (.list acc) = some (σ, B', .list (acc ++ [d])) := by
 simp only [cgo, ZnG h hc, Option.map_some]
theorem Jb {f : DE} {it : DI} {ifs : DT} {tp : Bool} {σ : St} {B B₁ : Bx} {xs : List V} (b : V -> Bool) (e : V -> V) (hit : it σ B = some (.seq xs, B₁))
  (h : ∀ x ∈ xs, ifs (none :: some x :: σ) B₁ = some (b x, B₁) /\ (b x = true -> f (none :: some x :: σ) B₁ = some (e x, B₁))) (hl : xs.length <= Cap) :
  Zq 2 (emL f) { it := it, tp := tp, tgt := fun d σ => some (σ.set 1 (some d)), ifs := ifs } [] (.list []) σ B = some (.list ((xs.filter b).map e), B₁) := by
 have key : xs.flatMap (fun x => if b x then [e x] else []) = (xs.filter b).map e := by
  clear h hit hl
  induction xs with
  | nil => rfl
  | cons x xs ih => cases hb : b x <;> simp [hb, ih]
 obtain ⟨σ', _, h2⟩ := Zbv (S := { it := it, tp := tp, tgt := fun d σ => some (σ.set 1 (some d)), ifs := ifs }) (inner := cgo (emL f) []) (B := B₁) (fun τ => ∃ y, τ = none :: y :: σ) b (fun x => [e x]) xs
  (fun x hx τ ⟨y, hy⟩ => by
   subst hy;refine ⟨none :: some x :: σ, rfl, (h x hx).1, fun _ => ⟨_, rfl⟩, fun hb acc hc => ⟨_, ⟨_, rfl⟩, ZcI ((h x hx).2 hb) (by simp at hc; omega)⟩⟩)
  [] (none :: none :: σ) (xs.length + 1) ⟨_, rfl⟩ (Nat.lt_succ_self _) (by
   rw [key]; simp only [List.length_nil, List.length_map]; have := List.length_filter_le b xs; omega)
 unfold Zq;simp only [hit, Src.fuel];rw [show List.replicate 2 (none : Option V) ++ σ = none :: none :: σ from rfl, h2, key];simp
theorem Zrn {f : DE} {it : DI} {ifs : DT} {tp : Bool} {σ : St} {B B₁ : Bx} {xs : List V} (b : V -> Bool) (e : V -> V) (hit : it σ B = some (.seq xs, B₁))
  (h : ∀ x ∈ xs, ∃ u v, JB x = some [u, v] /\ ifs (none :: some u :: some v :: σ) B₁ = some (b x, B₁) /\ (b x = true -> f (none :: some u :: some v :: σ) B₁ = some (e x, B₁))) (hl : xs.length <= Cap) :
  Zq 3 (emL f) { it := it, tp := tp, tgt := S.parts [1, 2], ifs := ifs } [] (.list []) σ B = some (.list ((xs.filter b).map e), B₁) := by
 have key : xs.flatMap (fun x => if b x then [e x] else []) = (xs.filter b).map e := by
  clear h hit hl
  induction xs with
  | nil => rfl
  | cons x xs ih => cases hb : b x <;> simp [hb, ih]
 obtain ⟨σ', _, h2⟩ := Zbv (S := { it := it, tp := tp, tgt := S.parts [1, 2], ifs := ifs }) (inner := cgo (emL f) []) (B := B₁) (fun τ => ∃ y z, τ = none :: y :: z :: σ) b (fun x => [e x]) xs
  (fun x hx τ ⟨y, z, hy⟩ => by
   subst hy;refine Xh (h x hx) fun u v h1 h2 h3 => ?_;refine ⟨none :: some u :: some v :: σ, by simp [S.parts, h1, S.sets], h2, fun _ => ⟨_, _, rfl⟩, fun hb acc hc => ⟨_, ⟨_, _, rfl⟩, ZcI (h3 hb) (by simp at hc; omega)⟩⟩)
  [] (none :: none :: none :: σ) (xs.length + 1) ⟨_, _, rfl⟩ (Nat.lt_succ_self _) (by
   rw [key]; simp only [List.length_nil, List.length_map]; have := List.length_filter_le b xs; omega)
 unfold Zq;simp only [hit, Src.fuel];rw [show List.replicate 3 (none : Option V) ++ σ = none :: none :: none :: σ from rfl, h2, key];simp
theorem ZtO {f : DE} {it : DI} {ifs : DT} {tp : Bool} {σ : St} {B B₁ : Bx} {xs : List V} (b : V -> Bool) (e : V -> V) (hit : it σ B = some (.seq xs, B₁))
  (h : ∀ x ∈ xs, ∃ u v w, JB x = some [u, v, w] /\ ifs (none :: some u :: some v :: some w :: σ) B₁ = some (b x, B₁) /\ (b x = true -> f (none :: some u :: some v :: some w :: σ) B₁ = some (e x, B₁))) (hl : xs.length <= Cap) :
  Zq 4 (emL f) { it := it, tp := tp, tgt := S.parts [1, 2, 3], ifs := ifs } [] (.list []) σ B = some (.list ((xs.filter b).map e), B₁) := by
 have key : xs.flatMap (fun x => if b x then [e x] else []) = (xs.filter b).map e := by
  clear h hit hl
  induction xs with
  | nil => rfl
  | cons x xs ih => cases hb : b x <;> simp [hb, ih]
 obtain ⟨σ', _, h2⟩ := Zbv (S := { it := it, tp := tp, tgt := S.parts [1, 2, 3], ifs := ifs }) (inner := cgo (emL f) []) (B := B₁) (fun τ => ∃ y z q, τ = none :: y :: z :: q :: σ) b (fun x => [e x]) xs
  (fun x hx τ ⟨y, z, q, hy⟩ => by
   subst hy;refine Y7 (h x hx) fun u v w h1 h2 h3 => ?_;refine ⟨none :: some u :: some v :: some w :: σ, by simp [S.parts, h1, S.sets], h2, fun _ => ⟨_, _, _, rfl⟩, fun hb acc hc => ⟨_, ⟨_, _, _, rfl⟩, ZcI (h3 hb) (by simp at hc; omega)⟩⟩)
  [] (none :: none :: none :: none :: σ) (xs.length + 1) ⟨_, _, _, rfl⟩ (Nat.lt_succ_self _) (by
   rw [key]; simp only [List.length_nil, List.length_map]; have := List.length_filter_le b xs; omega)
 unfold Zq;simp only [hit, Src.fuel];rw [show List.replicate 4 (none : Option V) ++ σ = none :: none :: none :: none :: σ from rfl, h2, key];simp
theorem ZpO {f : DE} {it it2 : DI} {ifs ifs2 : DT} {tp tp2 : Bool} {σ : St} {B B₁ : Bx} {xs : List V} (ys : V -> List V) (e : V -> V -> V) (hit : it σ B = some (.seq xs, B₁))
  (h : ∀ x ∈ xs, ifs (none :: some x :: none :: σ) B₁ = some (true, B₁) /\ (∀ z, ifs (none :: some x :: z :: σ) B₁ = some (true, B₁) /\ it2 (none :: some x :: z :: σ) B₁ = some (.seq (ys x), B₁)) /\
   ∀ y ∈ ys x, ifs2 (none :: some x :: some y :: σ) B₁ = some (true, B₁) /\ f (none :: some x :: some y :: σ) B₁ = some (e x y, B₁)) (hl : (xs.flatMap ys).length <= Cap) :
  Zq 3 (emL f) { it := it, tp := tp, tgt := fun d σ => some (σ.set 1 (some d)), ifs := ifs } [{ it := it2, tp := tp2, tgt := fun d σ => some (σ.set 2 (some d)), ifs := ifs2 }] (.list []) σ B =
   some (.list (xs.flatMap fun x => (ys x).map (e x)), B₁) := by
 obtain ⟨σ', _, h2⟩ := Zbv (S := { it := it, tp := tp, tgt := fun d σ => some (σ.set 1 (some d)), ifs := ifs }) (inner := cgo (emL f) [{ it := it2, tp := tp2, tgt := fun d σ => some (σ.set 2 (some d)), ifs := ifs2 }]) (B := B₁)
  (fun τ => ∃ y z, τ = none :: y :: z :: σ) (fun _ => true) (fun x => (ys x).map (e x)) xs
  (fun x hx τ ⟨y, z, hy⟩ => by
   subst hy;refine XR (h x hx) fun h1 h2 h3 => ?_;refine ⟨none :: some x :: z :: σ, rfl, (h2 z).1, fun h => (nomatch h), fun _ acc hc => ?_⟩
   have key : (ys x).flatMap (fun y => if (true : Bool) = true then [e x y] else []) = (ys x).map (e x) := by
    simp only [if_true]
    induction ys x with
    | nil => rfl
    | cons a l ih => simp [ih]
   obtain ⟨τ', ⟨z', hz'⟩, hcl⟩ := Zbv (S := { it := it2, tp := tp2, tgt := fun d σ => some (σ.set 2 (some d)), ifs := ifs2 }) (inner := cgo (emL f) []) (B := B₁) (fun τ => ∃ z, τ = none :: some x :: z :: σ) (fun _ => true) (fun y => [e x y]) (ys x)
    (fun y hy τ ⟨z, hz⟩ => by
     subst hz;exact ⟨none :: some x :: some y :: σ, rfl, (h3 y hy).1, fun h => (nomatch h), fun _ acc hc => ⟨_, ⟨_, rfl⟩, ZcI (h3 y hy).2 (by simp at hc; omega)⟩⟩)
    acc (none :: some x :: z :: σ) ((ys x).length + 1) ⟨_, rfl⟩ (Nat.lt_succ_self _) (by rw [key]; exact hc)
   refine ⟨τ', ⟨_, _, hz'⟩, ?_⟩;simp only [cgo, (h2 z).2, Src.fuel];rw [show (Jz { it := it2, tp := tp2, tgt := fun d σ => some (σ.set 2 (some d)), ifs := ifs2 } fun σ B acc => (emL f σ B acc).map fun r => (σ, r)) = Jz { it := it2, tp := tp2, tgt := fun d σ => some (σ.set 2 (some d)), ifs := ifs2 } (cgo (emL f) []) from rfl, hcl, key])
  [] (none :: none :: none :: σ) (xs.length + 1) ⟨_, _, rfl⟩ (Nat.lt_succ_self _) (by
   simp only [if_true, List.length_nil, Nat.zero_add];rw [List.length_flatMap] at hl ⊢
   simpa using hl)
 unfold Zq;simp only [hit, Src.fuel];rw [show List.replicate 3 (none : Option V) ++ σ = none :: none :: none :: σ from rfl, h2];simp
theorem Zf0 {ks : List Str} {vs : List V} {k : Str} {d : V} (h : k ∉ ks) : JP ks vs k d = (ks ++ [k], vs ++ [d]) := by
 unfold JP; rw [if_neg (by simpa using h)]
theorem Znt {ks : List Str} {vs : List V} {k : Str} {d : V} (h : k ∈ ks) : JP ks vs k d = (ks, vs.set (ks.idxOf k) d) := by
 unfold JP; rw [if_pos (by simpa using h)]
theorem Zs4 {fk fv : DE} {it : DI} {ifs : DT} {tp : Bool} {σ : St} {B B₁ : Bx} {xs : List V} (k : V -> Str) (e : V -> V) (hit : it σ B = some (.seq xs, B₁))
  (h : ∀ x ∈ xs, ifs (none :: some x :: σ) B₁ = some (true, B₁) /\ fk (none :: some x :: σ) B₁ = some (.str (k x), B₁) /\ fv (none :: some x :: σ) B₁ = some (e x, B₁)) (hn : (xs.map k).Nodup) (hl : xs.length <= Cap) :
  Zq 2 (emD fk fv) { it := it, tp := tp, tgt := fun d σ => some (σ.set 1 (some d)), ifs := ifs } [] (.dict [] []) σ B = some (.dict (xs.map k) (xs.map e), B₁) := by
 have key : ∀ (xs : List V) (ks : List Str) (vs : List V) (y : Option V) (n : Nat), (∀ x ∈ xs, ifs (none :: some x :: σ) B₁ = some (true, B₁) /\ fk (none :: some x :: σ) B₁ = some (.str (k x), B₁) /\ fv (none :: some x :: σ) B₁ = some (e x, B₁)) ->
   (ks ++ xs.map k).Nodup -> ks.length + xs.length <= Cap -> xs.length < n ->
   ∃ y', cl (Jz { it := it, tp := tp, tgt := fun d σ => some (σ.set 1 (some d)), ifs := ifs } (cgo (emD fk fv) [])) n (.seq xs) (none :: y :: σ) B₁ (.dict ks vs) = some (none :: y' :: σ, B₁, .dict (ks ++ xs.map k) (vs ++ xs.map e)) := by
  intro xs
  induction xs with
  | nil =>
   intro ks vs y n _ _ _ hn
   cases n with
   | zero => simp at hn
   | succ n => exact ⟨y, by simp [cl, Src.at]⟩
  | cons x xs ih =>
   intro ks vs y n h hnd hc hn
   cases n with
   | zero => simp at hn
   | succ n =>
    refine XR (h x (.head _)) fun h1 h2 h3 => ?_
    have hx : k x ∉ ks := fun hm => by
     rw [List.nodup_append] at hnd;exact hnd.2.2 _ hm _ (by simp) rfl
    obtain ⟨y', hy⟩ := ih (ks ++ [k x]) (vs ++ [e x]) (some x) n (fun z hz => h z (List.mem_cons_of_mem _ hz)) (by simpa using hnd) (by simp at hc ⊢; omega) (by simpa using hn);refine ⟨y', ?_⟩;simp only [List.length_cons] at hc;simp only [cl, Src.at, List.head?_cons, Jz, List.set_cons_succ, List.set_cons_zero, h1, Zpr h2 h3 (ZR (show ks.length <= Cap by omega)), Zf0 hx, Src.adv, List.tail_cons];rw [hy];simp
 obtain ⟨y', hy⟩ := key xs [] [] none (xs.length + 1) h (by simpa using hn) (by simpa using hl) (Nat.lt_succ_self _);unfold Zq;simp only [hit, Src.fuel];rw [show List.replicate 2 (none : Option V) ++ σ = none :: none :: σ from rfl, hy];simp
noncomputable def bd (n : Nat) : List Stmt := match PySem.Challenge.pw_xg0032_04.main.body[n]? with
 | some (.FunctionDef _ _ b _ _ _ _ _ _ _) => b
 | _ => []
noncomputable def bdm : List Stmt := match PySem.Challenge.pw_xg0032_04.main.body[(1:Nat)]? with
 | some (.ClassDef _ _ _ b _ _ _ _ _ _ _) => match b[(1:Nat)]? with
  | some (.FunctionDef _ _ b _ _ _ _ _ _ _) => b
  | _ => []
 | _ => []
noncomputable def Jc : K := { sc := [("target", .local), ("source", .local), ("new_callers", .local), ("func", .local), ("caller", .local), ("isinstance", .globalImplicit), ("tuple", .globalImplicit), ("zip", .globalImplicit)], names := ["target", "source", "new_callers", "func", "caller"], asg := ["target", "source", "new_callers", "func", "caller"], gen := true }
noncomputable def J6 : DS := (S.seq (S.assign 2 (XE (D.const (.dict [] [])))) (S.seq (S.loopS (I.items (D.var 0)) (S.parts [3, 4]) (S.put (D.var 4) (D.var 2) (D.var 3)) S.skip) (S.seq (S.loopS (I.items (D.var 1)) (S.parts [3, 4]) (S.ite (T.cmp vin (D.var 3) (D.var 2)) (S.ite (T.of (D.isTup (D.var 4))) (S.put (D.zsum (D.var 4) (D.bin Zc (D.var 2) (D.var 3))) (D.var 2) (D.var 3)) (S.augput Zbj (D.var 2) (D.var 3) (D.var 4))) (S.put (D.var 4) (D.var 2) (D.var 3))) S.skip) (S.ret (D.var 2)))))
theorem Zgi {G : GC} {H : Nat} (TB : Zb2 G) : Xe G H Jc (bd 2) (J6) :=
 (Zh (Zy (Ym.box Zfs)) (Zh (Yp (ZeZ rfl rfl Za) rfl (Xp (.cons (.cons .nil))) (Zj (ZdA Za Za Za rfl)) ZA (fun _ _ => rfl)) (Zh (Yp (ZeZ rfl rfl Za) rfl (Xp (.cons (.cons .nil))) (Zj (YL (Ye Zd1 Za Za rfl) (Zj (YL (Jg rfl (Zme Za rfl (by kernel_rfl) (by kernel_rfl) TB.isinstance TB.tuple)) (Zj (ZdA (Znr Za (Zg rfl Za Za) rfl rfl rfl (by kernel_rfl) (by kernel_rfl) TB.tuple TB.zip rfl (by decide +kernel) (by decide +kernel) (by kernel_rfl) (by kernel_rfl) (by kernel_rfl) (by decide +kernel) rfl (by kernel_rfl) (by kernel_rfl)) Za Za rfl)) (Zj (Za3 Zbz Za Za Za (by intro _ _ _; rfl))))) (Zj (ZdA Za Za Za rfl)))) ZA (fun _ _ => rfl)) (Zj (Z2 Za)))))
noncomputable def Jf : K := { sc := [("callers", .local), ("nc", .local), ("calls", .local)], names := ["callers", "nc", "calls"], asg := ["callers", "nc", "calls"], gen := false }
noncomputable def J7 : DS := (S.seq (S.assign 1 (D.const (.int 0))) (S.seq (S.loopS (I.values (D.var 0)) (fun d σ => some (σ.set 2 (some d))) (S.aug Zbj 1 (D.var 2)) S.skip) (S.ret (D.var 1))))
theorem Zgn {G : GC} {H : Nat} (TB : Zb2 G) : Xe G H Jf (bd 3) (J7) :=
 (Zh (Zy Zb) (Zh (Yp (Zi3 rfl rfl Za) rfl ZG (Zj (Zcn Zbz Za)) ZA (fun _ _ => rfl)) (Zj (Z2 Za))))
noncomputable def XQ : K := { sc := [("flags", .local), ("names", .local), ("i", .local), ("flag", .local), ("range", .globalImplicit), ("COMPILER_FLAG_NAMES", .globalImplicit), ("hex", .globalImplicit)], names := ["flags", "names", "i", "flag"], asg := ["flags", "names", "i", "flag"], gen := false }
noncomputable def Jy : DS := (S.seq (S.assign 1 (XE (D.list []))) (S.seq (S.loopS (I.val (D.call Zo [(D.const (.int 32))])) (fun d σ => some (σ.set 2 (some d))) (S.seq (S.assign 3 (D.bin ZfD (D.const (.int 1)) (D.var 2))) (S.ite (T.of (D.bin ZeE (D.var 0) (D.var 3))) (S.seq (S.expr (D.meth YK Jj (D.var 1) [(D.flagGet (D.var 3) (D.call Zgd [(D.var 3)]))])) (S.seq (S.aug ZmM 0 (D.var 3)) (S.ite (T.not (T.of (D.var 0))) S.brk S.skip))) S.skip)) (S.expr (D.meth YK Jj (D.var 1) [(D.call Zgd [(D.var 0)])]))) (S.ret (D.meth Y8 ZcO (D.const (.str ", ")) [(D.var 1)]))))
theorem Zfy {G : GC} {H : Nat} (TB : Zb2 G) : Xe G H XQ (bd 6) (Jy) :=
 (Zh (Zy (Ym.box (Yq .nil rfl))) (Zh (Yp (Zl (Zn ZI TB.range (.cons rfl Zb .nil))) rfl ZG (Zh (Zy (Zk ZkN Zb Za)) (Zj (YL (Jg rfl (Zk ZkJ Za Za)) (Zh (ZaD rfl (Y3 PySem.F.plainAttrs_list PySem.F.slot_list_append PySem.F.type_list_append JV ZbP rfl rfl Za (.cons rfl (ZiQ Za (Zn Zlc TB.hex (.cons rfl Za .nil)) rfl rfl rfl (by kernel_rfl) TB.flags) .nil) (by decide))) (Zh (Zcn ZqO Za) (Zj (YL (Zik (Jg rfl Za)) (Zj Zn2) ZA)))) ZA))) (Zj (ZaD rfl (Y3 PySem.F.plainAttrs_list PySem.F.slot_list_append PySem.F.type_list_append JV ZbP rfl rfl Za (.cons rfl (Zn Zlc TB.hex (.cons rfl Za .nil)) .nil) (by decide)))) (fun _ _ => rfl)) (Zj (Z2 (Y3 PySem.F.plainAttrs_str PySem.F.slot_str_join PySem.F.type_str_join Jq Zfx rfl rfl Yw (.cons rfl Za .nil) (by decide))))))
noncomputable def Y9 : K := { sc := [("want", .local), ("got", .local), ("ws", .local), ("startpos", .local), ("endpos", .local), ("w", .local), ("ELLIPSIS_MARKER", .globalImplicit), ("len", .globalImplicit)], names := ["want", "got", "ws", "startpos", "endpos", "w"], asg := ["want", "got", "ws", "startpos", "endpos", "w"], gen := false }
noncomputable def XH : DS := (S.seq (S.ite (T.cmp Jp (D.const (.str "...")) (D.var 0)) (S.ret (D.bin (bv X8) (D.var 0) (D.var 1))) S.skip) (S.seq (S.assign 2 (XE (D.split (D.var 0) (D.const (.str "..."))))) (S.seq (S.assert (T.cmp vge (D.call XU [(D.var 2)]) (D.const (.int 2)))) (S.seq (S.swapped [3, 4] (D.tup [(D.const (.int 0)), (D.call XU [(D.var 1)])])) (S.seq (S.assign 5 (D.bin Zc (D.var 2) (D.const (.int 0)))) (S.seq (S.ite (T.of (D.var 5)) (S.ite (T.of (D.meth Y8 Zhn (D.var 1) [(D.var 5)])) (S.seq (S.assign 3 (D.call XU [(D.var 5)])) (S.del (D.var 2) (D.const (.int 0)))) (S.ret (D.const (.bool false)))) S.skip) (S.seq (S.assign 5 (D.bin Zc (D.var 2) (D.un YH (D.const (.int 1))))) (S.seq (S.ite (T.of (D.var 5)) (S.ite (T.of (D.meth Y8 Zla (D.var 1) [(D.var 5)])) (S.seq (S.aug Zqh 4 (D.call XU [(D.var 5)])) (S.del (D.var 2) (D.un YH (D.const (.int 1))))) (S.ret (D.const (.bool false)))) S.skip) (S.seq (S.ite (T.cmp vgt (D.var 3) (D.var 4)) (S.ret (D.const (.bool false))) S.skip) (S.seq (S.loopS (I.val (D.var 2)) (fun d σ => some (σ.set 5 (some d))) (S.seq (S.assign 3 (D.meth Y8 ZgQ (D.var 1) [(D.var 5), (D.var 3), (D.var 4)])) (S.seq (S.ite (T.cmp vlt (D.var 3) (D.const (.int 0))) (S.ret (D.const (.bool false))) S.skip) (S.aug Zbj 3 (D.call XU [(D.var 5)])))) S.skip) (S.ret (D.const (.bool true)))))))))))))
theorem Zdh {G : GC} {H : Nat} (TB : Zb2 G) : Xe G H Y9 (bd 9) (XH) :=
 (Zh (YL (Ye ZcB (Zfg TB (by kernel_rfl)) Za rfl) (Zj (Z2 (Jh Zby Za Za rfl))) ZA) (Zh (Zy (Ym.box (Zj2 rfl rfl rfl Za (Zfg TB (by kernel_rfl))))) (Zh (Zi2 (Ye Zsc (Zn J5 TB.len (.cons rfl Za .nil)) Zb rfl)) (Zh (Zdz (Z5 (.cons rfl Zb (.cons rfl (Zn J5 TB.len (.cons rfl Za .nil)) .nil)) rfl) (.cons (.cons .nil)) rfl) (Zh (Zy (Zg rfl Za Zb)) (Zh (YL (Jg rfl Za) (Zj (YL (Jg rfl (Y3 PySem.F.plainAttrs_str PySem.F.slot_str_startswith PySem.F.type_str_startswith Jq Zj5 rfl rfl Za (.cons rfl Za .nil) (by decide))) (Zh (Zy (Zn J5 TB.len (.cons rfl Za .nil))) (Zj (Zjv Za Zb))) (Zj (Z2 Xv)))) ZA) (Zh (Zy (Zg rfl Za (XA Y5 Zb))) (Zh (YL (Jg rfl Za) (Zj (YL (Jg rfl (Y3 PySem.F.plainAttrs_str PySem.F.slot_str_endswith PySem.F.type_str_endswith Jq Zn9 rfl rfl Za (.cons rfl Za .nil) (by decide))) (Zh (Zcn Zq4 (Zn J5 TB.len (.cons rfl Za .nil))) (Zj (Zjv Za (XA Y5 Zb)))) (Zj (Z2 Xv)))) ZA) (Zh (YL (Ye Zf4 Za Za rfl) (Zj (Z2 Xv)) ZA) (Zh (Yp (Zl Za) rfl ZG (Zh (Zy (Y3 PySem.F.plainAttrs_str PySem.F.slot_str_find PySem.F.type_str_find Jq Zpn rfl rfl Za (.cons rfl Za (.cons rfl Za (.cons rfl Za .nil))) (by decide))) (Zh (YL (Ye Ze9 Za Zb rfl) (Zj (Z2 Xv)) ZA) (Zj (Zcn Zbz (Zn J5 TB.len (.cons rfl Za .nil)))))) ZA (fun _ _ => rfl)) (Zj (Z2 Xv))))))))))))
noncomputable def JG : K := { sc := [("script", .local), ("cells", .local), ("place", .local), ("range", .globalImplicit), ("min", .globalImplicit), ("len", .globalImplicit)], names := ["script", "cells", "place"], asg := ["script", "cells", "place"], gen := false }
noncomputable def Zau : DS := (S.seq (S.assign 1 (XE (D.list [(D.const (.int 28)), (D.const (.int 70)), (D.const (.int 8)), (D.const (.int 15)), (D.const (.int 72)), (D.const (.int 9)), (D.const (.int 10)), (D.const (.int 17)), (D.const (.int 18)), (D.const (.int 53)), (D.const (.int 19))]))) (S.seq (S.loopS (I.val (D.call Zo [(D.call Zmy [(D.const (.int 60)), (D.call XU [(D.var 0)])])])) (fun d σ => some (σ.set 2 (some d))) (S.augput Zbj (D.var 1) (D.bin X9 (D.var 2) (D.const (.int 11))) (D.bin X9 (D.bin Zc (D.var 0) (D.var 2)) (D.bin Zhp (D.const (.int 10)) (D.const (.int 6))))) S.skip) (S.ret (D.var 1))))
theorem Zhy {G : GC} {H : Nat} (TB : Zb2 G) : Xe G H JG (bd 11) (Zau) :=
 (Zh (Zy (Ym.box (Yq (.cons rfl Zb (.cons rfl Zb (.cons rfl Zb (.cons rfl Zb (.cons rfl Zb (.cons rfl Zb (.cons rfl Zb (.cons rfl Zb (.cons rfl Zb (.cons rfl Zb (.cons rfl Zb .nil))))))))))) rfl))) (Zh (Yp (Zl (Zn ZI TB.range (.cons rfl (Zn Zqw TB.min (.cons rfl Zb (.cons rfl (Zn J5 TB.len (.cons rfl Za .nil)) .nil))) .nil))) rfl ZG (Zj (Za3 Zbz Za (Zk Za2 Za Zb) (Zk Za2 (Zg rfl Za Za) (Zk Zqa Zb Zb)) (by intro _ _ _; rfl))) ZA (fun _ _ => rfl)) (Zj (Z2 Za))))
noncomputable def JF : K := { sc := [("base", .local), ("names", .cell), ("range", .globalImplicit)], names := ["base", "names"], asg := ["base", "names"], gen := false }
noncomputable def ZaB : DS := (S.seq (S.assign 1 (D.words (D.const (.str "OPTIMIZED NEWLOCALS VARARGS VARKEYWORDS NESTED GENERATOR NOFREE COROUTINE ITERABLE_COROUTINE ASYNC_GENERATOR")))) (S.ret (Zq 2 (emL (D.ite (T.cmp vlt (D.var 1) (D.const (.int 10))) (D.bin Zc (D.var 3) (D.var 1)) (D.bin ZE (D.bin ZE (D.const (.str "0x")) (D.bin Zc (D.const (.str "1248")) (D.bin X9 (D.var 1) (D.const (.int 4))))) (D.bin Xb (D.const (.str "0")) (D.bin ZcL (D.var 1) (D.const (.int 4))))))) { it := (I.val (D.call Zo [(D.var 0), (D.bin ZE (D.var 0) (D.const (.int 10)))])), tp := false, tgt := (fun d σ => some (σ.set 1 (some d))), ifs := (T.all []) } [] (.list []))))
theorem Zhe {G : GC} {H : Nat} (TB : Zb2 G) : Xe G H JF (bd 12) (ZaB) :=
 (Zh (Zy (Ym.tree (ZjY rfl rfl Yw))) (Zj (Z2 (Ym.tree (Zp (gens (Zl (Zn ZI TB.range (.cons rfl Za (.cons rfl (Zk ZW Za Zb) .nil)))) Yb .nil) (Zhd (Ye Ze9 Za Zb rfl) (Zg rfl Za Za) (Zk ZW (Zk ZW Yw (Zg rfl Yw (Zk Za2 Za Zb))) (Zk Xc Yw (Zk ZeH Za Zb)))))))))
noncomputable def ZaR : K := { sc := [("cells", .local), ("net", .local), ("number", .local), ("low", .local), ("range", .globalImplicit)], names := ["cells", "net", "number", "low"], asg := ["cells", "net", "number", "low"], gen := false }
noncomputable def Zbw : DS := (S.seq (S.assign 1 (XE (Zq 2 (emL (XE (D.rep (D.list [(D.const (.int 0))]) (D.const (.int 8))))) { it := (I.val (D.call Zo [(D.const (.int 8))])), tp := false, tgt := (fun d σ => some (σ.set 1 (some d))), ifs := (T.all []) } [] (.list [])))) (S.seq (S.loopS (I.val (D.slice Zf5 (D.var 0) none (some (D.const (.int 10))))) (fun d σ => some (σ.set 2 (some d))) (S.seq (S.assign 3 (D.bin X9 (D.var 2) (D.const (.int 7)))) (S.augput Zbj (D.bin Zc (D.var 1) (D.var 3)) (D.bin ZE (D.bin ZE (D.var 3) (D.const (.int 1))) (D.bin X9 (D.bin ZcL (D.var 2) (D.const (.int 7))) (D.bin ZbX (D.const (.int 7)) (D.var 3)))) (D.bin ZE (D.const (.int 1)) (D.bin X9 (D.bin ZcL (D.var 2) (D.const (.int 49))) (D.const (.int 2)))))) S.skip) (S.ret (D.var 1))))
theorem Zj1 {G : GC} {H : Nat} (TB : Zb2 G) : Xe G H ZaR (bd 13) (Zbw) :=
 (Zh (ZiD (gens (Zl (Zn ZI TB.range (.cons rfl Zb .nil))) Yb .nil) (Ym.box (Znd (Ym.tree (Yq (.cons rfl Zb .nil) rfl)) Zb))) (Zh (Yp (Zl (Zgm rfl Za (fun _ h => by cases h) (fun _ => rfl) (fun _ h => by cases h; exact ⟨_, rfl, Zb⟩) (fun h => by cases h))) rfl ZG (Zh (Zy (Zk Za2 Za Zb)) (Zj (Za3 Zbz (Zg rfl Za Za) (Zk ZW (Zk ZW Za Zb) (Zk Za2 (Zk ZeH Za Zb) (Zk Zbu Zb Za))) (Zk ZW Zb (Zk Za2 (Zk ZeH Za Zb) Zb)) (by intro _ _ _; rfl)))) ZA (fun _ _ => rfl)) (Zj (Z2 Za))))
noncomputable def JA : K := { sc := [("net", .cell), ("walks", .local), ("front", .local), ("_", .local), ("range", .globalImplicit)], names := ["net", "walks", "front", "_"], asg := ["net", "walks", "front", "_"], gen := false }
noncomputable def Zaw : DS := (S.seq (S.assign 1 (XE (D.list []))) (S.seq (S.assign 2 (Zq 2 (emL (D.tup [(D.list [(D.var 1)]), (D.const (.int 1))])) { it := (I.val (D.call Zo [(D.const (.int 3))])), tp := false, tgt := (fun d σ => some (σ.set 1 (some d))), ifs := (T.all []) } [] (.list []))) (S.seq (S.loopS (I.val (D.call Zo [(D.const (.int 8))])) (fun d σ => some (σ.set 3 (some d))) (S.seq (S.expr (D.meth YK Zaz (D.var 1) [(D.var 2)])) (S.assign 2 (Zq 4 (emL (D.tup [(D.bin ZE (D.var 1) (D.list [(D.var 3)])), (D.bin Xb (D.var 2) (D.bin Zc (D.bin Zc (D.var 4) (D.bin Zc (D.var 1) (D.un YH (D.const (.int 1))))) (D.var 3)))])) { it := (I.val (D.var 2)), tp := false, tgt := (S.parts [1, 2]), ifs := (T.all []) } [{ it := (I.val (D.call Zo [(D.bin ZE (D.bin Zc (D.var 1) (D.un YH (D.const (.int 1)))) (D.const (.int 1))), (D.const (.int 8))])), tp := false, tgt := (fun d σ => some (σ.set 3 (some d))), ifs := (T.all [(T.cmp vgt (D.bin Zc (D.bin Zc (D.var 4) (D.bin Zc (D.var 1) (D.un YH (D.const (.int 1))))) (D.var 3)) (D.const (.int 0)))]) }] (.list [])))) S.skip) (S.ret (D.var 1)))))
theorem Zht {G : GC} {H : Nat} (TB : Zb2 G) : Xe G H JA (bd 14) (Zaw) :=
 (Zh (Zy (Ym.box (Yq .nil rfl))) (Zh (ZdP (gens (Zl (Zn ZI TB.range (.cons rfl Zb .nil))) Yb .nil) (Z5 (.cons rfl (Ym.tree (Yq (.cons rfl Za .nil) rfl)) (.cons rfl Zb .nil)) rfl)) (Zh (Yp (Zl (Zn ZI TB.range (.cons rfl Zb .nil))) rfl ZG (Zh (ZaD rfl (Y3 PySem.F.plainAttrs_list PySem.F.slot_list_extend PySem.F.type_list_extend JV ZfF rfl rfl Za (.cons rfl Za .nil) (by decide))) (Zj (ZdP (gens (Zl Za) (Za1 rfl rfl (Xp (.cons (.cons .nil))) (Jk .nil)) (.cons _ _ _ _ (Za1 rfl rfl ZG (Jk (.cons (Ye Zf4 (Zg rfl (Zg rfl Za (Zg rfl Za (XA Y5 Zb))) Za) Zb rfl) .nil))) (ZnA (fun _ _ => rfl) (Zl (Zn ZI TB.range (.cons rfl (Zk ZW (Zg rfl Za (XA Y5 Zb)) Zb) (.cons rfl Zb .nil))))) .nil)) (Z5 (.cons rfl (Zk ZW Za (Ym.tree (Yq (.cons rfl Za .nil) rfl))) (.cons rfl (Zk Xc Za (Zg rfl (Zg rfl Za (Zg rfl Za (XA Y5 Zb))) Za)) .nil)) rfl)))) ZA (fun _ _ => rfl)) (Zj (Z2 Za)))))
noncomputable def JE : K := { sc := [("net", .local), ("words", .cell), ("v", .local), ("books", .local), ("u", .local), ("_", .local), ("range", .globalImplicit), ("add_callers", .globalImplicit)], names := ["net", "words", "v", "books", "u", "_"], asg := ["net", "words", "v", "books", "u", "_"], gen := false }
noncomputable def Zav (Zm : VF) : DS := (S.seq (S.assign 3 (XE (Zq 2 (emL (D.ite (T.cmp vlt (D.var 1) (D.const (.int 3))) (D.dict [((D.bin Zc (D.var 3) (D.var 1)), (D.const (.int 1)))]) (D.const (.dict [] [])))) { it := (I.val (D.call Zo [(D.const (.int 8))])), tp := false, tgt := (fun d σ => some (σ.set 1 (some d))), ifs := (T.all []) } [] (.list [])))) (S.seq (S.loopS (I.val (D.call Zo [(D.const (.int 1)), (D.const (.int 8))])) (fun d σ => some (σ.set 2 (some d))) (S.loopS (I.val (D.call Zo [(D.var 2)])) (fun d σ => some (σ.set 4 (some d))) (S.loopS (I.val (D.call Zo [(D.bin Zc (D.bin Zc (D.var 0) (D.var 4)) (D.var 2))])) (fun d σ => some (σ.set 5 (some d))) (S.put (D.call Zm [(D.bin Zc (D.var 3) (D.var 2)), (D.bin Zc (D.var 3) (D.var 4))]) (D.var 3) (D.var 2)) S.skip) S.skip) S.skip) (S.ret (D.var 3))))
theorem Zhh {G : GC} {H : Nat} {Zm : VF} (TB : Zb2 G) (h_add_callers : Yx G H "add_callers" Zm) : Xe G H JE (bd 15) (Zav Zm) :=
 (Zh (ZiD (gens (Zl (Zn ZI TB.range (.cons rfl Zb .nil))) Yb .nil) (Zhd (Ye Ze9 Za Zb rfl) (Ym.tree (Zgt (.cons (Zg rfl Za Za) Zb .nil) (by simp) (by decide))) (Ym.tree Zfs))) (Zh (Yp (Zl (Zn ZI TB.range (.cons rfl Zb (.cons rfl Zb .nil)))) rfl ZG (Zj (Yp (Zl (Zn ZI TB.range (.cons rfl Za .nil))) rfl ZG (Zj (Yp (Zl (Zn ZI TB.range (.cons rfl (Zg rfl (Zg rfl Za Za) Za) .nil))) rfl ZG (Zj (ZdA (YS h_add_callers (.cons rfl (Zg rfl Za Za) (.cons rfl (Zg rfl Za Za) .nil))) Za Za rfl)) ZA (fun _ _ => rfl))) ZA (fun _ _ => rfl))) ZA (fun _ _ => rfl)) (Zj (Z2 Za))))
noncomputable def Zan : K := { sc := [("net", .cell), ("walks", .local), ("words", .cell), ("counts", .cell), ("chain", .local), ("often", .local), ("orders", .cell), ("v", .cell), ("order", .cell), ("u", .local), ("last", .local), ("sums", .local), ("range", .globalImplicit)], names := ["net", "walks", "words", "counts", "chain", "often", "orders", "v", "order", "u", "last", "sums"], asg := ["net", "walks", "words", "counts", "chain", "often", "orders", "v", "order", "u", "last", "sums"], gen := false }
noncomputable def ZaY : DS := (S.seq (S.assign 3 (XE (Zq 2 (emL (XE (D.list [(D.const (.int 0)), (D.const (.int 0)), (D.const (.int 0))]))) { it := (I.val (D.call Zo [(D.const (.int 8))])), tp := false, tgt := (fun d σ => some (σ.set 1 (some d))), ifs := (T.all []) } [] (.list [])))) (S.seq (S.loopS (I.val (D.var 1)) (S.parts [4, 5]) (S.augput Zbj (D.bin Zc (D.var 3) (D.bin Zc (D.var 4) (D.un YH (D.const (.int 1))))) (D.bin Zc (D.var 4) (D.const (.int 0))) (D.var 5)) S.skip) (S.seq (S.assign 6 (XE (D.list []))) (S.seq (S.loopS (I.val (D.call Zo [(D.const (.int 8))])) (fun d σ => some (σ.set 7 (some d))) (S.seq (S.assign 8 (D.ite (T.cmp vlt (D.var 7) (D.const (.int 3))) (XE (D.list [(D.var 7)])) (XE (D.list [])))) (S.seq (S.loopS (I.val (Zq 2 (emL (D.var 1)) { it := (I.val (D.call Zo [(D.var 7)])), tp := false, tgt := (fun d σ => some (σ.set 1 (some d))), ifs := (T.all [(T.cmp vgt (D.bin Zc (D.bin Zc (D.var 2) (D.var 1)) (D.var 9)) (D.const (.int 0)))]) } [] (.list []))) (fun d σ => some (σ.set 9 (some d))) (S.expr (D.meth YK Zaz (D.var 8) [(Zq 2 (emL (D.var 1)) { it := (I.val (D.bin Zc (D.var 6) (D.var 9))), tp := false, tgt := (fun d σ => some (σ.set 1 (some d))), ifs := (T.all [(T.cmp Jp (D.var 1) (D.var 10))]) } [] (.list []))])) S.skip) (S.expr (D.meth YK Jj (D.var 6) [(D.var 8)])))) S.skip) (S.seq (S.assign 10 (D.bin ZE (D.bin Zc (D.var 6) (D.const (.int 5))) (Zq 2 (emL (D.var 1)) { it := (I.val (D.bin Zc (D.var 6) (D.const (.int 6)))), tp := false, tgt := (fun d σ => some (σ.set 1 (some d))), ifs := (T.all [(T.cmp Jp (D.var 1) (D.bin Zc (D.var 8) (D.const (.int 5))))]) } [] (.list [])))) (S.seq (S.assign 11 (Zq 2 (emL (D.tup [(D.bin Zc (D.var 4) (D.var 1)), (D.bin ZE (D.bin Zc (D.bin Zc (D.var 5) (D.const (.int 5))) (D.var 1)) (D.bin Zc (D.bin Zc (D.var 5) (D.const (.int 6))) (D.var 1))), (D.bin ZE (D.call ZkF [(D.bin (bv vin) (D.var 1) (D.bin Zc (D.var 8) (D.const (.int 5))))]) (D.call ZkF [(D.bin (bv vin) (D.var 1) (D.bin Zc (D.var 8) (D.const (.int 6))))]))])) { it := (I.val (D.var 10)), tp := false, tgt := (fun d σ => some (σ.set 1 (some d))), ifs := (T.all []) } [] (.list []))) (S.ret (D.bin ZE (Zq 2 (emL (Zq 2 (emL (D.tup [(D.bin Zc (D.var 6) (D.var 1)), (D.bin Zc (D.bin Zc (D.var 7) (D.var 3)) (D.var 1))])) { it := (I.val (D.bin Zc (D.var 8) (D.var 1))), tp := false, tgt := (fun d σ => some (σ.set 1 (some d))), ifs := (T.all []) } [] (.list []))) { it := (I.val (D.call Zo [(D.const (.int 8))])), tp := false, tgt := (fun d σ => some (σ.set 1 (some d))), ifs := (T.all []) } [] (.list [])) (D.list [(Zq 2 (emL (D.slice ZiU (D.var 1) none (some (D.const (.int 2))))) { it := (I.val (D.var 11)), tp := false, tgt := (fun d σ => some (σ.set 1 (some d))), ifs := (T.all []) } [] (.list [])), (Zq 4 (emL (D.tup [(D.var 1), (D.tup [(D.var 2), (D.var 3)])])) { it := (I.val (D.var 11)), tp := false, tgt := (S.parts [1, 2, 3]), ifs := (T.all []) } [] (.list []))])))))))))
theorem Zi1 {G : GC} {H : Nat} (TB : Zb2 G) : Xe G H Zan (bd 16) (ZaY) :=
 (Zh (ZbB (Ym.box (Zp (gens (Zl (Zn ZI TB.range (.cons rfl Zb .nil))) Yb .nil) (Ym.box (Yq (.cons rfl Zb (.cons rfl Zb (.cons rfl Zb .nil))) rfl))))) (Zh (Yp (Zl Za) rfl (Xp (.cons (.cons .nil))) (Zj (Za3 Zbz (Zg rfl Za (Zg rfl Za (XA Y5 Zb))) (Zg rfl Za Zb) Za (by intro _ _ _; rfl))) ZA (fun _ _ => rfl)) (Zh (Zy (Ym.box (Yq .nil rfl))) (Zh (Yp (Zl (Zn ZI TB.range (.cons rfl Zb .nil))) rfl ZG (Zh (Zy (Zhd (Ye Ze9 Za Zb rfl) (Ym.box (Yq (.cons rfl Za .nil) rfl)) (Ym.box (Yq .nil rfl)))) (Zh (Yp (Zl (Ym.tree (Zp (gens (Zl (Zn ZI TB.range (.cons rfl Za .nil))) (Za1 rfl rfl ZG (Jk (.cons (Ye Zf4 (Zg rfl (Zg rfl Za Za) Za) Zb rfl) .nil))) .nil) Za))) rfl ZG (Zj (ZaD rfl (Y3 PySem.F.plainAttrs_list PySem.F.slot_list_extend PySem.F.type_list_extend JV ZfF rfl rfl Za (.cons rfl (Ym.tree (Zp (gens (Zl (Zg rfl Za Za)) (Za1 rfl rfl ZG (Jk (.cons (Ye ZcB Za Za rfl) .nil))) .nil) Za)) .nil) (by decide)))) ZA (fun _ _ => rfl)) (Zj (ZaD rfl (Y3 PySem.F.plainAttrs_list PySem.F.slot_list_append PySem.F.type_list_append JV ZbP rfl rfl Za (.cons rfl Za .nil) (by decide)))))) ZA (fun _ _ => rfl)) (Zh (Zy (Zk ZW (Zg rfl Za Zb) (Ym.tree (Zp (gens (Zl (Zg rfl Za Zb)) (Za1 rfl rfl ZG (Jk (.cons (Ye ZcB Za (Zg rfl Za Zb) rfl) .nil))) .nil) Za)))) (Zh (ZdP (gens (Zl Za) Yb .nil) (Z5 (.cons rfl (Zg rfl Za Za) (.cons rfl (Zk ZW (Zg rfl (Zg rfl Za Zb) Za) (Zg rfl (Zg rfl Za Zb) Za)) (.cons rfl (Zk ZW (Zn Zlq TB.int (.cons rfl (Jh Zd1 Za (Zg rfl Za Zb) rfl) .nil)) (Zn Zlq TB.int (.cons rfl (Jh Zd1 Za (Zg rfl Za Zb) rfl) .nil))) .nil))) rfl)) (Zj (Z2 (Zk ZW (Ym.tree (Zp (gens (Zl (Zn ZI TB.range (.cons rfl Zb .nil))) Yb .nil) (Ym.tree (Zp (gens (Zl (Zg rfl Za Za)) Yb .nil) (Z5 (.cons rfl (Zg rfl Za Za) (.cons rfl (Zg rfl (Zg rfl Za Za) Za) .nil)) rfl))))) (Ym.tree (Yq (.cons rfl (Ym.tree (Zp (gens (Zl Za) Yb .nil) (ZhF rfl Za (fun _ h => by cases h) (fun _ => rfl) (fun _ h => by cases h; exact ⟨_, rfl, Zb⟩) (fun h => by cases h)))) (.cons rfl (Ym.tree (Zp (gens (Zl Za) (Za1 rfl rfl (Xp (.cons (.cons (.cons .nil)))) (Jk .nil)) .nil) (Z5 (.cons rfl Za (.cons rfl (Z5 (.cons rfl Za (.cons rfl Za .nil)) rfl) .nil)) rfl))) .nil)) rfl)))))))))))
noncomputable def Zab : K := { sc := [("judge", .local), ("way", .local), ("ends", .local), ("sign", .local), ("i", .local), ("k", .local), ("range", .globalImplicit)], names := ["judge", "way", "ends", "sign", "i", "k"], asg := ["judge", "way", "ends", "sign", "i", "k"], gen := false }
noncomputable def Zaj (YE : VF) : DS := (S.seq (S.assign 3 (D.un YH (D.var 1))) (S.seq (S.loopS (I.val (D.call Zo [(D.const (.int 3))])) (fun d σ => some (σ.set 4 (some d))) (S.loopS (I.val (D.call Zo [(D.var 4)])) (fun d σ => some (σ.set 5 (some d))) (S.assign 3 (D.bin Xb (D.var 3) (D.tcCmp YE (D.var 0) [(D.tup [(D.const (.int 7)), (D.bin Zc (D.var 2) (D.var 5))]), (D.tup [(D.const (.int 7)), (D.bin Zc (D.var 2) (D.var 4))])]))) S.skip) S.skip) (S.ret (D.var 3))))
theorem Zil {G : GC} {H : Nat} {YE : VF} (TB : Zb2 G) {Kf : PySem.W.Frag} {fI fC : Addr} (TCI : Zgg G Kf fI fC) (TCC : Zo1 G H fC YE) : Xe G H Zab (bd 17) (Zaj YE) :=
 (Zh (Zy (XA Y5 Za)) (Zh (Yp (Zl (Zn ZI TB.range (.cons rfl Zb .nil))) rfl ZG (Zj (Yp (Zl (Zn ZI TB.range (.cons rfl Za .nil))) rfl ZG (Zj (Zy (Zk Xc Za (ZmN TCI TCC rfl rfl Za (.cons rfl (Z5 (.cons rfl Zb (.cons rfl (Zg rfl Za Za) .nil)) rfl) (.cons rfl (Z5 (.cons rfl Zb (.cons rfl (Zg rfl Za Za) .nil)) rfl) .nil)) (by simp) (by decide))))) ZA (fun _ _ => rfl))) ZA (fun _ _ => rfl)) (Zj (Z2 Za))))
noncomputable def XW : K := { sc := [("one", .local), ("two", .local), ("log", .local), ("number", .local), ("text", .local), ("count_calls", .globalImplicit), ("pretty_flags", .globalImplicit), ("len", .globalImplicit)], names := ["one", "two", "log", "number", "text"], asg := ["one", "two", "log", "number", "text"], gen := false }
noncomputable def JL (ZK : VF) (Zz : VF) : DS := (S.seq (S.assign 3 (D.call ZK [(D.dict [((D.const (.str "one")), (D.bin Zc (D.var 0) (D.const (.int 2)))), ((D.const (.str "two")), (D.bin Zc (D.var 1) (D.const (.int 2))))])])) (S.seq (S.assign 4 (D.call Zz [(D.var 3)])) (S.seq (S.expr (D.meth YK Jj (D.var 2) [(D.tup [(D.var 0), (D.var 1), (D.var 3), (D.var 4)])])) (S.ret (D.bin (bv X8) (D.bin ZE (D.meth Y8 JW (D.var 4) [(D.const (.str ", "))]) (D.const (.int 1))) (D.bin ZE (D.call XU [(D.bin Zc (D.var 0) (D.const (.int 0)))]) (D.call XU [(D.bin Zc (D.var 1) (D.const (.int 0)))])))))))
theorem ZhU {G : GC} {H : Nat} {ZK : VF} {Zz : VF} (TB : Zb2 G) (h_count_calls : Yx G H "count_calls" ZK) (h_pretty_flags : Yx G H "pretty_flags" Zz) : Xe G H XW (bd 18) (JL ZK Zz) :=
 (Zh (Zy (YS h_count_calls (.cons rfl (Ym.tree (Zgt (.cons Yw (Zg rfl Za Zb) (.cons Yw (Zg rfl Za Zb) .nil)) (by simp) (by decide))) .nil))) (Zh (Zy (YS h_pretty_flags (.cons rfl Za .nil))) (Zh (ZaD rfl (Y3 PySem.F.plainAttrs_list PySem.F.slot_list_append PySem.F.type_list_append JV ZbP rfl rfl Za (.cons rfl (Z5 (.cons rfl Za (.cons rfl Za (.cons rfl Za (.cons rfl Za .nil)))) rfl) .nil) (by decide))) (Zj (Z2 (Jh Zby (Zk ZW (Y3 PySem.F.plainAttrs_str PySem.F.slot_str_count PySem.F.type_str_count Jq ZdJ rfl rfl Za (.cons rfl Yw .nil) (by decide)) Zb) (Zk ZW (Zn J5 TB.len (.cons rfl (Zg rfl Za Zb) .nil)) (Zn J5 TB.len (.cons rfl (Zg rfl Za Zb) .nil))) rfl))))))
noncomputable def Xm : K := { sc := [("one", .cell), ("two", .cell), ("number", .local), ("text", .local), ("base", .cell), ("words", .cell), ("len", .globalImplicit), ("range", .globalImplicit)], names := ["one", "two", "number", "text", "base", "words"], asg := ["one", "two", "number", "text", "base", "words"], gen := false }
noncomputable def Zae : DS := (S.seq (S.ite (T.cmp ZaX (D.bin (bv X8) (D.bin ZE (D.meth Y8 JW (D.var 3) [(D.const (.str ", "))]) (D.const (.int 1))) (D.bin ZE (D.call XU [(D.bin Zc (D.var 0) (D.const (.int 0)))]) (D.call XU [(D.bin Zc (D.var 1) (D.const (.int 0)))]))) (D.bin (bv X8) (Zq 2 (emL (D.var 1)) { it := (I.val (D.bin Zc (D.var 0) (D.const (.int 0)))), tp := false, tgt := (fun d σ => some (σ.set 1 (some d))), ifs := (T.all [(T.cmp vin (D.var 1) (D.bin Zc (D.var 3) (D.const (.int 0))))]) } [] (.list [])) (D.list []))) (S.ret (D.const (.bool false))) S.skip) (S.ret (D.boolop true [(D.bin (bv X8) (D.var 2) (D.bin ZE (D.bin Zc (D.var 0) (D.const (.int 2))) (D.bin Zc (D.var 1) (D.const (.int 2))))), (D.bin (bv X8) (D.var 3) (D.meth Y8 ZcO (D.const (.str ", ")) [(Zq 2 (emL (D.bin Zc (D.var 7) (D.var 1))) { it := (I.val (D.call Zo [(D.const (.int 10))])), tp := false, tgt := (fun d σ => some (σ.set 1 (some d))), ifs := (T.all [(T.of (D.bin ZeE (D.bin Zkt (D.bin ZE (D.bin Zc (D.var 2) (D.const (.int 2))) (D.bin Zc (D.var 3) (D.const (.int 2)))) (D.bin ZE (D.var 6) (D.var 1))) (D.const (.int 1))))]) } [] (.list []))]))])))
theorem Ziy {G : GC} {H : Nat} (TB : Zb2 G) : Xe G H Xm (bd 19) (Zae) :=
 (Zh (YL (Ye Zd2 (Jh Zby (Zk ZW (Y3 PySem.F.plainAttrs_str PySem.F.slot_str_count PySem.F.type_str_count Jq ZdJ rfl rfl Za (.cons rfl Yw .nil) (by decide)) Zb) (Zk ZW (Zn J5 TB.len (.cons rfl (Zg rfl Za Zb) .nil)) (Zn J5 TB.len (.cons rfl (Zg rfl Za Zb) .nil))) rfl) (Jh Zby (Ym.tree (Zp (gens (Zl (Zg rfl Za Zb)) (Za1 rfl rfl ZG (Jk (.cons (Ye Zd1 Za (Zg rfl Za Zb) rfl) .nil))) .nil) Za)) (Ym.tree (Yq .nil rfl)) rfl) rfl) (Zj (Z2 Xv)) ZA) (Zj (Z2 (ZjW (.cons rfl (Jh Zby Za (Zk ZW (Zg rfl Za Zb) (Zg rfl Za Zb)) rfl) (.cons rfl (Jh Zby Za (Y3 PySem.F.plainAttrs_str PySem.F.slot_str_join PySem.F.type_str_join Jq Zfx rfl rfl Yw (.cons rfl (Ym.tree (Zp (gens (Zl (Zn ZI TB.range (.cons rfl Zb .nil))) (Za1 rfl rfl ZG (Jk (.cons (Jg rfl (Zk ZkJ (Zk Zqz (Zk ZW (Zg rfl Za Zb) (Zg rfl Za Zb)) (Zk ZW Za Za)) Zb)) .nil))) .nil) (Zg rfl Za Za))) .nil) (by decide)) rfl) .nil))))))
noncomputable def ZkR : K := { sc := [(("script" : Str), NameKind.local), (("cells" : Str), NameKind.local), (("net" : Str), NameKind.local), (("base" : Str), NameKind.cell), (("way" : Str), NameKind.local), (("judge" : Str), NameKind.local), (("words" : Str), NameKind.cell), (("books" : Str), NameKind.cell), (("both" : Str), NameKind.local), (("pairs" : Str), NameKind.local), (("walks" : Str), NameKind.local), (("rows" : Str), NameKind.cell), (("mine" : Str), NameKind.cell), (("total" : Str), NameKind.local), (("log" : Str), NameKind.local), (("one" : Str), NameKind.cell), (("two" : Str), NameKind.local), (("pair" : Str), NameKind.local), (("ends" : Str), NameKind.cell), (("three" : Str), NameKind.local), (("square" : Str), NameKind.local), (("a" : Str), NameKind.local), (("b" : Str), NameKind.local), (("c" : Str), NameKind.local), (("d" : Str), NameKind.local), (("e" : Str), NameKind.local), (("f" : Str), NameKind.local), (("g" : Str), NameKind.local), (("h" : Str), NameKind.local), (("i" : Str), NameKind.local), (("told" : Str), NameKind.cell), (("_law_cells" : Str), NameKind.globalImplicit), (("_law_net" : Str), NameKind.globalImplicit), (("TupleComp" : Str), NameKind.globalImplicit), (("_law_words" : Str), NameKind.globalImplicit), (("_law_books" : Str), NameKind.globalImplicit), (("add_callers" : Str), NameKind.globalImplicit), (("_law_walks" : Str), NameKind.globalImplicit), (("range" : Str), NameKind.globalImplicit), (("_law_apart" : Str), NameKind.globalImplicit), (("_law_sign" : Str), NameKind.globalImplicit), (("repr" : Str), NameKind.globalImplicit), (("_law_dues" : Str), NameKind.globalImplicit)], names := [("script" : Str), ("cells" : Str), ("net" : Str), ("base" : Str), ("way" : Str), ("judge" : Str), ("words" : Str), ("books" : Str), ("both" : Str), ("pairs" : Str), ("walks" : Str), ("rows" : Str), ("mine" : Str), ("total" : Str), ("log" : Str), ("one" : Str), ("two" : Str), ("pair" : Str), ("ends" : Str), ("three" : Str), ("square" : Str), ("a" : Str), ("b" : Str), ("c" : Str), ("d" : Str), ("e" : Str), ("f" : Str), ("g" : Str), ("h" : Str), ("i" : Str), ("told" : Str)], asg := [("script" : Str), ("cells" : Str), ("net" : Str), ("base" : Str), ("way" : Str), ("judge" : Str), ("words" : Str), ("books" : Str), ("both" : Str), ("pairs" : Str), ("walks" : Str), ("rows" : Str), ("mine" : Str), ("total" : Str), ("log" : Str), ("one" : Str), ("two" : Str), ("pair" : Str), ("ends" : Str), ("three" : Str), ("square" : Str), ("a" : Str), ("b" : Str), ("c" : Str), ("d" : Str), ("e" : Str), ("f" : Str), ("g" : Str), ("h" : Str), ("i" : Str), ("told" : Str)], gen := false }
noncomputable def ZlH (Zr : VF) (ZC : VF) (Z8 : VF) (Z0 : VF) (ZV : VF) (Yk : VF) (Z4 : VF) (ZU : VF) (Z6 : VF) (Z7 : VF) (Zm : VF) : DS := (S.seq (S.assign 1 (D.call Z0 [(D.var 0)])) (S.seq (S.assign 2 (D.call Yk [(D.var 1)])) (S.seq (S.assigns [3, 4] (D.tup [(D.bin X9 (D.bin Zc (D.var 1) (D.const (.int 10))) (D.const (.int 13))), (D.bin ZbX (D.const (.int 1)) (D.bin Xb (D.const (.int 2)) (D.bin X9 (D.bin ZcL (D.bin Zc (D.var 1) (D.const (.int 10))) (D.const (.int 13))) (D.const (.int 2)))))])) (S.seq (S.assign 5 (D.tcNew (D.tup [(D.tup [(D.const (.int 0)), (D.var 4)]), (D.tup [(D.const (.int 1)), (D.var 4)])]))) (S.seq (S.assign 6 (D.call Z7 [(D.var 3)])) (S.seq (S.assign 7 (D.call Z8 [(D.var 2), (D.var 6)])) (S.seq (S.assign 8 (D.call Zm [(D.bin Zc (D.var 7) (D.const (.int 5))), (D.bin Zc (D.var 7) (D.const (.int 6)))])) (S.seq (S.assign 9 (D.call Zm [(Zq 2 (emD (D.var 1) (D.tup [(D.bin Zc (D.bin Zc (D.var 9) (D.const (.int 5))) (D.var 1)), (D.const (.int 1))])) { it := (I.val (D.bin Zc (D.var 7) (D.const (.int 5)))), tp := false, tgt := (fun d σ => some (σ.set 1 (some d))), ifs := (T.all []) } [] (.dict [] [])), (Zq 2 (emD (D.var 1) (D.tup [(D.bin Zc (D.bin Zc (D.var 9) (D.const (.int 6))) (D.var 1)), (D.const (.int 1))])) { it := (I.val (D.bin Zc (D.var 7) (D.const (.int 6)))), tp := false, tgt := (fun d σ => some (σ.set 1 (some d))), ifs := (T.all []) } [] (.dict [] []))])) (S.seq (S.assign 10 (D.call Z6 [(D.var 2)])) (S.seq (S.assign 11 (Zq 3 (emL (D.tup [(D.var 1), (D.var 2), (D.call Zi6 [(Zq 2 (emL (D.bin ZfD (D.const (.int 1)) (D.bin ZE (D.var 8) (D.var 1)))) { it := (I.val (D.var 1)), tp := false, tgt := (fun d σ => some (σ.set 1 (some d))), ifs := (T.all []) } [] (.list []))]), (D.meth Y8 ZcO (D.const (.str "")) [(Zq 2 (emL (D.bin Zc (D.const (.str "abcdefgh")) (D.var 1))) { it := (I.val (D.var 1)), tp := false, tgt := (fun d σ => some (σ.set 1 (some d))), ifs := (T.all []) } [] (.list []))])])) { it := (I.val (D.var 10)), tp := false, tgt := (S.parts [1, 2]), ifs := (T.all [(T.cmp vgt (D.bin Zc (D.var 1) (D.un YH (D.const (.int 1)))) (D.const (.int 4)))]) } [] (.list []))) (S.seq (S.assign 12 (Zq 2 (emL (Zq 2 (emL (D.var 1)) { it := (I.val (D.var 13)), tp := false, tgt := (fun d σ => some (σ.set 1 (some d))), ifs := (T.all [(T.cmp X8 (D.bin Zc (D.bin Zc (D.var 1) (D.const (.int 0))) (D.const (.int 0))) (D.var 3))]) } [] (.list []))) { it := (I.val (D.call Zo [(D.const (.int 3))])), tp := false, tgt := (fun d σ => some (σ.set 1 (some d))), ifs := (T.all []) } [] (.list []))) (S.seq (S.swapped [13, 14] (D.tup [(D.const (.int 0)), (XE (D.list []))])) (S.seq (S.loopS (I.val (D.bin Zc (D.var 12) (D.const (.int 0)))) (fun d σ => some (σ.set 15 (some d))) (S.loopS (I.val (Zq 2 (emL (D.var 1)) { it := (I.val (D.bin Zc (D.var 12) (D.const (.int 1)))), tp := false, tgt := (fun d σ => some (σ.set 1 (some d))), ifs := (T.all [(T.cmp ZaX (D.bin Zc (D.bin Zc (D.var 1) (D.const (.int 0))) (D.un YH (D.const (.int 1)))) (D.bin Zc (D.bin Zc (D.var 17) (D.const (.int 0))) (D.un YH (D.const (.int 1)))))]) } [] (.list []))) (fun d σ => some (σ.set 16 (some d))) (S.ite (T.of (D.call ZC [(D.var 15), (D.var 16), (D.var 14)])) (S.seq (S.assigns [17, 18] (D.tup [(D.tup [(D.bin ZE (D.bin Zc (D.var 15) (D.const (.int 0))) (D.bin Zc (D.var 16) (D.const (.int 0)))), (D.const (.int 0)), (D.bin ZE (D.bin Zc (D.var 15) (D.const (.int 2))) (D.bin Zc (D.var 16) (D.const (.int 2))))]), (D.tup [(D.bin Zc (D.bin Zc (D.var 15) (D.const (.int 0))) (D.un YH (D.const (.int 1)))), (D.bin Zc (D.bin Zc (D.var 16) (D.const (.int 0))) (D.un YH (D.const (.int 1))))])])) (S.loopS (I.val (Zq 2 (emL (D.var 1)) { it := (I.val (D.bin Zc (D.var 12) (D.const (.int 2)))), tp := false, tgt := (fun d σ => some (σ.set 1 (some d))), ifs := (T.all [(T.cmp Jp (D.bin Zc (D.bin Zc (D.var 1) (D.const (.int 0))) (D.un YH (D.const (.int 1)))) (D.var 20))]) } [] (.list []))) (fun d σ => some (σ.set 19 (some d))) (S.ite (T.of (D.call ZC [(D.var 17), (D.var 19), (D.var 14)])) (S.aug Zbj 13 (D.bin Xb (D.bin Xb (D.bin Xb (D.bin Zc (D.var 15) (D.const (.int 1))) (D.bin Zc (D.var 16) (D.const (.int 1)))) (D.bin Zc (D.var 19) (D.const (.int 1)))) (D.call Z4 [(D.var 5), (D.var 4), (D.bin ZE (D.var 18) (D.tup [(D.bin Zc (D.bin Zc (D.var 19) (D.const (.int 0))) (D.un YH (D.const (.int 1))))]))]))) S.skip) S.skip)) S.skip) S.skip) S.skip) (S.seq (S.assign 20 (Zq 3 (emL (D.meth ZeJ Zjh (D.bin Zc (D.var 10) (D.var 2)) [(D.bin Zc (D.var 9) (D.var 1)), (D.const (.int 0))])) { it := (I.val (D.call Zo [(D.const (.int 3))])), tp := false, tgt := (fun d σ => some (σ.set 1 (some d))), ifs := (T.all []) } [{ it := (I.val (D.call Zo [(D.const (.int 5)), (D.const (.int 8))])), tp := false, tgt := (fun d σ => some (σ.set 2 (some d))), ifs := (T.all []) }] (.list []))) (S.seq (S.assigns [21, 22, 23, 24, 25, 26, 27, 28, 29] (D.var 20)) (S.seq (S.ite (T.cmp ZaX (D.var 13) (D.bin ZE (D.bin ZbX (D.bin Xb (D.var 21) (D.bin ZbX (D.bin Xb (D.var 25) (D.var 29)) (D.bin Xb (D.var 26) (D.var 28)))) (D.bin Xb (D.var 22) (D.bin ZbX (D.bin Xb (D.var 24) (D.var 29)) (D.bin Xb (D.var 26) (D.var 27))))) (D.bin Xb (D.var 23) (D.bin ZbX (D.bin Xb (D.var 24) (D.var 28)) (D.bin Xb (D.var 25) (D.var 27)))))) (S.ret (D.const (.bool false))) S.skip) (S.seq (S.assign 30 (Zq 2 (emL (Zq 2 (emL (Zq 2 (emL (D.call Zr [(D.var 1), (D.bin Zc (D.var 3) (D.const (.int 3)))])) { it := (I.val (D.list [(D.bin ZE (D.bin Zc (D.const (.str "abc")) (D.var 3)) (D.const (.str "...f"))), (D.bin ZE (D.bin Zc (D.const (.str "abc")) (D.var 3)) (D.const (.str "...g"))), (D.bin ZE (D.bin Zc (D.const (.str "abc")) (D.var 3)) (D.const (.str "...h"))), (D.const (.str "...d...")), (D.const (.str "...e...")), (D.bin ZE (D.bin ZE (D.bin Zc (D.var 1) (D.const (.int 3))) (D.const (.str "..."))) (D.bin Zc (D.bin Zc (D.var 1) (D.const (.int 3))) (D.un YH (D.const (.int 1))))), (D.bin ZE (D.bin ZE (D.bin Zc (D.const (.str "abc")) (D.bin ZbX (D.var 3) (D.const (.int 2)))) (D.const (.str "..."))) (D.bin Zc (D.bin Zc (D.var 1) (D.const (.int 3))) (D.un YH (D.const (.int 1)))))])), tp := false, tgt := (fun d σ => some (σ.set 1 (some d))), ifs := (T.all []) } [] (.list []))) { it := (I.val (D.bin Zc (D.var 14) (D.var 1))), tp := false, tgt := (fun d σ => some (σ.set 1 (some d))), ifs := (T.all []) } [] (.list []))) { it := (I.val (D.call Zo [(D.const (.int 3))])), tp := false, tgt := (fun d σ => some (σ.set 1 (some d))), ifs := (T.all []) } [] (.list []))) (S.seq (S.ite (T.cmp ZaX (Zq 3 (emL (D.call Zi6 [(Zq 3 (emL (D.bin Zc (D.var 1) (D.const (.int 1)))) { it := (I.zip (D.bin Zc (D.var 15) (D.var 1)) (D.bin Zc (D.var 33) (D.var 1))), tp := true, tgt := (S.parts [1, 2]), ifs := (T.all [(T.of (D.bin Zc (D.var 2) (D.var 5)))]) } [] (.list []))])) { it := (I.val (D.call Zo [(D.const (.int 3))])), tp := false, tgt := (fun d σ => some (σ.set 1 (some d))), ifs := (T.all []) } [{ it := (I.val (D.call Zo [(D.const (.int 3))])), tp := false, tgt := (fun d σ => some (σ.set 2 (some d))), ifs := (T.all []) }] (.list [])) (D.var 20)) (S.ret (D.const (.bool false))) S.skip) (S.seq (S.ite (T.cmp ZaX (D.call Zeo [(D.var 30)]) (D.call Zeo [(Zq 2 (emL (Zq 2 (emL (D.bin ZE (Zq 2 (emL (D.bin (bv X8) (D.bin Zc (D.bin Zc (D.var 3) (D.const (.int 0))) (D.un YH (D.const (.int 1)))) (D.var 1))) { it := (I.val (D.call Zo [(D.const (.int 5)), (D.const (.int 8))])), tp := false, tgt := (fun d σ => some (σ.set 1 (some d))), ifs := (T.all []) } [] (.list [])) (D.list [(D.bin (bv vin) (D.const (.int 3)) (D.bin Zc (D.var 1) (D.const (.int 0)))), (D.bin (bv vin) (D.const (.int 4)) (D.bin Zc (D.var 1) (D.const (.int 0)))), (D.const (.bool false)), (D.const (.bool false))]))) { it := (I.val (D.bin Zc (D.var 14) (D.var 1))), tp := false, tgt := (fun d σ => some (σ.set 1 (some d))), ifs := (T.all []) } [] (.list []))) { it := (I.val (D.call Zo [(D.const (.int 3))])), tp := false, tgt := (fun d σ => some (σ.set 1 (some d))), ifs := (T.all []) } [] (.list []))])) (S.ret (D.const (.bool false))) S.skip) (S.seq (S.ite (T.cmp ZaX (Zq 2 (emL (D.var 1)) { it := (I.val (D.var 14)), tp := false, tgt := (fun d σ => some (σ.set 1 (some d))), ifs := (T.all [(T.not (T.of (D.call ZU [(D.bin Zc (D.var 1) (D.const (.int 0))), (D.bin Zc (D.var 1) (D.const (.int 1))), (D.bin Zc (D.var 1) (D.const (.int 2))), (D.bin Zc (D.var 1) (D.const (.int 3))), (D.var 5), (D.var 8)])))]) } [] (.list [])) (D.list [])) (S.ret (D.const (.bool false))) S.skip) (S.ret (D.bin (bv X8) (Zq 2 (emL (D.listItems (D.var 1))) { it := (I.val (D.bin ZE (D.var 7) (D.list [(D.var 8), (D.var 9)]))), tp := false, tgt := (fun d σ => some (σ.set 1 (some d))), ifs := (T.all []) } [] (.list [])) (D.call ZV [(D.var 2), (D.var 10), (D.var 6)])))))))))))))))))))))))
theorem ZtJ {G : GC} {H : Nat} {Zr : VF} {ZC : VF} {Z8 : VF} {Z0 : VF} {ZV : VF} {Yk : VF} {Z4 : VF} {ZU : VF} {Z6 : VF} {Z7 : VF} {Zm : VF} (TB : Zb2 G) {Kf : PySem.W.Frag} {fI fC : Addr} (TCI : Zgg G Kf fI fC) (TCN : Zog G H Kf fI) (h__ellipsis_match : Yx G H "_ellipsis_match" Zr) (h__law_apart : Yx G H "_law_apart" ZC) (h__law_books : Yx G H "_law_books" Z8) (h__law_cells : Yx G H "_law_cells" Z0) (h__law_dues : Yx G H "_law_dues" ZV) (h__law_net : Yx G H "_law_net" Yk) (h__law_sign : Yx G H "_law_sign" Z4) (h__law_told : Yx G H "_law_told" ZU) (h__law_walks : Yx G H "_law_walks" Z6) (h__law_words : Yx G H "_law_words" Z7) (h_add_callers : Yx G H "add_callers" Zm) : Xe G H ZkR (bd 20) (ZlH Zr ZC Z8 Z0 ZV Yk Z4 ZU Z6 Z7 Zm) :=
 (Zh (Zy (YS h__law_cells (.cons rfl Za .nil))) (Zh (Zy (YS h__law_net (.cons rfl Za .nil))) (Zh (ZcM (Z5 (.cons rfl (Zk Za2 (Zg rfl Za Zb) Zb) (.cons rfl (Zk Zbu Zb (Zk Xc Zb (Zk Za2 (Zk ZeH (Zg rfl Za Zb) Zb) Zb))) .nil)) rfl) (.cons (.cons .nil))) (Zh (Zy (ZmG TCI TCN (by kernel_rfl) rfl (Z5 (.cons rfl (Z5 (.cons rfl Zb (.cons rfl Za .nil)) rfl) (.cons rfl (Z5 (.cons rfl Zb (.cons rfl Za .nil)) rfl) .nil)) rfl))) (Zh (Zy (YS h__law_words (.cons rfl Za .nil))) (Zh (Zy (YS h__law_books (.cons rfl Za (.cons rfl Za .nil)))) (Zh (Zy (YS h_add_callers (.cons rfl (Zg rfl Za Zb) (.cons rfl (Zg rfl Za Zb) .nil)))) (Zh (Zy (YS h_add_callers (.cons rfl (Ym.tree (Zdv (gens (Zl (Zg rfl Za Zb)) Yb .nil) Za (Z5 (.cons rfl (Zg rfl (Zg rfl Za Zb) Za) (.cons rfl Zb .nil)) rfl))) (.cons rfl (Ym.tree (Zdv (gens (Zl (Zg rfl Za Zb)) Yb .nil) Za (Z5 (.cons rfl (Zg rfl (Zg rfl Za Zb) Za) (.cons rfl Zb .nil)) rfl))) .nil)))) (Zh (Zy (YS h__law_walks (.cons rfl Za .nil))) (Zh (ZbB (Ym.tree (Zp (gens (Zl Za) (Za1 rfl rfl (Xp (.cons (.cons .nil))) (Jk (.cons (Ye Zf4 (Zg rfl Za (XA Y5 Zb)) Zb rfl) .nil))) .nil) (Z5 (.cons rfl Za (.cons rfl Za (.cons rfl (Zn Zk2 TB.sum (.cons rfl (Ym.tree (Zp (gens (Zl Za) Yb .nil) (Zk ZkN Zb (Zk ZW Za Za)))) .nil)) (.cons rfl (Y3 PySem.F.plainAttrs_str PySem.F.slot_str_join PySem.F.type_str_join Jq Zfx rfl rfl Yw (.cons rfl (Ym.tree (Zp (gens (Zl Za) Yb .nil) (Zg rfl Yw Za))) .nil) (by decide)) .nil)))) rfl)))) (Zh (ZbB (Ym.tree (Zp (gens (Zl (Zn ZI TB.range (.cons rfl Zb .nil))) Yb .nil) (Ym.tree (Zp (gens (Zl Za) (Za1 rfl rfl ZG (Jk (.cons (Ye Zby (Zg rfl (Zg rfl Za Zb) Zb) Za rfl) .nil))) .nil) Za))))) (Zh (Zdz (Z5 (.cons rfl Zb (.cons rfl (Ym.box (Yq .nil rfl)) .nil)) rfl) (.cons (.cons .nil)) rfl) (Zh (Yp (Zl (Zg rfl Za Zb)) rfl ZG (Zj (Yp (Zl (Ym.tree (Zp (gens (Zl (Zg rfl Za Zb)) (Za1 rfl rfl ZG (Jk (.cons (Ye Zd2 (Zg rfl (Zg rfl Za Zb) (XA Y5 Zb)) (Zg rfl (Zg rfl Za Zb) (XA Y5 Zb)) rfl) .nil))) .nil) Za))) rfl ZG (Zj (YL (Jg rfl (YS h__law_apart (.cons rfl Za (.cons rfl Za (.cons rfl Za .nil))))) (Zh (ZcM (Z5 (.cons rfl (Z5 (.cons rfl (Zk ZW (Zg rfl Za Zb) (Zg rfl Za Zb)) (.cons rfl Zb (.cons rfl (Zk ZW (Zg rfl Za Zb) (Zg rfl Za Zb)) .nil))) rfl) (.cons rfl (Z5 (.cons rfl (Zg rfl (Zg rfl Za Zb) (XA Y5 Zb)) (.cons rfl (Zg rfl (Zg rfl Za Zb) (XA Y5 Zb)) .nil)) rfl) .nil)) rfl) (.cons (.cons .nil))) (Zj (Yp (Zl (Ym.tree (Zp (gens (Zl (Zg rfl Za Zb)) (Za1 rfl rfl ZG (Jk (.cons (Ye ZcB (Zg rfl (Zg rfl Za Zb) (XA Y5 Zb)) Za rfl) .nil))) .nil) Za))) rfl ZG (Zj (YL (Jg rfl (YS h__law_apart (.cons rfl Za (.cons rfl Za (.cons rfl Za .nil))))) (Zj (Zcn Zbz (Zk Xc (Zk Xc (Zk Xc (Zg rfl Za Zb) (Zg rfl Za Zb)) (Zg rfl Za Zb)) (YS h__law_sign (.cons rfl Za (.cons rfl Za (.cons rfl (Zk ZW Za (Z5 (.cons rfl (Zg rfl (Zg rfl Za Zb) (XA Y5 Zb)) .nil) rfl)) .nil))))))) ZA)) ZA (fun _ _ => rfl)))) ZA)) ZA (fun _ _ => rfl))) ZA (fun _ _ => rfl)) (Zh (ZdP (gens (Zl (Zn ZI TB.range (.cons rfl Zb .nil))) Yb (.cons _ _ _ _ Yb (ZnA (fun _ _ => rfl) (Zl (Zn ZI TB.range (.cons rfl Zb (.cons rfl Zb .nil))))) .nil)) (Y3 PySem.F.plainAttrs_dict PySem.F.slot_dict_get PySem.F.type_dict_get Zki Zo7 rfl rfl (Zg rfl Za Za) (.cons rfl (Zg rfl Za Za) (.cons rfl Zb .nil)) (by decide))) (Zh (ZdE Za (.cons (.cons (.cons (.cons (.cons (.cons (.cons (.cons (.cons .nil))))))))) (fun env hk hn => rfl)) (Zh (YL (Ye Zd2 Za (Zk ZW (Zk Zbu (Zk Xc Za (Zk Zbu (Zk Xc Za Za) (Zk Xc Za Za))) (Zk Xc Za (Zk Zbu (Zk Xc Za Za) (Zk Xc Za Za)))) (Zk Xc Za (Zk Zbu (Zk Xc Za Za) (Zk Xc Za Za)))) rfl) (Zj (Z2 Xv)) ZA) (Zh (ZbB (Ym.tree (Zp (gens (Zl (Zn ZI TB.range (.cons rfl Zb .nil))) Yb .nil) (Ym.tree (Zp (gens (Zl (Zg rfl Za Za)) Yb .nil) (Ym.tree (Zp (gens (Zl (Ym.tree (Yq (.cons rfl (Zk ZW (Zg rfl Yw Za) Yw) (.cons rfl (Zk ZW (Zg rfl Yw Za) Yw) (.cons rfl (Zk ZW (Zg rfl Yw Za) Yw) (.cons rfl Yw (.cons rfl Yw (.cons rfl (Zk ZW (Zk ZW (Zg rfl Za Zb) Yw) (Zg rfl (Zg rfl Za Zb) (XA Y5 Zb))) (.cons rfl (Zk ZW (Zk ZW (Zg rfl Yw (Zk Zbu Za Zb)) Yw) (Zg rfl (Zg rfl Za Zb) (XA Y5 Zb))) .nil))))))) rfl))) Yb .nil) (YS h__ellipsis_match (.cons rfl Za (.cons rfl (Zg rfl Za Zb) .nil)))))))))) (Zh (YL (Ye Zd2 (Ym.tree (Zp (gens (Zl (Zn ZI TB.range (.cons rfl Zb .nil))) Yb (.cons _ _ _ _ Yb (ZnA (fun _ _ => rfl) (Zl (Zn ZI TB.range (.cons rfl Zb .nil)))) .nil)) (Zn Zk2 TB.sum (.cons rfl (Ym.tree (Zp (gens (ZnY (by kernel_rfl) TB.zip rfl rfl (Zg rfl Za Za) (Zg rfl Za Za)) (Za1 rfl rfl (Xp (.cons (.cons .nil))) (Jk (.cons (Jg rfl (Zg rfl Za Za)) .nil))) .nil) (Zg rfl Za Zb))) .nil)))) Za rfl) (Zj (Z2 Xv)) ZA) (Zh (YL (Ye Zd2 (Zn Zh4 TB.repr (.cons rfl Za .nil)) (Zn Zh4 TB.repr (.cons rfl (Ym.tree (Zp (gens (Zl (Zn ZI TB.range (.cons rfl Zb .nil))) Yb .nil) (Ym.tree (Zp (gens (Zl (Zg rfl Za Za)) Yb .nil) (Zk ZW (Ym.tree (Zp (gens (Zl (Zn ZI TB.range (.cons rfl Zb (.cons rfl Zb .nil)))) Yb .nil) (Jh Zby (Zg rfl (Zg rfl Za Zb) (XA Y5 Zb)) Za rfl))) (Ym.tree (Yq (.cons rfl (Jh Zd1 Zb (Zg rfl Za Zb) rfl) (.cons rfl (Jh Zd1 Zb (Zg rfl Za Zb) rfl) (.cons rfl Xv (.cons rfl Xv .nil)))) rfl))))))) .nil)) rfl) (Zj (Z2 Xv)) ZA) (Zh (YL (Ye Zd2 (Ym.tree (Zp (gens (Zl Za) (Za1 rfl rfl ZG (Jk (.cons (Zik (Jg rfl (YS h__law_told (.cons rfl (Zg rfl Za Zb) (.cons rfl (Zg rfl Za Zb) (.cons rfl (Zg rfl Za Zb) (.cons rfl (Zg rfl Za Zb) (.cons rfl Za (.cons rfl Za .nil))))))))) .nil))) .nil) Za)) (Ym.tree (Yq .nil rfl)) rfl) (Zj (Z2 Xv)) ZA) (Zj (Z2 (Jh Zby (Ym.tree (Zp (gens (Zl (Zk ZW Za (Ym.tree (Yq (.cons rfl Za (.cons rfl Za .nil)) rfl)))) Yb .nil) (Zf9 (by kernel_rfl) TB.list rfl rfl Za))) (YS h__law_dues (.cons rfl Za (.cons rfl Za (.cons rfl Za .nil)))) rfl)))))))))))))))))))))))
noncomputable def Zbl : K := { sc := [("self", .local), ("left", .local), ("right", .local), ("index", .local), ("direction", .local), ("l", .local), ("r", .local)], names := ["self", "left", "right", "index", "direction", "l", "r"], asg := ["self", "left", "right", "index", "direction", "l", "r"], gen := false }
noncomputable def ZcH : DS := (S.seq (S.loopS (I.val (D.tcGet (D.var 0))) (S.parts [3, 4]) (S.seq (S.assign 5 (D.bin Zc (D.var 1) (D.var 3))) (S.seq (S.assign 6 (D.bin Zc (D.var 2) (D.var 3))) (S.seq (S.ite (T.cmp vlt (D.var 5) (D.var 6)) (S.ret (D.un YH (D.var 4))) S.skip) (S.ite (T.cmp vgt (D.var 5) (D.var 6)) (S.ret (D.var 4)) S.skip)))) S.skip) (S.ret (D.const (.int 0))))
theorem ZmP {G : GC} {H : Nat} (TB : Zb2 G) {Kf : PySem.W.Frag} {fI fC : Addr} (TCI : Zgg G Kf fI fC) : Xe G H Zbl (bdm) (ZcH) :=
 (Zh (Yp (Zl (Zmf TCI Za)) rfl (Xp (.cons (.cons .nil))) (Zh (Zy (Zg rfl Za Za)) (Zh (Zy (Zg rfl Za Za)) (Zh (YL (Ye Ze9 Za Za rfl) (Zj (Z2 (XA Y5 Za))) ZA) (Zj (YL (Ye Zf4 Za Za rfl) (Zj (Z2 Za)) ZA))))) ZA (fun _ _ => rfl)) (Zj (Z2 Zb)))
end Mine
open PySem PySem.W PyProof.Rows
namespace Mine
open PySem.Calls
noncomputable def st (n : Nat) : Option Stmt := PySem.Challenge.pw_xg0032_04.main.body[n]?
noncomputable def sm (n i : Nat) : Option Stmt := match st n with
 | some (.ClassDef _ _ _ b _ _ _ _ _ _ _) => b[i]?
 | _ => none
noncomputable def fp : Option Stmt -> Arguments
 | some (.FunctionDef _ p _ _ _ _ _ _ _ _) => p
 | _ => default
noncomputable def fs : Option Stmt -> Scope
 | some (.FunctionDef _ _ _ _ _ _ s _ _ _) => s
 | _ => default
noncomputable def bdi : List Stmt := match sm 1 0 with
 | some (.FunctionDef _ _ b _ _ _ _ _ _ _) => b
 | _ => []
noncomputable abbrev ke (P : Params) (n : Str) (t : Nat) (v : Value) : DictEntry := { hash := PyData.keyHash P n, key := .str n t, val := v }
noncomputable abbrev fO (nm q : Str) (s : Option Stmt) (b : List Stmt) (m : Str) (t c : Nat) : Obj := { cls := .type "function", data := .func (methDef nm q (fp s) b (fs s) (.str m t) (.ref c) .none) }
noncomputable abbrev cO (nm q : Str) (t l n r : Nat) (x y z : Value) (k : Nat) : Obj := { cls := .type "code", data := .fields #[.str nm t, .str q (t+1), .str "/claim/cut.py" (t+2), .int l 0, .int n 0, .int 0 0, .int 0 0, .int 3 0, .ref r, .bool true, .int 181 0, .ref (r+1), .none, x, y, z, .int k 0, .int l 0, .str "/claim/cut.py" (k+1)] }
noncomputable def K4 (P : Params) : PySem.W.Frag := [
(3, { cls := .type "dict", data := .dict #[ke P "__name__" 165 (.str "law_xg0032_04" 310), ke P "__doc__" 166 (.none), ke P "__package__" 167 (.none), ke P "__loader__" 168 (.builtin "__main__.__loader__#opaque"), ke P "__spec__" 169 (.none), ke P "__annotations__" 170 (.ref 6), ke P "__builtins__" 171 (.ref 4), ke P "__file__" 173 (.str "/claim/cut.py" 172), ke P "__cached__" 174 (.none), ke P "TupleComp" 230 (.ref 38), ke P "add_callers" 241 (.ref 49), ke P "count_calls" 250 (.ref 56), ke P "COMPILER_FLAG_NAMES" 283 (.ref 57), ke P "pretty_flags" 293 (.ref 64), ke P "ELLIPSIS_MARKER" 297 (.str "..." 296), ke P "_ellipsis_match" 309 (.ref 71), ke P "_law_cells" 320 (.ref 78), ke P "_law_words" 326 (.ref 83), ke P "_law_net" 332 (.ref 88), ke P "_law_walks" 338 (.ref 93), ke P "_law_books" 344 (.ref 98), ke P "_law_dues" 350 (.ref 103), ke P "_law_sign" 362 (.ref 110), ke P "_law_apart" 373 (.ref 117), ke P "_law_told" 379 (.ref 122), ke P "law" 385 (.ref 127)] 26 }),
 (27, cO "__init__" "TupleComp.__init__" 201 4 2 22 (.ref 24) (.ref 25) (.ref 26) 206),
 (28, fO "__init__" "TupleComp.__init__" (sm 1 0) bdi "cpy313.pstats" 187 27),
 (34, cO "compare" "TupleComp.compare" 209 7 3 29 (.ref 31) (.ref 32) (.ref 33) 219),
 (35, fO "compare" "TupleComp.compare" (sm 1 1) bdm "cpy313.pstats" 187 34),
 (37, { cls := .type "dict", data := .dict #[ke P "__module__" 196 (.str "cpy313.pstats" 187), ke P "__firstlineno__" 200 (.int 2 199), ke P "__init__" 208 (.ref 28), ke P "compare" 221 (.ref 35), ke P "__static_attributes__" 223 (.ref 36), ke P "__dict__" 225 (.ref 39), ke P "__weakref__" 227 (.ref 40), ke P "__doc__" 228 (.none)] 4 }),
 (38, { cls := .type "type", data := .cls { name := "TupleComp", bases := [.type "object"], mro := [.ref 38, .type "object"], ns := 37, qualname := "TupleComp" }, slots := #[none, none, some (.str "TupleComp" 189), some (.str "TupleComp" 197), some (.builtin "object.__new__"), some (.bool true)] }),
 (39, { cls := .type "getset_descriptor", data := .fields #[.str "__dict__" 224, .ref 38, .builtin "function.__dict__", .builtin "function.__dict__#set"] }),
 (40, { cls := .type "getset_descriptor", data := .fields #[.str "__weakref__" 226, .ref 38, .builtin "ExceptionGroup.__weakref__", .none] }),
 (48, cO "add_callers" "add_callers" 231 16 2 43 (.ref 45) (.ref 46) (.ref 47) 239),
 (49, fO "add_callers" "add_callers" (st 2) (bd 2) "cpy313.pstats" 187 48),
 (55, cO "count_calls" "count_calls" 242 29 1 50 (.ref 52) (.ref 53) (.ref 54) 248),
 (56, fO "count_calls" "count_calls" (st 3) (bd 3) "cpy313.pstats" 187 55),
 (57, { cls := .type "dict", data := .dict #[{ hash := 1, key := .int 1 253, val := .str "OPTIMIZED" 254 }, { hash := 2, key := .int 2 255, val := .str "NEWLOCALS" 256 }, { hash := 4, key := .int 4 257, val := .str "VARARGS" 258 }, { hash := 8, key := .int 8 259, val := .str "VARKEYWORDS" 260 }, { hash := 16, key := .int 16 261, val := .str "NESTED" 262 }, { hash := 32, key := .int 32 263, val := .str "GENERATOR" 264 }, { hash := 64, key := .int 64 265, val := .str "NOFREE" 266 }, { hash := 128, key := .int 128 267, val := .str "COROUTINE" 268 }, { hash := 256, key := .int 256 269, val := .str "ITERABLE_COROUTINE" 270 }, { hash := 512, key := .int 512 271, val := .str "ASYNC_GENERATOR" 272 }] 10 }),
 (63, cO "pretty_flags" "pretty_flags" 284 36 1 58 (.ref 60) (.ref 61) (.ref 62) 291),
 (64, fO "pretty_flags" "pretty_flags" (st 6) (bd 6) "cpy313.dis" 251 63),
 (70, cO "_ellipsis_match" "_ellipsis_match" 298 50 2 65 (.ref 67) (.ref 68) (.ref 69) 307),
 (71, fO "_ellipsis_match" "_ellipsis_match" (st 9) (bd 9) "cpy313.doctest" 294 70),
 (77, cO "_law_cells" "_law_cells" 312 79 1 72 (.ref 74) (.ref 75) (.ref 76) 318),
 (78, fO "_law_cells" "_law_cells" (st 11) (bd 11) "law_xg0032_04" 310 77),
 (82, cO "_law_words" "_law_words" 321 84 1 79 .none .none (.ref 81) 324),
 (83, fO "_law_words" "_law_words" (st 12) (bd 12) "law_xg0032_04" 310 82),
 (87, cO "_law_net" "_law_net" 327 87 1 84 .none .none (.ref 86) 330),
 (88, fO "_law_net" "_law_net" (st 13) (bd 13) "law_xg0032_04" 310 87),
 (92, cO "_law_walks" "_law_walks" 333 93 1 89 .none .none (.ref 91) 336),
 (93, fO "_law_walks" "_law_walks" (st 14) (bd 14) "law_xg0032_04" 310 92),
 (97, cO "_law_books" "_law_books" 339 100 2 94 .none .none (.ref 96) 342),
 (98, fO "_law_books" "_law_books" (st 15) (bd 15) "law_xg0032_04" 310 97),
 (102, cO "_law_dues" "_law_dues" 345 107 3 99 .none .none (.ref 101) 348),
 (103, fO "_law_dues" "_law_dues" (st 16) (bd 16) "law_xg0032_04" 310 102),
 (109, cO "_law_sign" "_law_sign" 351 120 3 104 (.ref 106) (.ref 107) (.ref 108) 360),
 (110, fO "_law_sign" "_law_sign" (st 17) (bd 17) "law_xg0032_04" 310 109),
 (116, cO "_law_apart" "_law_apart" 363 126 3 111 (.ref 113) (.ref 114) (.ref 115) 371),
 (117, fO "_law_apart" "_law_apart" (st 18) (bd 18) "law_xg0032_04" 310 116),
 (121, cO "_law_told" "_law_told" 374 131 6 118 .none .none (.ref 120) 377),
 (122, fO "_law_told" "_law_told" (st 19) (bd 19) "law_xg0032_04" 310 121),
 (126, cO "law" "law" 380 135 1 123 .none .none (.ref 125) 383),
 (127, fO "law" "law" (st 20) (bd 20) "law_xg0032_04" 310 126)]
noncomputable def a4 : List Addr := [3, 27, 28, 34, 35, 37, 38, 39, 40, 48, 49, 55, 56, 57, 63, 64, 70, 71, 77, 78, 82, 83, 87, 88, 92, 93, 97, 98, 102, 103, 109, 110, 116, 117, 121, 122, 126, 127]
noncomputable def vw : Program := view PySem.Challenge.pw_xg0032_04 [2, 20]
noncomputable def lo : List Str := ["TupleComp", "count_calls", "COMPILER_FLAG_NAMES", "pretty_flags", "ELLIPSIS_MARKER", "_ellipsis_match", "_law_cells", "_law_words", "_law_net", "_law_walks", "_law_books", "_law_dues", "_law_sign", "_law_apart", "_law_told"]
noncomputable def Hk4 : Hook := kHook K4 a4 (fun _ => by kernel_rfl)
theorem Ztq : LeftO PySem.Challenge.pw_xg0032_04 vw lo (fun _ => true) Hk4.obs Hk4.val 1834 :=
 LeftO.of_split "special-get-raises" (fun w => by kernel_rfl)
noncomputable def dr4 : DefRec × List (Str × Expr) := (defOf vw "law").get (by kernel_rfl)
theorem Ztr (call : WalkO vw lo (fun _ _ => True) Hk4.says PySem.Challenge.rw_xg0032_04.row.toRowW dr4.1 [] fun f vs => PySem.call f vs) : PySem.Challenge.rw_xg0032_04.Holds :=
 holds_law (by kernel_rfl) fun said => holds_open (q := vw) (loose := lo) (Xt := fun _ => true) (XP := fun _ _ => True) (N := 1834) Ztq Hk4.of Hk4.keeps (fun _ _ => trivial) (fun _ _ _ _ _ => trivial)
  (by kernel_rfl) (by kernel_rfl) (by kernel_rfl) (fun s _ => recFacts_nil rfl) rfl said (by kernel_rfl) ⟨rfl, rfl, rfl, rfl, rfl, by kernel_rfl⟩ ⟨[.list [.int 1]], by kernel_rfl, by kernel_rfl⟩ call
section
variable {prog : Program} {loose : List Str} {mean : ExcName -> Option Value} {mg mb : Str -> Option Value} {s : Shared} {w : World}
noncomputable abbrev K04 (w : World) := K4 w.params
noncomputable abbrev G04 (w : World) (s : Shared) (mg mb : Str -> Option Value) := mkG PySem.Challenge.pw_xg0032_04 w s mg mb 48 44 38
theorem Zle (KX : (K04 w).In s.heap) (T : Top vw loose mean mg mb s.heap) : s.heap.IsCode 48 44 #[] /\ s.heap.TableAt 48 44 #[] := by
 obtain ⟨a, o, fd, c, P, h1, h2, h3, h4, h5, h6⟩ := T.tab _ (List.mem_of_find?_eq_some (p := fun e : DefRec => e.name == "add_callers") (a := _) rfl);have e1 := PySem.W.mg_of (n := "add_callers") (v := .ref 49) KX T.g (by kernel_rfl);have e0 : mg ("add_callers" : Str) = some (.ref a) := h1;rw [e1] at e0; cases e0;have e2 := KX 49 _ rfl;rw [h2] at e2; cases e2
 first | exact nn h3 | cases h3
 first | exact nn h4 | cases h4
 have e3 := KX 48 _ rfl;obtain ⟨o, vs, q1, q2, q3, q4⟩ := h6.1;rw [e3] at q1; cases q1
 first | exact nn q3 | cases q3
 first | exact nn q4 | cases q4
 exact ⟨h5, h6⟩
theorem ZsC (KX : (K04 w).In s.heap) (T : Top vw (PySem.W.looseW vw lo) mean mg mb s.heap) : Zb2 (G04 w s mg mb) := by
 have ap := ZkI (prog := PySem.Challenge.pw_xg0032_04) (w := w) (mg := mg) (mb := mb) (tc := 38) KX (Zle KX T).2 rfl
 refine ⟨JI T (by decide +kernel) (by decide +kernel), JI T (by decide +kernel) (by decide +kernel), JI T (by decide +kernel) (by decide +kernel), JI T (by decide +kernel) (by decide +kernel), JI T (by decide +kernel) (by decide +kernel),
  JI T (by decide +kernel) (by decide +kernel), JI T (by decide +kernel) (by decide +kernel), JI T (by decide +kernel) (by decide +kernel), JI T (by decide +kernel) (by decide +kernel), JI T (by decide +kernel) (by decide +kernel),
  JI T (by decide +kernel) (by decide +kernel), JI T (by decide +kernel) (by decide +kernel), JI T (by decide +kernel) (by decide +kernel), JI T (by decide +kernel) (by decide +kernel), ⟨296, .inl ?_⟩, ?_⟩
 ·exact PySem.W.mg_of (n := "ELLIPSIS_MARKER") KX T.g (by kernel_rfl)
 ·exact ZqL KX ap (PySem.W.mg_of (n := "COMPILER_FLAG_NAMES") (v := .ref 57) KX T.g (by kernel_rfl)) rfl rfl
theorem Ztl (KX : (K04 w).In s.heap) (T : Top vw loose mean mg mb s.heap) : Zgg (G04 w s mg mb) (K04 w) 28 35 := by
 refine ⟨KX, ZkI KX (Zle KX T).2 rfl, ?_, ?_, ?_, ?_, ?_, ?_, ?_, ?_, ?_, ?_, ?_, ?_⟩ <;> kernel_rfl
theorem join04 {YE : VF} {Zm : VF} {ZK : VF} {Zz : VF} {Zr : VF} {Z0 : VF} {Z7 : VF} {Yk : VF} {Z6 : VF} {Z8 : VF} {ZV : VF} {Z4 : VF} {ZC : VF} {ZU : VF}
  (R_compare : Runs (ZcH) Zbl ["self", "left", "right"] YE)
  (R_add_callers : Runs (J6) Jc ["target", "source"] Zm)
  (R_count_calls : Runs (J7) Jf ["callers"] ZK)
  (R_pretty_flags : Runs (Jy) XQ ["flags"] Zz)
  (R__ellipsis_match : Runs (XH) Y9 ["want", "got"] Zr)
  (R__law_cells : Runs (Zau) JG ["script"] Z0)
  (R__law_words : Runs (ZaB) JF ["base"] Z7)
  (R__law_net : Runs (Zbw) ZaR ["cells"] Yk)
  (R__law_walks : Runs (Zaw) JA ["net"] Z6)
  (R__law_books : Runs (Zav Zm) JE ["net", "words"] Z8)
  (R__law_dues : Runs (ZaY) Zan ["net", "walks", "words"] ZV)
  (R__law_sign : Runs (Zaj YE) Zab ["judge", "way", "ends"] Z4)
  (R__law_apart : Runs (JL ZK Zz) XW ["one", "two", "log"] ZC)
  (R__law_told : Runs (Zae) Xm ["one", "two", "number", "text", "base", "words"] ZU)
  (hlaw : ∀ ns : List Int, ns.length <= 63 -> ∃ σ₁ B', ZlH Zr ZC Z8 Z0 ZV Yk Z4 ZU Z6 Z7 Zm (Zbd ZkR ["script"] [.list (ns.map .int)]) [] = some (.ret (.bool true), σ₁, B'))
  (KX : (K04 w).In s.heap) (T : Top vw (PySem.W.looseW vw lo) mean mg mb s.heap) (hg : s.gens = #[]) {ns : List Int} {l : Addr} (hn : ns.length <= 63) (w1 : PySem.W.Well w.params s.heap (.ref l) (PySem.W.ofPy (.list (ns.map .int)))) :
  codeAny (model PySem.Challenge.pw_xg0032_04 w) callerA (.call (.ref 127) ⟨[.ref l], []⟩) (fun r s' => r = .ok (.ret (.bool true)) /\ Wd (G04 w s mg mb) s') s := by
 obtain ⟨hc, ht⟩ := Zle KX T;have TB := ZsC KX T;have TCI := Ztl KX T (mg := mg) (mb := mb);have ap := TCI.apart;have gok : GOk (G04 w s mg mb) := Zqj T hc ht;have hm : ∀ {n : Str} {v : Value}, PySem.W.nsIn (K04 w) mainGlobals n = some (some v) -> (G04 w s mg mb).mg n = some v := fun e => PySem.W.mg_of KX T.g e;have I_compare : ZaV (G04 w s mg mb) false "compare" "TupleComp.compare" _ bdm _ 35 := X7 KX ap rfl rfl rfl rfl rfl (fun h => by cases h);have C_compare : ∀ {H : Nat}, Zo1 (G04 w s mg mb) (H + 1) 35 YE := fun {H} => ⟨1, _, _, _, _, _, _, by omega, I_compare, Zlg (H := 0) (k := Zbl) (ps := ["self", "left", "right"]) I_compare rfl (by decide +kernel) (fun pm cd doc => ZbJ.all (n := 3) fun _ _ _ => rfl) (ZmP TB TCI) R_compare⟩;have I_add_callers : ZaV (G04 w s mg mb) true "add_callers" "add_callers" _ (bd 2) _ 49 := X7 KX ap rfl rfl rfl rfl rfl (fun _ => ⟨44, List.mem_singleton.mpr rfl⟩);have C_add_callers : ∀ {H : Nat}, Yx (G04 w s mg mb) (H + 1) "add_callers" Zm := fun {H} => Y2 (H := 0) (k := Jc) (ps := ["target", "source"]) (.inl (hm (by kernel_rfl))) I_add_callers rfl (by decide +kernel) (fun pm cd doc => ZbJ.all (n := 2) fun _ _ => rfl) (Zgi TB) R_add_callers (by omega);have I_count_calls : ZaV (G04 w s mg mb) false "count_calls" "count_calls" _ (bd 3) _ 56 := X7 KX ap rfl rfl rfl rfl rfl (fun h => by cases h);have C_count_calls : ∀ {H : Nat}, Yx (G04 w s mg mb) (H + 1) "count_calls" ZK := fun {H} => Y2 (H := 0) (k := Jf) (ps := ["callers"]) (.inl (hm (by kernel_rfl))) I_count_calls rfl (by decide +kernel) (fun pm cd doc => ZbJ.all (n := 1) fun _ => rfl) (Zgn TB) R_count_calls (by omega);have I_pretty_flags : ZaV (G04 w s mg mb) false "pretty_flags" "pretty_flags" _ (bd 6) _ 64 := X7 KX ap rfl rfl rfl rfl rfl (fun h => by cases h);have C_pretty_flags : ∀ {H : Nat}, Yx (G04 w s mg mb) (H + 1) "pretty_flags" Zz := fun {H} => Y2 (H := 0) (k := XQ) (ps := ["flags"]) (.inl (hm (by kernel_rfl))) I_pretty_flags rfl (by decide +kernel) (fun pm cd doc => ZbJ.all (n := 1) fun _ => rfl) (Zfy TB) R_pretty_flags (by omega);have I__ellipsis_match : ZaV (G04 w s mg mb) false "_ellipsis_match" "_ellipsis_match" _ (bd 9) _ 71 := X7 KX ap rfl rfl rfl rfl rfl (fun h => by cases h);have C__ellipsis_match : ∀ {H : Nat}, Yx (G04 w s mg mb) (H + 1) "_ellipsis_match" Zr := fun {H} => Y2 (H := 0) (k := Y9) (ps := ["want", "got"]) (.inl (hm (by kernel_rfl))) I__ellipsis_match rfl (by decide +kernel) (fun pm cd doc => ZbJ.all (n := 2) fun _ _ => rfl) (Zdh TB) R__ellipsis_match (by omega);have I__law_cells : ZaV (G04 w s mg mb) false "_law_cells" "_law_cells" _ (bd 11) _ 78 := X7 KX ap rfl rfl rfl rfl rfl (fun h => by cases h);have C__law_cells : ∀ {H : Nat}, Yx (G04 w s mg mb) (H + 1) "_law_cells" Z0 := fun {H} => Y2 (H := 0) (k := JG) (ps := ["script"]) (.inl (hm (by kernel_rfl))) I__law_cells rfl (by decide +kernel) (fun pm cd doc => ZbJ.all (n := 1) fun _ => rfl) (Zhy TB) R__law_cells (by omega);have I__law_words : ZaV (G04 w s mg mb) false "_law_words" "_law_words" _ (bd 12) _ 83 := X7 KX ap rfl rfl rfl rfl rfl (fun h => by cases h);have C__law_words : ∀ {H : Nat}, Yx (G04 w s mg mb) (H + 1) "_law_words" Z7 := fun {H} => Y2 (H := 0) (k := JF) (ps := ["base"]) (.inl (hm (by kernel_rfl))) I__law_words rfl (by decide +kernel) (fun pm cd doc => ZbJ.all (n := 1) fun _ => rfl) (Zhe TB) R__law_words (by omega);have I__law_net : ZaV (G04 w s mg mb) false "_law_net" "_law_net" _ (bd 13) _ 88 := X7 KX ap rfl rfl rfl rfl rfl (fun h => by cases h);have C__law_net : ∀ {H : Nat}, Yx (G04 w s mg mb) (H + 1) "_law_net" Yk := fun {H} => Y2 (H := 0) (k := ZaR) (ps := ["cells"]) (.inl (hm (by kernel_rfl))) I__law_net rfl (by decide +kernel) (fun pm cd doc => ZbJ.all (n := 1) fun _ => rfl) (Zj1 TB) R__law_net (by omega);have I__law_walks : ZaV (G04 w s mg mb) false "_law_walks" "_law_walks" _ (bd 14) _ 93 := X7 KX ap rfl rfl rfl rfl rfl (fun h => by cases h);have C__law_walks : ∀ {H : Nat}, Yx (G04 w s mg mb) (H + 1) "_law_walks" Z6 := fun {H} => Y2 (H := 0) (k := JA) (ps := ["net"]) (.inl (hm (by kernel_rfl))) I__law_walks rfl (by decide +kernel) (fun pm cd doc => ZbJ.all (n := 1) fun _ => rfl) (Zht TB) R__law_walks (by omega);have I__law_books : ZaV (G04 w s mg mb) false "_law_books" "_law_books" _ (bd 15) _ 98 := X7 KX ap rfl rfl rfl rfl rfl (fun h => by cases h);have C__law_books : ∀ {H : Nat}, Yx (G04 w s mg mb) (H + 2) "_law_books" Z8 := fun {H} => Y2 (H := 1) (k := JE) (ps := ["net", "words"]) (.inl (hm (by kernel_rfl))) I__law_books rfl (by decide +kernel) (fun pm cd doc => ZbJ.all (n := 2) fun _ _ => rfl) (Zhh TB C_add_callers) R__law_books (by omega);have I__law_dues : ZaV (G04 w s mg mb) false "_law_dues" "_law_dues" _ (bd 16) _ 103 := X7 KX ap rfl rfl rfl rfl rfl (fun h => by cases h);have C__law_dues : ∀ {H : Nat}, Yx (G04 w s mg mb) (H + 1) "_law_dues" ZV := fun {H} => Y2 (H := 0) (k := Zan) (ps := ["net", "walks", "words"]) (.inl (hm (by kernel_rfl))) I__law_dues rfl (by decide +kernel) (fun pm cd doc => ZbJ.all (n := 3) fun _ _ _ => rfl) (Zi1 TB) R__law_dues (by omega);have I__law_sign : ZaV (G04 w s mg mb) false "_law_sign" "_law_sign" _ (bd 17) _ 110 := X7 KX ap rfl rfl rfl rfl rfl (fun h => by cases h);have C__law_sign : ∀ {H : Nat}, Yx (G04 w s mg mb) (H + 2) "_law_sign" Z4 := fun {H} => Y2 (H := 1) (k := Zab) (ps := ["judge", "way", "ends"]) (.inl (hm (by kernel_rfl))) I__law_sign rfl (by decide +kernel) (fun pm cd doc => ZbJ.all (n := 3) fun _ _ _ => rfl) (Zil TB TCI C_compare) R__law_sign (by omega);have I__law_apart : ZaV (G04 w s mg mb) false "_law_apart" "_law_apart" _ (bd 18) _ 117 := X7 KX ap rfl rfl rfl rfl rfl (fun h => by cases h);have C__law_apart : ∀ {H : Nat}, Yx (G04 w s mg mb) (H + 2) "_law_apart" ZC := fun {H} => Y2 (H := 1) (k := XW) (ps := ["one", "two", "log"]) (.inl (hm (by kernel_rfl))) I__law_apart rfl (by decide +kernel) (fun pm cd doc => ZbJ.all (n := 3) fun _ _ _ => rfl) (ZhU TB C_count_calls C_pretty_flags) R__law_apart (by omega);have I__law_told : ZaV (G04 w s mg mb) false "_law_told" "_law_told" _ (bd 19) _ 122 := X7 KX ap rfl rfl rfl rfl rfl (fun h => by cases h);have C__law_told : ∀ {H : Nat}, Yx (G04 w s mg mb) (H + 1) "_law_told" ZU := fun {H} => Y2 (H := 0) (k := Xm) (ps := ["one", "two", "number", "text", "base", "words"]) (.inl (hm (by kernel_rfl))) I__law_told rfl (by decide +kernel) (fun pm cd doc => ZbJ.all (n := 6) fun _ _ _ _ _ _ => rfl) (Ziy TB) R__law_told (by omega);have TCN : Zog (G04 w s mg mb) 3 (K04 w) 28 := ⟨.inl (hm (by kernel_rfl)), by kernel_rfl, ⟨false, _, _, _, _, _, _, _, _, X7 KX ap rfl rfl rfl rfl rfl (fun h => by cases h), rfl, rfl, rfl, rfl, rfl, fun _ _ _ _ _ => rfl⟩, by decide⟩;have I_law : ZaV (G04 w s mg mb) false "law" "law" _ (bd 20) _ 127 := X7 KX ap rfl rfl rfl rfl rfl (fun h => by cases h);obtain ⟨σ₁, B', hr⟩ := hlaw ns hn
 refine Zpw (H := 3) (ps := ["script"]) gok (Zr4 hc ht hg) (Nat.le_refl _) ⟨rfl, rfl, by decide, by decide⟩ I_law (by decide +kernel) (fun pm cd doc => ZbJ.all (n := 1) fun _ => rfl) (ZtJ TB TCI TCN C__ellipsis_match C__law_apart C__law_books C__law_cells C__law_dues C__law_net C__law_sign C__law_told C__law_walks C__law_words C_add_callers) hr rfl
  (.cons (Zl2 w1 fun q hq o e z => ?_) .nil)
 have hq : q = 44 := by
  rcases hq with h | h
  ·exact ZfC.mp h
  ·first | exact nn h | cases h
 subst hq;have e' : s.heap.get? 44 = some _ := ht.2;rw [e'] at e; cases e; cases z
end
end Mine
open PySem PySem.W PyProof.Rows
namespace Mine
open PySem.Calls
set_option tactic.hygienic true in
theorem Zop {YE : VF} {Zm : VF} {ZK : VF} {Zz : VF} {Zr : VF} {Z0 : VF} {Z7 : VF} {Yk : VF} {Z6 : VF} {Z8 : VF} {ZV : VF} {Z4 : VF} {ZC : VF} {ZU : VF}
  (R_compare : Runs (ZcH) Zbl ["self", "left", "right"] YE)
  (R_add_callers : Runs (J6) Jc ["target", "source"] Zm)
  (R_count_calls : Runs (J7) Jf ["callers"] ZK)
  (R_pretty_flags : Runs (Jy) XQ ["flags"] Zz)
  (R__ellipsis_match : Runs (XH) Y9 ["want", "got"] Zr)
  (R__law_cells : Runs (Zau) JG ["script"] Z0)
  (R__law_words : Runs (ZaB) JF ["base"] Z7)
  (R__law_net : Runs (Zbw) ZaR ["cells"] Yk)
  (R__law_walks : Runs (Zaw) JA ["net"] Z6)
  (R__law_books : Runs (Zav Zm) JE ["net", "words"] Z8)
  (R__law_dues : Runs (ZaY) Zan ["net", "walks", "words"] ZV)
  (R__law_sign : Runs (Zaj YE) Zab ["judge", "way", "ends"] Z4)
  (R__law_apart : Runs (JL ZK Zz) XW ["one", "two", "log"] ZC)
  (R__law_told : Runs (Zae) Xm ["one", "two", "number", "text", "base", "words"] ZU)
  (hlaw : ∀ ns : List Int, ns.length <= 63 -> ∃ σ₁ B', ZlH Zr ZC Z8 Z0 ZV Yk Z4 ZU Z6 Z7 Zm (Zbd ZkR ["script"] [.list (ns.map .int)]) [] = some (.ret (.bool true), σ₁, B')) : PySem.Challenge.rw_xg0032_04.Holds := Ztr (by w_on; w_strict (
 intro w s₀ s'1 mg mb G Y fa o pm cd doc dV kV ho hd hcd hD hmg hg args vals as hpre hlay hrd hwl hlo;have KX := kIn_of Y;refine Ground.open G ?_;intro T B D TE TW;have hfa := (mg_of (n := "law") (v := .ref 127) KX (Top.g T) (by kernel_rfl)).symm.trans hmg
 first | exact nn hfa | cases hfa
 clear ho hd hcd hD hmg
 wrow_args hpre hlay hrd hwl hlo
 rename_i ns _ _ _ _ _ _ _ l _ _ _ _ w1 _ _ _ hlen _;refine enter_call ?_;refine codeAny_mono (Mine.join04 R_compare R_add_callers R_count_calls R_pretty_flags R__ellipsis_match R__law_cells R__law_words R__law_net R__law_walks R__law_books R__law_dues R__law_sign R__law_apart R__law_told hlaw KX T hg (by omega) w1) ?_
 rintro r s' ⟨rfl, W⟩
 refine ⟨.inl ⟨.bool true, .bool true, [], rfl, ?_, ?_, ?_, ?_⟩, W.oldK (ZoX (Zle KX T).2), W.os, W.gens⟩
 ·intro cls; rfl
 ·exact .bool true
 ·exact ZmH _ _
 ·intro h; exact ⟨.nil, by simp⟩))
noncomputable def ZnI (ds : List V) : Sb fun (r : V) => ∃ ks vs, ds = [.dict ks vs] /\ ((Xz vs).map fun ns => V.int ns.sum) = some r := match ds with
 | [.dict ks vs] => ⟨(Xz vs).map fun ns => .int ns.sum, fun _ h => ⟨ks, vs, rfl, h⟩⟩
 | _ => .no
noncomputable def ZK : VF := Y4 fun _ ds => (ZnI ds).1
theorem ZaI : ∀ ns : List Int, Xz (ns.map V.int) = some ns
 | [] => rfl
 | n :: ns => by simp [Xz, ZaI ns]
theorem Zad {f : Bx -> List V -> Option V} {B : Bx} {ds : List V} {d : V} (h : f B ds = some d) : Y4 f B ds = some (d, B) := by simp [Y4, h]
set_option tactic.hygienic true in
theorem Zd8 : Runs J7 Jf ["callers"] ZK := Jt fun B ds d h1 => by
  refine YU ((ZnI ds).2 _ h1) fun ks vs e0 h1 => ?_;refine Ze (Option.map_eq_some_iff.mp h1) fun ns hns z_2 => ?_;rw [e0, <- z_2, JS hns]
  refine YU (Jo (f := V.int) (L := ns) (it := I.values (D.var 0)) (tgt := fun d σ => some (σ.set 2 (some d))) (body := S.aug Zbj 1 (D.var 2)) (els := S.skip) (σ := [some (.dict ks (ns.map V.int)), some (.int 0), none]) (B := B)
   (fun Lc σ B' => ∃ (a : Int) (y : Option V), a + Lc.sum = ns.sum /\ σ = [some (.dict ks (ns.map V.int)), some (.int a), y] /\ B' = B)
   (fun i Lc σ B' h => Xh h fun a y ha h1 h2 => by rw [h1, h2]; exact ⟨_, _, _, rfl, rfl, a + i, _, by rw [Int.add_assoc]; exact ha, rfl, rfl⟩) rfl ⟨0, none, Int.zero_add _, rfl, rfl⟩) fun σ' B' h e => Xh h fun a y ha h1 h2 => ?_
  rw [h1, h2, show a = ns.sum from (Int.add_zero a).symm.trans ha] at e;exact ⟨rfl, [], .int ns.sum, 1, by rw [List.append_nil]; exact Zi rfl (Zi e (YD rfl)), rfl⟩
noncomputable def Zrx (c : V) : Sb fun (p : Int × Int) => c = .tup [.int p.1, .int p.2] := match c with
 | .tup [.int i, .int d] => .ok (i, d) rfl
 | _ => .no
noncomputable def ZeR (B : Bx) (l r : V) : List V -> Option V
 | [] => some (.int 0)
 | c :: cs => (Zrx c).1.bind fun p => (Zc B l (.int p.1)).bind fun x => (Zc B r (.int p.1)).bind fun y => (Zq5 x).1.bind fun a => (Zq5 y).1.bind fun b =>
  if a < b then some (.int (-p.2)) else if b < a then some (.int p.2) else ZeR B l r cs
noncomputable def ZiG (B : Bx) (ds : List V) : Sb fun (d : V) => ∃ cs l r, ds = [.tc (.tup cs), l, r] /\ ZeR B l r cs = some d := match ds with
 | [.tc (.tup cs), l, r] => ⟨ZeR B l r cs, fun _ h => ⟨cs, l, r, rfl, h⟩⟩
 | _ => .no
noncomputable def YE : VF := Y4 fun B ds => (ZiG B ds).1
set_option tactic.hygienic true in
theorem Zfj {B : Bx} {l r c d : V} {cs : List V} (h : ZeR B l r (c :: cs) = some d) : ∃ i dd a b, c = .tup [.int i, .int dd] /\ Zc B l (.int i) = some (.int a) /\ Zc B r (.int i) = some (.int b) /\ (if a < b then some (.int (-dd)) else if b < a then some (.int dd) else ZeR B l r cs) = some d := by
 refine Ze (Option.bind_eq_some_iff.mp h) fun p hp h => ?_;refine Ze (Option.bind_eq_some_iff.mp h) fun x hx h => ?_;refine Ze (Option.bind_eq_some_iff.mp h) fun y hy h => ?_;refine Ze (Option.bind_eq_some_iff.mp h) fun a ha h => ?_;refine Ze (Option.bind_eq_some_iff.mp h) fun b hb h => ?_;exact ⟨p.1, p.2, a, b, (Zrx c).2 _ hp, (Zq5 x).2 _ ha ▸ hx, (Zq5 y).2 _ hb ▸ hy, h⟩
theorem ZlN {B : Bx} {l r : V} {cs : List V} {d : V} (h : ZeR B l r cs = some d) : ∃ i, d = .int i := by
 induction cs with
 | nil => exact ⟨0, (Option.some.inj h).symm⟩
 | cons c cs ih =>
  refine Zdn (Zfj h) fun i dd a b _ _ _ h => ?_;exact (ZaU h).elim (fun h => ⟨_, (Option.some.inj h.2).symm⟩) fun h => (ZaU h.2).elim (fun h => ⟨_, (Option.some.inj h.2).symm⟩) fun h => ih h.2
noncomputable abbrev Zp2 : DS := S.seq (S.assign 5 (D.bin Zc (D.var 1) (D.var 3))) (S.seq (S.assign 6 (D.bin Zc (D.var 2) (D.var 3))) (S.seq (S.ite (T.cmp vlt (D.var 5) (D.var 6)) (S.ret (D.un YH (D.var 4))) S.skip) (S.ite (T.cmp vgt (D.var 5) (D.var 6)) (S.ret (D.var 4)) S.skip)))
noncomputable def Zm4 (t l r : V) (y : Option V × Option V × Option V × Option V) : St := [some t, some l, some r, y.1, y.2.1, y.2.2.1, y.2.2.2]
theorem Zpk {t l r : V} {y : Option V × Option V × Option V × Option V} {B : Bx} {i dd a b : Int} (ha : Zc B l (.int i) = some (.int a)) (hb : Zc B r (.int i) = some (.int b)) :
  Zp2 (Zm4 t l r (some (.int i), some (.int dd), y.2.2)) B = some (if a < b then .ret (.int (-dd)) else if b < a then .ret (.int dd) else .next, Zm4 t l r (some (.int i), some (.int dd), some (.int a), some (.int b)), B) := by
 refine (Yi (σ₁ := Zm4 t l r (some (.int i), some (.int dd), some (.int a), y.2.2.2)) (ZD (Zf rfl rfl ha))).trans ((Yi (ZD (Zf rfl rfl hb))).trans ?_)
 by_cases h1 : a < b
 ·rw [if_pos h1]
  exact ZhL ((ZaT (Yf rfl rfl (congrArg some (decide_eq_true h1)))).trans (Zfm rfl))
 ·rw [if_neg h1]
  refine (Yi ((X4 (Yf rfl rfl (congrArg some (decide_eq_false h1)))).trans rfl)).trans ?_
  by_cases h2 : b < a
  ·rw [if_pos h2]
   exact (ZaT (Yf rfl rfl (congrArg some (decide_eq_true h2)))).trans (Zfm rfl)
  ·rw [if_neg h2]
   exact (X4 (Yf rfl rfl (congrArg some (decide_eq_false h2)))).trans rfl
noncomputable def ZtK (step : V -> St -> Bx -> Option Out) (els : St -> Bx -> Option Out) (n : Nat) (xs : List V) (σ : St) (B : Bx) : Fl -> Option Out
 | .brk => some (.next, σ, B)
 | .ret d => some (.ret d, σ, B)
 | _ => Jx step els n (.seq xs) σ B
theorem Zm0 {step : V -> St -> Bx -> Option Out} {els : St -> Bx -> Option Out} {n : Nat} {x : V} {xs : List V} {σ σ' : St} {B B' : Bx} (f : Fl) (h : step x σ B = some (f, σ', B')) :
  Jx step els (n + 1) (.seq (x :: xs)) σ B = ZtK step els n xs σ' B' f := by
 show (match step x σ B with | some (.next, σ', B') => Jx step els n (.seq xs) σ' B' | some (.cont, σ', B') => Jx step els n (.seq xs) σ' B' | some (.brk, σ', B') => some (.next, σ', B') | some (.ret d, σ', B') => some (.ret d, σ', B') | none => none) = _;rw [h]
 cases f <;> rfl
theorem Zn5 {t l r d : V} {B : Bx} : ∀ (cs : List V) (n : Nat) (y : Option V × Option V × Option V × Option V), ZeR B l r cs = some d -> cs.length < n ->
  ∃ σ', Jx (fun x σ B => match S.parts [3, 4] x σ with | none => none | some σ₁ => Zp2 σ₁ B) S.skip n (.seq cs) (Zm4 t l r y) B = some (.ret d, σ', B) \/ (d = .int 0 /\ Jx (fun x σ B => match S.parts [3, 4] x σ with | none => none | some σ₁ => Zp2 σ₁ B) S.skip n (.seq cs) (Zm4 t l r y) B = some (.next, σ', B)) := by
 intro cs
 induction cs with
 | nil =>
  intro n y h hn
  cases n with
  | zero => cases hn
  | succ n => exact ⟨_, .inr ⟨(Option.some.inj h).symm, rfl⟩⟩
 | cons c cs ih =>
  intro n y h hn
  cases n with
  | zero => cases hn
  | succ n =>
   refine Zdn (Zfj h) fun i dd a b hc ha hb h => ?_;rw [hc, Zm0 _ (show (match S.parts [3, 4] (.tup [.int i, .int dd]) (Zm4 t l r y) with | none => none | some σ₁ => Zp2 σ₁ B) = _ from Zpk (t := t) (y := y) (dd := dd) ha hb)]
   by_cases h1 : a < b
   ·rw [if_pos h1] at h ⊢
    rw [Option.some.inj h]; exact ⟨_, .inl rfl⟩
   ·rw [if_neg h1] at h ⊢
    by_cases h2 : b < a
    ·rw [if_pos h2] at h ⊢
     rw [Option.some.inj h]; exact ⟨_, .inl rfl⟩
    ·rw [if_neg h2] at h ⊢
     exact ih n _ h (Nat.lt_of_succ_lt_succ hn)
set_option tactic.hygienic true in
theorem Zhf : Runs ZcH Zbl ["self", "left", "right"] YE := Jt fun B ds d h1 => by
  refine ZtC ((ZiG B ds).2 _ h1) fun cs l r e1 h1 => ?_;obtain ⟨i, e0⟩ := ZlN h1;rw [e1];refine Ziz (Zn5 (t := .tc (.tup cs)) cs (cs.length + 1) (none, none, none, none) h1 (Nat.lt_succ_self _)) fun σ' hs => ?_;rw [e0] at hs ⊢;refine ⟨rfl, [], .int i, 1, ?_, rfl⟩;rw [List.append_nil];exact hs.elim (fun hs => ZaF ⟨_, hs⟩) fun hs => by rw [hs.1]; exact Zi hs.2 (YD rfl)
noncomputable def ZjC : V -> Bool
 | .int _ => true
 | _ => false
noncomputable def Zaa : V -> Bool
 | .int _ => true
 | .tup xs => xs.all ZjC
 | _ => false
noncomputable def Zt3 (c y : V) : Sb fun (d : V) => (∃ xs ys zs, c = .tup xs /\ y = .tup ys /\ zsum xs ys = some zs /\ ZH xs.length = true /\ d = .tup zs) \/ ∃ n m, c = .int n /\ y = .int m /\ d = .int (m + n) := match c, y with
 | .tup xs, .tup ys => .bind (zsum xs ys) fun zs hz => .ite (c := ZH xs.length = true) (.tup zs) fun hs => .inl ⟨xs, ys, zs, rfl, rfl, hz, hs, rfl⟩
 | .int n, .int m => .ok (.int (m + n)) (.inr ⟨n, m, rfl, rfl, rfl⟩)
 | _, _ => .no
noncomputable def J1 (a : List Str × List V) (k : Str) (c : V) : Option V := if a.1.contains k then (X5 a.1 a.2 k).bind fun y => (Zt3 c y).1 else some c
noncomputable def ZcR : List (Str × V) -> List Str × List V -> Option (List Str × List V)
 | [], a => some a
 | (k, c) :: r, a => (J1 a k c).bind fun d => if ZH a.1.length then ZcR r (JP a.1 a.2 k d) else none
noncomputable def ZtI (ds : List V) : Sb fun (r : V) => ∃ ks vs ks' vs', ds = [.dict ks vs, .dict ks' vs'] /\ (ks.Nodup /\ ks.length = vs.length /\ ks.length <= Cap /\ vs.all Zaa = true /\ vs'.all Zaa = true) /\ ((ZcR (ks'.zip vs') (ks, vs)).map fun r => V.dict r.1 r.2) = some r := match ds with
 | [.dict ks vs, .dict ks' vs'] => ⟨if ks.Nodup /\ ks.length = vs.length /\ ks.length <= Cap /\ vs.all Zaa = true /\ vs'.all Zaa = true then (ZcR (ks'.zip vs') (ks, vs)).map fun r => .dict r.1 r.2 else none, fun _ h => ⟨ks, vs, ks', vs', rfl, YG h⟩⟩
 | _ => .no
noncomputable def Zm : VF := Y4 fun _ ds => (ZtI ds).1
theorem ZfS {k : Str} {c d : V} {r : List (Str × V)} {a : List Str × List V} (h : J1 a k c = some d) (hs : ZH a.1.length = true) : ZcR ((k, c) :: r) a = ZcR r (JP a.1 a.2 k d) := by
 show (J1 a k c).bind _ = _;rw [h];exact if_pos hs
theorem Znu {B : Bx} {ks ks' : List Str} {vs vs' : List V} {r : List Str × List V} (h : ks.Nodup /\ ks.length = vs.length /\ ks.length <= Cap /\ vs.all Zaa = true /\ vs'.all Zaa = true) (h2 : ZcR (ks'.zip vs') (ks, vs) = some r) :
  Zm B [.dict ks vs, .dict ks' vs'] = some (.dict r.1 r.2, B) := by
 show Option.map (·, B) (if _ then Option.map _ _ else none) = _;rw [if_pos h, h2];rfl
theorem YC {B : Bx} {x : V} : (B ++ [x])[B.length]? = some x := by simp
theorem Zcx {B : Bx} {x y : V} : (B ++ [x]).set B.length y = B ++ [y] := by simp
theorem Zcq {B : Bx} {ks : List Str} {vs : List V} {k : Str} {d : V} (h : ZH ks.length = true) :
  Zcj (B ++ [.dict ks vs]) B.length (.str k) d = some (B ++ [.dict (JP ks vs k d).1 (JP ks vs k d).2]) := by
 unfold Zcj; rw [YC]; simp only [h, if_true]; rw [Zcx]
set_option tactic.hygienic true in
theorem ZnS {n : Nat} {B : Bx} {d : V} (h : Zaa d = true) (m : Nat) : frz n B (m + 2) d = some d := by
 cases d <;> first | cases h | skip
 ·rfl
 ·rename_i xs
  have : ∀ xs : List V, xs.all ZjC = true -> JO (frz n B (m + 1)) xs = some xs := by
   intro xs
   induction xs with
   | nil => intro _; rfl
   | cons x xs ih =>
    intro hx;simp only [List.all_cons, Bool.and_eq_true] at hx;simp only [JO, (by cases x <;> first | (cases hx.1; done) | rfl : frz n B (m + 1) x = some x), ih hx.2]
  show (JO (frz n B (m + 1)) xs).map V.tup = _;rw [this xs h];rfl
theorem Zmj {n : Nat} {B : Bx} {m : Nat} : ∀ {xs : List V}, xs.all Zaa = true -> JO (frz n B (m + 2)) xs = some xs := by
 intro xs_
 induction xs_ with
 | nil =>
  intro _;exact rfl
 | cons x xs ih_ =>
  intro h;simp only [List.all_cons, Bool.and_eq_true] at h;simp only [JO, ZnS h.1, ih_ h.2]
theorem Zlf {p : V -> Bool} : ∀ {vs : List V} {i : Nat} {d : V}, vs.all p = true -> p d = true -> (vs.set i d).all p = true
 | [], i, d, _, _ => by simp
 | v :: vs, 0, d, h, hd => by simp only [List.all_cons, Bool.and_eq_true] at h; simp only [List.set_cons_zero, List.all_cons, hd, h.2, Bool.and_self]
 | v :: vs, i + 1, d, h, hd => by
  simp only [List.all_cons, Bool.and_eq_true] at h;simp only [List.set_cons_succ, List.all_cons, h.1, Bool.true_and];exact Zlf h.2 hd
theorem ZpY {ks : List Str} {vs : List V} {k : Str} {d : V} {p : V -> Bool} (h : vs.all p = true) (hd : p d = true) : (JP ks vs k d).2.all p = true := by
 unfold JP
 split
 ·exact Zlf h hd
 ·simp only [List.all_append, h, List.all_cons, hd, List.all_nil, Bool.and_self]
theorem ZlR {xs ys zs : List V} (h : zsum xs ys = some zs) : zs.all ZjC = true := by
 refine Zfq (ZgG h) fun ns ms _ _ _ z_5 => ?_;subst z_5;rw [List.all_map, List.all_eq_true]; intro _ _; rfl
noncomputable def Zrr (p : Str × V) : V := .tup [.str p.1, p.2]
theorem Zky {ps : List (Str × V)} {k : Str} {d : V} (h : k ∉ ps.map (·.1)) : JP (ps.map (·.1)) (ps.map (·.2)) k d = ((ps ++ [(k, d)]).map (·.1), (ps ++ [(k, d)]).map (·.2)) := by
 rw [Zf0 h]; simp
theorem ZgT {a : List Str × List V} {k : Str} {c d : V} (h : J1 a k c = some d) : (a.1.contains k = false /\ d = c) \/ (a.1.contains k = true /\ ((∃ xs ys zs, c = .tup xs /\ X5 a.1 a.2 k = some (.tup ys) /\ zsum xs ys = some zs /\ ZH xs.length = true /\ d = .tup zs) \/
  ∃ n m, c = .int n /\ X5 a.1 a.2 k = some (.int m) /\ d = .int (m + n))) := by
 refine (ZaU h).elim (fun h => Zev h fun hc h => ?_) fun h => .inl ⟨(Bool.not_eq_true _).mp h.1, (Option.some.inj h.2).symm⟩;refine Ze (Option.bind_eq_some_iff.mp h) fun y hy h => ?_;refine .inr ⟨hc, ((Zt3 c y).2 _ h).elim (fun h => Zi7 h fun xs ys zs e1 e2 e3 e4 e5 => ?_) fun h => Xh h fun n m e1 e2 e3 => ?_⟩
 ·exact .inl ⟨xs, ys, zs, e1, e2 ▸ hy, e3, e4, e5⟩
 ·exact .inr ⟨n, m, e1, e2 ▸ hy, e3⟩
theorem Zjr {a : List Str × List V} {k : Str} {c d : V} (hc : Zaa c = true) (h : J1 a k c = some d) : Zaa d = true := by
 refine (ZgT h).elim (fun h => h.2 ▸ hc) fun h => h.2.elim (fun h => Zi7 h fun xs ys zs _ _ hz _ e => ?_) fun h => Xh h fun n m _ _ e => ?_
 ·rw [e]; exact ZlR hz
 ·rw [e]; rfl
theorem ZpL {f g : DE} {σ : St} {B B₁ B₂ : Bx} {xs ys zs : List V} (h1 : f σ B = some (.tup xs, B₁)) (h2 : g σ B₁ = some (.tup ys, B₂)) (hz : zsum xs ys = some zs) (hs : ZH xs.length = true) : D.zsum f g σ B = some (.tup zs, B₂) := by
 show (f σ B).bind _ = _;rw [h1];show (g σ B₁).bind _ = _;rw [h2];show (zsum xs ys).bind _ = _;rw [hz];exact if_pos hs
noncomputable abbrev Zh0 : DS := S.ite (T.cmp vin (D.var 3) (D.var 2)) (S.ite (T.of (D.isTup (D.var 4))) (S.put (D.zsum (D.var 4) (D.bin Zc (D.var 2) (D.var 3))) (D.var 2) (D.var 3)) (S.augput Zbj (D.var 2) (D.var 3) (D.var 4))) (S.put (D.var 4) (D.var 2) (D.var 3))
theorem Zn8 {B : Bx} {σ : St} {acc : List Str × List V} {k : Str} {c dd : V} (h2 : σ[2]? = some (some (.box B.length))) (h3 : σ[3]? = some (some (.str k))) (h4 : σ[4]? = some (some c)) (hd : J1 acc k c = some dd) (hs : ZH acc.1.length = true) :
  Zh0 σ (B ++ [.dict acc.1 acc.2]) = some (.next, σ, B ++ [.dict (JP acc.1 acc.2 k dd).1 (JP acc.1 acc.2 k dd).2]) := by
 have hg : ∀ {d}, X5 acc.1 acc.2 k = some d -> Zc (B ++ [.dict acc.1 acc.2]) (.box B.length) (.str k) = some d := fun hl => (Zkg (p := acc) (by simp only [Jl, YC])).trans hl;have hin : vin (B ++ [.dict acc.1 acc.2]) (.str k) (.box B.length) = some (acc.1.contains k) := by simp only [vin, Jl, YC]
 rcases ZgT hd with ⟨hc, e⟩ | ⟨hc, ⟨xs, ys, zs, e1, hl, hz, hs2, e⟩ | ⟨n, m, e1, hl, e⟩⟩ <;> rw [hc] at hin <;> rw [e]
 ·exact (X4 (Yf (Zt h3) (Zt h2) hin)).trans (Zg1 (Zt h4) (Zt h2) (Zt h3) (Zcq hs))
 ·rw [e1] at h4
  refine (ZaT (Yf (Zt h3) (Zt h2) hin)).trans ((ZaT (XC (B₁ := B ++ [.dict acc.1 acc.2]) (d := .bool true) ?_ rfl)).trans (Zg1 (d₁ := .tup zs) ?_ (Zt h2) (Zt h3) (Zcq hs)))
  ·unfold D.isTup; rw [Zt h4]; rfl
  ·exact ZpL (Zt h4) (Zf (Zt h2) (Zt h3) (hg hl)) hz hs2
 ·rw [e1] at h4
  refine (ZaT (Yf (Zt h3) (Zt h2) hin)).trans ((X4 (XC (B₁ := B ++ [.dict acc.1 acc.2]) (d := .bool false) ?_ rfl)).trans (Zcr (Zt h2) (Zt h3) (hg hl) (Zt h4) rfl (Zcq hs)));unfold D.isTup; rw [Zt h4]; rfl
theorem ZlX {B : Bx} {ks ks' : List Str} {vs vs' : List V} (hnd : ks.Nodup) (hlen : ks.length = vs.length) (hcap : ks.length <= Cap) : ∃ y z, S.loopS (I.items (D.var 0)) (S.parts [3, 4]) (S.put (D.var 4) (D.var 2) (D.var 3)) S.skip [some (.dict ks vs), some (.dict ks' vs'), some (.box B.length), none, none] (B ++ [.dict [] []]) =
  some (.next, [some (.dict ks vs), some (.dict ks' vs'), some (.box B.length), y, z], B ++ [.dict ks vs]) := by
 refine YU (Jo (f := Zrr) (it := I.items (D.var 0)) (tgt := S.parts [3, 4]) (body := S.put (D.var 4) (D.var 2) (D.var 3)) (els := S.skip) (σ := [some (.dict ks vs), some (.dict ks' vs'), some (.box B.length), none, none]) (B := B ++ [.dict [] []])
  (fun qs σ B' => ∃ (ps : List (Str × V)) (y z : Option V), ps ++ qs = ks.zip vs /\ σ = [some (.dict ks vs), some (.dict ks' vs'), some (.box B.length), y, z] /\ B' = B ++ [.dict (ps.map (·.1)) (ps.map (·.2))])
  (fun q qs σ B' h => Y7 h fun ps y z hps hσ hB => by
   rw [hσ, hB]
   have hk : q.1 ∉ ps.map (·.1) := fun hm => by
    have : ((ps ++ q :: qs).map (·.1)).Nodup := by rw [hps, List.map_fst_zip (Nat.le_of_eq hlen)]; exact hnd
    rw [List.map_append, List.nodup_append] at this;exact this.2.2 _ hm _ (.head _) rfl
   have hsz : ps.length <= Cap := by
    have := congrArg List.length hps;rw [List.length_append, List.length_zip] at this;exact Nat.le_trans (Nat.le_add_right _ _) (Nat.le_trans (Nat.le_of_eq this) (Nat.le_trans (Nat.min_le_left _ _) hcap))
   refine ⟨[some (.dict ks vs), some (.dict ks' vs'), some (.box B.length), some (.str q.1), some q.2], _, _, rfl, ?_, ps ++ [q], some (.str q.1), some q.2, by rw [<- hps, List.append_assoc]; rfl, rfl, rfl⟩;have := Zg1 (i := D.var 3) (k := D.var 4) (o := D.var 2) (σ := [some (.dict ks vs), some (.dict ks' vs'), some (.box B.length), some (.str q.1), some q.2]) rfl rfl rfl (Zcq (B := B) (ks := ps.map (·.1)) (vs := ps.map (·.2)) (k := q.1) (d := q.2) (by rw [List.length_map]; exact ZR hsz));rw [Zky hk] at this;exact this)
  rfl ⟨[], none, none, rfl, rfl, rfl⟩) fun σ' B' h e => Y7 h fun ps y z hps hσ hB => ⟨y, z, ?_⟩
 rw [List.append_nil] at hps;rw [e, hσ, hB, hps, List.map_fst_zip (Nat.le_of_eq hlen), List.map_snd_zip (Nat.le_of_eq hlen.symm)];rfl
theorem Zn6 {B : Bx} {ks ks' : List Str} {vs vs' : List V} {res : List Str × List V} {y z : Option V} (hres : ZcR (ks'.zip vs') (ks, vs) = some res) (hf : vs.all Zaa = true) (hf' : vs'.all Zaa = true) : res.2.all Zaa = true /\ ∃ y' z', S.loopS (I.items (D.var 1)) (S.parts [3, 4]) Zh0 S.skip [some (.dict ks vs), some (.dict ks' vs'), some (.box B.length), y, z] (B ++ [.dict ks vs]) =
  some (.next, [some (.dict ks vs), some (.dict ks' vs'), some (.box B.length), y', z'], B ++ [.dict res.1 res.2]) := by
 refine YU (Jo (f := Zrr) (it := I.items (D.var 1)) (tgt := S.parts [3, 4]) (body := Zh0) (els := S.skip) (σ := [some (.dict ks vs), some (.dict ks' vs'), some (.box B.length), y, z]) (B := B ++ [.dict ks vs])
  (fun qs σ B' => ∃ (acc : List Str × List V) (y z : Option V), ZcR qs acc = some res /\ acc.2.all Zaa = true /\ qs.all (fun p => Zaa p.2) = true /\ σ = [some (.dict ks vs), some (.dict ks' vs'), some (.box B.length), y, z] /\ B' = B ++ [.dict acc.1 acc.2])
  (fun q qs σ B' h => Zi7 h fun acc y z hgo hfa hfq hσ hB => by
   rw [hσ, hB];rw [List.all_cons, Bool.and_eq_true] at hfq;refine Ze (Option.bind_eq_some_iff.mp hgo) fun dd hd hgo => ?_;obtain ⟨hs, hgo⟩ := YG hgo;exact ⟨[some (.dict ks vs), some (.dict ks' vs'), some (.box B.length), some (.str q.1), some q.2], _, _, rfl, Zn8 rfl rfl rfl hd hs, _, _, _, hgo, ZpY hfa (Zjr hfq.1 hd), hfq.2, rfl, rfl⟩)
  rfl ⟨(ks, vs), y, z, hres, hf, by
   rw [List.all_eq_true] at hf' ⊢;intro p hp;exact hf' _ (List.of_mem_zip hp).2, rfl, rfl⟩) fun σ' B' h e => Zi7 h fun acc y z hgo hfa _ hσ hB => ?_
 rw [<- Option.some.inj hgo];exact ⟨hfa, y, z, by rw [e, hσ, hB]; rfl⟩
set_option tactic.hygienic true in
theorem Zd3 : Runs J6 Jc ["target", "source"] Zm := Jt fun B ds d h1 => by
 refine Zlp ((ZtI ds).2 _ h1) fun ks vs ks' vs' e3 hcond h1 => ?_;rw [e3];refine Zh2 hcond fun hnd hlen hcap hf hf' => ?_;refine Ze (Option.map_eq_some_iff.mp h1) fun res hres e0 => ?_;rw [<- e0];refine Zei (ZlX (B := B) (ks' := ks') (vs' := vs') hnd hlen hcap) fun y z e1 => ?_;refine Zev (Zn6 (B := B) (y := y) (z := z) hres hf hf') fun hfa e2 => Zei e2 fun y' z' e2 => ?_;refine ⟨rfl, [.dict res.1 res.2], .box B.length, 3, Zi rfl (Zi e1 (Zi e2 (YD rfl))), ?_⟩;show (if B.length < B.length then _ else _) = _;rw [if_neg (Nat.lt_irrefl _), YC];show (JO (frz B.length _ 2) res.2).map (V.dict res.1) = _;rw [Zmj (m := 0) hfa];rfl
open Builtin Builtin.Str
noncomputable def ls (x : Str) : List Nat := x.cps.toList
theorem Xo (x : Str) : (ls x).length = x.length := by simp [ls, Str.length]
theorem ZhR {x y : Str} (h : ls x = ls y) : x = y := by
 cases x; cases y
 simp only [ls] at h;rw [Array.toList_inj.mp h]
theorem Zg3 (x y : Str) : ls (x ++ y) = ls x ++ ls y := by
 show (x.cps ++ y.cps).toList = _;simp [ls]
theorem ZlC (x y : Str) : (x ++ y).length = x.length + y.length := by rw [<- Xo, Zg3, List.length_append, Xo, Xo]
theorem Zgw (s sub : Str) (i : Nat) : subAt s sub i = true ↔ ((ls s).drop i).take sub.length = ls sub := by
 unfold subAt;rw [beq_iff_eq, <- Array.toList_inj];simp only [Array.toList_extract, List.extract_eq_take_drop, ls];rw [show i + sub.length - i = sub.length by lia]
theorem ZoO (s : Str) (i j : Nat) : ls (strSub s i j) = ((ls s).drop i).take (j - i) := by
 simp [strSub, ls, List.extract_eq_take_drop]
noncomputable def Zao (sub : List Nat) : Nat -> Nat -> List Nat -> List Nat
 | _, _, [] => []
 | i, 0, c :: r => if sub.isPrefixOf (c :: r) then i :: Zao sub (i + 1) (sub.length - 1) r else Zao sub (i + 1) 0 r
 | i, k + 1, c :: r => Zao sub (i + 1) k r
theorem take_prefix {a b : List Nat} : b.take a.length = a ↔ a.isPrefixOf b = true := by
 rw [List.isPrefixOf_iff_prefix]
 constructor
 ·intro h; rw [<- h]; exact List.take_prefix _ _
 ·rintro ⟨t, rfl⟩; simp
theorem Zjt (s sub : Str) (hs : sub.length ≠ 0) (limit : Nat) : ∀ (n i free : Nat) (found : Array Nat), i + n = s.length + 1 -> found.size + n <= limit ->
  (forIn (List.range' i n) (found, free) (StrLaws.occBody s sub s.length limit)).run.fst.toList = found.toList ++ Zao (ls sub) i (free - i) ((ls s).drop i)
 := by
 intro n
 induction n with
 | zero =>
  intro i free found hi hl;rw [show (ls s).drop i = [] from List.drop_eq_nil_of_le (by rw [Xo, show i = _ from hi]; exact Nat.le_succ _)];exact (List.append_nil _).symm
 | succ n ih0 =>
  intro i free found hi hl;have hin : i + n = s.length := Nat.succ.inj hi;have hi1 : i + 1 + n = s.length + 1 := (Nat.succ_add_eq_add_succ i n).trans hi;have hl1 : found.size + n <= limit := Nat.le_of_succ_le hl;have ih := fun free => ih0 (i + 1) free found hi1 hl1;rw [List.range'_succ, List.forIn_cons]
  by_cases hlast : i = s.length
  ·have hd : (ls s).drop i = [] := List.drop_eq_nil_of_le (by rw [Xo]; exact Nat.le_of_eq hlast.symm)
   have hn : n = 0 := Nat.add_left_cancel (k := 0) (hin.trans hlast.symm);rw [hn];unfold StrLaws.occBody;rw [if_neg (fun h => hs (Nat.le_zero.mp (Nat.le_of_add_le_add_left (a := i) (Nat.le_trans h.1.2 (Nat.le_of_eq hlast.symm)))))];rw [hd];simp [Zao]
  ·have hlt : i < (ls s).length := by rw [Xo]; exact Nat.lt_of_le_of_ne (hin ▸ Nat.le_add_right _ _) hlast
   have hd : (ls s).drop i = (ls s)[i] :: (ls s).drop (i + 1) := List.drop_eq_getElem_cons hlt;have hsub : subAt s sub i = true ↔ (ls sub).isPrefixOf ((ls s).drop i) = true := by rw [Zgw, <- Xo sub]; exact take_prefix
   have hfit : (ls sub).isPrefixOf ((ls s).drop i) = true -> i + sub.length <= s.length := fun h => by
    rw [List.isPrefixOf_iff_prefix] at h;have := h.length_le;rw [List.length_drop, Xo, Xo] at this;exact Nat.add_le_of_le_sub' (hin ▸ Nat.le_add_right _ _) this
   unfold StrLaws.occBody
   by_cases hfree : free <= i
   ·have h0 : free - i = 0 := Nat.sub_eq_zero_of_le hfree
    rw [h0]
    by_cases hp : (ls sub).isPrefixOf ((ls s).drop i) = true
    ·rw [if_pos ⟨⟨⟨(Nat.lt_of_lt_of_le (Nat.lt_add_of_pos_right (Nat.succ_pos n)) hl), hfree⟩, hfit hp⟩, hsub.mpr hp⟩]
     have ih := ih0 (i + 1) (i + sub.length) (found.push i) hi1 (by rw [Array.size_push, Nat.succ_add_eq_add_succ]; exact hl)
     have e : (Zao (ls sub) i 0 ((ls s).drop i)) = i :: Zao (ls sub) (i + 1) ((ls sub).length - 1) ((ls s).drop (i + 1)) := by
      rw [hd] at hp ⊢;simp only [Zao, hp, if_true]
     rw [e];simp only [pure_bind];rw [show (fun (a : Nat) (b : Array Nat × Nat) => if ((b.fst.size < limit /\ b.snd <= a) /\ a + sub.length <= s.length) /\ subAt s sub a = true then (pure (ForInStep.yield (b.fst.push a, a + sub.length)) : Id (ForInStep (Array Nat × Nat))) else pure (ForInStep.yield (b.fst, b.snd))) = StrLaws.occBody s sub s.length limit from rfl];rw [ih];simp only [Array.toList_push, List.append_assoc, List.singleton_append];rw [show i + sub.length - (i + 1) = (ls sub).length - 1 by rw [Xo, Nat.add_sub_add_left]]
    ·rw [if_neg (fun h => hp (hsub.mp h.2))]
     have ih := ih free
     have e : (Zao (ls sub) i 0 ((ls s).drop i)) = Zao (ls sub) (i + 1) 0 ((ls s).drop (i + 1)) := by
      rw [hd] at hp ⊢;simp only [Zao, hp, if_false, Bool.false_eq_true]
     rw [e];simp only [pure_bind];rw [show (fun (a : Nat) (b : Array Nat × Nat) => if ((b.fst.size < limit /\ b.snd <= a) /\ a + sub.length <= s.length) /\ subAt s sub a = true then (pure (ForInStep.yield (b.fst.push a, a + sub.length)) : Id (ForInStep (Array Nat × Nat))) else pure (ForInStep.yield (b.fst, b.snd))) = StrLaws.occBody s sub s.length limit from rfl];rw [ih, show free - (i + 1) = 0 from Nat.sub_eq_zero_of_le (Nat.le_succ_of_le hfree)]
   ·rw [if_neg (fun h => hfree h.1.1.2)]
    have ih := ih free;obtain ⟨k, hk⟩ : ∃ k, free - i = k + 1 := Nat.exists_eq_succ_of_ne_zero (Nat.sub_ne_zero_of_lt (Nat.lt_of_not_le hfree));have e : (Zao (ls sub) i (free - i) ((ls s).drop i)) = Zao (ls sub) (i + 1) k ((ls s).drop (i + 1)) := by rw [hd, hk]; rfl
    rw [e];simp only [pure_bind];rw [show (fun (a : Nat) (b : Array Nat × Nat) => if ((b.fst.size < limit /\ b.snd <= a) /\ a + sub.length <= s.length) /\ subAt s sub a = true then (pure (ForInStep.yield (b.fst.push a, a + sub.length)) : Id (ForInStep (Array Nat × Nat))) else pure (ForInStep.yield (b.fst, b.snd))) = StrLaws.occBody s sub s.length limit from rfl];rw [ih, show free - (i + 1) = k by rw [<- Nat.sub_sub, hk]; rfl]
theorem Zh7 (s sub : Str) (hs : sub.length ≠ 0) : occurrences s sub 0 s.length (s.length + 1) = Zao (ls sub) 0 0 (ls s) := by
 rw [StrLaws.occ_eq, Zjt s sub hs _ (s.length + 1 - 0) 0 0 #[] (by lia) (by simp)];simp
open Builtin Builtin.Str
theorem ZjX {c : Nat} {t r : List Nat} {d : Nat} (h : d ≠ c) : (c :: t).isPrefixOf (d :: r) = false := by
 simp only [List.isPrefixOf, Bool.and_eq_false_imp, beq_iff_eq];intro e; exact absurd e.symm h
theorem Zgp {c : Nat} {t : List Nat} : ∀ (w : List Nat) (i : Nat) (r : List Nat), c ∉ w -> Zao (c :: t) i 0 (w ++ r) = Zao (c :: t) (i + w.length) 0 r := by
 intro xs_
 induction xs_ with
 | nil =>
  intro i r _;exact rfl
 | cons d w ih_ =>
  intro i r h;have h1 : d ≠ c := fun e => h (by simp [e]);have h2 : c ∉ w := fun e => h (by simp [e]);rw [List.cons_append, Zao, ZjX h1];simp only [Bool.false_eq_true, if_false];rw [ih_ (i + 1) r h2, List.length_cons];congr 1;lia
theorem Zmi {sub : List Nat} : ∀ (w : List Nat) (i : Nat) (r : List Nat), Zao sub i w.length (w ++ r) = Zao sub (i + w.length) 0 r := by
 intro xs_
 induction xs_ with
 | nil =>
  intro i r;exact rfl
 | cons d w ih_ =>
  intro i r;rw [List.cons_append, List.length_cons, Zao, ih_ (i + 1) r];congr 1;lia
theorem ZoJ {c : Nat} {t r : List Nat} {i : Nat} : Zao (c :: t) i 0 ((c :: t) ++ r) = i :: Zao (c :: t) (i + (c :: t).length) 0 r := by
 have hp : (c :: t).isPrefixOf (c :: (t ++ r)) = true := by
  rw [List.isPrefixOf_iff_prefix]; exact ⟨r, rfl⟩
 rw [List.cons_append, Zao, hp];simp only [if_true, List.length_cons, Nat.add_sub_cancel];rw [Zmi t (i + 1) r];congr 2;lia
noncomputable def ZaM (sep : List Nat) : List (List Nat) -> List Nat
 | [] => []
 | [x] => x
 | x :: r => x ++ sep ++ ZaM sep r
theorem Zai (sep x : List Nat) {r : List (List Nat)} (h : r ≠ []) : ZaM sep (x :: r) = x ++ sep ++ ZaM sep r := by
 cases r with
 | nil => exact absurd rfl h
 | cons y r => rfl
theorem Zbt (sep : Str) : ∀ ws : List Str, ls (Txt.join sep ws) = ZaM (ls sep) (ws.map ls) := by
 intro ws;show ls (glued sep ws) = _;rw [StrLaws.glued_eq_join]
 induction ws with
 | nil => rfl
 | cons x r ih =>
  cases r with
  | nil => rfl
  | cons y r =>
   show ls (x ++ sep ++ Str.join sep (y :: r)) = _;rw [Zg3, Zg3, ih];rfl
noncomputable def Zcb (w : Nat) : Nat -> List (List Nat) -> List Nat
 | _, [] => []
 | _, [_] => []
 | i, x :: r => (i + x.length) :: Zcb w (i + x.length + w) r
theorem Za0 (w i : Nat) (x : List Nat) {r : List (List Nat)} (h : r ≠ []) : Zcb w i (x :: r) = (i + x.length) :: Zcb w (i + x.length + w) r := by
 cases r with
 | nil => exact absurd rfl h
 | cons y r => rfl
theorem Zgq {c : Nat} {t : List Nat} : ∀ (ws : List (List Nat)) (i : Nat), (∀ w ∈ ws, c ∉ w) -> Zao (c :: t) i 0 (ZaM (c :: t) ws) = Zcb (c :: t).length i ws := by
 intro xs_
 induction xs_ with
 | nil =>
  intro i _;exact rfl
 | cons x r ih_ =>
  intro i h
  by_cases hr : r = []
  ·subst hr
   have := Zgp (t := t) x i [] (h x (.head _));rw [List.append_nil] at this;show Zao _ i 0 x = [];rw [this]; rfl
  ·rw [Zai _ _ hr, Za0 _ _ _ hr, List.append_assoc, Zgp x i _ (h x (.head _)), ZoJ, ih_ _ fun w hw => h w (List.mem_cons_of_mem _ hw)]
theorem Zoc (w : Nat) : ∀ (ws : List (List Nat)) (i : Nat), (Zcb w i ws).length = ws.length - 1 := by
 intro xs_
 induction xs_ with
 | nil =>
  intro _;exact rfl
 | cons x r ih_ =>
  intro i
  by_cases hr : r = []
  ·subst hr; rfl
  ·rw [Za0 _ _ _ hr, List.length_cons, ih_]
   have : 0 < r.length := List.length_pos_iff.mpr hr;simp only [List.length_cons]; lia
theorem ZjR {sep : Str} {c : Nat} {t : List Nat} (hs : ls sep = c :: t) {ws : List Str} (h : ∀ w ∈ ws, c ∉ ls w) : Txt.count (Txt.join sep ws) sep = ((ws.length - 1 : Nat) : Int) := by
 unfold Txt.count
 rw [Zh7 _ _ (by rw [<- Xo, hs]; simp), Zbt, hs, Zgq _ _ (by
  intro w hw;refine Ze (List.mem_map.mp hw) fun x hx z_2 => ?_;subst z_2;exact h x hx), Zoc, List.length_map]
theorem Znm (s : Str) (w : Nat) (sep : List Nat) (hw : sep.length = w) : ∀ (ws : List Str) (pre : List Nat), ws ≠ [] -> ls s = pre ++ ZaM sep (ws.map ls) ->
  ((pre.length :: (Zcb w pre.length (ws.map ls)).map (· + w)).zip (Zcb w pre.length (ws.map ls) ++ [s.length])).map (fun p => strSub s p.1 p.2) = ws := by
 intro xs_
 induction xs_ with
 | nil =>
  intro pre h _;exact absurd rfl h
 | cons x r ih_ =>
  intro pre _ h
  by_cases hr : r = []
  ·subst hr
   show [strSub s pre.length s.length] = [x];congr 1;apply ZhR;rw [ZoO, h]
   have : s.length - pre.length = (ls x).length := by
    rw [<- Xo s, h];simp [ZaM]
   rw [this];simp [ZaM]
  ·have hr' : r.map ls ≠ [] := by simpa using hr
   rw [List.map_cons, Za0 _ _ _ hr'];rw [List.map_cons, Zai _ _ hr'] at h;have ih := ih_ (pre ++ ls x ++ sep) hr (by rw [h]; simp);have hl : (pre ++ ls x ++ sep).length = pre.length + (ls x).length + w := by simp [hw]; lia
   rw [hl] at ih;simp only [List.map_cons, List.cons_append, List.zip_cons_cons];rw [ih];congr 1;apply ZhR;rw [ZoO, h];rw [show pre.length + (ls x).length - pre.length = (ls x).length by lia];simp
theorem ZpT (x : Str) : 1 <= Builtin.Str.strKind x := by unfold Builtin.Str.strKind; split <;> (try split) <;> lia
theorem Zdd {sep : Str} {c : Nat} {t : List Nat} (hs : ls sep = c :: t) (hk : Builtin.Str.strKind sep = 1) {ws : List Str} (hne : ws ≠ []) (h : ∀ w ∈ ws, c ∉ ls w) : Txt.split (Txt.join sep ws) sep = ws := by
 have hsc : occurrences (Txt.join sep ws) sep 0 (Txt.join sep ws).length ((Txt.join sep ws).length + 1) = Zcb (ls sep).length 0 (ws.map ls) := by
  rw [Zh7 _ _ (by rw [<- Xo, hs]; simp), Zbt, hs, Zgq];intro w hw;refine Ze (List.mem_map.mp hw) fun x hx z_2 => ?_;subst z_2;exact h x hx
 unfold Txt.split;rw [hsc]
 match ws, hne, h, hsc with
 | [x], _, h, _ =>
  have e : Txt.join sep [x] = x := ZhR (by rw [Zbt]; rfl);rw [e]
  split
  ·rfl
  ·rfl
 | x :: y :: r, _, h, _ =>
  have hl : sep.length <= (Txt.join sep (x :: y :: r)).length := by
   rw [<- Xo, <- Xo, Zbt, List.map_cons, Zai _ _ (by simp)];simp; lia
  have hc1 : (decide ((Txt.join sep (x :: y :: r)).length < sep.length) || decide (Builtin.Str.strKind (Txt.join sep (x :: y :: r)) < Builtin.Str.strKind sep)) = false := by
   rw [hk, Bool.or_eq_false_iff];exact ⟨decide_eq_false (by lia), decide_eq_false (by have := ZpT (Txt.join sep (x :: y :: r)); lia)⟩
  rw [hc1];simp only [Bool.false_eq_true, if_false];rw [if_neg (by rw [List.map_cons, Za0 _ _ _ (by simp)]; simp)];have := Znm (Txt.join sep (x :: y :: r)) (ls sep).length (ls sep) rfl (x :: y :: r) [] (by simp) (by rw [Zbt]; rfl);unfold partsBetween;rw [<- Xo sep];exact this
noncomputable def ZiJ (s sub : Str) (hi i : Nat) : Bool := decide (i + sub.length <= hi) && subAt s sub i
theorem ZlO (s sub : Str) (hi : Nat) : ∀ (l : List Nat) (a free : Nat), (forIn l (#[a], free) (StrLaws.occBody s sub hi 1)).run.fst = #[a] := by
 intro xs_
 induction xs_ with
 | nil =>
  intro a free;exact rfl
 | cons i l ih_ =>
  intro a free;rw [List.forIn_cons]
  have e : StrLaws.occBody s sub hi 1 i (#[a], free) = pure (ForInStep.yield (#[a], free)) := by
   unfold StrLaws.occBody;rw [if_neg (by rintro ⟨⟨⟨h, _⟩, _⟩, _⟩; exact absurd (show (1 : Nat) < 1 from h) (by decide))]
  rw [e];exact ih_ a free
theorem Zlu (s sub : Str) (hi : Nat) : ∀ (n i lo : Nat), lo <= i -> (forIn (List.range' i n) (#[], lo) (StrLaws.occBody s sub hi 1)).run.fst.toList = ((List.range' i n).find? (ZiJ s sub hi)).toList
 | 0, i, lo, _ => rfl
 | n + 1, i, lo, h => by
  rw [List.range'_succ, List.forIn_cons, List.find?_cons]
  cases hh : ZiJ s sub hi i with
  | true =>
   have hh' := hh;unfold ZiJ at hh';simp only [Bool.and_eq_true, decide_eq_true_eq] at hh'
   have e : StrLaws.occBody s sub hi 1 i (#[], lo) = pure (ForInStep.yield (#[i], i + sub.length)) := by
    unfold StrLaws.occBody;rw [if_pos ⟨⟨⟨(show (0 : Nat) < 1 by decide), h⟩, hh'.1⟩, hh'.2⟩];rfl
   rw [e];show ((forIn (List.range' (i + 1) n) (#[i], i + sub.length) (StrLaws.occBody s sub hi 1)).run.fst).toList = _;rw [ZlO];rfl
  | false =>
   have e : StrLaws.occBody s sub hi 1 i (#[], lo) = pure (ForInStep.yield (#[], lo)) := by
    unfold StrLaws.occBody
    rw [if_neg (by
     rintro ⟨⟨_, h1⟩, h2⟩
     have h1' : i + sub.length <= hi := h1;unfold ZiJ at hh;rw [h2, decide_eq_true h1'] at hh
     cases hh)]
   rw [e];exact Zlu s sub hi n (i + 1) lo (by lia)
theorem Zuo (s sub : Str) (lo hi : Nat) : occurrences s sub lo hi 1 = ((List.range' lo (hi + 1 - lo)).find? (ZiJ s sub hi)).toList := by
 rw [StrLaws.occ_eq]; exact Zlu s sub hi _ lo lo (Nat.le_refl _)
theorem ZjN {x y : Str} : ZcT x y = true ↔ ∃ i, i + x.length <= y.length /\ subAt y x i = true := by
 unfold ZcT;rw [Zuo]
 cases hf : (List.range' 0 (y.length + 1 - 0)).find? (ZiJ y x y.length) with
 | none =>
  simp only [Option.toList_none, List.isEmpty_nil, Bool.not_true, Bool.false_eq_true, false_iff]
  rintro ⟨i, h1, h2⟩
  have := List.find?_eq_none.mp hf i (by rw [List.mem_range']; exact ⟨i, by lia, by lia⟩);apply this;unfold ZiJ;rw [h2, decide_eq_true h1]; rfl
 | some i =>
  simp only [Option.toList_some, List.isEmpty_cons, Bool.not_false, true_iff];have := List.find?_some hf;unfold ZiJ at this;simp only [Bool.and_eq_true, decide_eq_true_eq] at this;exact ⟨i, this⟩
noncomputable def Yv (k : Nat) : Str := ZdC (2 ^ k : Nat) (baseText "0x" 16 (2 ^ k : Nat))
noncomputable def Z1 (n : Nat) : List Nat := (List.range 32).filter n.testBit
noncomputable def ZP (n : Nat) : Str := if n = 0 then "0x0" else Txt.join ", " ((Z1 n).map Yv)
theorem Sb.ite_val {c : Prop} [Decidable c] {α : Type} {P : α -> Prop} {a : α} {h : c -> P a} (hc : c) : (Sb.ite a h).1 = some a := if_pos hc
noncomputable def ZeG (ds : List V) : Sb fun (r : V) => ∃ n, ds = [.int n] /\ (0 <= n /\ n < 2 ^ 32) /\ r = .str (ZP n.toNat) := match ds with
 | [.int n] => .ite (c := 0 <= n /\ n < 2 ^ 32) (.str (ZP n.toNat)) fun h => ⟨n, rfl, h, rfl⟩
 | _ => .no
noncomputable def Zz : VF := Y4 fun _ ds => (ZeG ds).1
theorem Zj3 {B : Bx} {n : Nat} (h : n < 2 ^ 32) : Zz B [.int (n : Int)] = some (.str (ZP n), B) := by
 have h2 : 0 <= (n : Int) /\ (n : Int) < 2 ^ 32 := ⟨Int.natCast_nonneg n, by lia⟩;have e : (ZeG [.int (n : Int)]).1 = some (V.str (ZP (n : Int).toNat)) := Sb.ite_val (h := fun h => ⟨n, rfl, h, rfl⟩) h2;rw [Int.toNat_natCast] at e;exact Zad (f := fun _ ds => (ZeG ds).1) e
theorem Zma : ∀ i < 32, ZH (baseText "0x" 16 ((2 ^ i : Nat) : Int)).length = true := by decide +kernel
theorem Zi4 : ∀ i < 32, (Yv i).length <= 18 := by decide +kernel
theorem Zj8 : ∀ i < 32, (44 : Nat) ∉ ls (Yv i) := by decide +kernel
theorem Zjp : ∀ i < 32, ∀ j < 32, Yv i = Yv j -> i = j := by decide +kernel
noncomputable def hiN (n i : Nat) : Nat := n / 2 ^ i * 2 ^ i
theorem Zsr (n i : Nat) : hiN n i &&& 2 ^ i = if n.testBit i then 2 ^ i else 0 := by
 unfold hiN
 have e : n / 2 ^ i * 2 ^ i &&& 1 * 2 ^ i = (n / 2 ^ i &&& 1) * 2 ^ i := by
  rw [<- Nat.shiftLeft_eq, <- Nat.shiftLeft_eq, <- Nat.shiftLeft_eq, Nat.shiftLeft_and_distrib]
 rw [Nat.one_mul] at e;rw [e, Nat.and_one_is_mod];have h : n.testBit i = decide (n / 2 ^ i % 2 = 1) := Nat.testBit_eq_decide_div_mod_eq;rcases Nat.mod_two_eq_zero_or_one (n / 2 ^ i) with h0 | h0 <;> rw [h, h0] <;> simp
theorem Zjd (n i : Nat) : n / 2 ^ (i + 1) = n / 2 ^ i / 2 := by rw [Nat.pow_succ, Nat.div_div_eq_div_mul]
theorem ZsX {n i : Nat} (h : n.testBit i = true) : hiN n (i + 1) + 2 ^ i = hiN n i := by
 rw [Nat.testBit_eq_decide_div_mod_eq, decide_eq_true_eq] at h;unfold hiN;rw [Zjd, Nat.pow_succ];generalize n / 2 ^ i = q at h ⊢;have : q = 2 * (q / 2) + 1 := by lia
 generalize q / 2 = r at this ⊢;subst this;rw [show r * (2 ^ i * 2) = 2 * r * 2 ^ i by rw [Nat.mul_comm (2 ^ i) 2, <- Nat.mul_assoc, Nat.mul_comm r 2], Nat.add_mul, Nat.one_mul]
theorem Zir {n i : Nat} (h : n.testBit i = false) : hiN n (i + 1) = hiN n i := by
 rw [Nat.testBit_eq_decide_div_mod_eq, decide_eq_false_iff_not] at h;unfold hiN;rw [Zjd, Nat.pow_succ];generalize n / 2 ^ i = q at h ⊢;have : q = 2 * (q / 2) := by lia
 generalize q / 2 = r at this ⊢;subst this;rw [Nat.mul_comm (2 ^ i) 2, <- Nat.mul_assoc, Nat.mul_comm r 2]
theorem and_int (n i : Nat) : Builtin.bitAnd (hiN n i : Int) ((1 : Int) * 2 ^ ((0 : Int) + (i : Int)).toNat) = if n.testBit i then ((2 ^ i : Nat) : Int) else 0 := by
 have e : (1 : Int) * 2 ^ ((0 : Int) + (i : Int)).toNat = ((2 ^ i : Nat) : Int) := by
  rw [Int.one_mul, show ((0 : Int) + (i : Int)).toNat = i by lia]; simp
 rw [e, bitAnd_pp (Int.natCast_nonneg _) (Int.natCast_nonneg _), Int.toNat_natCast, Int.toNat_natCast, Zsr]
 split <;> rfl
theorem ZnU {n i : Nat} (h : n.testBit i = true) : Builtin.bitXor (hiN n i : Int) ((1 : Int) * 2 ^ ((0 : Int) + (i : Int)).toNat) = (hiN n (i + 1) : Int) := by
 unfold Builtin.bitXor
 have e : (1 : Int) * 2 ^ ((0 : Int) + (i : Int)).toNat = ((2 ^ i : Nat) : Int) := by
  rw [Int.one_mul, show ((0 : Int) + (i : Int)).toNat = i by lia]; simp
 rw [bitOr_and, and_int, h, e];have := ZsX h;simp only [if_true];lia
theorem ZeP {n i : Nat} : hiN n i = 0 ↔ n / 2 ^ i = 0 := by
 unfold hiN;have : 0 < 2 ^ i := Nat.pow_pos (by decide)
 constructor
 ·intro h
  rcases Nat.mul_eq_zero.mp h with h | h <;> lia
 ·intro h; rw [h, Nat.zero_mul]
noncomputable def Zba (n i : Nat) : List V := ((List.range i).filter n.testBit).map fun k => V.str (Yv k)
theorem ZgO (n i : Nat) : Zba n (i + 1) = if n.testBit i then Zba n i ++ [.str (Yv i)] else Zba n i := by
 unfold Zba;rw [List.range_succ, List.filter_append, List.map_append]
 cases h : n.testBit i <;> simp [h]
theorem Znw {n i : Nat} (h : n / 2 ^ i = 0) (hi : i <= 32) : Zba n i = (Z1 n).map fun k => V.str (Yv k) := by
 unfold Zba Z1;congr 1;have : List.range 32 = List.range i ++ (List.range (32 - i)).map (i + ·) := by rw [<- List.range_add]; congr 1; lia
 rw [this, List.filter_append]
 have e : ((List.range (32 - i)).map (i + ·)).filter n.testBit = [] := by
  rw [List.filter_eq_nil_iff];intro k hk;refine Ze (List.mem_map.mp hk) fun j _ z_2 => ?_;subst z_2;rw [Nat.testBit_eq_decide_div_mod_eq, Nat.pow_add, <- Nat.div_div_eq_div_mul, h];simp
 rw [e, List.append_nil]
theorem Zo8 (n i : Nat) : (Zba n i).length <= i := by
 unfold Zba;rw [List.length_map];exact Nat.le_trans (List.length_filter_le _ _) (by simp)
noncomputable abbrev ZfJ : V -> St -> Bx -> Option Out := fun x σ B => match (fun d σ => some (σ.set 2 (some d))) x σ with
 | none => none
 | some σ₁ => (S.seq (S.assign 3 (D.bin ZfD (D.const (.int 1)) (D.var 2))) (S.ite (T.of (D.bin ZeE (D.var 0) (D.var 3))) (S.seq (S.expr (D.meth YK Jj (D.var 1) [(D.flagGet (D.var 3) (D.call Zgd [(D.var 3)]))])) (S.seq (S.aug ZmM 0 (D.var 3)) (S.ite (T.not (T.of (D.var 0))) S.brk S.skip))) S.skip)) σ₁ B
noncomputable abbrev Zrw : DS := S.expr (D.meth YK Jj (D.var 1) [(D.call Zgd [(D.var 0)])])
theorem ZjM {B' : Bx} {f b z : Option V} {i : Nat} (hi : i < 32) : S.assign 3 (D.bin ZfD (D.const (.int 1)) (D.var 2)) [f, b, some (.int (0 + (i : Int))), z] B' =
  some (.next, [f, b, some (.int (0 + (i : Int))), some (.int (1 * 2 ^ ((0 : Int) + (i : Int)).toNat))], B') := by
 refine ZD (Zf rfl rfl ?_);simp only [ZfD];rw [if_pos];simp only [Bool.and_eq_true, decide_eq_true_eq];exact ⟨⟨by lia, by lia⟩, by decide⟩
theorem Zks {B' : Bx} {b z : Option V} {n i : Nat} : T.of (D.bin ZeE (D.var 0) (D.var 3)) [some (.int (hiN n i : Int)), b, z, some (.int (1 * 2 ^ ((0 : Int) + (i : Int)).toNat))] B' = some (n.testBit i, B') := by
 refine XC (d := .int (if n.testBit i then ((2 ^ i : Nat) : Int) else 0)) (Zf rfl rfl (by simp only [ZeE, and_int])) ?_;simp only [JC]
 cases n.testBit i
 ·rfl
 ·have : 0 < 2 ^ i := Nat.pow_pos (by decide)
  simp only [if_true];congr 1;rw [bne_iff_ne]; lia
theorem Ztc {B : Bx} {f z : Option V} {n i : Nat} {L : List V} (hi : i < 32) (hL : L.length <= 32) :
  S.expr (D.meth YK Jj (D.var 1) [(D.flagGet (D.var 3) (D.call Zgd [(D.var 3)]))]) [f, some (.box B.length), z, some (.int (1 * 2 ^ ((0 : Int) + (i : Int)).toNat))] (B ++ [.list L]) =
   some (.next, [f, some (.box B.length), z, some (.int (1 * 2 ^ ((0 : Int) + (i : Int)).toNat))], B ++ [.list (L ++ [.str (Yv i)])]) := by
 have e : (1 : Int) * 2 ^ ((0 : Int) + (i : Int)).toNat = ((2 ^ i : Nat) : Int) := by
  rw [Int.one_mul, show ((0 : Int) + (i : Int)).toNat = i by lia]; simp
 rw [e];refine ZcE (d := .none) ?_
 have h1 : D.call Zgd [D.var 3] [f, some (.box B.length), z, some (.int ((2 ^ i : Nat) : Int))] (B ++ [.list L]) = some (.str (baseText "0x" 16 ((2 ^ i : Nat) : Int)), B ++ [.list L]) :=
  Yd rfl (by rw [ZoU, if_pos (Zma i hi)]; rfl)
 have h2 : D.flagGet (D.var 3) (D.call Zgd [D.var 3]) [f, some (.box B.length), z, some (.int ((2 ^ i : Nat) : Int))] (B ++ [.list L]) = some (.str (Yv i), B ++ [.list L]) := by
  unfold D.flagGet;simp only [h1, D.var, List.getElem?_cons_succ, List.getElem?_cons_zero];rfl
 unfold D.meth;simp only [D.var, List.getElem?_cons_succ, List.getElem?_cons_zero];rw [if_pos (by unfold YK Zx; simp only [YC]; rfl)];simp only [D.row, h2];rw [Za4];unfold ZhS;simp only [YC];rw [if_pos (ZR (by unfold Cap; lia))];simp only [Option.map_some, Zcx]
theorem Zhk {B : Bx} {n : Nat} (hn : n ≠ 0) (h32 : n < 2 ^ 32) : ∀ (m i : Nat) (fuel : Nat) (y z : Option V), i + m = 32 -> n / 2 ^ i ≠ 0 -> m < fuel ->
  ∃ f y' z', Jx ZfJ Zrw fuel (.seq ((List.range' i m).map fun (k : Nat) => .int (0 + (k : Int)))) [some (.int (hiN n i : Int)), some (.box B.length), y, z] (B ++ [.list (Zba n i)]) =
   some (.next, [f, some (.box B.length), y', z'], B ++ [.list ((Z1 n).map fun k => V.str (Yv k))])
 | 0, i, fuel, y, z, hi, hq, hf => by
  have : i = 32 := by lia
  subst this;exact absurd (Nat.div_eq_of_lt h32) hq
 | m + 1, i, 0, y, z, hi, hq, hf => absurd hf (by lia)
 | m + 1, i, fuel + 1, y, z, hi, hq, hf => by
  have hi32 : i < 32 := by lia
  rw [List.range'_succ, List.map_cons]
  cases hb : n.testBit i with
  | true =>
   have hx : S.aug ZmM 0 (D.var 3) [some (.int (hiN n i : Int)), some (.box B.length), some (.int (0 + (i : Int))), some (.int (1 * 2 ^ ((0 : Int) + (i : Int)).toNat))] (B ++ [.list (Zba n i ++ [.str (Yv i)])]) =
     some (.next, [some (.int (hiN n (i + 1) : Int)), some (.box B.length), some (.int (0 + (i : Int))), some (.int (1 * 2 ^ ((0 : Int) + (i : Int)).toNat))], B ++ [.list (Zba n i ++ [.str (Yv i)])]) := by
    simp only [S.aug, D.var, List.getElem?_cons_succ, List.getElem?_cons_zero, ZmM, ZnU hb, List.set_cons_zero]
   have hl : Zba n i ++ [.str (Yv i)] = Zba n (i + 1) := by rw [ZgO, hb]; rfl
   have ht : T.not (T.of (D.var 0)) [some (.int (hiN n (i + 1) : Int)), some (.box B.length), some (.int (0 + (i : Int))), some (.int (1 * 2 ^ ((0 : Int) + (i : Int)).toNat))] (B ++ [.list (Zba n (i + 1))]) = some (decide (hiN n (i + 1) = 0), B ++ [.list (Zba n (i + 1))]) := by
    simp only [T.not, T.of, D.var, List.getElem?_cons_zero, JC, Option.map_some];congr 2
    by_cases h0 : hiN n (i + 1) = 0
    ·rw [h0]; rfl
    ·rw [decide_eq_false h0, Bool.not_eq_false', bne_iff_ne]; lia
   have hs : ZfJ (.int (0 + (i : Int))) [some (.int (hiN n i : Int)), some (.box B.length), y, z] (B ++ [.list (Zba n i)]) =
     S.ite (T.not (T.of (D.var 0))) S.brk S.skip [some (.int (hiN n (i + 1) : Int)), some (.box B.length), some (.int (0 + (i : Int))), some (.int (1 * 2 ^ ((0 : Int) + (i : Int)).toNat))] (B ++ [.list (Zba n (i + 1))]) := by
    show S.seq _ _ [some (.int (hiN n i : Int)), some (.box B.length), some (.int (0 + (i : Int))), z] _ = _;rw [Yi (ZjM hi32), ZaT (by rw [Zks, hb]), Yi (Ztc (n := n) hi32 (Nat.le_trans (Zo8 n i) (by lia))), Yi hx, hl]
   by_cases h0 : hiN n (i + 1) = 0
   ·rw [ZaT (by rw [ht, decide_eq_true h0])] at hs
    refine ⟨some (.int (hiN n (i + 1) : Int)), some (.int (0 + (i : Int))), some (.int (1 * 2 ^ ((0 : Int) + (i : Int)).toNat)), ?_⟩;simp only [Jx, Src.at, List.head?_cons, hs, S.brk];rw [Znw (ZeP.mp h0) (by lia)]
   ·rw [X4 (by rw [ht, decide_eq_false h0])] at hs
    simp only [Jx, Src.at, List.head?_cons, hs, S.skip, Src.adv, List.tail_cons];exact Zhk hn h32 m (i + 1) fuel _ _ (by lia) (fun z => h0 (ZeP.mpr z)) (by lia)
  | false =>
   have hs : ZfJ (.int (0 + (i : Int))) [some (.int (hiN n i : Int)), some (.box B.length), y, z] (B ++ [.list (Zba n i)]) =
     some (.next, [some (.int (hiN n i : Int)), some (.box B.length), some (.int (0 + (i : Int))), some (.int (1 * 2 ^ ((0 : Int) + (i : Int)).toNat))], B ++ [.list (Zba n i)]) := by
    show S.seq _ _ [some (.int (hiN n i : Int)), some (.box B.length), some (.int (0 + (i : Int))), z] _ = _;rw [Yi (ZjM hi32), X4 (by rw [Zks, hb])];rfl
   have h1 : n / 2 ^ (i + 1) ≠ 0 := by
    intro z;rw [<- ZeP, Zir hb, ZeP] at z;exact hq z
   have hl : Zba n i = Zba n (i + 1) := by rw [ZgO, hb]; rfl
   simp only [Jx, Src.at, List.head?_cons, hs, Src.adv, List.tail_cons];rw [hl, <- Zir hb];exact Zhk hn h32 m (i + 1) fuel _ _ (by lia) h1 (by lia)
theorem Zji {B : Bx} : ∀ (m i : Nat) (fuel : Nat) (y z : Option V), i + m = 32 -> m < fuel ->
  ∃ y' z', Jx ZfJ Zrw fuel (.seq ((List.range' i m).map fun (k : Nat) => .int (0 + (k : Int)))) [some (.int 0), some (.box B.length), y, z] (B ++ [.list []]) =
   some (.next, [some (.int 0), some (.box B.length), y', z'], B ++ [.list [.str "0x0"]])
 | 0, i, 0, y, z, hi, hf => absurd hf (by lia)
 | 0, i, fuel + 1, y, z, hi, hf => by
  refine ⟨y, z, ?_⟩;simp only [Jx, Src.at, List.range'_zero, List.map_nil, List.head?_nil];refine ZcE (d := .none) ?_;have h1 : D.call Zgd [D.var 0] [some (.int 0), some (.box B.length), y, z] (B ++ [.list []]) = some (.str "0x0", B ++ [.list []]) := Yd rfl rfl;unfold D.meth;simp only [D.var, List.getElem?_cons_succ, List.getElem?_cons_zero];rw [if_pos (by unfold YK Zx; simp only [YC]; rfl)];simp only [D.row, h1];rw [Za4];unfold ZhS;simp only [YC];rw [if_pos (by rfl)];simp only [Option.map_some, Zcx];rfl
 | m + 1, i, 0, y, z, hi, hf => absurd hf (by lia)
 | m + 1, i, fuel + 1, y, z, hi, hf => by
  rw [List.range'_succ, List.map_cons];have h0 : hiN 0 i = 0 := by simp [hiN]
  have ha := Zks (B' := B ++ [.list []]) (b := some (.box B.length)) (z := some (.int (0 + (i : Int)))) (n := 0) (i := i);rw [h0, Nat.zero_testBit] at ha;have ha : T.of (D.bin ZeE (D.var 0) (D.var 3)) [some (.int 0), some (.box B.length), some (.int (0 + (i : Int))), some (.int (1 * 2 ^ ((0 : Int) + (i : Int)).toNat))] (B ++ [.list []]) = some (false, B ++ [.list []]) := ha
  have hs : ZfJ (.int (0 + (i : Int))) [some (.int 0), some (.box B.length), y, z] (B ++ [.list []]) =
    some (.next, [some (.int 0), some (.box B.length), some (.int (0 + (i : Int))), some (.int (1 * 2 ^ ((0 : Int) + (i : Int)).toNat))], B ++ [.list []]) := by
   show S.seq _ _ [some (.int 0), some (.box B.length), some (.int (0 + (i : Int))), z] _ = _;rw [Yi (ZjM (by lia)), X4 ha];rfl
  simp only [Jx, Src.at, List.head?_cons, hs, Src.adv, List.tail_cons];exact Zji m (i + 1) fuel _ _ (by lia) (by lia)
theorem ZfN : ∀ l : List Str, Zb6 (l.map V.str) = some l
 | [] => rfl
 | x :: l => by simp [Zb6, ZfN l]
theorem Zfn {l : List Nat} {c : Nat} (h : ∀ x ∈ l, x <= c) : l.sum <= l.length * c := by
 induction l with
 | nil => simp
 | cons x l ih =>
  have h1 := h x (.head _);have h2 := ih fun y hy => h y (List.mem_cons_of_mem _ hy);simp only [List.sum_cons, List.length_cons, Nat.add_mul, Nat.one_mul];lia
theorem Zdj {B : Bx} {x : Str} {d : V} {l : List Str} (hd : Zx B d = some (l.map V.str)) (h : (l.map (·.length)).sum + l.length * x.length <= 16777216) : ZcO B [.str x, d] = some (.str (Txt.join x l), B) := by
 exact ZlK hd (ZfN _) h
theorem Zgu {n k : Nat} (h : k ∈ Z1 n) : k < 32 := List.mem_range.mp (List.mem_filter.mp h).1
set_option tactic.hygienic true in
theorem ZdG : Runs Jy XQ ["flags"] Zz := Jt fun B ds d h1 => by
 refine Xn ((ZeG ds).2 _ h1) fun n e0 hc er => ?_;rw [e0, er];obtain ⟨k, rfl⟩ : ∃ k : Nat, n = k := ⟨n.toNat, by lia⟩;have h32 : k < 2 ^ 32 := by have := hc.2; lia
 rw [Int.toNat_natCast];have hit : I.val (D.call Zo [D.const (.int 32)]) [some (.int (k : Int)), some (.box B.length), none, none] (B ++ [.list []]) = some (.seq ((List.range' 0 32).map fun (k : Nat) => .int (0 + (k : Int))), B ++ [.list []]) := rfl
 by_cases h0 : k = 0
 ·subst h0
  refine Zei (Zji (B := B) 32 0 33 none none rfl (by decide)) fun y z e => ?_;refine ⟨rfl, [.list [.str "0x0"]], .str "0x0", 1, Zi rfl (Zi (σ₁ := [some (.int 0), some (.box B.length), y, z]) (B₁ := B ++ [.list [.str "0x0"]]) ?_ (YD ?_)), rfl⟩
  ·unfold S.loopS
   erw [hit];exact e
  ·refine XS rfl rfl rfl ?_
   exact Zdj (l := ["0x0"]) (by unfold Zx; simp only [YC]; rfl) (by decide +kernel)
 ·have hz : hiN k 0 = k := by simp [hiN]
  refine Zrk (Zhk (B := B) h0 h32 32 0 33 none none rfl (by simpa using h0) (by decide)) fun f y z e => ?_;rw [hz] at e;refine ⟨rfl, [.list ((Z1 k).map fun k => V.str (Yv k))], .str (ZP k), 1, Zi rfl (Zi (σ₁ := [f, some (.box B.length), y, z]) (B₁ := B ++ [.list ((Z1 k).map fun k => V.str (Yv k))]) ?_ (YD ?_)), rfl⟩
  ·unfold S.loopS
   erw [hit];exact e
  ·refine XS rfl rfl rfl ?_
   unfold ZP;rw [if_neg h0];refine Zdj (l := (Z1 k).map Yv) (by unfold Zx; simp only [YC, List.map_map]; rfl) ?_;have h1 : (Z1 k).length <= 32 := Nat.le_trans (List.length_filter_le _ _) (by simp)
   have h2 : (((Z1 k).map Yv).map (·.length)).sum <= (((Z1 k).map Yv).map (·.length)).length * 18 := Zfn fun x hx => by
    simp only [List.map_map, List.mem_map] at hx;refine Ze hx fun j hj z_2 => ?_;clear hx;subst z_2;exact Zi4 j (Zgu hj)
   have h3 : (Str.ofString ", ").length = 2 := by decide +kernel
   simp only [List.length_map] at h2 ⊢;rw [h3];lia
noncomputable def Zjf (got : Str) : List Str -> Int -> Int -> Bool
 | [], _, _ => true
 | w :: ws, i, j => if findIn got w i j < 0 then false else Zjf got ws (findIn got w i j + (w.length : Int)) j
noncomputable def ZeF (got : Str) (ws : List Str) (i j : Int) : Bool := if j < i then false else Zjf got ws i j
noncomputable def ZcD (got : Str) (ws : List Str) (i : Int) : Bool := match ws.getLast? with
 | none => false
 | some w => if w.length ≠ 0 then (if Txt.endswith got w then ZeF got ws.dropLast i ((got.length : Int) - (w.length : Int)) else false) else ZeF got ws i got.length
noncomputable def ZlZ (got : Str) : List Str -> Bool
 | [] => false
 | w :: ws => if w.length ≠ 0 then (if Txt.startswith got w then ZcD got ws w.length else false) else ZcD got (w :: ws) 0
noncomputable def Zns (want got : Str) : Option V := if ZH (want.length + 2) = true /\ ZH got.length = true then
   if ZcT "..." want = false then some (.bool (want == got)) else
   if 2 <= (Txt.split want "...").length /\ (Txt.split want "...").length <= Cap /\ (Txt.split want "...").all (fun w => ZH w.length) = true then some (.bool (ZlZ got (Txt.split want "..."))) else none
  else none
noncomputable def Zr : VF := Y4 fun _ ds => (ZiT ds).1.bind fun p => Zns p.1 p.2
noncomputable abbrev ZfI : V -> St -> Bx -> Option Out := fun x σ B => match (fun d σ => some (σ.set 5 (some d))) x σ with
 | none => none
 | some σ₁ => (S.seq (S.assign 3 (D.meth Y8 ZgQ (D.var 1) [(D.var 5), (D.var 3), (D.var 4)])) (S.seq (S.ite (T.cmp vlt (D.var 3) (D.const (.int 0))) (S.ret (D.const (.bool false))) S.skip) (S.aug Zbj 3 (D.call XU [(D.var 5)])))) σ₁ B
theorem Zdf {B : Bx} {w : Str} (h : ZH w.length = true) : XU B [.str w] = some (.int w.length, B) := by
 simp only [XU, Y4, ZjH, Zx, h, if_true, Option.map_some]
noncomputable def elS (want got : Str) (n : Nat) (a b c : Option V) : St := [some (.str want), some (.str got), some (.box n), a, b, c]
theorem Zln {B B1 : Bx} {want got : Str} {L : List Str} {ep : Int} (hB : B1 = B ++ [.list (L.map V.str)]) : ∀ (ws : List Str) (i fuel : Nat) (sp : Int) (y : Option V), L.drop i = ws -> (ws.all fun w => ZH w.length) = true -> ws.length < fuel ->
  (Zjf got ws sp ep = false /\ ∃ σ', Jx ZfI S.skip fuel (.box B.length i) (elS want got B.length (some (.int sp)) (some (.int ep)) y) B1 = some (.ret (.bool false), σ', B1)) \/
  (Zjf got ws sp ep = true /\ ∃ σ', Jx ZfI S.skip fuel (.box B.length i) (elS want got B.length (some (.int sp)) (some (.int ep)) y) B1 = some (.next, σ', B1))
 | ws, i, 0, sp, y, _, _, hf => absurd hf (by lia)
 | [], i, fuel + 1, sp, y, hw, _, hf => by
  have hat : Src.at B1 (.box B.length i) = some none := by
   subst hB;simp only [Src.at, YC];congr 1;rw [List.getElem?_map, Option.map_eq_none_iff, List.getElem?_eq_none_iff];have := congrArg List.length hw;rw [List.length_drop, List.length_nil] at this;lia
  exact .inr ⟨rfl, _, by simp only [Jx, hat]; rfl⟩
 | w :: ws, i, fuel + 1, sp, y, hw, hs, hf => by
  simp only [List.all_cons, Bool.and_eq_true] at hs
  have hat : Src.at B1 (.box B.length i) = some (some (.str w)) := by
   subst hB;simp only [Src.at, YC];congr 1;rw [List.getElem?_map]
   have : L[i]? = some w := by
    have := congrArg (·[0]?) hw
    simpa using this
   rw [this]; rfl
  have e1 : S.assign 3 (D.meth Y8 ZgQ (D.var 1) [(D.var 5), (D.var 3), (D.var 4)]) (elS want got B.length (some (.int sp)) (some (.int ep)) (some (.str w))) B1 =
    some (.next, (elS want got B.length (some (.int (findIn got w sp ep))) (some (.int ep)) (some (.str w))), B1) :=
   ZD (Zox rfl rfl rfl rfl rfl rfl)
  unfold Zjf
  by_cases hlt : findIn got w sp ep < 0
  ·rw [if_pos hlt]
   refine .inl ⟨rfl, (elS want got B.length (some (.int (findIn got w sp ep))) (some (.int ep)) (some (.str w))), ?_⟩
   have hst : ZfI (.str w) (elS want got B.length (some (.int sp)) (some (.int ep)) y) B1 = some (.ret (.bool false), (elS want got B.length (some (.int (findIn got w sp ep))) (some (.int ep)) (some (.str w))), B1) := by
    show S.seq _ _ (elS want got B.length (some (.int sp)) (some (.int ep)) (some (.str w))) B1 = _;rw [Yi e1, ZhL ((ZaT (Yf rfl rfl (by simp only [vlt, hlt, decide_true]))).trans (Zfm rfl))]
   simp only [Jx, hat, hst]
  ·rw [if_neg hlt]
   have hst : ZfI (.str w) (elS want got B.length (some (.int sp)) (some (.int ep)) y) B1 = some (.next, (elS want got B.length (some (.int (findIn got w sp ep + (w.length : Int)))) (some (.int ep)) (some (.str w))), B1) := by
    show S.seq _ _ (elS want got B.length (some (.int sp)) (some (.int ep)) (some (.str w))) B1 = _;rw [Yi e1, Yi ((X4 (Yf rfl rfl (by simp only [vlt, hlt, decide_false]))).trans rfl)];have e2 := Yd (F := XU) (f := D.var 5) (σ := (elS want got B.length (some (.int (findIn got w sp ep))) (some (.int ep)) (some (.str w)))) (B := B1) (B₁ := B1) rfl (Zdf hs.1);exact ZjE rfl e2 rfl
   simp only [Jx, hat, hst, Src.adv];refine Zln hB ws (i + 1) fuel _ _ ?_ hs.2 (by simpa using hf);rw [<- List.tail_drop, hw]; rfl
theorem ZbD {B : Bx} {x : Str} (h : ZH x.length = true) : JC B (.str x) = some (x.length != 0) := by simp only [JC, h, if_true]
theorem Zii : ZbG 0 = true := by decide
theorem ZmV {B : Bx} {x : V} {xs : List V} : Zc (B ++ [.list (x :: xs)]) (.box B.length) (.int 0) = some x := by
 rw [Zee YC];simp only [ZbW, Zii, if_true];rw [show seqIndex? 0 (x :: xs).length = some 0 by unfold seqIndex?; simp];rfl
theorem J4 {n : Nat} : seqIndex? (-1) (n + 1) = some n := by
 unfold seqIndex?;have h1 : ((-1 : Int) < 0) = True := by simp
 simp only [h1, if_true];rw [if_pos (by simp only [Bool.and_eq_true, decide_eq_true_eq]; lia)];congr 1;lia
theorem Zmu {B : Bx} {xs : List V} (h : xs ≠ []) : Zc (B ++ [.list xs]) (.box B.length) (.int (-1)) = xs.getLast? := by
 rw [Zee YC];unfold ZbW;obtain ⟨n, hn⟩ : ∃ n, xs.length = n + 1 := ⟨xs.length - 1, by have := List.length_pos_iff.mpr h; lia⟩;rw [if_pos (by decide), hn, J4, List.getLast?_eq_getElem?, hn];rfl
theorem Zr7 {B : Bx} {x : V} {xs : List V} (h : ZH (x :: xs).length = true) : Zh6 (B ++ [.list (x :: xs)]) B.length (.int 0) = some (B ++ [.list xs]) := by
 simp only [Zh6, YC, h, Zii, Bool.and_self, if_true];rw [show seqIndex? 0 (x :: xs).length = some 0 by unfold seqIndex?; simp];simp only [Option.map_some, Zcx, List.eraseIdx_cons_zero]
theorem Zs1 {B : Bx} {xs : List V} (h : ZH xs.length = true) (hne : xs ≠ []) : Zh6 (B ++ [.list xs]) B.length (.int (-1)) = some (B ++ [.list xs.dropLast]) := by
 obtain ⟨n, hn⟩ : ∃ n, xs.length = n + 1 := ⟨xs.length - 1, by have := List.length_pos_iff.mpr hne; lia⟩;simp only [Zh6, YC, h, show ZbG (-1) = true by decide, Bool.and_self, if_true];rw [hn, J4];simp only [Option.map_some, Zcx];rw [show n = xs.length - 1 by lia, List.eraseIdx_length_sub_one]
noncomputable abbrev ZrO : DS := S.seq (S.ite (T.cmp vgt (D.var 3) (D.var 4)) (S.ret (D.const (.bool false))) S.skip) (S.seq (S.loopS (I.val (D.var 2)) (fun d σ => some (σ.set 5 (some d))) (S.seq (S.assign 3 (D.meth Y8 ZgQ (D.var 1) [(D.var 5), (D.var 3), (D.var 4)])) (S.seq (S.ite (T.cmp vlt (D.var 3) (D.const (.int 0))) (S.ret (D.const (.bool false))) S.skip) (S.aug Zbj 3 (D.call XU [(D.var 5)])))) S.skip) (S.ret (D.const (.bool true))))
theorem ZpI {B : Bx} {want got : Str} {L : List Str} {sp ep : Int} {y : Option V} (hs : (L.all fun w => ZH w.length) = true) :
  ZbI ZrO (elS want got B.length (some (.int sp)) (some (.int ep)) y) (B ++ [.list (L.map V.str)]) (.bool (ZeF got L sp ep)) (B ++ [.list (L.map V.str)]) := by
 unfold ZeF
 by_cases hlt : ep < sp
 ·rw [if_pos hlt]
  exact ZaF (ZhH (Yf rfl rfl (by simp only [vgt, hlt, decide_true])) (YD rfl))
 ·rw [if_neg hlt]
  refine Zi ((X4 (Yf rfl rfl (by simp only [vgt, hlt, decide_false]))).trans rfl) ?_
  have hl : ∀ {r : Out}, Jx ZfI S.skip (L.length + 1) (.box B.length 0) (elS want got B.length (some (.int sp)) (some (.int ep)) y) (B ++ [.list (L.map V.str)]) = some r ->
    S.loopS (I.val (D.var 2)) (fun d σ => some (σ.set 5 (some d))) (S.seq (S.assign 3 (D.meth Y8 ZgQ (D.var 1) [(D.var 5), (D.var 3), (D.var 4)])) (S.seq (S.ite (T.cmp vlt (D.var 3) (D.const (.int 0))) (S.ret (D.const (.bool false))) S.skip) (S.aug Zbj 3 (D.call XU [(D.var 5)])))) S.skip
     (elS want got B.length (some (.int sp)) (some (.int ep)) y) (B ++ [.list (L.map V.str)]) = some r := fun {r} h => by
   have hit : I.val (D.var 2) (elS want got B.length (some (.int sp)) (some (.int ep)) y) (B ++ [.list (L.map V.str)]) = some (.box B.length 0, B ++ [.list (L.map V.str)]) := by
    exact ZQ (d := .box B.length) rfl (by simp only [Zaf, YC, Option.map_some])
   unfold S.loopS;rw [hit];simp only [Src.fuel, YC, List.length_map];exact h
  rcases Zln (B := B) (want := want) (got := got) (L := L) (ep := ep) rfl L 0 (L.length + 1) sp y rfl hs (Nat.lt_succ_self _) with ⟨h1, σ', h2⟩ | ⟨h1, σ', h2⟩
  ·rw [h1]; exact ZaF ⟨_, hl h2⟩
  ·rw [h1]; exact Zi (hl h2) (YD rfl)
noncomputable abbrev Zsg : DS := S.seq (S.assign 5 (D.bin Zc (D.var 2) (D.un YH (D.const (.int 1))))) (S.seq (S.ite (T.of (D.var 5)) (S.ite (T.of (D.meth Y8 Zla (D.var 1) [(D.var 5)])) (S.seq (S.aug Zqh 4 (D.call XU [(D.var 5)])) (S.del (D.var 2) (D.un YH (D.const (.int 1))))) (S.ret (D.const (.bool false)))) S.skip) ZrO)
theorem Zlz {B : Bx} {want got : Str} {L : List Str} {sp : Int} {y : Option V} (hne : L ≠ []) (hc : L.length <= Cap) (hs : (L.all fun w => ZH w.length) = true) :
  ∃ B', ZbI Zsg (elS want got B.length (some (.int sp)) (some (.int got.length)) y) (B ++ [.list (L.map V.str)]) (.bool (ZcD got L sp)) (B ++ B') := by
 obtain ⟨w, hw⟩ : ∃ w, L.getLast? = some w := by
  cases h : L.getLast? with
  | none => exact absurd (List.getLast?_eq_none_iff.mp h) hne
  | some w => exact ⟨w, rfl⟩
 have hws : ZH w.length = true := by
  rw [List.all_eq_true] at hs;exact hs w (List.mem_of_getLast? hw)
 unfold ZcD;simp only [hw]
 have e1 : S.assign 5 (D.bin Zc (D.var 2) (D.un YH (D.const (.int 1)))) (elS want got B.length (some (.int sp)) (some (.int got.length)) y) (B ++ [.list (L.map V.str)]) =
   some (.next, (elS want got B.length (some (.int sp)) (some (.int got.length)) (some (.str w))), B ++ [.list (L.map V.str)]) := by
  refine ZD (Zf rfl (e := .int (-1)) rfl ?_);rw [Zmu (by simpa using hne), List.getLast?_map, hw]; rfl
 by_cases h0 : w.length ≠ 0
 ·rw [if_pos h0]
  have ht : T.of (D.var 5) (elS want got B.length (some (.int sp)) (some (.int got.length)) (some (.str w))) (B ++ [.list (L.map V.str)]) = some (true, B ++ [.list (L.map V.str)]) :=
   XC rfl (by rw [ZbD hws]; congr 1; rw [bne_iff_ne]; exact h0)
  have hm : D.meth Y8 Zla (D.var 1) [(D.var 5)] (elS want got B.length (some (.int sp)) (some (.int got.length)) (some (.str w))) (B ++ [.list (L.map V.str)]) = some (.bool (Txt.endswith got w), B ++ [.list (L.map V.str)]) :=
   XS rfl rfl rfl rfl
  cases he : Txt.endswith got w with
  | true =>
   rw [he] at hm;simp only [if_true]
   have hd : (L.dropLast.all fun w => ZH w.length) = true := by
    rw [List.all_eq_true] at hs ⊢;exact fun x hx => hs x (List.dropLast_subset _ hx)
   refine ⟨[.list (L.dropLast.map V.str)], Zi e1 (Zi ?_ (ZpI (want := want) (y := some (.str w)) hd))⟩
   ·rw [ZaT ht, ZaT (XC hm rfl)]
    have e2 := Yd (F := XU) (f := D.var 5) (σ := (elS want got B.length (some (.int sp)) (some (.int got.length)) (some (.str w)))) (B := B ++ [.list (L.map V.str)]) (B₁ := B ++ [.list (L.map V.str)]) rfl (Zdf hws)
    rw [Yi (σ₁ := (elS want got B.length (some (.int sp)) (some (.int ((got.length : Int) - (w.length : Int)))) (some (.str w)))) (B₁ := B ++ [.list (L.map V.str)])
     (by exact ZjE rfl e2 rfl)]
    have h3 := Zs1 (B := B) (xs := L.map V.str) (by rw [List.length_map]; exact ZR hc) (by simpa using hne);simp only [elS, S.del, D.var, D.un, D.const, YH, Option.map_some, List.getElem?_cons_succ, List.getElem?_cons_zero, h3];rw [List.map_dropLast]
  | false =>
   rw [he] at hm;simp only [Bool.false_eq_true, if_false];exact ⟨_, Zi e1 (ZaF (ZhH ht (ZnO (XC hm rfl) (YD rfl))))⟩
 ·rw [if_neg h0]
  have ht : T.of (D.var 5) (elS want got B.length (some (.int sp)) (some (.int got.length)) (some (.str w))) (B ++ [.list (L.map V.str)]) = some (false, B ++ [.list (L.map V.str)]) :=
   XC rfl (by rw [ZbD hws]; congr 1; simpa using h0)
  exact ⟨_, Zi e1 (Zi ((X4 ht).trans rfl) (ZpI hs))⟩
set_option tactic.hygienic true in
theorem ZcJ : Runs XH Y9 ["want", "got"] Zr := Jt fun B ds d h1 => by
 refine Ze (Option.bind_eq_some_iff.mp h1) fun ⟨want, got⟩ hp h1 => ?_;rw [(ZiT ds).2 _ hp];obtain ⟨hsz, h1⟩ := YG h1;refine (ZaU h1).elim (fun h1 => Zev h1 fun hsub h1 => ?_) fun h1 => Zev h1 fun hsub h1 => ?_
 ·rw [<- Option.some.inj h1]
  refine ⟨rfl, [], .bool (want == got), 1, ?_, rfl⟩;rw [List.append_nil];refine ZaF (ZhH (Yf (c := true) rfl rfl ?_) (YD (Zf rfl rfl rfl)));simp only [Jp, vin, hsub, Option.map_some, Bool.not_false]
 ·obtain ⟨hc, h1⟩ := YG h1
  rw [<- Option.some.inj h1];refine XR hc fun h2 hcap hall => ?_;clear hc h1;refine ⟨rfl, ?_⟩
  have hk : T.cmp Jp (D.const (.str "...")) (D.var 0) [some (.str want), some (.str got), none, none, none, none] B = some (false, B) :=
   Yf rfl rfl (by simp only [Jp, vin]; simp only [Bool.not_eq_false] at hsub; rw [hsub]; rfl)
  have hsp : S.assign 2 (XE (D.split (D.var 0) (D.const (.str "...")))) [some (.str want), some (.str got), none, none, none, none] B =
    some (.next, (elS want got B.length none none none), B ++ [.list ((Txt.split want "...").map V.str)]) := by
   refine ZD (B₁ := B ++ [.list ((Txt.split want "...").map V.str)]) ?_;unfold XE
   have : D.split (D.var 0) (D.const (.str "...")) [some (.str want), some (.str got), none, none, none, none] B = some (.list ((Txt.split want "...").map V.str), B) := by
    simp only [D.split, D.var, D.const, List.getElem?_cons_zero, hsz.1];rfl
   rw [this]; rfl
  have hlen : D.call XU [(D.var 2)] (elS want got B.length none none none) (B ++ [.list ((Txt.split want "...").map V.str)]) =
    some (.int ((Txt.split want "...").length : Nat), B ++ [.list ((Txt.split want "...").map V.str)]) := by
   refine Yd rfl ?_;simp only [XU, Y4, ZjH, Zx, YC, List.length_map, ZR hcap, if_true, Option.map_some]
  have hsw : S.swapped [3, 4] (D.tup [(D.const (.int 0)), (D.call XU [(D.var 1)])]) (elS want got B.length none none none) (B ++ [.list ((Txt.split want "...").map V.str)]) =
    some (.next, (elS want got B.length (some (.int 0)) (some (.int got.length)) none), B ++ [.list ((Txt.split want "...").map V.str)]) := by
   have e2 := Yd (F := XU) (f := D.var 1) (σ := (elS want got B.length none none none)) (B := B ++ [.list ((Txt.split want "...").map V.str)]) (B₁ := B ++ [.list ((Txt.split want "...").map V.str)]) rfl (Zdf hsz.2);simp only [S.swapped, D.tup, D.row, D.const, e2, JB];rfl
  generalize Txt.split want "..." = L at *
  match L, h2, hcap, hall with
  | w :: x :: L, h2, hcap, hall =>
   have hws : ZH w.length = true := by simp only [List.all_cons, Bool.and_eq_true] at hall; exact hall.1
   have hall' : ((x :: L).all fun w => ZH w.length) = true := by simp only [List.all_cons, Bool.and_eq_true] at hall ⊢; exact hall.2
   have e0 : S.assign 5 (D.bin Zc (D.var 2) (D.const (.int 0))) (elS want got B.length (some (.int 0)) (some (.int got.length)) none) (B ++ [.list ((w :: x :: L).map V.str)]) =
     some (.next, (elS want got B.length (some (.int 0)) (some (.int got.length)) (some (.str w))), B ++ [.list ((w :: x :: L).map V.str)]) :=
    ZD (Zf rfl rfl (ZmV (x := .str w)))
   simp only [ZlZ]
   by_cases h0 : w.length ≠ 0
   ·simp only [if_pos h0]
    have ht : T.of (D.var 5) (elS want got B.length (some (.int 0)) (some (.int got.length)) (some (.str w))) (B ++ [.list ((w :: x :: L).map V.str)]) = some (true, B ++ [.list ((w :: x :: L).map V.str)]) :=
     XC rfl (by rw [ZbD hws]; congr 1; rw [bne_iff_ne]; exact h0)
    have hm : D.meth Y8 Zhn (D.var 1) [(D.var 5)] (elS want got B.length (some (.int 0)) (some (.int got.length)) (some (.str w))) (B ++ [.list ((w :: x :: L).map V.str)]) = some (.bool (Txt.startswith got w), B ++ [.list ((w :: x :: L).map V.str)]) :=
     XS rfl rfl rfl rfl
    cases he : Txt.startswith got w with
    | true =>
     rw [he] at hm;simp only [if_true];obtain ⟨B', hB'⟩ := Zlz (B := B) (want := want) (got := got) (L := x :: L) (sp := w.length) (y := some (.str w)) (by simp) (by simp only [List.length_cons] at hcap ⊢; lia) hall';refine ⟨B', .bool (ZcD got (x :: L) w.length), 1, Zi ((X4 hk).trans rfl) (Zi hsp (Zi (σ₁ := (elS want got B.length none none none)) (B₁ := B ++ [.list ((w :: x :: L).map V.str)]) ?_ (Zi hsw (Zi e0 (Zi ?_ hB'))))), rfl⟩
     ·simp only [S.assert]
      rw [Yf (c := true) hlen rfl (by simp only [vge, List.length_cons]; congr 1; rw [decide_eq_true_eq]; lia)]
     ·rw [ZaT ht, ZaT (XC hm rfl)]
      have e2 := Yd (F := XU) (f := D.var 5) (σ := (elS want got B.length (some (.int 0)) (some (.int got.length)) (some (.str w)))) (B := B ++ [.list ((w :: x :: L).map V.str)]) (B₁ := B ++ [.list ((w :: x :: L).map V.str)]) rfl (Zdf hws);rw [Yi (ZD e2)];have h3 := Zr7 (B := B) (x := .str w) (xs := (x :: L).map V.str) (by simp only [List.length_cons, List.length_map]; simp only [List.length_cons] at hcap; exact ZR hcap);simp only [elS, S.del, D.var, D.const, List.set_cons_succ, List.set_cons_zero, List.getElem?_cons_succ, List.getElem?_cons_zero, List.map_cons] at h3 ⊢;rw [h3]
    | false =>
     rw [he] at hm;simp only [Bool.false_eq_true, if_false];refine ⟨[.list ((w :: x :: L).map V.str)], .bool false, 1, Zi ((X4 hk).trans rfl) (Zi hsp (Zi (σ₁ := (elS want got B.length none none none)) (B₁ := B ++ [.list ((w :: x :: L).map V.str)]) ?_ (Zi hsw (Zi e0 (ZaF (ZhH ht (ZnO (XC hm rfl) (YD rfl)))))))), rfl⟩;simp only [S.assert];rw [Yf (c := true) hlen rfl (by simp only [vge, List.length_cons]; congr 1; rw [decide_eq_true_eq]; lia)]
   ·simp only [if_neg h0]
    have ht : T.of (D.var 5) (elS want got B.length (some (.int 0)) (some (.int got.length)) (some (.str w))) (B ++ [.list ((w :: x :: L).map V.str)]) = some (false, B ++ [.list ((w :: x :: L).map V.str)]) :=
     XC rfl (by rw [ZbD hws]; congr 1; simpa using h0)
    obtain ⟨B', hB'⟩ := Zlz (B := B) (want := want) (got := got) (L := w :: x :: L) (sp := 0) (y := some (.str w)) (by simp) hcap hall;refine ⟨B', .bool (ZcD got (w :: x :: L) 0), 1, Zi ((X4 hk).trans rfl) (Zi hsp (Zi (σ₁ := (elS want got B.length none none none)) (B₁ := B ++ [.list ((w :: x :: L).map V.str)]) ?_ (Zi hsw (Zi e0 (Zi ((X4 ht).trans rfl) hB'))))), rfl⟩;simp only [S.assert];rw [Yf (c := true) hlen rfl (by simp only [vge, List.length_cons]; congr 1; rw [decide_eq_true_eq]; lia)]
noncomputable def XT (m : Nat) (ns : List Int) (c : List Int) (p : Nat) : List Int := c.set (p % m) (c.getD (p % m) 0 + Int.fmod (ns.getD p 0) 1000000)
noncomputable def Zdc (m : Nat) (init ns : List Int) : List Int := (List.range (min 60 ns.length)).foldl (XT m ns) init
theorem ZdF (m : Nat) (ns : List Int) : ∀ (l : List Nat) (c : List Int), (l.foldl (XT m ns) c).length = c.length := by
 intro xs_
 induction xs_ with
 | nil =>
  intro c;exact rfl
 | cons x l ih_ =>
  intro c;rw [List.foldl_cons, ih_]; simp [XT]
theorem Zkd (m : Nat) (init ns : List Int) : (Zdc m init ns).length = init.length := by
 exact ZdF m ns _ init
theorem Zbs {k n : Nat} (h : k < n) : seqIndex? (k : Int) n = some k := by
 unfold seqIndex?;rw [if_neg (show ¬ ((k : Int) < 0) by lia)];simp only [Int.toNat_natCast];rw [if_pos (by simp only [Bool.and_eq_true, decide_eq_true_eq]; lia)]
theorem ZcX {k : Nat} (h : k < 16777216) : ZbG (k : Int) = true := by
 unfold ZbG;simp only [Bool.and_eq_true, decide_eq_true_eq];lia
theorem Zed {xs : List V} {k : Nat} (h : k < xs.length) (hk : k < 16777216) : ZbW xs (k : Int) = xs[k]? := by
 unfold ZbW;rw [if_pos (ZcX hk), Zbs h];rfl
theorem Y0 {B : Bx} {xs : List V} {k : Nat} (h : k < xs.length) (hk : k < 16777216) : Zc B (.list xs) (.int (k : Int)) = xs[k]? := ZeX.trans (Zed h hk)
theorem Zb0 {B : Bx} {xs : List V} {k : Nat} (h : k < xs.length) (hk : k < 16777216) : Zc B (.tup xs) (.int (k : Int)) = xs[k]? := ZlS.trans (Zed h hk)
theorem JK {B : Bx} {xs : List V} {n k : Nat} (hB : B[n]? = some (.list xs)) (h : k < xs.length) (hk : k < 16777216) : Zc B (.box n) (.int (k : Int)) = xs[k]? := by
 rw [Zee hB, Zed h hk]
theorem ZmQ {B : Bx} {xs : List V} (h : xs ≠ []) : Zc B (.list xs) (.int (-1)) = xs.getLast? := by
 rw [ZeX];unfold ZbW;obtain ⟨n, hn⟩ : ∃ n, xs.length = n + 1 := ⟨xs.length - 1, by have := List.length_pos_iff.mpr h; lia⟩;rw [if_pos (by decide), hn, J4, List.getLast?_eq_getElem?, hn];rfl
theorem Zh5 (a b : Nat) : Int.fmod (a : Int) (b : Int) = ((a % b : Nat) : Int) := by
 rw [Int.fmod_eq_emod_of_nonneg _ (by lia)]; rfl
theorem Ze6 {ns : List Int} {k : Nat} (h : k < ns.length) : (ns.map V.int)[k]? = some (.int (ns.getD k 0)) := by
 rw [List.getElem?_map, List.getD_eq_getElem?_getD, List.getElem?_eq_getElem h];rfl
theorem Zmx {B : Bx} {n : Nat} {c : List Int} {k : Nat} {v : Int} (hB : B[n]? = some (.list (c.map V.int))) (h : k < c.length) (hc : c.length <= Cap) : Zcj B n (.int (k : Int)) (.int v) = some (B.set n (.list ((c.set k v).map V.int))) := by
 unfold Zcj;simp only [hB, List.length_map];rw [if_pos ⟨by lia, by lia, ZR hc⟩, Int.toNat_natCast, List.map_set]
theorem YI {n : Nat} {B : Bx} (h : n <= 1000000) : Zaf B (.range 0 (n : Int)) = some (.seq ((List.range n).map fun (k : Nat) => V.int (k : Int))) := by
 simp only [Zaf]
 have : Zc5 0 (n : Int) = true := by
  unfold Zc5;simp only [Bool.and_eq_true, decide_eq_true_eq]; lia
 rw [if_pos this];congr 2;rw [show ((n : Int) - 0).toNat = n by lia];apply List.map_congr_left;intro k _;simp
theorem ZbE {a n : Nat} {B : Bx} (h : a + n <= 1000000) : Zaf B (.range (a : Int) ((a + n : Nat) : Int)) = some (.seq ((List.range n).map fun (k : Nat) => V.int ((a + k : Nat) : Int))) := by
 simp only [Zaf]
 have : Zc5 (a : Int) ((a + n : Nat) : Int) = true := by
  unfold Zc5;simp only [Bool.and_eq_true, decide_eq_true_eq]; lia
 rw [if_pos this];congr 2;rw [show (((a + n : Nat) : Int) - (a : Int)).toNat = n by lia];apply List.map_congr_left;intro k _;simp
theorem ZsA {B : Bx} : Zhp B (.int 10) (.int 6) = some (.int 1000000) := by
 simp only [Zhp];rw [if_pos (by decide)];congr 2
theorem Zm6 {B' : Bx} {ns : List Int} {b z : Option V} (hns : ns.length <= 1000000) : I.val (D.call Zo [(D.call Zmy [(D.const (.int 60)), (D.call XU [(D.var 0)])])]) [some (.list (ns.map V.int)), b, z] B' =
   some (.seq ((List.range (min 60 ns.length)).map fun (k : Nat) => V.int (k : Int)), B') := by
 have h1 : D.call XU [(D.var 0)] [some (.list (ns.map V.int)), b, z] B' = some (.int ns.length, B') :=
  Yd rfl (by simp only [XU, Y4, ZjH, Zx, List.length_map, ZR (show ns.length <= Cap by unfold Cap; lia), if_true, Option.map_some])
 have h2 : D.call Zmy [(D.const (.int 60)), (D.call XU [(D.var 0)])] [some (.list (ns.map V.int)), b, z] B' = some (.int ((min 60 ns.length : Nat) : Int), B') := by
  refine Zag rfl h1 ?_;show some (V.int (if (ns.length : Int) < 60 then (ns.length : Int) else 60), B') = _;congr 3
  split <;> lia
 have h3 : D.call Zo [(D.call Zmy [(D.const (.int 60)), (D.call XU [(D.var 0)])])] [some (.list (ns.map V.int)), b, z] B' = some (.range 0 ((min 60 ns.length : Nat) : Int), B') :=
  Yd h2 rfl
 unfold I.val;simp only [h3, YI (show min 60 ns.length <= 1000000 by lia), Option.map_some]
theorem Zsd {B : Bx} (a : Int) : X9 B (.int a) (.int 1000000) = some (.int (Int.fmod a 1000000)) := by
 unfold X9;exact if_neg (show ¬ ((1000000 : Int) = 0) by lia)
theorem Zor {B' : Bx} {ns : List Int} {b : Option V} {k : Nat} (hk : k < ns.length) (hb : k < 60) : D.bin X9 (D.bin Zc (D.var 0) (D.var 2)) (D.bin Zhp (D.const (.int 10)) (D.const (.int 6))) [some (.list (ns.map V.int)), b, some (.int (k : Int))] B' =
  some (.int (Int.fmod (ns.getD k 0) 1000000), B') := by
 have h1 : D.bin Zc (D.var 0) (D.var 2) [some (.list (ns.map V.int)), b, some (.int (k : Int))] B' = some (.int (ns.getD k 0), B') := Zf rfl rfl (by rw [Y0 (by rw [List.length_map]; exact hk) (by lia), Ze6 hk]);have h2 : D.bin Zhp (D.const (.int 10)) (D.const (.int 6)) [some (.list (ns.map V.int)), b, some (.int (k : Int))] B' = some (.int 1000000, B') := Zf (d := .int 10) (e := .int 6) rfl rfl ZsA;exact Zf h1 h2 (Zsd _)
theorem ZjP {B : Bx} {m : Nat} {init ns : List Int} (hm : init.length = m) (h0 : 0 < m) (hcap : m <= 1000) (hns : ns.length <= 1000000) :
  ∃ y, S.loopS (I.val (D.call Zo [(D.call Zmy [(D.const (.int 60)), (D.call XU [(D.var 0)])])])) (fun d σ => some (σ.set 2 (some d))) (S.augput Zbj (D.var 1) (D.bin X9 (D.var 2) (D.const (.int (m : Int)))) (D.bin X9 (D.bin Zc (D.var 0) (D.var 2)) (D.bin Zhp (D.const (.int 10)) (D.const (.int 6))))) S.skip
   [some (.list (ns.map V.int)), some (.box B.length), none] (B ++ [.list (init.map V.int)]) =
   some (.next, [some (.list (ns.map V.int)), some (.box B.length), y], B ++ [.list ((Zdc m init ns).map V.int)]) := by
 exact Zbo (tgt := fun d σ => some (σ.set 2 (some d))) (body := S.augput Zbj (D.var 1) (D.bin X9 (D.var 2) (D.const (.int (m : Int)))) (D.bin X9 (D.bin Zc (D.var 0) (D.var 2)) (D.bin Zhp (D.const (.int 10)) (D.const (.int 6))))) (min 60 ns.length) (fun k => V.int (k : Int)) (fun _ y => [some (.list (ns.map V.int)), some (.box B.length), y]) (fun k => B ++ [.list (((List.range k).foldl (XT m ns) init).map V.int)]) (y0 := none) (fun k y hk' => by
   have hcl : ((List.range k).foldl (XT m ns) init).length = m := by
    rw [ZdF, hm]
   have hk : k < ns.length := Nat.lt_of_lt_of_le hk' (Nat.min_le_right _ _);have h60 : k < 60 := Nat.lt_of_lt_of_le hk' (Nat.min_le_left _ _);have hkm : k % m < m := Nat.mod_lt _ h0;refine ⟨_, some (.int (k : Int)), rfl, ?_⟩
   have e1 : D.bin X9 (D.var 2) (D.const (.int (m : Int))) [some (.list (ns.map V.int)), some (.box B.length), some (.int (k : Int))] (B ++ [.list (((List.range k).foldl (XT m ns) init).map V.int)]) = some (.int ((k % m : Nat) : Int), B ++ [.list (((List.range k).foldl (XT m ns) init).map V.int)]) := by
    refine Zf rfl rfl ?_;simp only [X9];rw [if_neg (by lia), Zh5]
   have e2 := Zor (B' := B ++ [.list (((List.range k).foldl (XT m ns) init).map V.int)]) (b := some (.box B.length)) hk (by lia);show S.augput Zbj (D.var 1) _ _ [some (.list (ns.map V.int)), some (.box B.length), some (.int (k : Int))] _ = _;have e3 := JK (B := B ++ [.list (((List.range k).foldl (XT m ns) init).map V.int)]) (n := B.length) (k := k % m) YC (by rw [List.length_map, hcl]; exact hkm) (by lia);rw [Ze6 (by rw [hcl]; exact hkm)] at e3;have e4 := Zmx (B := B ++ [.list (((List.range k).foldl (XT m ns) init).map V.int)]) (n := B.length) (k := k % m) (v := ((List.range k).foldl (XT m ns) init).getD (k % m) 0 + Int.fmod (ns.getD k 0) 1000000) YC (by rw [hcl]; exact hkm) (by rw [hcl]; unfold Cap; lia);rw [Zcx] at e4;rw [List.range_succ, List.foldl_append, List.foldl_cons, List.foldl_nil];exact Zcr rfl e1 e3 e2 rfl e4)
  (Zm6 hns)
noncomputable def Zeb : List Int := [28, 70, 8, 15, 72, 9, 10, 17, 18, 53, 19]
noncomputable def ZnT (ds : List V) : Sb fun (r : V) => ∃ ns, ds = [.list (ns.map V.int)] /\ ns.length <= 1000000 /\ r = .list ((Zdc 11 Zeb ns).map V.int) := match ds with
 | [.list xs] => .bind (Xz xs) fun ns h => .ite (c := ns.length <= 1000000) (.list ((Zdc 11 Zeb ns).map V.int)) fun hl => ⟨ns, by rw [JS h], hl, rfl⟩
 | _ => .no
noncomputable def Z0 : VF := Y4 fun _ ds => (ZnT ds).1
theorem ZdY {n : Nat} {B : Bx} {m : Nat} : ∀ ns : List Int, JO (frz n B (m + 1)) (ns.map V.int) = some (ns.map V.int)
 | [] => rfl
 | x :: ns => by simp only [List.map_cons, JO, ZdY ns]; rfl
theorem Zrd {B : Bx} {xs ys : List V} {m : Nat} (h : JO (frz B.length (B ++ [.list xs]) m) xs = some ys) : frz B.length (B ++ [.list xs]) (m + 1) (.box B.length) = some (.list ys) := by
 show (if B.length < B.length then _ else _) = _;rw [if_neg (Nat.lt_irrefl _), YC];show (JO (frz B.length _ m) xs).map V.list = _;rw [h]; rfl
set_option tactic.hygienic true in
theorem Zfd : Runs Zau JG ["script"] Z0 := Jt fun B ds d h1 => by
 refine Xn ((ZnT ds).2 _ h1) fun ns e0 hl er => ?_;rw [e0, er];obtain ⟨y, e⟩ := ZjP (B := B) (m := 11) (init := Zeb) rfl (by decide) (by decide) hl;exact ⟨rfl, [.list ((Zdc 11 Zeb ns).map V.int)], .box B.length, 2, Zi rfl (Zi e (YD rfl)), Zrd (ZdY _)⟩
noncomputable def ZbL : List V := (List.range 10).map fun k => V.str (Yv k)
theorem Zjc : Txt.words "OPTIMIZED NEWLOCALS VARARGS VARKEYWORDS NESTED GENERATOR NOFREE COROUTINE ITERABLE_COROUTINE ASYNC_GENERATOR" = (List.range 10).map Yv := by decide +kernel
theorem ZoE {σ : St} {B : Bx} : D.words (D.const (.str "OPTIMIZED NEWLOCALS VARARGS VARKEYWORDS NESTED GENERATOR NOFREE COROUTINE ITERABLE_COROUTINE ASYNC_GENERATOR")) σ B = some (.list ZbL, B) := by
 unfold D.words;simp only [D.const, Zjc, List.map_map];rw [if_pos (by decide +kernel)];rfl
noncomputable def Zdt (k : Nat) : Str := ⟨#[(ls "1248").getD (k % 4) 0]⟩
theorem ZpK : ∀ k < 32, 10 <= k -> ((("0x" : Str) ++ Zdt k) ++ Txt.mul "0" ((k / 4 : Nat) : Int)) = Yv k := by decide +kernel
theorem Zob : ∀ k < 32, ZH ((("0x" : Str)).length + (Zdt k).length) = true := by decide +kernel
theorem ZnW : ∀ k < 32, ZH (((("0x" : Str) ++ Zdt k)).length + (Txt.mul "0" ((k / 4 : Nat) : Int)).length) = true := by decide +kernel
theorem Zoa {B : Bx} (k : Nat) : Zc B (.str "1248") (.int ((k % 4 : Nat) : Int)) = some (.str (Zdt k)) := by
 have h : k % 4 < 4 := Nat.mod_lt _ (by decide);have hl : (("1248" : Str)).length = 4 := by decide +kernel
 rw [Zd6];unfold ZgP;rw [if_pos (ZcX (by lia)), hl, Zbs h];simp only [Option.bind_some];have e : ∀ j < 4, (("1248" : Str)).cps[j]? = some ((ls "1248").getD j 0) := by decide +kernel
 rw [e _ h];rfl
theorem Zh3 (a b : Nat) : Int.fdiv (a : Int) (b : Int) = ((a / b : Nat) : Int) := by
 rw [Int.fdiv_eq_ediv_of_nonneg _ (by lia)]; rfl
theorem ZhE {B : Bx} {k : Nat} (h : k < 32) : Xb B (.str "0") (.int ((k / 4 : Nat) : Int)) = some (.str (Txt.mul "0" ((k / 4 : Nat) : Int))) := by
 simp only [Zre];have hl : (("0" : Str)).length = 1 := by decide +kernel
 rw [if_pos];rw [hl];simp only [Bool.and_eq_true, decide_eq_true_eq];lia
noncomputable abbrev Zoq : DE := D.ite (T.cmp vlt (D.var 1) (D.const (.int 10))) (D.bin Zc (D.var 3) (D.var 1)) (D.bin ZE (D.bin ZE (D.const (.str "0x")) (D.bin Zc (D.const (.str "1248")) (D.bin X9 (D.var 1) (D.const (.int 4))))) (D.bin Xb (D.const (.str "0")) (D.bin ZcL (D.var 1) (D.const (.int 4)))))
theorem Zl1 {B : Bx} {σ : St} {b : Option V} {k : Nat} (hk : k < 32) : Zoq (none :: some (.int (k : Int)) :: b :: some (.list ZbL) :: σ) B = some (.str (Yv k), B) := by
 unfold Zoq
 by_cases h : k < 10
 ·rw [Zj4 (Yf rfl rfl (by simp only [vlt]; congr 1; rw [decide_eq_true_eq]; lia))]
  refine Zf rfl rfl ?_;rw [Y0 (by simpa [ZbL] using h) (by lia)];unfold ZbL;rw [List.getElem?_map, List.getElem?_range h];rfl
 ·rw [Zke (Yf rfl rfl (by simp only [vlt]; congr 1; rw [decide_eq_false_iff_not]; lia))]
  have e1 : D.bin X9 (D.var 1) (D.const (.int 4)) (none :: some (.int (k : Int)) :: b :: some (.list ZbL) :: σ) B = some (.int ((k % 4 : Nat) : Int), B) :=
   Zf rfl rfl (by simp only [X9]; rw [if_neg (by lia)]; rw [show (4 : Int) = ((4 : Nat) : Int) from rfl, Zh5])
  have e2 : D.bin ZcL (D.var 1) (D.const (.int 4)) (none :: some (.int (k : Int)) :: b :: some (.list ZbL) :: σ) B = some (.int ((k / 4 : Nat) : Int), B) :=
   Zf rfl rfl (by simp only [ZcL]; rw [if_neg (by decide)]; rw [show (4 : Int) = ((4 : Nat) : Int) from rfl, Zh3])
  refine Zf (Zf (d := .str "0x") rfl (Zf rfl e1 (Zoa k)) (c := .str (("0x" : Str) ++ Zdt k)) ?_) (Zf rfl e2 (ZhE hk)) ?_
  ·simp only [Zhz]; rw [if_pos (Zob k hk)]
  ·simp only [Zhz]; rw [if_pos (ZnW k hk), ZpK k hk (by lia)]
noncomputable def ZB (b n : Nat) : List V := (List.range n).map fun i => V.str (Yv (b + i))
noncomputable def ZoC (ds : List V) : Sb fun (r : V) => ∃ b, ds = [.int b] /\ (0 <= b /\ b <= 22) /\ r = .list (ZB b.toNat 10) := match ds with
 | [.int b] => .ite (c := 0 <= b /\ b <= 22) (.list (ZB b.toNat 10)) fun h => ⟨b, rfl, h, rfl⟩
 | _ => .no
noncomputable def Z7 : VF := Y4 fun _ ds => (ZoC ds).1
theorem ZgW {n : Nat} {B : Bx} {m : Nat} : ∀ l : List Str, JO (frz n B (m + 1)) (l.map V.str) = some (l.map V.str)
 | [] => rfl
 | x :: l => by simp only [List.map_cons, JO, ZgW l]; rfl
set_option tactic.hygienic true in
theorem ZeS : Runs ZaB JF ["base"] Z7 := Jt fun B ds d h1 => by
 refine Xn ((ZoC ds).2 _ h1) fun b e0 hb er => ?_;rw [e0, er];obtain ⟨k, rfl⟩ : ∃ k : Nat, b = k := ⟨b.toNat, by lia⟩;rw [Int.toNat_natCast];refine ⟨rfl, [], .list (ZB k 10), 2, ?_, ?_⟩
 ·rw [List.append_nil]
  refine Zi (ZD ZoE) (YD ?_)
  have hit : I.val (D.call Zo [(D.var 0), (D.bin ZE (D.var 0) (D.const (.int 10)))]) [some (.int (k : Int)), some (.list ZbL)] B = some (.seq ((List.range 10).map fun (i : Nat) => V.int ((k + i : Nat) : Int)), B) := by
   have h1 : D.call Zo [(D.var 0), (D.bin ZE (D.var 0) (D.const (.int 10)))] [some (.int (k : Int)), some (.list ZbL)] B = some (.range (k : Int) ((k + 10 : Nat) : Int), B) := Zag rfl (Zf rfl rfl rfl) rfl;unfold I.val;simp only [h1, ZbE (show k + 10 <= 1000000 by lia), Option.map_some]
  have := Jb (f := Zoq) (tp := false) (σ := [some (.int (k : Int)), some (.list ZbL)]) (B := B) (B₁ := B) (fun _ => true) (fun x => match x with | .int i => .str (Yv i.toNat) | _ => .none) (ifs := T.all []) hit (fun x hx => by
   refine Ze (List.mem_map.mp hx) fun i hi z_2 => ?_;subst z_2;have hi := List.mem_range.mp hi;exact ⟨rfl, fun _ => Zl1 (by lia)⟩) (by simp [Cap])
  have e : (((List.range 10).map fun (i : Nat) => V.int ((k + i : Nat) : Int)).filter fun _ => true).map (fun x => match x with | .int i => V.str (Yv i.toNat) | _ => .none) = ZB k 10 := by
   rw [List.filter_eq_self.mpr (fun _ _ => rfl), List.map_map];rfl
  rw [e] at this;exact this
 ·show (JO (frz B.length (B ++ []) 1) (ZB k 10)).map V.list = _
  unfold ZB;rw [show ((List.range 10).map fun i => V.str (Yv (k + i))) = ((List.range 10).map fun i => Yv (k + i)).map V.str by rw [List.map_map]; rfl, ZgW];rfl
noncomputable abbrev Mat := Nat -> Nat -> Int
noncomputable def ZdM (r : Nat -> Int) : V := .list ((List.range 8).map fun v => .int (r v))
noncomputable def Zch (M : Mat) : List V := (List.range 8).map fun u => ZdM (M u)
noncomputable def YR (M : Mat) : V := .list (Zch M)
noncomputable def Xg (x : Int) : Nat := (Int.fmod x 7).toNat
noncomputable def ZfO (x : Int) : Nat := Xg x + 1 + (Int.fmod (Int.fdiv x 7) (7 - (Xg x : Int))).toNat
noncomputable def ZdI (x : Int) : Int := 1 + Int.fmod (Int.fdiv x 49) 2
noncomputable def Zay (M : Mat) (x : Int) : Mat := fun u v => if u = Xg x /\ v = ZfO x then M u v + ZdI x else M u v
noncomputable def ZhO (cs : List Int) : Mat := (cs.take 10).foldl Zay fun _ _ => 0
theorem Zpm (x : Int) : Int.fmod x 7 = (Xg x : Int) := (Int.toNat_of_nonneg (Int.fmod_nonneg_of_pos x (by decide))).symm
theorem Zg4 (x : Int) : Xg x < 7 := Int.ofNat_lt.mp (Zpm x ▸ Int.fmod_lt_of_pos x (show (0 : Int) < 7 by decide))
theorem ZkH (x : Int) : (0 : Int) < 7 - (Xg x : Int) := Int.sub_pos_of_lt (Int.ofNat_lt.mpr (Zg4 x))
theorem Zrh (x : Int) : (Xg x : Int) + 1 + Int.fmod (Int.fdiv x 7) (7 - (Xg x : Int)) = (ZfO x : Int) := by
 unfold ZfO;rw [Int.natCast_add, Int.toNat_of_nonneg (Int.fmod_nonneg_of_pos _ (ZkH x))];rfl
theorem ZtU (x : Int) : Xg x < ZfO x := Nat.lt_of_lt_of_le (Nat.lt_succ_self _) (Nat.le_add_right _ _)
theorem Zn0 (x : Int) : ZfO x < 8 := by
 refine Int.ofNat_lt.mp ?_;rw [<- Zrh];have h := Int.add_lt_add_left (Int.fmod_lt_of_pos (Int.fdiv x 7) (ZkH x)) ((Xg x : Int) + 1);rw [show (Xg x : Int) + 1 + (7 - (Xg x : Int)) = 8 by lia] at h;exact h
theorem Zkn (x : Int) : 1 <= ZdI x /\ ZdI x <= 2 := by
 unfold ZdI;have h1 := Int.fmod_nonneg_of_pos (Int.fdiv x 49) (show (0 : Int) < 2 by decide);have h2 := Int.fmod_lt_of_pos (Int.fdiv x 49) (show (0 : Int) < 2 by decide);lia
structure ZS (M : Mat) (k : Int) : Prop where
 nonneg : ∀ u v, 0 <= M u v
 le : ∀ u v, M u v <= k
 up : ∀ u v, M u v ≠ 0 -> u < v /\ v < 8
theorem ZkE {M : Mat} {k : Int} (h : ZS M k) (x : Int) : ZS (Zay M x) (k + 2) := by
 have ha := Zkn x;refine ⟨fun u v => ?_, fun u v => ?_, fun u v hn => ?_⟩ <;> unfold Zay at *
 ·have := h.nonneg u v; split <;> lia
 ·have := h.le u v; split <;> lia
 ·split at hn
  ·rename_i e; rw [e.1, e.2]; exact ⟨ZtU x, Zn0 x⟩
  ·exact h.up u v hn
theorem Ze4 : ∀ (cs : List Int) (M : Mat) (k : Int), ZS M k -> ZS (cs.foldl Zay M) (k + 2 * cs.length)
 | [], M, k, h => by simpa using h
 | x :: cs, M, k, h => by
  have := Ze4 cs _ _ (ZkE h x);rw [List.foldl_cons, List.length_cons]
  rwa [show k + 2 * ((cs.length + 1 : Nat) : Int) = k + 2 + 2 * (cs.length : Int) by lia]
theorem Zqx (cs : List Int) : ZS (ZhO cs) 20 := by
 have h := Ze4 (cs.take 10) (fun _ _ => 0) 0 ⟨fun _ _ => Int.le_refl _, fun _ _ => Int.le_refl _, fun _ _ h => absurd rfl h⟩;have hl : (cs.take 10).length <= 10 := by rw [List.length_take]; lia
 refine ⟨h.nonneg, fun u v => ?_, h.up⟩;have := h.le u v;unfold ZhO;lia
theorem ZnR {r : Nat -> Int} {B : Bx} {n v : Nat} (hB : B[n]? = some (ZdM r)) (hv : v < 8) : Zc B (.box n) (.int (v : Int)) = some (.int (r v)) := by
 rw [JK (xs := (List.range 8).map fun v => .int (r v)) hB (by simpa using hv) (by lia), List.getElem?_map, List.getElem?_range hv];rfl
theorem ZqK (r : Nat -> Int) {k : Nat} (v : Int) (hk : k < 8) : ((List.range 8).map fun j => V.int (r j)).set k (.int v) = (List.range 8).map fun j => V.int (if j = k then v else r j) := by
 apply List.ext_getElem?;intro i;rw [List.getElem?_set]
 by_cases hi : i < 8
 ·rw [List.getElem?_map, List.getElem?_map, List.getElem?_range hi]
  by_cases e : k = i
  ·subst e; simp [hi]
  ·rw [if_neg e]; simp [show ¬ i = k from fun z => e z.symm]
 ·rw [List.getElem?_eq_none (by simp; lia), List.getElem?_eq_none (by simp; lia)]
  simp; lia
theorem Zne (M : Mat) {k : Nat} (r : Nat -> Int) (hk : k < 8) : (Zch M).set k (ZdM r) = Zch fun u => if u = k then r else M u := by
 apply List.ext_getElem?;intro i;unfold Zch;rw [List.getElem?_set]
 by_cases hi : i < 8
 ·rw [List.getElem?_map, List.getElem?_map, List.getElem?_range hi]
  by_cases e : k = i
  ·subst e; simp [hi]
  ·rw [if_neg e]; simp [show ¬ i = k from fun z => e z.symm]
 ·rw [List.getElem?_eq_none (by simp; lia), List.getElem?_eq_none (by simp; lia)]
  simp; lia
theorem Zbm (M : Mat) : (Zch M).length = 8 := by simp [Zch]
noncomputable def Zhi : List V := [.box 0, .box 1, .box 2, .box 3, .box 4, .box 5, .box 6, .box 7]
noncomputable abbrev Zap (M : Mat) : Bx := Zch M ++ [.list Zhi]
theorem Zfc (M : Mat) {k : Nat} (hk : k < 8) : (Zap M)[k]? = some (ZdM (M k)) := by
 unfold Zap;rw [List.getElem?_append_left (by rw [Zbm]; exact hk)];unfold Zch;rw [List.getElem?_map, List.getElem?_range hk];rfl
theorem Zib (M : Mat) : (Zap M)[8]? = some (.list Zhi) := by
 unfold Zap;rw [List.getElem?_append_right (by rw [Zbm]; exact Nat.le_refl _), Zbm];rfl
theorem Zoz (M : Mat) {k j : Nat} (v : Int) (hk : k < 8) (hj : j < 8) : Zcj (Zap M) k (.int (j : Int)) (.int v) = some (Zap fun u w => if u = k /\ w = j then v else M u w) := by
 unfold Zcj;rw [Zfc M hk];simp only [ZdM, List.length_map, List.length_range];rw [if_pos ⟨by lia, by lia, rfl⟩, Int.toNat_natCast, ZqK _ _ hj];congr 1;unfold Zap;rw [List.set_append_left _ _ (by rw [Zbm]; exact hk)];have := Zne M (k := k) (fun w => if w = j then v else M k w) hk;unfold ZdM at this;rw [this];congr 1;unfold Zch;apply List.map_congr_left;intro u _
 by_cases e : u = k
 ·subst e; simp
 ·simp [e]
noncomputable abbrev ZhK : DS := S.seq (S.assign 3 (D.bin X9 (D.var 2) (D.const (.int 7)))) (S.augput Zbj (D.bin Zc (D.var 1) (D.var 3)) (D.bin ZE (D.bin ZE (D.var 3) (D.const (.int 1))) (D.bin X9 (D.bin ZcL (D.var 2) (D.const (.int 7))) (D.bin ZbX (D.const (.int 7)) (D.var 3)))) (D.bin ZE (D.const (.int 1)) (D.bin X9 (D.bin ZcL (D.var 2) (D.const (.int 49))) (D.const (.int 2)))))
theorem Zou {M : Mat} {c y : Option V} {x : Int} : ZhK [c, some (.box 8), some (.int x), y] (Zap M) = some (.next, [c, some (.box 8), some (.int x), some (.int (Xg x : Int))], Zap (Zay M x)) := by
 have e1 : S.assign 3 (D.bin X9 (D.var 2) (D.const (.int 7))) [c, some (.box 8), some (.int x), y] (Zap M) = some (.next, [c, some (.box 8), some (.int x), some (.int (Xg x : Int))], Zap M) :=
  ZD (Zf rfl rfl (by simp only [X9]; rw [if_neg (by decide), Zpm]))
 have e2 : D.bin Zc (D.var 1) (D.var 3) [c, some (.box 8), some (.int x), some (.int (Xg x : Int))] (Zap M) = some (.box (Xg x), Zap M) := by
  refine Zf rfl rfl ?_;have hl := Zg4 x;rw [JK (Zib M) (by show Xg x < 8; lia) (by lia)]
  have : ∀ k < 7, Zhi[k]? = some (.box k) := by
   intro k hk;show ((List.range 8).map V.box)[k]? = _;rw [List.getElem?_map, List.getElem?_range (Nat.lt_succ_of_lt hk)];rfl
  exact this _ hl
 have e3 : D.bin ZE (D.bin ZE (D.var 3) (D.const (.int 1))) (D.bin X9 (D.bin ZcL (D.var 2) (D.const (.int 7))) (D.bin ZbX (D.const (.int 7)) (D.var 3))) [c, some (.box 8), some (.int x), some (.int (Xg x : Int))] (Zap M) = some (.int (ZfO x : Int), Zap M) := by
  refine Zf (Zf rfl rfl rfl) (Zf (Zf (c := .int (Int.fdiv x 7)) rfl rfl ?_) (Zf rfl rfl rfl) (c := .int (Int.fmod (Int.fdiv x 7) (7 - (Xg x : Int)))) ?_) ?_
  ·simp only [ZcL]; rw [if_neg (by decide)]
  ·have hl := Zg4 x
   simp only [X9]; rw [if_neg (by lia)]
  ·simp only [ZqJ]; rw [Zrh]
 have e4 : D.bin ZE (D.const (.int 1)) (D.bin X9 (D.bin ZcL (D.var 2) (D.const (.int 49))) (D.const (.int 2))) [c, some (.box 8), some (.int x), some (.int (Xg x : Int))] (Zap M) = some (.int (ZdI x), Zap M) := by
  refine Zf rfl (Zf (Zf (c := .int (Int.fdiv x 49)) rfl rfl ?_) rfl (c := .int (Int.fmod (Int.fdiv x 49) 2)) ?_) ?_
  ·simp only [ZcL]; rw [if_neg (by decide)]
  ·simp only [X9]; rw [if_neg (by decide)]
  ·rfl
 unfold ZhK;rw [Yi e1];have hl := Zg4 x;have e5 := ZnR (Zfc M (show Xg x < 8 by lia)) (Zn0 x);have e6 := Zoz M (M (Xg x) (ZfO x) + ZdI x) (show Xg x < 8 by lia) (Zn0 x)
 have e7 : (fun u w => if u = Xg x /\ w = ZfO x then M (Xg x) (ZfO x) + ZdI x else M u w) = Zay M x := by
  funext u v;unfold Zay
  split
  ·rename_i h; rw [h.1, h.2]
  ·rfl
 rw [e7] at e6;exact Zcr (d₂ := .int (M (Xg x) (ZfO x))) (d₃ := .int (ZdI x)) (d₄ := .int (M (Xg x) (ZfO x) + ZdI x)) e2 e3 e5 e4 rfl e6
noncomputable def ZtR (B : Bx) (ds : List V) : Sb fun (r : V) => ∃ cs, B = [] /\ ds = [.list (cs.map V.int)] /\ cs.length = 11 /\ r = YR (ZhO cs) := match B, ds with
 | [], [.list xs] => .bind (Xz xs) fun cs h => .ite (c := cs.length = 11) (YR (ZhO cs)) fun hl => ⟨cs, rfl, by rw [JS h], hl, rfl⟩
 | _, _ => .no
noncomputable def Yk : VF := Y4 fun B ds => (ZtR B ds).1
theorem ZdK {n m i : Nat} {B : Bx} {xs : List V} (h : n <= i) (hB : B[i]? = some (.list xs)) : frz n B (m + 1) (.box i) = (JO (frz n B m) xs).map V.list := by
 simp only [frz];rw [if_neg (by lia), hB]
theorem ZqE (M : Mat) : frz 0 (Zap M) 3 (.box 8) = some (YR M) := by
 rw [ZdK (by decide) (Zib M)]
 have e : ∀ k < 8, frz 0 (Zap M) 2 (.box k) = some (ZdM (M k)) := by
  intro k hk;rw [ZdK (by lia) (Zfc M hk), show ((List.range 8).map fun v => V.int (M k v)) = ((List.range 8).map fun v => M k v).map V.int by rw [List.map_map]; rfl, ZdY];unfold ZdM;rw [List.map_map]; rfl
 simp only [Zhi, JO, e 0 (by decide), e 1 (by decide), e 2 (by decide), e 3 (by decide), e 4 (by decide), e 5 (by decide), e 6 (by decide), e 7 (by decide)];rfl
set_option tactic.hygienic true in
theorem Zhu : Runs Zbw ZaR ["cells"] Yk := Jt fun B ds d h1 => by
 refine Zcf ((ZtR B ds).2 _ h1) fun cs eB e0 hl er => ?_;rw [eB, e0, er]
 refine YU (Jo (f := V.int) (it := I.val (D.slice Zf5 (D.var 0) none (some (D.const (.int 10))))) (tgt := fun d σ => some (σ.set 2 (some d))) (body := ZhK) (els := S.skip)
  (σ := [some (.list (cs.map V.int)), some (.box 8), none, none]) (B := Zap fun _ _ => 0) (L := cs.take 10)
  (fun Lc σ B => ∃ (M : Mat) (n l : Option V), Lc.foldl Zay M = ZhO cs /\ σ = [some (.list (cs.map V.int)), some (.box 8), n, l] /\ B = Zap M)
  (fun i Lc σ B h => Y7 h fun M n l hM h1 h2 => by rw [h1, h2]; exact ⟨_, _, _, rfl, Zou, Zay M i, _, _, hM, rfl, rfl⟩)
  (ZbJ.all (n := 11) (P := fun cs : List Int => I.val (D.slice Zf5 (D.var 0) none (some (D.const (.int 10)))) [some (.list (cs.map V.int)), some (.box 8), none, none] (Zap fun _ _ => 0) = some (.seq ((cs.take 10).map V.int), Zap fun _ _ => 0)) (fun _ _ _ _ _ _ _ _ _ _ _ => rfl) cs hl)
  ⟨fun _ _ => 0, none, none, rfl, rfl, rfl⟩) fun σ' B' h e => Y7 h fun M n l hM hσ hB => ?_
 rw [hσ, hB, show M = ZhO cs from hM] at e;refine ⟨rfl, Zap (ZhO cs), .box 8, 3, ?_, ZqE _⟩;exact Zi (σ₁ := [some (.list (cs.map V.int)), some (.box 8), none, none]) (B₁ := Zap fun _ _ => 0) rfl (Zi e (YD rfl))
noncomputable def Yc : Nat -> V -> Bool
 | 0, _ => false
 | m + 1, d => match d with
  | .tup xs => xs.all (Yc m)
  | .list xs => xs.all (Yc m)
  | .dict _ xs => xs.all (Yc m)
  | .tc c => Yc m c
  | .box _ => false
  | _ => true
theorem Zco {f : V -> Option V} : ∀ {xs : List V}, (∀ x ∈ xs, f x = some x) -> JO f xs = some xs := by
 intro xs_
 induction xs_ with
 | nil =>
  intro _;exact rfl
 | cons x xs ih_ =>
  intro h;simp only [JO, h x (.head _), ih_ fun y hy => h y (List.mem_cons_of_mem _ hy)]
theorem Jr {n : Nat} {B : Bx} : ∀ (m : Nat) (d : V), Yc m d = true -> frz n B m d = some d
 | 0, d, h => by cases h
 | m + 1, d, h => by
  cases d with
  | tup xs => simp only [Yc, List.all_eq_true] at h; simp only [frz, Zco fun x hx => Jr m x (h x hx), Option.map_some]
  | list xs => simp only [Yc, List.all_eq_true] at h; simp only [frz, Zco fun x hx => Jr m x (h x hx), Option.map_some]
  | dict ks xs => simp only [Yc, List.all_eq_true] at h; simp only [frz, Zco fun x hx => Jr m x (h x hx), Option.map_some]
  | tc c => simp only [Yc] at h; simp only [frz, Jr m c h, Option.map_some]
  | box i => first | exact nn h | cases h
  | _ => rfl
theorem Zr8 {f : DE} {it it2 : DI} {ifs2 : DT} {tp tp2 : Bool} {σ : St} {B B₁ : Bx} {xs : List V} (ys : V -> List V) (b : V -> V -> Bool) (e : V -> V -> V) (hit : it σ B = some (.seq xs, B₁))
  (h : ∀ x ∈ xs, ∃ u v, JB x = some [u, v] /\ (∀ z, it2 (none :: some u :: some v :: z :: σ) B₁ = some (.seq (ys x), B₁)) /\
   ∀ y ∈ ys x, ifs2 (none :: some u :: some v :: some y :: σ) B₁ = some (b x y, B₁) /\ (b x y = true -> f (none :: some u :: some v :: some y :: σ) B₁ = some (e x y, B₁))) (hl : (xs.flatMap fun x => ((ys x).filter (b x)).map (e x)).length <= Cap) :
  Zq 4 (emL f) { it := it, tp := tp, tgt := S.parts [1, 2], ifs := T.all [] } [{ it := it2, tp := tp2, tgt := fun d σ => some (σ.set 3 (some d)), ifs := ifs2 }] (.list []) σ B =
   some (.list (xs.flatMap fun x => ((ys x).filter (b x)).map (e x)), B₁) := by
 have hkey : ∀ x, (ys x).flatMap (fun y => if b x y then [e x y] else []) = ((ys x).filter (b x)).map (e x) := by
  intro x
  induction ys x with
  | nil => rfl
  | cons y l ih => cases hb : b x y <;> simp [hb, ih]
 obtain ⟨σ', _, h2⟩ := Zbv (S := { it := it, tp := tp, tgt := S.parts [1, 2], ifs := T.all [] }) (inner := cgo (emL f) [{ it := it2, tp := tp2, tgt := fun d σ => some (σ.set 3 (some d)), ifs := ifs2 }]) (B := B₁)
  (fun τ => ∃ y z q, τ = none :: y :: z :: q :: σ) (fun _ => true) (fun x => ((ys x).filter (b x)).map (e x)) xs
  (fun x hx τ ⟨y, z, q, hy⟩ => by
   subst hy;refine Xh (h x hx) fun u v h1 h2 h3 => ?_;refine ⟨none :: some u :: some v :: q :: σ, by simp [S.parts, h1, S.sets], rfl, fun h => (nomatch h), fun _ acc hc => ?_⟩
   obtain ⟨τ', ⟨z', hz'⟩, hcl⟩ := Zbv (S := { it := it2, tp := tp2, tgt := fun d σ => some (σ.set 3 (some d)), ifs := ifs2 }) (inner := cgo (emL f) []) (B := B₁) (fun τ => ∃ z, τ = none :: some u :: some v :: z :: σ) (b x) (fun y => [e x y]) (ys x)
    (fun y hy τ ⟨z, hz⟩ => by
     subst hz;exact ⟨none :: some u :: some v :: some y :: σ, rfl, (h3 y hy).1, fun _ => ⟨_, rfl⟩, fun hb acc hc => ⟨_, ⟨_, rfl⟩, ZcI ((h3 y hy).2 hb) (by simp at hc; lia)⟩⟩)
    acc (none :: some u :: some v :: q :: σ) ((ys x).length + 1) ⟨_, rfl⟩ (Nat.lt_succ_self _) (by rw [hkey]; exact hc)
   refine ⟨τ', ⟨_, _, _, hz'⟩, ?_⟩;simp only [cgo, h2 q, Src.fuel];rw [show (Jz { it := it2, tp := tp2, tgt := fun d σ => some (σ.set 3 (some d)), ifs := ifs2 } fun σ B acc => (emL f σ B acc).map fun r => (σ, r)) = Jz { it := it2, tp := tp2, tgt := fun d σ => some (σ.set 3 (some d)), ifs := ifs2 } (cgo (emL f) []) from rfl, hcl, hkey])
  [] (none :: none :: none :: none :: σ) (xs.length + 1) ⟨_, _, _, rfl⟩ (Nat.lt_succ_self _) (by
   simp only [if_true, List.length_nil, Nat.zero_add];exact hl)
 unfold Zq;simp only [hit, Src.fuel];rw [show List.replicate 4 (none : Option V) ++ σ = none :: none :: none :: none :: σ from rfl, h2];simp
noncomputable def Zs (c : List Nat) : Nat := c.getLastD 0
noncomputable def ZkP (c : List Nat) : List (List Nat) := (List.range' (Zs c + 1) (7 - Zs c)).map fun v => c ++ [v]
noncomputable def Yl : Nat -> List (List Nat)
 | 0 => [[0], [1], [2]]
 | k + 1 => (Yl k).flatMap ZkP
noncomputable def Yz : Nat -> List (List Nat)
 | 0 => []
 | k + 1 => Yz k ++ Yl k
noncomputable def Zb8 (N : Mat) : Nat -> List Nat -> Bool
 | _, [] => true
 | u, v :: r => decide (0 < N u v) && Zb8 N v r
noncomputable def Yn (N : Mat) : List Nat -> Bool
 | [] => true
 | u :: r => Zb8 N u r
noncomputable def ZbU (N : Mat) : Nat -> List Nat -> Int
 | _, [] => 1
 | u, v :: r => N u v * ZbU N v r
noncomputable def wgt (N : Mat) : List Nat -> Int
 | [] => 1
 | u :: r => ZbU N u r
theorem Zjg (N : Mat) : ∀ (c : List Nat) (u v : Nat), Zb8 N u (c ++ [v]) = (Zb8 N u c && decide (0 < N (Zs (u :: c)) v)) := by
 intro xs_
 induction xs_ with
 | nil =>
  intro u v;simp [Zb8, Zs]
 | cons x c ih_ =>
  intro u v;simp only [List.cons_append, Zb8, ih_ x v, Bool.and_assoc];simp [Zs]
theorem ZgJ (N : Mat) {c : List Nat} (h : c ≠ []) (v : Nat) : Yn N (c ++ [v]) = (Yn N c && decide (0 < N (Zs c) v)) := by
 cases c with
 | nil => exact absurd rfl h
 | cons u c => exact Zjg N c u v
theorem Zjx (N : Mat) : ∀ (c : List Nat) (u v : Nat), ZbU N u (c ++ [v]) = ZbU N u c * N (Zs (u :: c)) v := by
 intro xs_
 induction xs_ with
 | nil =>
  intro u v;simp [ZbU, Zs]
 | cons x c ih_ =>
  intro u v;simp only [List.cons_append, ZbU, ih_ x v, Int.mul_assoc];simp [Zs]
theorem Zjk (N : Mat) {c : List Nat} (h : c ≠ []) (v : Nat) : wgt N (c ++ [v]) = wgt N c * N (Zs c) v := by
 cases c with
 | nil => exact absurd rfl h
 | cons u c => exact Zjx N c u v
structure Zdq (c : List Nat) (k : Nat) : Prop where
 ne : c ≠ []
 len : c.length = k + 1
 lt : ∀ v ∈ c, v < 8
theorem Zd0 {c : List Nat} (h : c ≠ []) : Zs c ∈ c := by
 unfold Zs;rw [List.getLastD_eq_getLast?, List.getLast?_eq_some_getLast h];exact List.getLast_mem h
theorem ZcV : ∀ (k : Nat) (c : List Nat), c ∈ Yl k -> Zdq c k
 | 0, c, h => by
  simp only [Yl, List.mem_cons, List.not_mem_nil, or_false] at h;rcases h with rfl | rfl | rfl <;> exact ⟨by simp, rfl, by simp⟩
 | k + 1, c, h => by
  simp only [Yl, List.mem_flatMap] at h;refine Ze h fun c' h1 h2 => ?_;clear h;refine Ze (List.mem_map.mp h2) fun v hv z_2 => ?_;subst z_2;have o := ZcV k c' h1;rw [List.mem_range'_1] at hv;refine ⟨by simp, by simp [o.len], fun x hx => ?_⟩;rcases List.mem_append.mp hx with hx | hx
  ·exact o.lt x hx
  ·simp only [List.mem_singleton] at hx
   have := o.lt _ (Zd0 o.ne);lia
theorem ZbK {N : Mat} (hN : ZS N 20) : ∀ (c : List Nat), 0 <= wgt N c /\ wgt N c <= 20 ^ (c.length - 1) := by
 have key : ∀ (c : List Nat) (u : Nat), 0 <= ZbU N u c /\ ZbU N u c <= 20 ^ c.length := by
  intro c
  induction c with
  | nil => intro u; simp [ZbU]
  | cons v c ih =>
   intro u;simp only [ZbU, List.length_cons];have h1 := ih v;have h2 := hN.nonneg u v;have h3 := hN.le u v;refine ⟨Int.mul_nonneg h2 h1.1, ?_⟩;rw [Int.pow_succ, Int.mul_comm];exact Int.mul_le_mul h1.2 h3 h2 (Int.le_trans h1.1 h1.2)
 intro c
 cases c with
 | nil => simp [wgt]
 | cons u c => exact key c u
noncomputable def YT (c : List Nat) : V := .list (c.map fun (v : Nat) => V.int (v : Int))
noncomputable def Zal (N : Mat) (c : List Nat) : V := .tup [YT c, .int (wgt N c)]
noncomputable def Yj (N : Mat) (L : List (List Nat)) : List V := (L.filter (Yn N)).map (Zal N)
theorem Ze3 {B : Bx} {N : Mat} {u : Nat} (h : u < 8) : Zc B (YR N) (.int (u : Int)) = some (ZdM (N u)) := by
 unfold YR;rw [Y0 (by rw [Zbm]; exact h) (by lia)];unfold Zch;rw [List.getElem?_map, List.getElem?_range h];rfl
theorem ZfM {B : Bx} {r : Nat -> Int} {v : Nat} (h : v < 8) : Zc B (ZdM r) (.int (v : Int)) = some (.int (r v)) := by
 unfold ZdM;rw [Y0 (by simpa using h) (by lia), List.getElem?_map, List.getElem?_range h];rfl
theorem ZcU {B : Bx} {c : List Nat} (h : c ≠ []) : Zc B (YT c) (.int (-1)) = some (.int (Zs c : Int)) := by
 unfold YT;rw [ZmQ (by simpa using h), List.getLast?_map, List.getLast?_eq_some_getLast h];unfold Zs;rw [List.getLastD_eq_getLast?, List.getLast?_eq_some_getLast h];rfl
noncomputable abbrev Zdi : DE := D.bin Zc (D.var 1) (D.un YH (D.const (.int 1)))
theorem ZhW {B : Bx} {σ : St} {x : Option V} {c : List Nat} (h : c ≠ []) : Zdi (x :: some (YT c) :: σ) B = some (.int (Zs c : Int), B) :=
 Zf rfl (e := .int (-1)) rfl (ZcU h)
noncomputable abbrev Zig : DE := D.tup [(D.bin ZE (D.var 1) (D.list [(D.var 3)])), (D.bin Xb (D.var 2) (D.bin Zc (D.bin Zc (D.var 4) Zdi) (D.var 3)))]
noncomputable abbrev ZpU : DE := Zq 4 (emL Zig) { it := (I.val (D.var 2)), tp := false, tgt := (S.parts [1, 2]), ifs := (T.all []) } [{ it := (I.val (D.call Zo [(D.bin ZE Zdi (D.const (.int 1))), (D.const (.int 8))])), tp := false, tgt := (fun d σ => some (σ.set 3 (some d))), ifs := (T.all [(T.cmp vgt (D.bin Zc (D.bin Zc (D.var 4) Zdi) (D.var 3)) (D.const (.int 0)))]) }] (.list [])
theorem ZbV {t : DT} {σ : St} {B : Bx} {b : Bool} (h : t σ B = some (b, B)) : T.all [t] σ B = some (b, B) := by
 cases b <;> simp [T.all, h]
theorem Ztu : ∀ k ≤ 7, (20 : Int) ^ k <= 1280000000 := by decide +kernel
theorem Zmh {N : Mat} (hN : ZS N 20) {c : List Nat} {k : Nat} (o : Zdq c k) (hk : k <= 7) : small (wgt N c) = true := by
 have hw := ZbK hN c;rw [o.len] at hw;have h2 := Ztu k hk;have h3 : wgt N c <= 20 ^ k := by simpa using hw.2
 unfold small;simp only [Bool.and_eq_true, decide_eq_true_eq];lia
theorem Zlk {N : Mat} (hN : ZS N 20) {c : List Nat} {k v : Nat} (o : Zdq c k) (hv : v < 8) {B : Bx} {σ : St} :
  D.bin Zc (D.bin Zc (D.var 4) Zdi) (D.var 3) (none :: some (YT c) :: some (.int (wgt N c)) :: some (.int (v : Int)) :: some (YR N) :: σ) B = some (.int (N (Zs c) v), B) :=
 Zf (Zf rfl (ZhW o.ne) (Ze3 (o.lt _ (Zd0 o.ne)))) rfl (ZfM hv)
theorem ZmA {N : Mat} (hN : ZS N 20) {c : List Nat} {k v : Nat} (o : Zdq c k) (hk : k <= 7) (hv : v < 8) {B : Bx} {σ : St} :
  Zig (none :: some (YT c) :: some (.int (wgt N c)) :: some (.int (v : Int)) :: some (YR N) :: σ) B = some (Zal N (c ++ [v]), B) := by
 have e2 : D.bin ZE (D.var 1) (D.list [(D.var 3)]) (none :: some (YT c) :: some (.int (wgt N c)) :: some (.int (v : Int)) :: some (YR N) :: σ) B = some (YT (c ++ [v]), B) := by
  refine Zf rfl (e := .list [.int (v : Int)]) rfl ?_;unfold YT;simp only [ZeM, Zx, List.length_map, List.length_cons, List.length_nil];rw [if_pos (ZR (by rw [o.len]; unfold Cap; lia)), List.map_append];rfl
 have e3 : D.bin Xb (D.var 2) (D.bin Zc (D.bin Zc (D.var 4) Zdi) (D.var 3)) (none :: some (YT c) :: some (.int (wgt N c)) :: some (.int (v : Int)) :: some (YR N) :: σ) B = some (.int (wgt N (c ++ [v])), B) := by
  refine Zf rfl (Zlk hN o hv) ?_;simp only [Zk9, Zmh hN o hk, if_true];rw [Zjk N o.ne]
 unfold Zig;simp only [D.tup, D.row, e2, e3];rfl
noncomputable def Zci : V -> List Nat
 | .tup [.list xs, _] => xs.map fun d => match d with | .int i => i.toNat | _ => 0
 | _ => []
theorem JR (N : Mat) (c : List Nat) : Zci (Zal N c) = c := by
 show (c.map fun (v : Nat) => V.int (v : Int)).map _ = c;rw [List.map_map]
 conv => rhs; rw [<- List.map_id c]
 apply List.map_congr_left;intro v _;simp
theorem ZlV (N : Mat) (k : Nat) : ((Yj N (Yl k)).flatMap fun x => (((List.range' (Zs (Zci x) + 1) (7 - Zs (Zci x))).map fun (v : Nat) => V.int (v : Int)).filter ((fun x v => match v with | .int i => decide (0 < N (Zs (Zci x)) i.toNat) | _ => false) x)).map ((fun x v => match v with | .int i => Zal N (Zci x ++ [i.toNat]) | _ => .none) x)) = Yj N (Yl (k + 1)) := by
 unfold Yj;show _ = (((Yl k).flatMap ZkP).filter (Yn N)).map (Zal N);rw [List.flatMap_map];have hok : ∀ c ∈ Yl k, c ≠ [] := fun c h => (ZcV k c h).ne;generalize Yl k = L at hok
 induction L with
 | nil => rfl
 | cons c L ih =>
  have ih := ih fun c' h => hok c' (List.mem_cons_of_mem _ h);have hne := hok c (.head _);rw [List.flatMap_cons, List.filter_append, List.map_append, <- ih]
  cases hg : Yn N c with
  | false =>
   rw [List.filter_cons_of_neg (by simp [hg])]
   have : (ZkP c).filter (Yn N) = [] := by
    rw [List.filter_eq_nil_iff];intro x hx;refine Ze (List.mem_map.mp hx) fun v _ z_2 => ?_;subst z_2;rw [ZgJ N hne, hg]; simp
   rw [this]; simp
  | true =>
   rw [List.filter_cons_of_pos hg, List.flatMap_cons];congr 1;rw [JR];unfold ZkP;rw [List.filter_map, List.filter_map, List.map_map, List.map_map]
   rw [List.filter_congr (q := Yn N ∘ fun v => c ++ [v]) (fun v _ => by
    show decide (0 < N (Zs (Zci (Zal N c))) (Int.toNat (v : Int))) = Yn N (c ++ [v]);rw [JR, ZgJ N hne, hg, Int.toNat_natCast]; rfl)]
   apply List.map_congr_left;intro v _;show Zal N (Zci (Zal N c) ++ [Int.toNat (v : Int)]) = Zal N (c ++ [v]);rw [JR, Int.toNat_natCast]
set_option maxHeartbeats 1000000 in
theorem Zj7 {N : Mat} (hN : ZS N 20) {k : Nat} (hk : k <= 7) {B : Bx} {w y : Option V} (hlen : (Yl (k + 1)).length <= Cap) :
  ZpU [some (YR N), w, some (.list (Yj N (Yl k))), y] B = some (.list (Yj N (Yl (k + 1))), B) := by
 have hc : ∀ c ∈ (Yl k).filter (Yn N), Zdq c k := fun c h => ZcV k c (List.mem_filter.mp h).1;have hfin := ZlV N k
 have main := Zr8 (f := Zig) (it := I.val (D.var 2)) (it2 := I.val (D.call Zo [(D.bin ZE Zdi (D.const (.int 1))), (D.const (.int 8))])) (ifs2 := T.all [(T.cmp vgt (D.bin Zc (D.bin Zc (D.var 4) Zdi) (D.var 3)) (D.const (.int 0)))]) (tp := false) (tp2 := false)
  (σ := [some (YR N), w, some (.list (Yj N (Yl k))), y]) (B := B) (B₁ := B) (xs := Yj N (Yl k))
  (fun x => (List.range' (Zs (Zci x) + 1) (7 - Zs (Zci x))).map fun (v : Nat) => V.int (v : Int)) (fun x v => match v with | .int i => decide (0 < N (Zs (Zci x)) i.toNat) | _ => false)
  (fun x v => match v with | .int i => Zal N (Zci x ++ [i.toNat]) | _ => .none) rfl
  (fun x hx => by
   refine Ze (List.mem_map.mp hx) fun c hcm z_2 => ?_;subst z_2;have o := hc c hcm;have hl8 := o.lt _ (Zd0 o.ne);rw [JR];refine ⟨YT c, .int (wgt N c), rfl, fun z => ?_, fun v hv => ?_⟩
   ·have h1 : D.call Zo [(D.bin ZE Zdi (D.const (.int 1))), (D.const (.int 8))] (none :: some (YT c) :: some (.int (wgt N c)) :: z :: [some (YR N), w, some (.list (Yj N (Yl k))), y]) B = some (.range ((Zs c + 1 : Nat) : Int) ((Zs c + 1 + (7 - Zs c) : Nat) : Int), B) := by
     refine Zag (Zf (ZhW o.ne) rfl rfl) rfl ?_;rw [show Zs c + 1 + (7 - Zs c) = 8 by lia];rfl
    unfold I.val;simp only [h1, ZbE (show Zs c + 1 + (7 - Zs c) <= 1000000 by lia), Option.map_some];congr 3;rw [List.range'_eq_map_range, List.map_map];rfl
   ·refine Ze (List.mem_map.mp hv) fun v hv' z_2 => ?_
    subst z_2;rw [List.mem_range'_1] at hv';have hv8 : v < 8 := by lia
    refine ⟨ZbV (Yf (Zlk hN o hv8) rfl ?_), fun hb => ?_⟩
    ·simp only [vgt, Int.toNat_natCast]
    ·have := ZmA hN o hk hv8 (σ := [w, some (.list (Yj N (Yl k))), y]) (B := B)
     show Zig _ B = some (Zal N (c ++ [Int.toNat (v : Int)]), B);rw [Int.toNat_natCast];exact this)
  (by rw [hfin]; unfold Yj; rw [List.length_map]; exact Nat.le_trans (List.length_filter_le _ _) hlen)
 rw [hfin] at main;exact main
theorem ZbF : ∀ k ≤ 8, (Yl k).length <= 224 /\ (Yz k).length <= 224 := by decide +kernel
theorem Zc9 (N : Mat) (L : List (List Nat)) : (Yj N L).length <= L.length := by
 unfold Yj; rw [List.length_map]; exact List.length_filter_le _ _
theorem ZkC (N : Mat) (L L' : List (List Nat)) : Yj N (L ++ L') = Yj N L ++ Yj N L' := by
 unfold Yj; rw [List.filter_append, List.map_append]
noncomputable def XB (N : Mat) : V := .list (Yj N (Yz 8))
theorem ZjS (N : Mat) (c : List Nat) : Yc 4 (Zal N c) = true := by
 simp [Zal, YT, Yc]
theorem ZiP (N : Mat) : Yc 5 (XB N) = true := by
 simp only [XB, Yc, List.all_eq_true];intro x hx;refine Ze (List.mem_map.mp hx) fun c _ z_2 => ?_;subst z_2;exact ZjS N c
open Classical in
noncomputable def ZhM {α : Type} (inp : α -> Bx -> List V -> Prop) (out : α -> V) : VF := fun B ds => if h : ∃ a, inp a B ds then some (out (Classical.choose h), B) else none
theorem ZdD {α : Type} {inp : α -> Bx -> List V -> Prop} {out : α -> V} {B : Bx} {ds : List V} {a : α} (h : inp a B ds) (hu : ∀ a', inp a' B ds -> out a' = out a) : ZhM inp out B ds = some (out a, B) := by
 have hex : ∃ a, inp a B ds := ⟨a, h⟩;unfold ZhM;rw [dif_pos hex, hu _ (Classical.choose_spec hex)]
theorem Zcc {α : Type} {inp : α -> Bx -> List V -> Prop} {out : α -> V} {f : DS} {k : K} {ps : List Str}
  (h : ∀ a B ds, inp a B ds -> ds.length = ps.length /\ ∃ B₁ d'0 m, ZbI f (Zbd k ps ds) B d'0 (B ++ B₁) /\ frz B.length (B ++ B₁) m d'0 = some (out a)) : Runs f k ps (ZhM inp out) :=
 ⟨fun B ds d B'' hF => by
  unfold ZhM at hF
  split at hF
  ·rename_i hex
   first | exact nn hF | cases hF
   obtain ⟨hl, B₁, d'0, m, ⟨σ₁, e⟩, hz⟩ := h _ _ _ (Classical.choose_spec hex);exact ⟨hl, d'0, σ₁, _, m, e, hz, Zfk⟩
  ·cases hF⟩
theorem ZoM {r r' : Nat -> Int} (h : ZdM r = ZdM r') {v : Nat} (hv : v < 8) : r v = r' v := by
 unfold ZdM at h
 injection h with h
 have := congrArg (·[v]?) h;simp only [List.getElem?_map, List.getElem?_range hv, Option.map_some, Option.some.injEq, V.int.injEq] at this;exact this
theorem ZfZ {N N' : Mat} {k k' : Int} (hN : ZS N k) (hN' : ZS N' k') (h : YR N = YR N') : N = N' := by
 funext u v
 by_cases hc : u < v /\ v < 8
 ·unfold YR at h
  injection h with h
  have := congrArg (·[u]?) h;unfold Zch at this;simp only [List.getElem?_map, List.getElem?_range (show u < 8 by lia), Option.map_some, Option.some.injEq] at this;exact ZoM this hc.2
 ·have h1 : N u v = 0 := Decidable.byContradiction fun z => hc (hN.up u v z)
  have h2 : N' u v = 0 := Decidable.byContradiction fun z => hc (hN'.up u v z);rw [h1, h2]
noncomputable def Z6 : VF := ZhM (fun N B ds => B = [] /\ ZS N 20 /\ ds = [YR N]) XB
theorem ZjK {N : Mat} (hN : ZS N 20) : Z6 [] [YR N] = some (XB N, []) :=
 ZdD ⟨rfl, hN, rfl⟩ fun N' ⟨_, h1, h2⟩ => by rw [ZfZ hN h1 (List.cons.inj h2).1]
theorem ZeV : Runs Zaw JA ["net"] Z6 := Zcc fun N B ds ⟨hB, hN, hds⟩ => by
 subst hB hds
 obtain ⟨y, e⟩ := Zbo (it := I.val (D.call Zo [(D.const (.int 8))])) (tgt := fun d σ => some (σ.set 3 (some d))) (body := S.seq (S.expr (D.meth YK Zaz (D.var 1) [(D.var 2)])) (S.assign 2 ZpU))
  8 (fun k => V.int (k : Int)) (fun k y => [some (YR N), some (.box 0), some (.list (Yj N (Yl k))), y]) (fun k => [.list (Yj N (Yz k))]) (y0 := none)
  (fun k y hk => by
   have l1 := (ZbF (k + 1) (by lia)).1;have l2 := (ZbF k (by lia)).1;have l3 := (ZbF k (by lia)).2;refine ⟨[some (YR N), some (.box 0), some (.list (Yj N (Yl k))), some (.int (k : Int))], some (.int (k : Int)), rfl, ?_⟩
   have e1 : S.expr (D.meth YK Zaz (D.var 1) [(D.var 2)]) [some (YR N), some (.box 0), some (.list (Yj N (Yl k))), some (.int (k : Int))] [.list (Yj N (Yz k))] = some (.next, [some (YR N), some (.box 0), some (.list (Yj N (Yl k))), some (.int (k : Int))], [.list (Yj N (Yz (k + 1)))]) := by
    refine ZcE (d := .none) (XS rfl rfl rfl ?_);simp only [Zaz, Zpc, List.getElem?_cons_zero];have a1 := Zc9 N (Yl k);have a2 := Zc9 N (Yz k);rw [if_pos (ZR (by unfold Cap; lia))];show some (V.none, [V.list (Yj N (Yz k) ++ Yj N (Yl k))]) = _;rw [<- ZkC]; rfl
   rw [Yi e1];exact ZD (Zj7 hN (by lia) (by unfold Cap; lia)))
  rfl
 refine ⟨rfl, [.list (Yj N (Yz 8))], .box 0, 6, Zi (σ₁ := [some (YR N), some (.box 0), none, none]) (B₁ := [.list []]) rfl (Zi (σ₁ := [some (YR N), some (.box 0), some (.list (Yj N (Yl 0))), none]) (B₁ := [.list []]) rfl (Zi e (YD rfl))), ?_⟩;have := ZiP N;show frz 0 [.list (Yj N (Yz 8))] 6 (.box 0) = _;rw [ZdK (by decide) rfl, Zco fun x hx => ?_]
 ·rfl
 ·simp only [XB, Yc, List.all_eq_true] at this
  refine Jr 5 x ?_;refine Ze (List.mem_map.mp hx) fun c _ z_2 => ?_;subst z_2;simp [Zal, YT, Yc]
theorem XO {w : Nat -> Str} {l : List Nat} {k : Nat} (h : ∀ s ∈ l, w s = w k -> s = k) : w k ∈ l.map w ↔ k ∈ l := by
 constructor
 ·intro hm
  refine Ze (List.mem_map.mp hm) fun s hs e => ?_;rw [<- h s hs e]; exact hs
 ·exact List.mem_map_of_mem
theorem Za8 {w : Nat -> Str} : ∀ {l : List Nat} {k : Nat}, (∀ s ∈ l, w s = w k -> s = k) -> k ∈ l -> (l.map w).idxOf (w k) = l.idxOf k
 | s :: l, k, h, hk => by
  rw [List.map_cons, List.idxOf_cons, List.idxOf_cons]
  by_cases e : s = k
  ·subst e; simp
  ·have h1 : (w s == w k) = false := beq_eq_false_iff_ne.mpr fun z => e (h s (.head _) z)
   have h2 : (s == k) = false := beq_eq_false_iff_ne.mpr e;rw [h1, h2];simp only [cond_false];rw [Za8 (fun t ht => h t (List.mem_cons_of_mem _ ht)) ((List.mem_cons.mp hk).resolve_left fun z => e z.symm)]
theorem ZfT {β : Type} (g g' : Nat -> β) : ∀ {l : List Nat} {k : Nat}, l.Nodup -> k ∈ l -> (∀ s ∈ l, s ≠ k -> g s = g' s) -> (l.map g).set (l.idxOf k) (g' k) = l.map g'
 | s :: l, k, hn, hk, h => by
  rw [List.idxOf_cons]
  by_cases e : s = k
  ·subst e
   simp only [beq_self_eq_true, cond_true, List.map_cons, List.set_cons_zero];congr 1;apply List.map_congr_left;intro t ht;exact h t (List.mem_cons_of_mem _ ht) fun z => (List.nodup_cons.mp hn).1 (z ▸ ht)
  ·have h2 : (s == k) = false := beq_eq_false_iff_ne.mpr e
   rw [h2];simp only [cond_false, List.map_cons, List.set_cons_succ];rw [ZfT g g' (List.nodup_cons.mp hn).2 ((List.mem_cons.mp hk).resolve_left fun z => e z.symm) fun t ht hne => h t (List.mem_cons_of_mem _ ht) hne, h s (.head _) e]
theorem Zds {w : Nat -> Str} {β : Nat -> V} {l : List Nat} {k : Nat} (h : ∀ s ∈ l, w s = w k -> s = k) (hk : k ∈ l) : X5 (l.map w) (l.map β) (w k) = some (β k) := by
 unfold X5;rw [if_pos (by simpa using (XO h).mpr hk), Za8 h hk, List.getElem?_map]
 have : l[l.idxOf k]? = some k := by
  rw [List.getElem?_eq_getElem (List.idxOf_lt_length_iff.mpr hk), List.getElem_idxOf]
 rw [this]; rfl
theorem Zdw {α β : Type} {f : α -> β} : ∀ {l : List α}, (∀ s ∈ l, ∀ t ∈ l, f s = f t -> s = t) -> l.Nodup -> (l.map f).Nodup := by
 intro xs_
 induction xs_ with
 | nil =>
  intro _ _;exact List.nodup_nil
 | cons a l ih_ =>
  intro h hn;rw [List.map_cons, List.nodup_cons];rw [List.nodup_cons] at hn;refine ⟨fun hm => ?_, ih_ (fun s hs t ht => h s (List.mem_cons_of_mem _ hs) t (List.mem_cons_of_mem _ ht)) hn.2⟩;refine Ze (List.mem_map.mp hm) fun t ht e => ?_;have := h t (List.mem_cons_of_mem _ ht) a (.head _) e;exact hn.1 (this ▸ ht)
noncomputable def ZcS {A : Type} (w : Nat -> Str) (val : A -> V) (add : A -> A -> A) (f f' : Nat -> A) (o p : List Nat) : List Str × List V :=
 ((o ++ p.filter (· ∉ o)).map w, (o ++ p.filter (· ∉ o)).map fun s => val (if s ∈ p then add (f s) (f' s) else f s))
section
variable {A : Type} {w : Nat -> Str} {val : A -> V} {add : A -> A -> A} {f f' : Nat -> A} {o p : List Nat} {k : Nat}
theorem Zpt (ho : o.Nodup) (hp : p.Nodup) (hkp : k ∉ p) (hko : k ∈ o) (hwk : ∀ s ∈ o ++ p.filter (· ∉ o), w s = w k -> s = k) :
  JP (ZcS w val add f f' o p).1 (ZcS w val add f f' o p).2 (w k) (val (add (f k) (f' k))) = ZcS w val add f f' o (p ++ [k]) := by
 have hin : k ∈ o ++ p.filter (· ∉ o) := List.mem_append_left _ hko;have hkeys : (o ++ p.filter (· ∉ o)).Nodup := List.nodup_append.mpr ⟨ho, hp.filter _, fun a ha b hb e => of_decide_eq_true (List.mem_filter.mp hb).2 (e ▸ ha)⟩
 have hf : (p ++ [k]).filter (· ∉ o) = p.filter (· ∉ o) := by
  rw [List.filter_append, List.filter_cons_of_neg (by rw [decide_eq_true_eq]; exact fun z => z hko)];exact List.append_nil _
 unfold ZcS;rw [hf, Znt ((XO hwk).mpr hin), Za8 hwk hin];have hset := ZfT (fun s => val (if s ∈ p then add (f s) (f' s) else f s)) (fun s => val (if s ∈ p ++ [k] then add (f s) (f' s) else f s)) hkeys hin (fun s _ hne => by simp [hne]);rw [show val (if k ∈ p ++ [k] then add (f k) (f' k) else f k) = _ from congrArg val (if_pos (List.mem_append_right _ (.head _)))] at hset;rw [hset]
theorem Zov (hz : add (f k) (f' k) = f' k) (hko : k ∉ o) (hnk : k ∉ o ++ p.filter (· ∉ o)) (hwk : ∀ s ∈ o ++ p.filter (· ∉ o), w s = w k -> s = k) :
  JP (ZcS w val add f f' o p).1 (ZcS w val add f f' o p).2 (w k) (val (f' k)) = ZcS w val add f f' o (p ++ [k]) := by
 have hf : (p ++ [k]).filter (· ∉ o) = p.filter (· ∉ o) ++ [k] := by
  rw [List.filter_append];simp [hko]
 unfold ZcS;rw [hf, Zf0 fun z => hnk ((XO hwk).mp z), <- List.append_assoc];refine congr (congrArg Prod.mk (List.map_append (l₂ := [k])).symm) (Eq.trans ?_ (List.map_append (l₂ := [k])).symm);refine congr (congrArg _ (List.map_congr_left fun s hs => congrArg val ?_)) (congrArg (· :: []) ?_)
 ·have hne : s ≠ k := fun e => hnk (e ▸ hs)
  simp [hne]
 ·exact congrArg val ((if_pos (List.mem_append_right _ (.head _))).trans hz).symm
theorem Zml (hcomb : ∀ (a b : A) (ks : List Str) (vs : List V) (k : Str), ks.contains k = true -> X5 ks vs k = some (val a) -> J1 (ks, vs) k (val b) = some (val (add a b)))
  (ho : o.Nodup) (hz : ∀ s, s ∉ o -> add (f s) (f' s) = f' s) (q : List Nat) :
  ∀ p : List Nat, (p ++ q).Nodup -> (∀ s ∈ o ++ (p ++ q), ∀ t ∈ o ++ (p ++ q), w s = w t -> s = t) -> (o ++ (p ++ q)).length <= Cap ->
   ZcR ((q.map w).zip (q.map fun s => val (f' s))) (ZcS w val add f f' o p) = some (ZcS w val add f f' o (p ++ q)) := by
 induction q with
 | nil => intro p _ _ _; rw [List.append_nil]; rfl
 | cons k q ih =>
  intro p hn hw hc;have happ : p ++ k :: q = (p ++ [k]) ++ q := (List.append_assoc p [k] q).symm;obtain ⟨hp, _, hd⟩ := List.nodup_append.mp hn;have hkp : k ∉ p := fun h => hd k h k (.head _) rfl;have hsub : ∀ s ∈ o ++ p.filter (· ∉ o), s ∈ o ++ (p ++ k :: q) := fun s hs => (List.mem_append.mp hs).elim (List.mem_append_left _) fun h => List.mem_append_right _ (List.mem_append_left _ (List.mem_filter.mp h).1);have hwk : ∀ s ∈ o ++ p.filter (· ∉ o), w s = w k -> s = k := fun s hs => hw s (hsub s hs) k (List.mem_append_right _ (List.mem_append_right _ (.head _)))
  have hlen : ZH (ZcS w val add f f' o p).1.length = true := by
   refine ZR (Nat.le_trans ?_ hc);unfold ZcS;rw [List.length_map, List.length_append, List.length_append, List.length_append];have := List.length_filter_le (fun x => decide (x ∉ o)) p;lia
  have := ih (p ++ [k]);rw [<- happ] at this;rw [List.map_cons, List.map_cons, List.zip_cons_cons, <- this hn hw hc]
  by_cases hko : k ∈ o
  ·have hin : k ∈ o ++ p.filter (· ∉ o) := List.mem_append_left _ hko
   rw [ZfS (a := ZcS w val add f f' o p) (hcomb (f k) (f' k) _ _ _ (List.contains_iff_mem.mpr ((XO hwk).mpr hin)) (by rw [Zds hwk hin, if_neg hkp])) hlen, Zpt ho hp hkp hko hwk]
  ·have hnk : k ∉ o ++ p.filter (· ∉ o) := fun z => (List.mem_append.mp z).elim hko fun z => hkp (List.mem_filter.mp z).1
   rw [ZfS (a := ZcS w val add f f' o p) (d := val (f' k)) (if_neg fun z => hnk ((XO hwk).mp (List.contains_iff_mem.mp z))) hlen, Zov (hz k hko) hko hnk hwk]
end
theorem ZmZ {A : Type} (w : Nat -> Str) (val : A -> V) (add : A -> A -> A) (f f' : Nat -> A) (o o' : List Nat)
  (hcomb : ∀ (a b : A) (ks : List Str) (vs : List V) (k : Str), ks.contains k = true -> X5 ks vs k = some (val a) -> J1 (ks, vs) k (val b) = some (val (add a b)))
  (ho : o.Nodup) (ho' : o'.Nodup) (hz : ∀ s, s ∉ o -> add (f s) (f' s) = f' s) (hz' : ∀ s, s ∉ o' -> add (f s) (f' s) = f s) (hw : ∀ s ∈ o ++ o', ∀ t ∈ o ++ o', w s = w t -> s = t) (hc : (o ++ o').length <= Cap) :
  ZcR ((o'.map w).zip (o'.map fun s => val (f' s))) (o.map w, o.map fun s => val (f s)) =
   some ((o ++ o'.filter (· ∉ o)).map w, (o ++ o'.filter (· ∉ o)).map fun s => val (add (f s) (f' s))) := by
 have := Zml (add := add) (f := f) (f' := f') hcomb ho hz o' [] ho' hw hc;unfold ZcS at this;rw [List.filter_nil, List.append_nil, List.nil_append] at this;refine this.trans (congrArg some (Prod.ext rfl (List.map_congr_left fun s hs => congrArg val ?_)))
 by_cases h : s ∈ o'
 ·exact if_pos h
 ·rw [if_neg h, hz' s h]
theorem Znf : ∀ (a b : Int) (ks : List Str) (vs : List V) (k : Str), ks.contains k = true -> X5 ks vs k = some (.int a) -> J1 (ks, vs) k (.int b) = some (.int (a + b)) := fun a b ks vs k h1 h2 => by
 unfold J1;rw [if_pos h1, h2];rfl
theorem Zm5 : ∀ (a b : Int × Int) (ks : List Str) (vs : List V) (k : Str), ks.contains k = true -> X5 ks vs k = some (.tup [.int a.1, .int a.2]) -> J1 (ks, vs) k (.tup [.int b.1, .int b.2]) = some (.tup [.int (b.1 + a.1), .int (b.2 + a.2)]) := fun a b ks vs k h1 h2 => by
 unfold J1;rw [if_pos h1, h2];rfl
noncomputable abbrev Zak := List Nat × (Nat -> Int)
noncomputable def XG (w : Nat -> Str) (b : Zak) : V := .dict (b.1.map w) (b.1.map fun s => .int (b.2 s))
noncomputable def JM (b b' : Zak) : Zak := (b.1 ++ b'.1.filter (· ∉ b.1), fun s => b.2 s + b'.2 s)
structure J2 (b : Zak) : Prop where
 nodup : b.1.Nodup
 lt : ∀ s ∈ b.1, s < 3
 zero : ∀ s, s ∉ b.1 -> b.2 s = 0
theorem YQ {l : List Nat} {n : Nat} (hn : l.Nodup) (h : ∀ s ∈ l, s < n) : l.length <= n := by
 have : l ⊆ List.range n := fun s hs => List.mem_range.mpr (h s hs);have := List.Nodup.length_le_of_subset hn this
 simpa using this
theorem Zlm {b b' : Zak} (h : J2 b) (h' : J2 b') : J2 (JM b b') := by
 refine ⟨?_, fun s hs => ?_, fun s hs => ?_⟩
 ·unfold JM
  rw [List.nodup_append];refine ⟨h.nodup, h'.nodup.filter _, fun a ha c hc => ?_⟩;have := (List.mem_filter.mp hc).2;intro e; subst e;simp [ha] at this
 ·rcases List.mem_append.mp hs with hs | hs
  ·exact h.lt s hs
  ·exact h'.lt s (List.mem_filter.mp hs).1
 ·have h1 : s ∉ b.1 := fun z => hs (List.mem_append_left _ z)
  have h2 : s ∉ b'.1 := fun z => hs (List.mem_append_right _ (List.mem_filter.mpr ⟨z, by simpa using h1⟩));show b.2 s + b'.2 s = 0;rw [h.zero s h1, h'.zero s h2]; rfl
theorem ZgU {A : Type} {w : Nat -> Str} (val : A -> V) (add : A -> A -> A) (f f' : Nat -> A) (o o' : List Nat)
  (hcomb : ∀ (a b : A) (ks : List Str) (vs : List V) (k : Str), ks.contains k = true -> X5 ks vs k = some (val a) -> J1 (ks, vs) k (val b) = some (val (add a b))) (hv : ∀ a, Zaa (val a) = true)
  (ho : o.Nodup) (ho' : o'.Nodup) (hl : ∀ s ∈ o, s < 3) (hl' : ∀ s ∈ o', s < 3) (hz : ∀ s, s ∉ o -> add (f s) (f' s) = f' s) (hz' : ∀ s, s ∉ o' -> add (f s) (f' s) = f s) (hw : ∀ s < 10, ∀ t < 10, w s = w t -> s = t) {B : Bx} :
  Zm B [.dict (o.map w) (o.map fun s => val (f s)), .dict (o'.map w) (o'.map fun s => val (f' s))] = some (.dict ((o ++ o'.filter (· ∉ o)).map w) ((o ++ o'.filter (· ∉ o)).map fun s => val (add (f s) (f' s))), B) := by
 have l1 := YQ ho hl;have l2 := YQ ho' hl'
 have hf : ∀ (l : List Nat) (g : Nat -> A), (l.map fun s => val (g s)).all Zaa = true := fun l g => by
  rw [List.all_map];exact List.all_eq_true.mpr fun s _ => hv _
 have h10 : ∀ s < 3, s < 10 := fun s h => Nat.lt_of_lt_of_le h (by decide)
 refine Znu ⟨Zdw (fun s hs t ht => hw s (h10 s (hl s hs)) t (h10 t (hl t ht))) ho, by rw [List.length_map, List.length_map], by rw [List.length_map]; exact Nat.le_trans l1 (by decide), hf _ _, hf _ _⟩
  (ZmZ w val add f f' o o' hcomb ho ho' hz hz' (fun s hs t ht => hw s (h10 s ?_) t (h10 t ?_)) (by rw [List.length_append]; exact Nat.le_trans (Nat.add_le_add l1 l2) (by decide)))
 ·exact (List.mem_append.mp hs).elim (hl s) (hl' s)
 ·exact (List.mem_append.mp ht).elim (hl t) (hl' t)
theorem Zeq {w : Nat -> Str} (hw : ∀ s < 10, ∀ t < 10, w s = w t -> s = t) {b b' : Zak} (h : J2 b) (h' : J2 b') {B : Bx} : Zm B [XG w b, XG w b'] = some (XG w (JM b b'), B) :=
 ZgU V.int (· + ·) b.2 b'.2 b.1 b'.1 Znf (fun _ => rfl) h.nodup h'.nodup h.lt h'.lt (fun s hs => by rw [h.zero s hs]; exact Int.zero_add _) (fun s hs => by rw [h'.zero s hs]; exact Int.add_zero _) hw
noncomputable abbrev Bk := Nat -> Zak
noncomputable def bk0 : Bk := fun v => if v < 3 then ([v], fun s => if s = v then 1 else 0) else ([], fun _ => 0)
noncomputable def ZaZ : Nat -> Zak -> Zak -> Zak
 | 0, b, _ => b
 | n + 1, b, b' => ZaZ n (JM b b') b'
noncomputable def Zar (bk : Bk) (v : Nat) (b : Zak) : Bk := fun x => if x = v then b else bk x
noncomputable def bkU (N : Mat) (v : Nat) (bk : Bk) (k : Nat) : Bk := (List.range k).foldl (fun bk u => Zar bk v (ZaZ (N u v).toNat (bk v) (bk u))) bk
noncomputable def Yg (N : Mat) (k : Nat) : Bk := (List.range k).foldl (fun bk j => bkU N (1 + j) bk (1 + j)) bk0
noncomputable def ZO (w : Nat -> Str) (bk : Bk) : List V := (List.range 8).map fun v => XG w (bk v)
noncomputable def Zc0 (bk : Bk) : Prop := ∀ x, J2 (bk x)
theorem Zsb : Zc0 bk0 := fun x => by
 unfold bk0
 split
 ·exact ⟨by simp, by simpa using by lia, fun s hs => by simp only [List.mem_singleton] at hs; simp [hs]⟩
 ·exact ⟨List.nodup_nil, by simp, fun _ _ => rfl⟩
theorem Zjl : ∀ (n : Nat) {b b' : Zak}, J2 b -> J2 b' -> J2 (ZaZ n b b')
 | 0, _, _, h, _ => h
 | n + 1, _, _, h, h' => Zjl n (Zlm h h') h'
theorem Zll {bk : Bk} {v : Nat} {b : Zak} (h : Zc0 bk) (hb : J2 b) : Zc0 (Zar bk v b) := fun x => by
 unfold Zar; split
 ·exact hb
 ·exact h x
theorem Zmq (bk : Bk) (v : Nat) : Zar bk v (bk v) = bk := by
 funext x; unfold Zar; split
 ·rename_i h; rw [h]
 ·rfl
theorem Zmp (bk : Bk) (v : Nat) (b b' : Zak) : Zar (Zar bk v b) v b' = Zar bk v b' := by
 funext x; unfold Zar; split <;> rfl
theorem Zck (N : Mat) (v : Nat) (bk : Bk) (k : Nat) : bkU N v bk (k + 1) = Zar (bkU N v bk k) v (ZaZ (N k v).toNat (bkU N v bk k v) (bkU N v bk k k)) := by
 unfold bkU; rw [List.range_succ, List.foldl_append]; rfl
theorem ZaE (N : Mat) (k : Nat) : Yg N (k + 1) = bkU N (1 + k) (Yg N k) (1 + k) := by
 unfold Yg; rw [List.range_succ, List.foldl_append]; rfl
theorem Zfp {N : Mat} {v : Nat} {bk : Bk} (h : Zc0 bk) : ∀ k, Zc0 (bkU N v bk k)
 | 0 => h
 | k + 1 => by rw [Zck]; exact Zll (Zfp h k) (Zjl _ (Zfp h k v) (Zfp h k k))
theorem Zdp {N : Mat} : ∀ k, Zc0 (Yg N k)
 | 0 => Zsb
 | k + 1 => by rw [ZaE]; exact Zfp (Zdp k) _
theorem Zgx {w : Nat -> Str} {bk : Bk} {v : Nat} (hv : v < 8) : (ZO w bk)[v]? = some (XG w (bk v)) := by
 unfold ZO; rw [List.getElem?_map, List.getElem?_range hv]; rfl
theorem ZmW (w : Nat -> Str) (bk : Bk) {v : Nat} (hv : v < 8) (b : Zak) : (ZO w bk).set v (XG w b) = ZO w (Zar bk v b) := by
 apply List.ext_getElem?;intro i;unfold ZO;rw [List.getElem?_set]
 by_cases hi : i < 8
 ·rw [List.getElem?_map, List.getElem?_map, List.getElem?_range hi]
  by_cases e : v = i
  ·subst e; simp [hi, Zar]
  ·rw [if_neg e]; simp [Zar, show ¬ i = v from fun z => e z.symm]
 ·rw [List.getElem?_eq_none (by simp; lia), List.getElem?_eq_none (by simp; lia)]
  simp; lia
theorem JU (w : Nat -> Str) (bk : Bk) : (ZO w bk).length = 8 := by simp [ZO]
section
variable {w : Nat -> Str} {mat wd : V}
noncomputable abbrev Zcl (mat wd : V) (v u z : Option V) : St := [some mat, some wd, v, some (.box 0), u, z]
noncomputable abbrev Zsk : DS := S.put (D.call Zm [(D.bin Zc (D.var 3) (D.var 2)), (D.bin Zc (D.var 3) (D.var 4))]) (D.var 3) (D.var 2)
theorem ZoK (hw : ∀ s < 10, ∀ t < 10, w s = w t -> s = t) {bk : Bk} (hb : Zc0 bk) {v u : Nat} (hv : v < 8) (hu : u < 8) {z : Option V} :
  Zsk (Zcl mat wd (some (.int (v : Int))) (some (.int (u : Int))) z) [.list (ZO w bk)] = some (.next, Zcl mat wd (some (.int (v : Int))) (some (.int (u : Int))) z, [.list (ZO w (Zar bk v (JM (bk v) (bk u))))]) := by
 have e1 : ∀ {x : Nat}, x < 8 -> Zc [.list (ZO w bk)] (.box 0) (.int (x : Int)) = some (XG w (bk x)) := fun {x} hx => by
  rw [JK (B := [.list (ZO w bk)]) (n := 0) rfl (by rw [JU]; exact hx) (by lia), Zgx hx]
 have e2 : D.call Zm [(D.bin Zc (D.var 3) (D.var 2)), (D.bin Zc (D.var 3) (D.var 4))] (Zcl mat wd (some (.int (v : Int))) (some (.int (u : Int))) z) [.list (ZO w bk)] = some (XG w (JM (bk v) (bk u)), [.list (ZO w bk)]) :=
  Zag (Zf rfl rfl (e1 hv)) (Zf rfl rfl (e1 hu)) (Zeq hw (hb v) (hb u))
 refine Zg1 e2 rfl rfl ?_;unfold Zcj;simp only [List.getElem?_cons_zero];rw [if_pos ⟨by lia, by rw [JU]; lia, by rw [JU]; rfl⟩, Int.toNat_natCast, ZmW w bk hv];rfl
noncomputable abbrev ZkA : DS := S.loopS (I.val (D.call Zo [(D.bin Zc (D.bin Zc (D.var 0) (D.var 4)) (D.var 2))])) (fun d σ => some (σ.set 5 (some d))) Zsk S.skip
theorem Zl5 {N : Mat} (hN : ZS N 20) {bk : Bk} {v u : Nat} (hv : v < 8) (hu : u < v) {z : Option V} :
  I.val (D.call Zo [(D.bin Zc (D.bin Zc (D.var 0) (D.var 4)) (D.var 2))]) (Zcl (YR N) wd (some (.int (v : Int))) (some (.int (u : Int))) z) [.list (ZO w bk)] = some (.seq ((List.range (N u v).toNat).map fun (k : Nat) => V.int (k : Int)), [.list (ZO w bk)]) := by
 have h0 := hN.nonneg u v;have h1 := hN.le u v
 have hr : D.call Zo [(D.bin Zc (D.bin Zc (D.var 0) (D.var 4)) (D.var 2))] (Zcl (YR N) wd (some (.int (v : Int))) (some (.int (u : Int))) z) [.list (ZO w bk)] = some (.range 0 (((N u v).toNat : Nat) : Int), [.list (ZO w bk)]) :=
  Yd (Zf (Zf rfl rfl (Ze3 (show u < 8 by lia))) rfl (ZfM hv)) (by
   rw [show N u v = (((N u v).toNat : Nat) : Int) by lia];rfl)
 exact ZQ hr (YI (show (N u v).toNat <= 1000000 by lia))
theorem Zkv (hw : ∀ s < 10, ∀ t < 10, w s = w t -> s = t) {N : Mat} (hN : ZS N 20) {bk : Bk} (hb : Zc0 bk) {v u : Nat} (hv : v < 8) (hu : u < v) {z : Option V} :
  ∃ z', ZkA (Zcl (YR N) wd (some (.int (v : Int))) (some (.int (u : Int))) z) [.list (ZO w bk)] = some (.next, Zcl (YR N) wd (some (.int (v : Int))) (some (.int (u : Int))) z', [.list (ZO w (Zar bk v (ZaZ (N u v).toNat (bk v) (bk u))))]) := by
 have h0 := hN.nonneg u v;have h1 := hN.le u v;have hit := Zl5 (wd := wd) (w := w) hN (bk := bk) hv hu (z := z)
 refine YU (ZgE (els := S.skip) (tgt := fun d σ => some (σ.set 5 (some d))) (body := Zsk)
  (fun xs σ B' => ∃ (bk' : Bk) (z : Option V), Zc0 bk' /\ σ = Zcl (YR N) wd (some (.int (v : Int))) (some (.int (u : Int))) z /\ B' = [.list (ZO w bk')] /\ Zar bk' v (ZaZ xs.length (bk' v) (bk' u)) = Zar bk v (ZaZ (N u v).toNat (bk v) (bk u)))
  (fun x xs σ B' h => Zfq h fun bk' z hok hσ hB ht => by
   rw [hσ, hB];refine ⟨Zcl (YR N) wd (some (.int (v : Int))) (some (.int (u : Int))) (some x), _, _, rfl, ZoK hw hok hv (show u < 8 by lia), Zar bk' v (JM (bk' v) (bk' u)), some x, Zll hok (Zlm (hok v) (hok u)), rfl, rfl, ?_⟩;have h1 : Zar bk' v (JM (bk' v) (bk' u)) v = JM (bk' v) (bk' u) := by simp [Zar]
   have h2 : Zar bk' v (JM (bk' v) (bk' u)) u = bk' u := by unfold Zar; rw [if_neg (by lia)]
   rw [h1, h2, Zmp, <- ht];rfl)
  hit ⟨bk, z, hb, rfl, rfl, by simp⟩) fun σ' B' h e => Zfq h fun bk' z' hok hσ hB ht => ?_
 rw [List.length_nil] at ht;rw [hσ, hB, (Zmq _ _).symm.trans ht] at e;exact ⟨z', e⟩
noncomputable abbrev upB : DS := S.loopS (I.val (D.call Zo [(D.var 2)])) (fun d σ => some (σ.set 4 (some d))) ZkA S.skip
theorem ZqG (hw : ∀ s < 10, ∀ t < 10, w s = w t -> s = t) {N : Mat} (hN : ZS N 20) {bk : Bk} (hb : Zc0 bk) {v : Nat} (hv : v < 8) {y z : Option V} :
  ∃ y' z', upB (Zcl (YR N) wd (some (.int (v : Int))) y z) [.list (ZO w bk)] = some (.next, Zcl (YR N) wd (some (.int (v : Int))) y' z', [.list (ZO w (bkU N v bk v))]) := by
 have hit : I.val (D.call Zo [(D.var 2)]) (Zcl (YR N) wd (some (.int (v : Int))) y z) [.list (ZO w bk)] = some (.seq ((List.range v).map fun (k : Nat) => V.int (k : Int)), [.list (ZO w bk)]) := by
  have hr : D.call Zo [(D.var 2)] (Zcl (YR N) wd (some (.int (v : Int))) y z) [.list (ZO w bk)] = some (.range 0 (v : Int), [.list (ZO w bk)]) := Yd rfl rfl;exact ZQ hr (YI (show v <= 1000000 by lia))
 obtain ⟨y', e⟩ := Zbo (Y := Option V × Option V) (tgt := fun d σ => some (σ.set 4 (some d))) (body := ZkA) v (fun k => V.int (k : Int)) (fun _ y => Zcl (YR N) wd (some (.int (v : Int))) y.1 y.2) (fun k => [.list (ZO w (bkU N v bk k))]) (y0 := (y, z))
  (fun k yz hk => by
   obtain ⟨z', ez⟩ := Zkv (wd := wd) (z := yz.2) hw hN (Zfp (N := N) (v := v) hb k) hv hk;rw [<- Zck] at ez;exact ⟨Zcl (YR N) wd (some (.int (v : Int))) (some (.int (k : Int))) yz.2, (some (.int (k : Int)), z'), rfl, ez⟩)
  hit
 exact ⟨y'.1, y'.2, e⟩
end
noncomputable def wAt (base : Nat) : Nat -> Str := fun s => Yv (base + s)
theorem ZhC {base : Nat} (hb : base <= 22) : ∀ s < 10, ∀ t < 10, wAt base s = wAt base t -> s = t := fun s hs t ht e => by
 have := Zjp (base + s) (by lia) (base + t) (by lia) e;lia
noncomputable abbrev ZnN : DE := Zq 2 (emL (D.ite (T.cmp vlt (D.var 1) (D.const (.int 3))) (D.dict [((D.bin Zc (D.var 3) (D.var 1)), (D.const (.int 1)))]) (D.const (.dict [] [])))) { it := (I.val (D.call Zo [(D.const (.int 8))])), tp := false, tgt := (fun d σ => some (σ.set 1 (some d))), ifs := (T.all []) } [] (.list [])
theorem ZbN {base n i : Nat} (h : i < n) : (ZB base n)[i]? = some (.str (wAt base i)) := by
 unfold ZB; rw [List.getElem?_map, List.getElem?_range h]; rfl
theorem Zc3 {base n : Nat} : (ZB base n).length = n := by simp [ZB]
theorem Zo6 {base : Nat} {mat : V} {a b c d : Option V} {B : Bx} : ZnN [some mat, some (.list (ZB base 10)), a, b, c, d] B = some (.list (ZO (wAt base) bk0), B) := by
 have := Jb (f := D.ite (T.cmp vlt (D.var 1) (D.const (.int 3))) (D.dict [((D.bin Zc (D.var 3) (D.var 1)), (D.const (.int 1)))]) (D.const (.dict [] []))) (it := I.val (D.call Zo [(D.const (.int 8))])) (tp := false) (σ := [some mat, some (.list (ZB base 10)), a, b, c, d]) (B := B) (B₁ := B)
  (xs := (List.range 8).map fun (k : Nat) => V.int (k : Int)) (fun _ => true) (fun x => match x with | .int i => XG (wAt base) (bk0 i.toNat) | _ => .none) (ifs := T.all []) (ZQ (d := .range 0 ((8 : Nat) : Int)) rfl (YI (by decide)))
  (fun x hx => by
   refine Ze (List.mem_map.mp hx) fun v hv z_2 => ?_;subst z_2;have hv := List.mem_range.mp hv;refine ⟨rfl, fun _ => ?_⟩;simp only [Int.toNat_natCast]
   by_cases h : v < 3
   ·rw [Zj4 (Yf rfl rfl (by simp only [vlt]; congr 1; rw [decide_eq_true_eq]; lia))]
    have e1 : D.bin Zc (D.var 3) (D.var 1) (none :: some (.int (v : Int)) :: [some mat, some (.list (ZB base 10)), a, b, c, d]) B = some (.str (wAt base v), B) :=
     Zf rfl rfl (by rw [Y0 (by rw [Zc3]; lia) (by lia), ZbN (by lia)])
    have e2 : bk0 v = ([v], fun s => if s = v then 1 else 0) := by unfold bk0; rw [if_pos h]
    rw [e2];have e3 := Zom (g := D.const (.int 1)) (e := .int 1) (B₂ := B) e1 rfl;rw [e3];simp only [XG, List.map_cons, List.map_nil, if_true]
   ·rw [Zke (Yf rfl rfl (by simp only [vlt]; congr 1; rw [decide_eq_false_iff_not]; lia))]
    have e2 : bk0 v = ([], fun _ => 0) := by unfold bk0; rw [if_neg h]
    rw [e2];rfl)
  (by simp [Cap])
 have e : (((List.range 8).map fun (k : Nat) => V.int (k : Int)).filter fun _ => true).map (fun x => match x with | .int i => XG (wAt base) (bk0 i.toNat) | _ => .none) = ZO (wAt base) bk0 := by
  rw [List.filter_eq_self.mpr (fun _ _ => rfl), List.map_map];rfl
 rw [e] at this;exact this
theorem Zkw (w : Nat -> Str) (b : Zak) : Yc 2 (XG w b) = true := by
 simp [XG, Yc]
noncomputable def Z8 : VF := ZhM (fun (p : Mat × Nat) B ds => B = [] /\ ZS p.1 20 /\ p.2 <= 22 /\ ds = [YR p.1, .list (ZB p.2 10)]) fun p => .list (ZO (wAt p.2) (Yg p.1 7))
theorem ZfG {b b' : Nat} (h : b <= 22) (h' : b' <= 22) (e : ZB b 10 = ZB b' 10) : b = b' := by
 have := congrArg (·[0]?) e;simp only [ZbN (show 0 < 10 by decide), Option.some.injEq, V.str.injEq] at this;have := Zjp (b + 0) (by lia) (b' + 0) (by lia) this;lia
theorem ZjA {N : Mat} (hN : ZS N 20) {base : Nat} (hb : base <= 22) : Z8 [] [YR N, .list (ZB base 10)] = some (.list (ZO (wAt base) (Yg N 7)), []) :=
 ZdD (a := (N, base)) ⟨rfl, hN, hb, rfl⟩ fun p ⟨_, h1, h2, h3⟩ => by
  injection h3 with h3 h4
  injection h4 with h4 _
  injection h4 with h4
  rw [ZfZ hN h1 h3, ZfG hb h2 h4]
theorem Ze5 : Runs (Zav Zm) JE ["net", "words"] Z8 := Zcc fun p B ds ⟨hB, hN, hb, hds⟩ => by
 obtain ⟨N, base⟩ := p;simp only at hN hb hds;subst hB hds
 have e0 : S.assign 3 (XE ZnN) [some (YR N), some (.list (ZB base 10)), none, none, none, none] [] = some (.next, [some (YR N), some (.list (ZB base 10)), none, some (.box 0), none, none], [.list (ZO (wAt base) bk0)]) := by
  refine ZD (d := .box 0) ?_;unfold XE;rw [Zo6];rfl
 obtain ⟨yy, e⟩ := Zbo (Y := Option V × Option V × Option V) (it := I.val (D.call Zo [(D.const (.int 1)), (D.const (.int 8))])) (tgt := fun d σ => some (σ.set 2 (some d))) (body := upB)
  7 (fun k => V.int ((1 + k : Nat) : Int)) (fun _ y => Zcl (YR N) (.list (ZB base 10)) y.1 y.2.1 y.2.2) (fun k => [.list (ZO (wAt base) (Yg N k))]) (y0 := (none, none, none))
  (fun k yz hk => by
   refine Zei (ZqG (wd := .list (ZB base 10)) (y := yz.2.1) (z := yz.2.2) (ZhC hb) hN (Zdp (N := N) k) (v := 1 + k) (Nat.add_comm 1 k ▸ Nat.succ_lt_succ hk)) fun y' z' ez => ?_;rw [<- ZaE] at ez;exact ⟨Zcl (YR N) (.list (ZB base 10)) (some (.int ((1 + k : Nat) : Int))) yz.2.1 yz.2.2, (_, y', z'), rfl, ez⟩)
  rfl
 refine ⟨rfl, [.list (ZO (wAt base) (Yg N 7))], .box 0, 3, Zi e0 (Zi e (YD rfl)), ?_⟩;show frz 0 [.list (ZO (wAt base) (Yg N 7))] 3 (.box 0) = _;rw [ZdK (by decide) rfl, Zco fun x hx => ?_]
 ·rfl
 ·refine Ze (List.mem_map.mp hx) fun v _ z_2 => ?_
  subst z_2;exact Jr 2 _ (Zkw _ _)
noncomputable def ZdR (w : Int) : V := .tc (.tup [.tup [.int 0, .int w], .tup [.int 1, .int w]])
noncomputable def Zjb (p : Nat × Nat × Nat) : V := .tup [.int (p.1 : Int), .int (p.2.1 : Int), .int (p.2.2 : Int)]
noncomputable def Zh8 : List (Nat × Nat × Nat) := [(5, 6, 7), (5, 7, 6), (6, 5, 7), (6, 7, 5), (7, 5, 6), (7, 6, 5)]
noncomputable def ZmT (p : Nat × Nat × Nat) : Int := (if p.1 < p.2.1 then 1 else -1) * (if p.1 < p.2.2 then 1 else -1) * (if p.2.1 < p.2.2 then 1 else -1)
noncomputable def Z4 : VF := ZhM (fun (p : Int × (Nat × Nat × Nat)) B ds => (p.1 = 1 \/ p.1 = -1) /\ p.2 ∈ Zh8 /\ ds = [ZdR p.1, .int p.1, Zjb p.2]) fun p => .int (ZmT p.2)
theorem ZlI {w : Int} {p : Nat × Nat × Nat} (hw : w = 1 \/ w = -1) (hp : p ∈ Zh8) {B : Bx} : Z4 B [ZdR w, .int w, Zjb p] = some (.int (ZmT p), B) :=
 ZdD (a := (w, p)) ⟨hw, hp, rfl⟩ fun q ⟨_, _, h⟩ => by
  obtain ⟨w', a, b, c⟩ := q;obtain ⟨a', b', c'⟩ := p;simp only [Zjb, List.cons.injEq, V.tup.injEq, V.int.injEq, and_true] at h;have e1 : a' = a := by lia
  have e2 : b' = b := by lia
  have e3 : c' = c := by lia
  subst e1 e2 e3;rfl
theorem Znx (w : Int) (hw : w = 1 \/ w = -1) (p : Nat × Nat × Nat) (hp : p ∈ Zh8) (B : Bx) : ZbI (Zaj YE) [some (ZdR w), some (.int w), some (Zjb p), none, none, none] B (.int (ZmT p)) B := by
 rcases hw with rfl | rfl <;> simp only [Zh8, List.mem_cons, List.not_mem_nil, or_false] at hp <;> rcases hp with rfl | rfl | rfl | rfl | rfl | rfl <;> exact ⟨_, rfl⟩
theorem Zgf : Runs (Zaj YE) Zab ["judge", "way", "ends"] Z4 := Zcc fun p B ds ⟨hw, hp, hds⟩ => by
 subst hds;exact ⟨rfl, [], .int (ZmT p.2), 1, by rw [List.append_nil]; exact Znx p.1 hw p.2 hp B, rfl⟩
noncomputable def Jv (c : List V) (x : V) (m : Nat) (r : List V) : V := .tup (.list c :: x :: .int (m : Int) :: r)
theorem Zoo : ls (Str.ofString ", ") = [44, 32] := by decide +kernel
theorem ZmU {n : Nat} (h0 : n ≠ 0) (h : n < 2 ^ 32) : Z1 n ≠ [] := by
 intro e;apply h0;apply Nat.eq_of_testBit_eq;intro i;rw [Nat.zero_testBit]
 by_cases hi : i < 32
 ·by_cases hb : n.testBit i = true
  ·have : i ∈ Z1 n := List.mem_filter.mpr ⟨List.mem_range.mpr hi, hb⟩
   rw [e] at this; cases this
  ·simpa using hb
 ·exact Nat.testBit_lt_two_pow (Nat.lt_of_lt_of_le h (Nat.pow_le_pow_right (by decide) (by lia)))
theorem ZgZ {n : Nat} (h0 : n ≠ 0) (h : n < 2 ^ 32) : Txt.count (ZP n) ", " + 1 = ((Z1 n).length : Int) := by
 unfold ZP
 rw [if_neg h0, ZjR Zoo (fun w hw => by
  refine Ze (List.mem_map.mp hw) fun k hk z_2 => ?_;subst z_2;exact Zj8 k (Zgu hk)), List.length_map]
 have := List.length_pos_iff.mpr (ZmU h0 h);lia
noncomputable def Zp0 (d : V) : Sb fun (q : List V × V × Int × List V) => d = .tup (.list q.1 :: q.2.1 :: .int q.2.2.1 :: q.2.2.2) := match d with
 | .tup (.list c :: x :: .int m :: r) => .ok (c, x, m, r) rfl
 | _ => .no
noncomputable def ZcP (d : V) : Nat := (Zp0 d).1.elim 0 fun q => q.1.length
noncomputable def YP (d : V) : Nat := (Zp0 d).1.elim 0 fun q => q.2.2.1.toNat
noncomputable def Zb3 (d : V) : Bool := (Zp0 d).1.elim false fun q => decide (0 <= q.2.2.1) && decide (q.1.length <= 1000) && decide (q.2.2.2.length <= 10)
set_option tactic.hygienic true in
theorem ZeW {d : V} (h : Zb3 d = true) : ∃ c x m r, d = Jv c x m r /\ c.length <= 1000 /\ r.length <= 10 /\ ZcP d = c.length /\ YP d = m := by
 have k := (Zp0 d).2;unfold Zb3 at h;unfold ZcP YP;generalize (Zp0 d).1 = o at h k ⊢
 cases o with
 | none => cases h
 | some q =>
  replace h : (decide (0 <= q.2.2.1) && decide (q.1.length <= 1000) && decide (q.2.2.2.length <= 10)) = true := h;simp only [Bool.and_eq_true, decide_eq_true_eq] at h;refine ⟨q.1, q.2.1, q.2.2.1.toNat, q.2.2.2, ?_, h.1.2, h.2, rfl, rfl⟩;unfold Jv;rw [Int.toNat_of_nonneg h.1.1];exact k q rfl
theorem Zoj {c : List V} {x : V} {m : Nat} {r : List V} (hc : c.length <= 1000) (hr : r.length <= 10) : Zb3 (Jv c x m r) = true := by
 show (decide (0 <= (m : Int)) && decide (c.length <= 1000) && decide (r.length <= 10)) = true;rw [decide_eq_true hc, decide_eq_true hr, decide_eq_true (Int.natCast_nonneg m)];rfl
noncomputable def Zpl (B : Bx) (ds : List V) : Sb fun (r : V × Bx) => ∃ L one two, B = [.list L] /\ ds = [one, two, .box 0] /\ (Zb3 one = true /\ Zb3 two = true /\ YP one + YP two ≠ 0 /\ YP one + YP two < 2 ^ 32 /\ L.length <= Cap /\ L.all (Yc 11) = true /\ Yc 10 one = true /\ Yc 10 two = true) /\
  r = (.bool ((Z1 (YP one + YP two)).length == ZcP one + ZcP two), [.list (L ++ [.tup [one, two, .int ((YP one + YP two : Nat) : Int), .str (ZP (YP one + YP two))]])]) := match B, ds with
 | [.list L], [one, two, .box 0] => .ite (c := Zb3 one = true /\ Zb3 two = true /\ YP one + YP two ≠ 0 /\ YP one + YP two < 2 ^ 32 /\ L.length <= Cap /\ L.all (Yc 11) = true /\ Yc 10 one = true /\ Yc 10 two = true)
   (.bool ((Z1 (YP one + YP two)).length == ZcP one + ZcP two), [.list (L ++ [.tup [one, two, .int ((YP one + YP two : Nat) : Int), .str (ZP (YP one + YP two))]])]) fun h => ⟨L, one, two, rfl, rfl, h, rfl⟩
 | _, _ => .no
noncomputable def ZC : VF := fun B ds => (Zpl B ds).1
theorem ZqC {B : Bx} {c : List V} {x : V} {m : Nat} {r : List V} (hr : r.length <= 10) : Zc B (Jv c x m r) (.int 0) = some (.list c) := by
 unfold Jv;have := Zb0 (B := B) (xs := .list c :: x :: .int (m : Int) :: r) (k := 0) (by simp) (by lia);exact this
theorem ZlT {B : Bx} {c : List V} {x : V} {m : Nat} {r : List V} (hr : r.length <= 10) : Zc B (Jv c x m r) (.int 2) = some (.int (m : Int)) := by
 unfold Jv;have := Zb0 (B := B) (xs := .list c :: x :: .int (m : Int) :: r) (k := 2) (by simp) (by lia);exact this
theorem ZlP {B : Bx} {c : List V} (h : c.length <= Cap) : XU B [.list c] = some (.int c.length, B) := by
 simp only [XU, Y4, ZjH, Zx, ZR h, if_true, Option.map_some]
theorem ZeL {B : Bx} {σ : St} {i : Nat} {c : List V} {x : V} {m : Nat} {r : List V} (hc : c.length <= 1000) (hr : r.length <= 10) (h : σ[i]? = some (some (Jv c x m r))) :
  D.call XU [(D.bin Zc (D.var i) (D.const (.int 0)))] σ B = some (.int c.length, B) :=
 Yd (Zf (Zt h) rfl (ZqC hr)) (ZlP (by unfold Cap; lia))
theorem Zk4 {B : Bx} {σ : St} {i : Nat} {c : List V} {x : V} {m : Nat} {r : List V} (hr : r.length <= 10) (h : σ[i]? = some (some (Jv c x m r))) :
  D.bin Zc (D.var i) (D.const (.int 2)) σ B = some (.int (m : Int), B) := Zf (Zt h) rfl (ZlT hr)
theorem Zkb : (Str.ofString "one") ≠ (Str.ofString "two") := by decide +kernel
theorem Zct {B : Bx} {a b : Int} : X8 B (.int a) (.int b) = some (a == b) := rfl
theorem Zgz {σ : St} {B : Bx} {n i a b : Nat} {f g : DE} (h3 : n ≠ 0) (h4 : n < 2 ^ 32) (h : σ[i]? = some (some (.str (ZP n)))) (hf : f σ B = some (.int (a : Int), B)) (hg : g σ B = some (.int (b : Int), B)) :
  D.bin (bv X8) (D.bin ZE (D.meth Y8 JW (D.var i) [(D.const (.str ", "))]) (D.const (.int 1))) (D.bin ZE f g) σ B = some (.bool ((Z1 n).length == a + b), B) := by
 have e1 : D.meth Y8 JW (D.var i) [(D.const (.str ", "))] σ B = some (.int (Txt.count (ZP n) ", "), B) := XS (Zt h) rfl rfl rfl
 have e2 : D.bin ZE (D.meth Y8 JW (D.var i) [(D.const (.str ", "))]) (D.const (.int 1)) σ B = some (.int ((Z1 n).length : Int), B) := by
  rw [<- ZgZ h3 h4];exact Zf (e := .int 1) e1 rfl rfl
 have e3 : D.bin ZE f g σ B = some (.int ((a : Int) + (b : Int)), B) := Zf hf hg rfl;refine Zf e2 e3 ?_;unfold bv;rw [Zct, Option.map_some];congr 2;rw [Bool.eq_iff_iff, beq_iff_eq, beq_iff_eq];lia
set_option tactic.hygienic true in
theorem ZfQ : Runs (JL ZK Zz) XW ["one", "two", "log"] ZC := by
 refine ⟨fun B ds d₁ B'' h => ?_⟩;refine Xs ((Zpl B ds).2 _ h) fun L one two eB eds hc er => ?_;clear h;refine Ztw hc fun h1 h2 h3 h4 h5 h6 h7 h8 => ?_;clear hc;rw [eB, eds];obtain ⟨er1, er2⟩ := Prod.mk.inj er;rw [er1, er2];clear eB eds er er1 er2;refine Zgs (ZeW h1) fun c x m r z_4 hc1 hr1 e1 e2 => ?_;subst z_4;refine Zgs (ZeW h2) fun c' x' m' r' z_4 hc2 hr2 e3 e4 => ?_;subst z_4;rw [e2, e4] at h3 h4;rw [e1, e2, e3, e4];generalize ho : Jv c x m r = one at h7 ⊢;generalize ht : Jv c' x' m' r' = two at h8 ⊢;refine ⟨rfl, ?_⟩
 have a1 : S.assign 3 (D.call ZK [(D.dict [((D.const (.str "one")), (D.bin Zc (D.var 0) (D.const (.int 2)))), ((D.const (.str "two")), (D.bin Zc (D.var 1) (D.const (.int 2))))])]) [some one, some two, some (.box 0), none, none] [.list L] =
   some (.next, [some one, some two, some (.box 0), some (.int ((m + m' : Nat) : Int)), none], [.list L]) := by
  refine ZD (Yd (Zoe rfl (Zk4 hr1 (by rw [ho]; rfl)) rfl (Zk4 hr2 (by rw [ht]; rfl)) Zkb) ?_);refine Zad ?_;show (Xz [V.int (m : Int), V.int (m' : Int)]).map (fun ns => V.int ns.sum) = _;simp [Xz]
 have a2 : S.assign 4 (D.call Zz [(D.var 3)]) [some one, some two, some (.box 0), some (.int ((m + m' : Nat) : Int)), none] [.list L] =
   some (.next, [some one, some two, some (.box 0), some (.int ((m + m' : Nat) : Int)), some (.str (ZP (m + m')))], [.list L]) := by
  exact ZD (Yd rfl (Zj3 h4))
 have a3 : S.expr (D.meth YK Jj (D.var 2) [(D.tup [(D.var 0), (D.var 1), (D.var 3), (D.var 4)])]) [some one, some two, some (.box 0), some (.int ((m + m' : Nat) : Int)), some (.str (ZP (m + m')))] [.list L] =
   some (.next, [some one, some two, some (.box 0), some (.int ((m + m' : Nat) : Int)), some (.str (ZP (m + m')))], [.list (L ++ [.tup [one, two, .int ((m + m' : Nat) : Int), .str (ZP (m + m'))]])]) := by
  refine ZcE (d := .none) (XS rfl rfl (ZlE rfl rfl rfl rfl) ?_);simp only [Za4, ZhS, List.getElem?_cons_zero, ZR h5, if_true, Option.map_some, List.set_cons_zero]
 have a4 : D.bin (bv X8) (D.bin ZE (D.meth Y8 JW (D.var 4) [(D.const (.str ", "))]) (D.const (.int 1))) (D.bin ZE (D.call XU [(D.bin Zc (D.var 0) (D.const (.int 0)))]) (D.call XU [(D.bin Zc (D.var 1) (D.const (.int 0)))])) [some one, some two, some (.box 0), some (.int ((m + m' : Nat) : Int)), some (.str (ZP (m + m')))] [.list (L ++ [.tup [one, two, .int ((m + m' : Nat) : Int), .str (ZP (m + m'))]])] =
   some (.bool ((Z1 (m + m')).length == c.length + c'.length), [.list (L ++ [.tup [one, two, .int ((m + m' : Nat) : Int), .str (ZP (m + m'))]])]) := by
  exact Zgz h3 h4 rfl (ZeL hc1 hr1 (by rw [ho]; rfl)) (ZeL hc2 hr2 (by rw [ht]; rfl))
 have run := (Yi a1).trans ((Yi a2).trans ((Yi a3).trans (Zfm a4)));have run' : JL ZK Zz (Zbd XW ["one", "two", "log"] [one, two, .box 0]) [.list L] = some (.ret (.bool ((Z1 (m + m')).length == c.length + c'.length)), [some one, some two, some (.box 0), some (.int ((m + m' : Nat) : Int)), some (.str (ZP (m + m')))], [.list (L ++ [.tup [one, two, .int ((m + m' : Nat) : Int), .str (ZP (m + m'))]])]) := run;refine ⟨_, _, _, 1, run', rfl, rfl, rfl, fun i hi => ?_⟩;have hi0 : i = 0 := by simpa using hi
 subst hi0;refine .inr ⟨12, .list (L ++ [.tup [one, two, .int ((m + m' : Nat) : Int), .str (ZP (m + m'))]]), .list (L ++ [.tup [one, two, .int ((m + m' : Nat) : Int), .str (ZP (m + m'))]]), rfl, rfl, Jr 12 _ ?_, rfl⟩
 have hd : Yc 11 (.tup [one, two, .int ((m + m' : Nat) : Int), .str (ZP (m + m'))]) = true := by
  show ([one, two, .int ((m + m' : Nat) : Int), .str (ZP (m + m'))] : List V).all (Yc 10) = true;rw [List.all_cons, h7, List.all_cons, h8];rfl
 show (L ++ [V.tup [one, two, .int ((m + m' : Nat) : Int), .str (ZP (m + m'))]]).all (Yc 11) = true;rw [List.all_append, h6, List.all_cons, hd];rfl
noncomputable def ZF (c : List Nat) : List V := c.map fun (v : Nat) => V.int (v : Int)
theorem ZcF (v : Nat) : ∀ c : List Nat, ZdW (.int (v : Int)) (ZF c) = some (c.contains v)
 | [] => rfl
 | y :: c => by
  show (match veq 11 (.int (y : Int)) (.int (v : Int)), ZdW (.int (v : Int)) (ZF c) with | some a, some b => some (a || b) | _, _ => none) = _;rw [ZcF v c];show some (((y : Int) == (v : Int)) || c.contains v) = some ((y :: c).contains v);congr 1;rw [List.contains_cons];congr 1;rw [Bool.eq_iff_iff, beq_iff_eq, beq_iff_eq];lia
theorem Zij {B : Bx} (v : Nat) (c : List Nat) : vin B (.int (v : Int)) (.list (ZF c)) = some (c.contains v) := by
 show ZmO B (.int (v : Int)) (.list (ZF c)) = _;show ZdW (.int (v : Int)) (ZF c) = _;exact ZcF v c
theorem ZM (c : List Nat) : (ZF c).length = c.length := by simp [ZF]
theorem ZqD {B : Bx} (xs : List V) : X8 B (.list xs) (.list []) = some xs.isEmpty := by
 cases xs with
 | nil => rfl
 | cons x xs => rfl
theorem ZpB {B : Bx} {a b : Bool} : ZaX B (.bool a) (.bool b) = some (!(a == b)) := rfl
theorem ZlB {B : Bx} {a b : Str} : X8 B (.str a) (.str b) = some (a == b) := rfl
theorem Zl8 {f g : DE} {σ : St} {B B₁ B₂ : Bx} {d : V} (h : f σ B = some (.bool true, B₁)) (h2 : g σ B₁ = some (d, B₂)) : D.boolop true [f, g] σ B = some (d, B₂) := by
 simp [D.boolop, h, h2, JC]
theorem Zqu {n k : Nat} {B : Bx} : Zkt B (.int (n : Int)) (.int (k : Int)) = some (.int ((n / 2 ^ k : Nat) : Int)) := by
 simp only [Zkt];rw [if_pos (by simp)];congr 2;rw [Int.toNat_natCast, show ((2 : Int) ^ k) = ((2 ^ k : Nat) : Int) by simp, Zh3]
theorem Zq6 {n : Nat} {B : Bx} : ZeE B (.int (n : Int)) (.int 1) = some (.int ((n % 2 : Nat) : Int)) := by
 simp only [ZeE];rw [show (1 : Int) = ((1 : Nat) : Int) from rfl, bitAnd_pp (Int.natCast_nonneg _) (Int.natCast_nonneg _), Int.toNat_natCast, Int.toNat_natCast, Nat.and_one_is_mod]
theorem Zmg {n k : Nat} {B : Bx} : JC B (.int ((n / 2 ^ k % 2 : Nat) : Int)) = some (n.testBit k) := by
 rw [Nat.testBit_eq_decide_div_mod_eq];simp only [JC];congr 1;rcases Nat.mod_two_eq_zero_or_one (n / 2 ^ k) with h | h <;> rw [h] <;> rfl
noncomputable def ZeY (p : Nat -> Bool) : V -> Bool
 | .int i => p i.toNat
 | _ => false
noncomputable def ZbQ (g : Nat -> V) : V -> V
 | .int i => g i.toNat
 | _ => .none
theorem Zbp (p : Nat -> Bool) (k : Nat) : ZeY p (.int (k : Int)) = p k := rfl
theorem Xx (g : Nat -> V) (k : Nat) : ZbQ g (.int (k : Int)) = g k := rfl
theorem Zam (c : List Nat) (p : Nat -> Bool) : (ZF c).filter (ZeY p) = ZF (c.filter p) := by
 unfold ZF;rw [List.filter_map];rfl
theorem Jd (c : List Nat) (g : Nat -> V) : (ZF c).map (ZbQ g) = c.map g := by
 unfold ZF;rw [List.map_map];rfl
structure Xd where
 c1 : List Nat
 x1 : V
 m1 : Nat
 r1 : List V
 c2 : List Nat
 x2 : V
 m2 : Nat
 r2 : List V
 base : Nat
structure Xd.Ok (p : Xd) : Prop where
 ne : p.m1 + p.m2 ≠ 0
 lt : p.m1 + p.m2 < 2 ^ 32
 l1 : p.c1.length <= 1000
 l2 : p.c2.length <= 1000
 q1 : p.r1.length <= 10
 q2 : p.r2.length <= 10
 b : p.base <= 22
 apart : ((Z1 (p.m1 + p.m2)).length == p.c1.length + p.c2.length) = (p.c1.filter (p.c2.contains ·)).isEmpty
 places : Z1 (p.m1 + p.m2) = ((List.range 10).filter fun k => (p.m1 + p.m2).testBit (p.base + k)).map (p.base + ·)
noncomputable def Xd.one (p : Xd) : V := Jv (ZF p.c1) p.x1 p.m1 p.r1
noncomputable def Xd.two (p : Xd) : V := Jv (ZF p.c2) p.x2 p.m2 p.r2
noncomputable def Xd.args (p : Xd) : List V := [p.one, p.two, .int ((p.m1 + p.m2 : Nat) : Int), .str (ZP (p.m1 + p.m2)), .int (p.base : Int), .list (ZB p.base 10)]
noncomputable def ZU : VF := ZhM (fun (p : Xd) B ds => p.Ok /\ ds = p.args) fun _ => .bool true
theorem Zmm {p : Xd} (h : p.Ok) {B : Bx} : ZU B p.args = some (.bool true, B) := ZdD (a := p) ⟨h, rfl⟩ fun _ _ => rfl
noncomputable abbrev Zp6 : DE := Zq 2 (emL (D.var 1)) { it := (I.val (D.bin Zc (D.var 0) (D.const (.int 0)))), tp := false, tgt := (fun d σ => some (σ.set 1 (some d))), ifs := (T.all [(T.cmp vin (D.var 1) (D.bin Zc (D.var 3) (D.const (.int 0))))]) } [] (.list [])
theorem ZlY {p : Xd} (h : p.Ok) {σ : St} {B : Bx} : Zp6 (some p.one :: some p.two :: σ) B = some (.list (ZF (p.c1.filter (p.c2.contains ·))), B) := by
 have := Jb (f := D.var 1) (it := I.val (D.bin Zc (D.var 0) (D.const (.int 0)))) (ifs := T.all [(T.cmp vin (D.var 1) (D.bin Zc (D.var 3) (D.const (.int 0))))]) (tp := false) (σ := some p.one :: some p.two :: σ) (B := B) (B₁ := B) (xs := ZF p.c1)
  (ZeY (p.c2.contains ·)) (fun x => x) (ZQ (Zf rfl rfl (ZqC h.q1)) rfl)
  (fun x hx => by
   refine Ze (List.mem_map.mp hx) fun v _ z_2 => ?_;subst z_2;refine ⟨ZbV (Yf (d := .int (v : Int)) rfl (Zf rfl rfl (ZqC h.q2)) ?_), fun _ => rfl⟩;rw [Zbp];exact Zij v p.c2)
  (by rw [ZM]; have := h.l1; unfold Cap; lia)
 rw [Zam, List.map_id'] at this;exact this
noncomputable abbrev Zrq : DE := Zq 2 (emL (D.bin Zc (D.var 7) (D.var 1))) { it := (I.val (D.call Zo [(D.const (.int 10))])), tp := false, tgt := (fun d σ => some (σ.set 1 (some d))), ifs := (T.all [(T.of (D.bin ZeE (D.bin Zkt (D.bin ZE (D.bin Zc (D.var 2) (D.const (.int 2))) (D.bin Zc (D.var 3) (D.const (.int 2)))) (D.bin ZE (D.var 6) (D.var 1))) (D.const (.int 1))))]) } [] (.list [])
theorem ZqN {p : Xd} (h : p.Ok) {a b : Option V} {B : Bx} : Zrq [some p.one, some p.two, a, b, some (.int (p.base : Int)), some (.list (ZB p.base 10))] B =
  some (.list (((List.range 10).filter fun k => (p.m1 + p.m2).testBit (p.base + k)).map fun k => V.str (wAt p.base k)), B) := by
 have := Jb (f := D.bin Zc (D.var 7) (D.var 1)) (it := I.val (D.call Zo [(D.const (.int 10))])) (ifs := T.all [(T.of (D.bin ZeE (D.bin Zkt (D.bin ZE (D.bin Zc (D.var 2) (D.const (.int 2))) (D.bin Zc (D.var 3) (D.const (.int 2)))) (D.bin ZE (D.var 6) (D.var 1))) (D.const (.int 1))))]) (tp := false)
  (σ := [some p.one, some p.two, a, b, some (.int (p.base : Int)), some (.list (ZB p.base 10))]) (B := B) (B₁ := B) (xs := ZF (List.range 10))
  (ZeY fun k => (p.m1 + p.m2).testBit (p.base + k)) (ZbQ fun k => V.str (wAt p.base k))
  (ZQ (d := .range 0 ((10 : Nat) : Int)) rfl (YI (by decide)))
  (fun x hx => by
   refine Ze (List.mem_map.mp hx) fun k hk z_2 => ?_;subst z_2;have hk := List.mem_range.mp hk;rw [Zbp, Xx];refine ⟨ZbV (XC (Zf (Zf (Zf (Zf rfl rfl (ZlT h.q1)) (Zf rfl rfl (ZlT h.q2)) (c := .int ((p.m1 + p.m2 : Nat) : Int)) ?_) (Zf rfl rfl (c := .int ((p.base + k : Nat) : Int)) ?_) Zqu) rfl Zq6) Zmg), fun _ => Zf rfl rfl ?_⟩
   ·show some (V.int ((p.m1 : Int) + (p.m2 : Int))) = _
    rw [Int.natCast_add]
   ·show some (V.int ((p.base : Int) + (k : Int))) = _
    rw [Int.natCast_add]
   ·rw [Y0 (by rw [Zc3]; exact hk) (by lia), ZbN hk])
  (by rw [ZM]; simp [Cap])
 rw [Zam, Jd] at this;exact this
theorem Znb {p : Xd} (h : p.Ok) (B : Bx) : ZbI Zae (Zbd Xm ["one", "two", "number", "text", "base", "words"] p.args) B (.bool true) B := by
 have hb := h.b;refine Zi ((X4 (Yf (Zgz h.ne h.lt rfl (ZeL (by rw [ZM]; exact h.l1) h.q1 rfl) (ZeL (by rw [ZM]; exact h.l2) h.q2 rfl)) (Zf (ZlY h) rfl (c := .bool (ZF (p.c1.filter (p.c2.contains ·))).isEmpty) ?_) ?_)).trans rfl) (YD ?_)
 ·unfold bv; rw [ZqD]; rfl
 ·rw [ZpB]
  congr 1;rw [ZM, ZM, h.apart];unfold ZF
  cases p.c1.filter (p.c2.contains ·) <;> rfl
 ·have e1 : D.bin (bv X8) (D.var 2) (D.bin ZE (D.bin Zc (D.var 0) (D.const (.int 2))) (D.bin Zc (D.var 1) (D.const (.int 2)))) (Zbd Xm ["one", "two", "number", "text", "base", "words"] p.args) B = some (.bool true, B) := by
   refine Zf (d := .int ((p.m1 + p.m2 : Nat) : Int)) rfl (Zf (c := .int ((p.m1 : Int) + (p.m2 : Int))) (Zf (d := p.one) rfl rfl (ZlT h.q1)) (Zf (d := p.two) rfl rfl (ZlT h.q2)) rfl) ?_;unfold bv;rw [Zct];rw [Int.natCast_add, beq_self_eq_true];rfl
  have hj : ZcO B [.str ", ", .list (((List.range 10).filter fun k => (p.m1 + p.m2).testBit (p.base + k)).map fun k => V.str (wAt p.base k))] = some (.str (ZP (p.m1 + p.m2)), B) := by
   have hp : ZP (p.m1 + p.m2) = Txt.join ", " (((List.range 10).filter fun k => (p.m1 + p.m2).testBit (p.base + k)).map (wAt p.base)) := by
    unfold ZP;rw [if_neg h.ne, h.places, List.map_map];rfl
   rw [hp];refine Zdj (by simp [Zx, List.map_map]) ?_;have h1 : ((List.range 10).filter fun k => (p.m1 + p.m2).testBit (p.base + k)).length <= 10 := Nat.le_trans (List.length_filter_le _ _) (by simp)
   have h2 := Zfn (l := (((List.range 10).filter fun k => (p.m1 + p.m2).testBit (p.base + k)).map (wAt p.base)).map (·.length)) (c := 18) (fun x hx => by
    simp only [List.map_map, List.mem_map] at hx;refine Ze hx fun j hj z_2 => ?_;clear hx;subst z_2;have := List.mem_range.mp (List.mem_filter.mp hj).1;exact Zi4 (p.base + j) (by lia))
   have h3 : (Str.ofString ", ").length = 2 := by decide +kernel
   simp only [List.length_map] at h2 ⊢;rw [h3];lia
  have e2 : D.bin (bv X8) (D.var 3) (D.meth Y8 ZcO (D.const (.str ", ")) [Zrq]) (Zbd Xm ["one", "two", "number", "text", "base", "words"] p.args) B = some (.bool true, B) := by
   refine Zf (d := .str (ZP (p.m1 + p.m2))) rfl (XS rfl rfl (ZqN h) hj) ?_;unfold bv;rw [ZlB, beq_self_eq_true];rfl
  exact Zl8 e1 e2
theorem Zge : Runs Zae Xm ["one", "two", "number", "text", "base", "words"] ZU := Zcc fun p B ds ⟨h, hds⟩ => by
 subst hds;exact ⟨rfl, [], .bool true, 1, by rw [List.append_nil]; exact Znb h B, rfl⟩
theorem Zpb {S : Xy} {inner : St -> Bx -> V -> Option ZaW} {B : Bx} {n : Nat} {ys : List V} (hB : B[n]? = some (.list ys)) (I : St -> Prop) (b : V -> Bool) (g : V -> List V) (xs : List V) (i : Nat) (hd : ys.drop i = xs)
   (h : ∀ x ∈ xs, ∀ σ, I σ -> ∃ σ₁, S.tgt x σ = some σ₁ /\ S.ifs σ₁ B = some (b x, B) /\ (b x = false -> I σ₁) /\
    (b x = true -> ∀ acc : List V, acc.length + (g x).length <= Cap -> ∃ σ'2, I σ'2 /\ inner σ₁ B (.list acc) = some (σ'2, B, .list (acc ++ g x))))
   (acc : List V) (σ : St) (m : Nat) (hI : I σ) (hn : xs.length < m) (hc : acc.length + (xs.flatMap fun x => if b x then g x else []).length <= Cap) :
   ∃ σ', I σ' /\ cl (Jz S inner) m (.box n i) σ B (.list acc) = some (σ', B, .list (acc ++ xs.flatMap fun x => if b x then g x else [])) := Zip I b g xs (.box n i) ⟨ys, hB, hd⟩ h acc σ m hI hn hc
theorem ZhY {f : DE} {it : DI} {ifs : DT} {tp : Bool} {σ : St} {B : Bx} {n : Nat} {xs : List V} (b : V -> Bool) (e : V -> V) (hit : it σ B = some (.box n 0, B)) (hB : B[n]? = some (.list xs))
  (h : ∀ x ∈ xs, ifs (none :: some x :: σ) B = some (b x, B) /\ (b x = true -> f (none :: some x :: σ) B = some (e x, B))) (hl : xs.length <= Cap) :
  Zq 2 (emL f) { it := it, tp := tp, tgt := fun d σ => some (σ.set 1 (some d)), ifs := ifs } [] (.list []) σ B = some (.list ((xs.filter b).map e), B) := by
 have key : xs.flatMap (fun x => if b x then [e x] else []) = (xs.filter b).map e := by
  clear h hit hl hB
  induction xs with
  | nil => rfl
  | cons x xs ih => cases hb : b x <;> simp [hb, ih]
 obtain ⟨σ', _, h2⟩ := Zpb (S := { it := it, tp := tp, tgt := fun d σ => some (σ.set 1 (some d)), ifs := ifs }) (inner := cgo (emL f) []) hB (fun τ => ∃ y, τ = none :: y :: σ) b (fun x => [e x]) xs 0 rfl
  (fun x hx τ ⟨y, hy⟩ => by
   subst hy;refine ⟨none :: some x :: σ, rfl, (h x hx).1, fun _ => ⟨_, rfl⟩, fun hb acc hc => ⟨_, ⟨_, rfl⟩, ZcI ((h x hx).2 hb) (by simp at hc; lia)⟩⟩)
  [] (none :: none :: σ) (xs.length + 1) ⟨_, rfl⟩ (Nat.lt_succ_self _) (by
   rw [key]; simp only [List.length_nil, List.length_map]; have := List.length_filter_le b xs; lia)
 unfold Zq;simp only [hit, Src.fuel, hB];rw [show List.replicate 2 (none : Option V) ++ σ = none :: none :: σ from rfl, h2, key];simp
noncomputable abbrev Cnt := Nat -> Nat -> Int
noncomputable def Zea (r : Nat -> Int) : V := .list ((List.range 3).map fun s => .int (r s))
noncomputable def J9 (C : Cnt) : List V := (List.range 8).map fun v => Zea (C v)
noncomputable def Zhv : List V := [.box 1, .box 2, .box 3, .box 4, .box 5, .box 6, .box 7, .box 8]
noncomputable def Zfr (k : Nat) : List V := (List.range k).map fun i => .box (11 + i)
noncomputable def cB (X : V) (C : Cnt) : Bx := X :: (J9 C ++ [.list Zhv])
noncomputable def dB (X : V) (C : Cnt) (k : Nat) (os : List (List Nat)) : Bx := cB X C ++ .list (Zfr k) :: os.map fun o => .list (ZF o)
theorem Zbb (X : V) (C : Cnt) : (cB X C).length = 10 := by simp [cB, J9]
theorem Zjz (X : V) (C : Cnt) {v : Nat} (hv : v < 8) : (cB X C)[1 + v]? = some (Zea (C v)) := by
 unfold cB;rw [Nat.add_comm, List.getElem?_cons_succ, List.getElem?_append_left (by simp [J9, hv])];unfold J9;rw [List.getElem?_map, List.getElem?_range hv]; rfl
theorem ZoS (X : V) (C : Cnt) : (cB X C)[9]? = some (.list Zhv) := by
 unfold cB;rw [List.getElem?_cons_succ, List.getElem?_append_right (by simp [J9])];simp [J9]
theorem ZfE {v : Nat} (hv : v < 8) : Zhv[v]? = some (.box (1 + v)) := by
 show ((List.range' 1 8).map V.box)[v]? = _;rw [List.getElem?_map, List.getElem?_range' hv, Nat.one_mul];rfl
theorem ZfA {B : Bx} {r : Nat -> Int} {n s : Nat} (hB : B[n]? = some (Zea r)) (hs : s < 3) : Zc B (.box n) (.int (s : Int)) = some (.int (r s)) := by
 rw [JK (xs := (List.range 3).map fun s => .int (r s)) hB (by simpa using hs) (by lia), List.getElem?_map, List.getElem?_range hs]; rfl
noncomputable def Zl3 (C : Cnt) (v s : Nat) (x : Int) : Cnt := fun a b => if a = v /\ b = s then x else C a b
theorem Zku (r : Nat -> Int) {s : Nat} (hs : s < 3) (x : Int) : ((List.range 3).map fun j => V.int (r j)).set s (.int x) = (List.range 3).map fun j => V.int (if j = s then x else r j) := by
 match s, hs with
 | 0, _ => rfl
 | 1, _ => rfl
 | 2, _ => rfl
theorem Zid (C : Cnt) {v : Nat} (hv : v < 8) (s : Nat) (x : Int) : (J9 C).set v (Zea fun b => if b = s then x else C v b) = J9 (Zl3 C v s x) := by
 apply List.ext_getElem?;intro i;unfold J9;rw [List.getElem?_set]
 by_cases hi : i < 8
 ·rw [List.getElem?_map, List.getElem?_map, List.getElem?_range hi]
  by_cases e : v = i
  ·subst e; simp [hi]; congr 1; funext b; simp [Zl3]
  ·rw [if_neg e]; simp; congr 1; funext b; simp [Zl3, show ¬ i = v from fun z => e z.symm]
 ·rw [List.getElem?_eq_none (by simp; lia), List.getElem?_eq_none (by simp; lia)]
  simp; lia
theorem Zs2 (X : V) (C : Cnt) {v s : Nat} (hv : v < 8) (hs : s < 3) (x : Int) : Zcj (cB X C) (1 + v) (.int (s : Int)) (.int x) = some (cB X (Zl3 C v s x)) := by
 unfold Zcj;rw [Zjz X C hv];simp only [Zea, List.length_map, List.length_range];rw [if_pos ⟨by lia, by lia, rfl⟩, Int.toNat_natCast, Zku _ hs];unfold cB;rw [Nat.add_comm, List.set_cons_succ, List.set_append_left _ _ (by simp [J9, hv])];have := Zid C hv s x;unfold Zea at this;rw [this]
noncomputable def YA (c : List Nat) : Nat := c.headD 0
noncomputable def Zcs (N : Mat) (C : Cnt) (c : List Nat) : Cnt := Zl3 C (Zs c) (YA c) (C (Zs c) (YA c) + wgt N c)
noncomputable def Zbf (N : Mat) : Cnt := ((Yz 8).filter (Yn N)).foldl (Zcs N) fun _ _ => 0
theorem Zft : ∀ c ∈ Yz 8, c ≠ [] /\ Zs c < 8 /\ YA c < 3 := by decide +kernel
theorem Ze2 {B : Bx} {c : List Nat} (h : c ≠ []) : Zc B (YT c) (.int 0) = some (.int (YA c : Int)) := by
 cases c with
 | nil => exact absurd rfl h
 | cons v c =>
  unfold YT;have := Y0 (B := B) (xs := (v :: c).map fun (v : Nat) => V.int (v : Int)) (k := 0) (by simp) (by lia);exact this
noncomputable abbrev Zhr : DS := S.augput Zbj (D.bin Zc (D.var 3) (D.bin Zc (D.var 4) (D.un YH (D.const (.int 1))))) (D.bin Zc (D.var 4) (D.const (.int 0))) (D.var 5)
theorem ZoF {N : Mat} {X : V} {C : Cnt} {c : List Nat} (h : c ∈ Yz 8) {a b d : Option V} {τ : St} : Zhr (a :: b :: d :: some (.box 9) :: some (YT c) :: some (.int (wgt N c)) :: τ) (cB X C) =
  some (.next, a :: b :: d :: some (.box 9) :: some (YT c) :: some (.int (wgt N c)) :: τ, cB X (Zcs N C c)) := by
 refine XR (Zft c h) fun h1 h2 h3 => ?_
 have e1 : D.bin Zc (D.var 3) (D.bin Zc (D.var 4) (D.un YH (D.const (.int 1)))) (a :: b :: d :: some (.box 9) :: some (YT c) :: some (.int (wgt N c)) :: τ) (cB X C) = some (.box (1 + Zs c), cB X C) := by
  refine Zf rfl (Zf rfl (e := .int (-1)) rfl (ZcU h1)) ?_;rw [JK (ZoS X C) (by show Zs c < 8; exact h2) (by lia), ZfE h2]
 exact Zcr e1 (Zf rfl rfl (Ze2 h1)) (ZfA (Zjz X C h2) h3) rfl rfl (Zs2 X C h2 h3 _)
theorem Zn7 {N : Mat} {X : V} {a b : Option V} {τ : St} : ∃ y z, S.loopS (I.val (D.var 1)) (S.parts [4, 5]) Zhr S.skip (a :: some (XB N) :: b :: some (.box 9) :: none :: none :: τ) (cB X fun _ _ => 0) =
  some (.next, a :: some (XB N) :: b :: some (.box 9) :: y :: z :: τ, cB X (Zbf N)) := by
 refine YU (Jo (f := Zal N) (it := I.val (D.var 1)) (els := S.skip) (tgt := S.parts [4, 5]) (body := Zhr) (σ := a :: some (XB N) :: b :: some (.box 9) :: none :: none :: τ) (B := cB X fun _ _ => 0)
  (fun L σ B' => ∃ (y z : Option V) (C : Cnt), (∀ c ∈ L, c ∈ Yz 8) /\ L.foldl (Zcs N) C = Zbf N /\ σ = a :: some (XB N) :: b :: some (.box 9) :: y :: z :: τ /\ B' = cB X C)
  (fun c L σ B' h => Xs h fun y z C hL hC hσ hB => by
    rw [hσ, hB];exact ⟨_, _, _, rfl, ZoF (hL c (.head _)), _, _, Zcs N C c, fun c' h => hL c' (List.mem_cons_of_mem _ h), hC, rfl, rfl⟩)
  rfl ⟨none, none, fun _ _ => 0, fun c h => (List.mem_filter.mp h).1, rfl, rfl, rfl⟩) fun σ' B' h e => Xs h fun y z C _ hC hσ hB => ?_
 rw [hσ, hB, show C = _ from hC] at e;exact ⟨y, z, e⟩
noncomputable def Jn (os : List (List Nat)) (o : List Nat) (u : Nat) : List Nat := o ++ (os.getD u []).filter (fun s => !o.contains s)
noncomputable def Xk (v : Nat) : List Nat := if v < 3 then [v] else []
noncomputable def J8 (N : Mat) (os : List (List Nat)) (v : Nat) : List Nat := ((List.range v).filter fun u => decide (0 < N u v)).foldl (Jn os) (Xk v)
noncomputable def YB (N : Mat) (k : Nat) : List (List Nat) := (List.range k).foldl (fun os v => os ++ [J8 N os v]) []
structure Zas (o : List Nat) : Prop where
 nodup : o.Nodup
 lt : ∀ s ∈ o, s < 3
theorem Zas.len {o : List Nat} (h : Zas o) : o.length <= 3 := YQ h.nodup h.lt
noncomputable def JD (os : List (List Nat)) : Prop := ∀ o ∈ os, Zas o
theorem Zcu {os : List (List Nat)} {o : List Nat} {u : Nat} (h : JD os) (ho : Zas o) : Zas (Jn os o u) := by
 have hu : Zas (os.getD u []) := by
  rw [List.getD_eq_getElem?_getD]
  cases e : os[u]? with
  | none => exact ⟨List.nodup_nil, by simp⟩
  | some x => exact h x (List.mem_of_getElem? e)
 refine ⟨?_, fun s hs => ?_⟩
 ·unfold Jn
  rw [List.nodup_append];refine ⟨ho.nodup, hu.nodup.filter _, fun a ha b hb => ?_⟩;have := (List.mem_filter.mp hb).2;intro e; subst e;simp [ha] at this
 ·rcases List.mem_append.mp hs with hs | hs
  ·exact ho.lt s hs
  ·exact hu.lt s (List.mem_filter.mp hs).1
theorem Zer (v : Nat) : Zas (Xk v) := by
 unfold Xk; split
 ·exact ⟨by simp, by simpa using by lia⟩
 ·exact ⟨List.nodup_nil, by simp⟩
theorem ZjD {os : List (List Nat)} (h : JD os) : ∀ (us : List Nat) {o : List Nat}, Zas o -> Zas (us.foldl (Jn os) o) := by
 intro xs_
 induction xs_ with
 | nil =>
  intro _ ho;exact ho
 | cons u us ih_ =>
  intro _ ho;exact ih_ (Zcu h ho)
theorem Zb5 (N : Mat) (k : Nat) : YB N (k + 1) = YB N k ++ [J8 N (YB N k) k] := by
 unfold YB; rw [List.range_succ, List.foldl_append]; rfl
theorem Zcv (N : Mat) : ∀ k, JD (YB N k) /\ (YB N k).length = k
 | 0 => ⟨by simp [YB, JD], rfl⟩
 | k + 1 => by
  obtain ⟨h1, h2⟩ := Zcv N k;rw [Zb5];refine ⟨fun o ho => ?_, by simp [h2]⟩;rcases List.mem_append.mp ho with ho | ho
  ·exact h1 o ho
  ·simp only [List.mem_singleton] at ho
   subst ho;exact ZjD h1 _ (Zer k)
theorem Zpy (X : V) (C : Cnt) (k : Nat) (os : List (List Nat)) {i : Nat} (h : i < 10) : (dB X C k os)[i]? = (cB X C)[i]? := by
 unfold dB; rw [List.getElem?_append_left (by rw [Zbb]; exact h)]
theorem ZeO (X : V) (C : Cnt) (k : Nat) (os : List (List Nat)) : (dB X C k os)[10]? = some (.list (Zfr k)) := by
 unfold dB; rw [List.getElem?_append_right (by rw [Zbb]; lia), Zbb]; rfl
theorem Za9 (X : V) (C : Cnt) (k : Nat) (os : List (List Nat)) {i : Nat} {o : List Nat} (h : os[i]? = some o) : (dB X C k os)[11 + i]? = some (.list (ZF o)) := by
 unfold dB;rw [List.getElem?_append_right (by rw [Zbb]; lia), Zbb, show 11 + i - 10 = i + 1 by lia, List.getElem?_cons_succ, List.getElem?_map, h];rfl
theorem Zkk (X : V) (C : Cnt) (k : Nat) (os : List (List Nat)) (o o' : List Nat) : (dB X C k (os ++ [o])).set (11 + os.length) (.list (ZF o')) = dB X C k (os ++ [o']) := by
 unfold dB;rw [List.set_append_right _ _ (by rw [Zbb]; lia), Zbb, show 11 + os.length - 10 = os.length + 1 by lia, List.set_cons_succ, List.map_append, List.set_append_right _ _ (by simp), List.length_map, Nat.sub_self];simp
theorem Zi9 (X : V) (C : Cnt) (k : Nat) (os : List (List Nat)) : (dB X C k os).set 10 (.list (Zfr (k + 1))) = dB X C (k + 1) os := by
 unfold dB;rw [List.set_append_right _ _ (by rw [Zbb]; lia), Zbb];rfl
theorem ZkY (X : V) (C : Cnt) (k : Nat) (os : List (List Nat)) (o : List Nat) : dB X C k os ++ [.list (ZF o)] = dB X C k (os ++ [o]) := by
 unfold dB; simp
theorem ZoI (X : V) (C : Cnt) (k : Nat) (os : List (List Nat)) : (dB X C k os).length = 11 + os.length := by
 unfold dB; rw [List.length_append, Zbb]; simp; lia
theorem Zjm {k i : Nat} (h : i < k) : (Zfr k)[i]? = some (.box (11 + i)) := by
 unfold Zfr; rw [List.getElem?_map, List.getElem?_range h]; rfl
theorem Zmv (k : Nat) : Zfr (k + 1) = Zfr k ++ [.box (11 + k)] := by
 unfold Zfr; rw [List.range_succ, List.map_append]; rfl
noncomputable abbrev dSt (N : Mat) (wk wd : V) (c f : Option V) (v o u l s : Option V) : St := [some (YR N), some wk, some wd, some (.box 9), c, f, some (.box 10), v, o, u, l, s]
noncomputable abbrev Ztv : DE := Zq 2 (emL (D.var 1)) { it := (I.val (D.bin Zc (D.var 6) (D.var 9))), tp := false, tgt := (fun d σ => some (σ.set 1 (some d))), ifs := (T.all [(T.cmp Jp (D.var 1) (D.var 10))]) } [] (.list [])
theorem Zte {N : Mat} {wk wd X : V} {C : Cnt} {c f l s : Option V} {os : List (List Nat)} {o : List Nat} {u : Nat} (hu : u < os.length) (hk : os.length <= 8) (hok : JD os) {v : Option V} :
  Ztv (dSt N wk wd c f v (some (.box (11 + os.length))) (some (.int (u : Int))) l s) (dB X C os.length (os ++ [o])) = some (.list (ZF ((os.getD u []).filter fun s => !o.contains s)), dB X C os.length (os ++ [o])) := by
 have hget : (os ++ [o])[u]? = some (os.getD u []) := by
  rw [List.getElem?_append_left hu, List.getD_eq_getElem?_getD, List.getElem?_eq_getElem hu]; rfl
 have hlast : (os ++ [o])[os.length]? = some o := by simp
 have hidx : D.bin Zc (D.var 6) (D.var 9) (dSt N wk wd c f v (some (.box (11 + os.length))) (some (.int (u : Int))) l s) (dB X C os.length (os ++ [o])) = some (.box (11 + u), dB X C os.length (os ++ [o])) :=
  Zf rfl rfl (by rw [JK (ZeO X C _ _) (by unfold Zfr; simpa using hu) (by lia), Zjm hu])
 have hit : I.val (D.bin Zc (D.var 6) (D.var 9)) (dSt N wk wd c f v (some (.box (11 + os.length))) (some (.int (u : Int))) l s) (dB X C os.length (os ++ [o])) = some (.box (11 + u) 0, dB X C os.length (os ++ [o])) := by
  refine ZQ hidx ?_;simp only [Zaf, Za9 X C os.length (os ++ [o]) hget]
 have hoku : Zas (os.getD u []) := hok _ (by
  rw [List.getElem?_append_left hu] at hget;exact List.mem_of_getElem? hget)
 have := ZhY (f := D.var 1) (ifs := T.all [(T.cmp Jp (D.var 1) (D.var 10))]) (tp := false) (ZeY fun s => !o.contains s) (fun x => x) hit (Za9 X C os.length (os ++ [o]) hget)
  (fun x hx => by
   refine Ze (List.mem_map.mp hx) fun s' _ z_2 => ?_;subst z_2;refine ⟨ZbV (Yf (d := .int (s' : Int)) (e := .box (11 + os.length)) rfl rfl ?_), fun _ => rfl⟩;rw [Zbp];show (vin _ _ _).map (!·) = _
   have : vin (dB X C os.length (os ++ [o])) (.int (s' : Int)) (.box (11 + os.length)) = some (o.contains s') := by
    simp only [vin, Jl, Za9 X C os.length (os ++ [o]) hlast];simp only [ZmO, Zx, Za9 X C os.length (os ++ [o]) hlast];exact ZcF s' o
   rw [this]; rfl)
  (by rw [ZM]; have := hoku.len; unfold Cap; lia)
 rw [Zam, List.map_id'] at this;exact this
noncomputable abbrev ZsO : DS := S.expr (D.meth YK Zaz (D.var 8) [Ztv])
theorem Zsl {N : Mat} {wk wd X : V} {C : Cnt} {c f l s : Option V} {os : List (List Nat)} {o : List Nat} {u : Nat} (hu : u < os.length) (hk : os.length <= 8) (hok : JD os) (ho : Zas o) {v : Option V} :
  ZsO (dSt N wk wd c f v (some (.box (11 + os.length))) (some (.int (u : Int))) l s) (dB X C os.length (os ++ [o])) = some (.next, dSt N wk wd c f v (some (.box (11 + os.length))) (some (.int (u : Int))) l s, dB X C os.length (os ++ [Jn os o u])) := by
 have hlast : (os ++ [o])[os.length]? = some o := by simp
 have hB := Za9 X C os.length (os ++ [o]) hlast;refine ZcE (d := .none) (XS (o := .box (11 + os.length)) rfl ?_ (Zte hu hk hok) ?_)
 ·unfold YK Zx; simp only [hB]; rfl
 ·have h1 := ho.len
  have h2 := (Zcu (u := u) hok ho).len;unfold Jn at h2;rw [List.length_append] at h2;simp only [Zaz, Zpc, hB, ZM];rw [if_pos (ZR (by unfold Cap; lia))];simp only [Option.map_some];have : ZF o ++ ZF ((os.getD u []).filter fun s => !o.contains s) = ZF (Jn os o u) := by unfold ZF Jn; simp
  rw [this, Zkk]
noncomputable abbrev usE : DE := Zq 2 (emL (D.var 1)) { it := (I.val (D.call Zo [(D.var 7)])), tp := false, tgt := (fun d σ => some (σ.set 1 (some d))), ifs := (T.all [(T.cmp vgt (D.bin Zc (D.bin Zc (D.var 2) (D.var 1)) (D.var 9)) (D.const (.int 0)))]) } [] (.list [])
theorem ZtW {N : Mat} {wk wd : V} {c f o u l s : Option V} {v : Nat} (hv : v < 8) {B : Bx} : usE (dSt N wk wd c f (some (.int (v : Int))) o u l s) B = some (.list (ZF ((List.range v).filter fun u => decide (0 < N u v))), B) := by
 have := Jb (f := D.var 1) (it := I.val (D.call Zo [(D.var 7)])) (ifs := T.all [(T.cmp vgt (D.bin Zc (D.bin Zc (D.var 2) (D.var 1)) (D.var 9)) (D.const (.int 0)))]) (tp := false) (σ := dSt N wk wd c f (some (.int (v : Int))) o u l s) (B := B) (B₁ := B) (xs := ZF (List.range v))
  (ZeY fun u => decide (0 < N u v)) (fun x => x) (ZQ (d := .range 0 (v : Int)) (Yd rfl rfl) (YI (by lia)))
  (fun x hx => by
   refine Ze (List.mem_map.mp hx) fun u' hu' z_2 => ?_;subst z_2;have hu' := List.mem_range.mp hu';refine ⟨ZbV (Yf (Zf (Zf rfl rfl (Ze3 (show u' < 8 by lia))) rfl (ZfM hv)) rfl ?_), fun _ => rfl⟩;rw [Zbp];rfl)
  (by rw [ZM, List.length_range]; unfold Cap; lia)
 rw [Zam, List.map_id'] at this;exact this
noncomputable abbrev Zlo : DS := S.loopS (I.val usE) (fun d σ => some (σ.set 9 (some d))) ZsO S.skip
theorem ZpR {N : Mat} {wk wd X : V} {C : Cnt} {c f l s u0 : Option V} {os : List (List Nat)} (hv : os.length < 8) (hok : JD os) :
  ∃ u, Zlo (dSt N wk wd c f (some (.int (os.length : Int))) (some (.box (11 + os.length))) u0 l s) (dB X C os.length (os ++ [Xk os.length])) =
   some (.next, dSt N wk wd c f (some (.int (os.length : Int))) (some (.box (11 + os.length))) u l s, dB X C os.length (os ++ [J8 N os os.length])) := by
 refine YU (Jo (f := fun (v : Nat) => V.int (v : Int)) (els := S.skip) (tgt := fun d σ => some (σ.set 9 (some d))) (body := ZsO)
  (fun L σ B' => ∃ (u : Option V) (o : List Nat), (∀ u ∈ L, u < os.length) /\ Zas o /\ L.foldl (Jn os) o = J8 N os os.length /\ σ = dSt N wk wd c f (some (.int (os.length : Int))) (some (.box (11 + os.length))) u l s /\ B' = dB X C os.length (os ++ [o]))
  (fun u' L σ B' h => JQ h fun u o hL ho hC hσ hB => by
    rw [hσ, hB];exact ⟨_, _, _, rfl, Zsl (hL u' (.head _)) (by lia) hok ho, _, Jn os o u', fun c' h => hL c' (List.mem_cons_of_mem _ h), Zcu hok ho, hC, rfl, rfl⟩)
  (ZQ (ZtW (wk := wk) (wd := wd) (c := c) (f := f) (o := some (.box (11 + os.length))) (u := u0) (l := l) (s := s) hv) rfl)
  ⟨u0, Xk os.length, fun u h => List.mem_range.mp (List.mem_filter.mp h).1, Zer _, rfl, rfl, rfl⟩) fun σ' B' h e => JQ h fun u o hL ho hC hσ hB => ?_
 rw [hσ, hB, show o = _ from hC] at e;exact ⟨u, e⟩
noncomputable abbrev ZhG : DS := S.seq (S.assign 8 (D.ite (T.cmp vlt (D.var 7) (D.const (.int 3))) (XE (D.list [(D.var 7)])) (XE (D.list [])))) (S.seq Zlo (S.expr (D.meth YK Jj (D.var 6) [(D.var 8)])))
theorem Zok {N : Mat} {wk wd X : V} {C : Cnt} {c f l s o0 u0 : Option V} {os : List (List Nat)} (hv : os.length < 8) (hok : JD os) :
  ∃ u, ZhG (dSt N wk wd c f (some (.int (os.length : Int))) o0 u0 l s) (dB X C os.length os) =
   some (.next, dSt N wk wd c f (some (.int (os.length : Int))) (some (.box (11 + os.length))) u l s, dB X C (os.length + 1) (os ++ [J8 N os os.length])) := by
 obtain ⟨u, e⟩ := ZpR (N := N) (wk := wk) (wd := wd) (X := X) (C := C) (c := c) (f := f) (l := l) (s := s) (u0 := u0) hv hok
 have e1 : S.assign 8 (D.ite (T.cmp vlt (D.var 7) (D.const (.int 3))) (XE (D.list [(D.var 7)])) (XE (D.list []))) (dSt N wk wd c f (some (.int (os.length : Int))) o0 u0 l s) (dB X C os.length os) =
   some (.next, dSt N wk wd c f (some (.int (os.length : Int))) (some (.box (11 + os.length))) u0 l s, dB X C os.length (os ++ [Xk os.length])) := by
  refine ZD (d := .box (11 + os.length)) ?_
  by_cases h : os.length < 3
  ·rw [Zj4 (Yf rfl rfl (by simp only [vlt]; congr 1; rw [decide_eq_true_eq]; lia))]
   have : Xk os.length = [os.length] := by unfold Xk; rw [if_pos h]
   rw [this, <- ZkY, <- ZoI X C os.length os];rfl
  ·rw [Zke (Yf rfl rfl (by simp only [vlt]; congr 1; rw [decide_eq_false_iff_not]; lia))]
   have : Xk os.length = [] := by unfold Xk; rw [if_neg h]
   rw [this, <- ZkY, <- ZoI X C os.length os];rfl
 have e3 : S.expr (D.meth YK Jj (D.var 6) [(D.var 8)]) (dSt N wk wd c f (some (.int (os.length : Int))) (some (.box (11 + os.length))) u l s) (dB X C os.length (os ++ [J8 N os os.length])) =
   some (.next, dSt N wk wd c f (some (.int (os.length : Int))) (some (.box (11 + os.length))) u l s, dB X C (os.length + 1) (os ++ [J8 N os os.length])) := by
  refine ZcE (d := .none) (XS (o := .box 10) rfl ?_ (e := .box (11 + os.length)) rfl ?_)
  ·unfold YK Zx; simp only [ZeO]; rfl
  ·simp only [Za4, ZhS, ZeO]
   rw [if_pos (ZR (by unfold Zfr Cap; simp; lia))];simp only [Option.map_some];rw [<- Zmv, Zi9]
 exact ⟨u, (Yi e1).trans ((Yi e).trans e3)⟩
theorem Zmb {N : Mat} {wk wd X : V} {C : Cnt} {c f v0 o0 u0 l s : Option V} :
  ∃ v o u, S.loopS (I.val (D.call Zo [(D.const (.int 8))])) (fun d σ => some (σ.set 7 (some d))) ZhG S.skip (dSt N wk wd c f v0 o0 u0 l s) (dB X C 0 []) =
   some (.next, dSt N wk wd c f v o u l s, dB X C 8 (YB N 8)) := by
 obtain ⟨yy, e⟩ := Zbo (Y := Option V × Option V × Option V) (it := I.val (D.call Zo [(D.const (.int 8))])) (tgt := fun d σ => some (σ.set 7 (some d))) (body := ZhG)
  8 (fun k => V.int (k : Int)) (fun _ y => dSt N wk wd c f y.1 y.2.1 y.2.2 l s) (fun k => dB X C k (YB N k)) (y0 := (v0, o0, u0))
  (fun k y hk => by
   have hok := Zcv N k;obtain ⟨u', e⟩ := Zok (N := N) (wk := wk) (wd := wd) (X := X) (C := C) (c := c) (f := f) (l := l) (s := s) (o0 := y.2.1) (u0 := y.2.2) (os := YB N k) (by rw [hok.2]; exact hk) hok.1;rw [hok.2, <- Zb5] at e;exact ⟨dSt N wk wd c f (some (.int (k : Int))) y.2.1 y.2.2 l s, (_, _, u'), rfl, e⟩)
  (ZQ (B₁ := dB X C 0 []) (d := .range 0 ((8 : Nat) : Int)) rfl (YI (by decide)))
 exact ⟨_, _, _, e⟩
noncomputable def Xq (os : List (List Nat)) : List Nat := Jn os (os.getD 5 []) 6
noncomputable def Zf3 (os : List (List Nat)) (s : Nat) : Int := (if (os.getD 5 []).contains s then 1 else 0) + (if (os.getD 6 []).contains s then 1 else 0)
noncomputable def Zin (w : Nat -> Str) (C : Cnt) (os : List (List Nat)) (s : Nat) : V := .tup [.str (w s), .int (C 5 s + C 6 s), .int (Zf3 os s)]
noncomputable def Zgk (w : Nat -> Str) (C : Cnt) (os : List (List Nat)) (v : Nat) : V := .list ((os.getD v []).map fun s => .tup [.str (w s), .int (C v s)])
noncomputable def Zfi (w : Nat -> Str) (C : Cnt) (os : List (List Nat)) : V :=
 .list ((List.range 8).map (Zgk w C os) ++ [.list ((Xq os).map fun s => .tup [.str (w s), .int (C 5 s + C 6 s)]), .list ((Xq os).map fun s => .tup [.str (w s), .tup [.int (C 5 s + C 6 s), .int (Zf3 os s)]])])
section
variable {N : Mat} {wk X : V} {C : Cnt} {base : Nat} {os : List (List Nat)} {c f v o u l s : Option V}
theorem Zbx (h8 : os.length = 8) {i : Nat} (hi : i < 8) : os[i]? = some (os.getD i []) := by
 rw [List.getD_eq_getElem?_getD, List.getElem?_eq_getElem (by lia)]; rfl
theorem ZgI (h8 : os.length = 8) {i : Nat} (hi : i < 8) : Zc (dB X C 8 os) (.box 10) (.int (i : Int)) = some (.box (11 + i)) := by
 rw [JK (ZeO X C _ _) (by unfold Zfr; simpa using hi) (by lia), Zjm hi]
theorem ZpD {i : Nat} (hi : i < 8) : Zc (dB X C 8 os) (.box 9) (.int (i : Int)) = some (.box (1 + i)) := by
 have h : (dB X C 8 os)[9]? = some (.list Zhv) := by rw [Zpy X C _ _ (by decide), ZoS]
 rw [JK h (by show i < 8; exact hi) (by lia), ZfE hi]
theorem Zpg {i s : Nat} (hi : i < 8) (hs : s < 3) : Zc (dB X C 8 os) (.box (1 + i)) (.int (s : Int)) = some (.int (C i s)) :=
 ZfA (by rw [Zpy X C _ _ (by lia), Zjz X C hi]) hs
theorem Zsv (h8 : os.length = 8) {i : Nat} (hi : i < 8) (s : Nat) : vin (dB X C 8 os) (.int (s : Int)) (.box (11 + i)) = some ((os.getD i []).contains s) := by
 have hB := Za9 X C 8 os (Zbx h8 hi);simp only [vin, Jl, hB];simp only [ZmO, Zx, hB];exact ZcF s _
theorem ZrE (h8 : os.length = 8) {i : Nat} (hi : i < 8) : Zaf (dB X C 8 os) (.box (11 + i)) = some (.box (11 + i) 0) := by
 simp only [Zaf, Za9 X C 8 os (Zbx h8 hi)]
theorem ZkD {B : Bx} {s : Nat} (hs : s < 10) : Zc B (.list (ZB base 10)) (.int (s : Int)) = some (.str (wAt base s)) := by
 rw [Y0 (by rw [Zc3]; exact hs) (by lia), ZbN hs]
theorem ZpA (h8 : os.length = 8) (hok : JD os) : S.assign 10 (D.bin ZE (D.bin Zc (D.var 6) (D.const (.int 5))) (Zq 2 (emL (D.var 1)) { it := (I.val (D.bin Zc (D.var 6) (D.const (.int 6)))), tp := false, tgt := (fun d σ => some (σ.set 1 (some d))), ifs := (T.all [(T.cmp Jp (D.var 1) (D.bin Zc (D.var 8) (D.const (.int 5))))]) } [] (.list [])))
  (dSt N wk (.list (ZB base 10)) c f v o u l s) (dB X C 8 os) = some (.next, dSt N wk (.list (ZB base 10)) c f v o u (some (.list (ZF (Xq os)))) s, dB X C 8 os) := by
 have o5 : Zas (os.getD 5 []) := hok _ (List.mem_of_getElem? (Zbx h8 (by decide)));have o6 : Zas (os.getD 6 []) := hok _ (List.mem_of_getElem? (Zbx h8 (by decide)));have e1 : D.bin Zc (D.var 6) (D.const (.int 5)) (dSt N wk (.list (ZB base 10)) c f v o u l s) (dB X C 8 os) = some (.box 16, dB X C 8 os) := Zf rfl rfl (ZgI (i := 5) h8 (by decide))
 have e2 := ZhY (f := D.var 1) (it := I.val (D.bin Zc (D.var 6) (D.const (.int 6)))) (ifs := T.all [(T.cmp Jp (D.var 1) (D.bin Zc (D.var 8) (D.const (.int 5))))]) (tp := false) (σ := dSt N wk (.list (ZB base 10)) c f v o u l s) (B := dB X C 8 os) (n := 17) (xs := ZF (os.getD 6 []))
  (ZeY fun s => !(os.getD 5 []).contains s) (fun x => x) (ZQ (d := .box 17) (Zf rfl rfl (ZgI (i := 6) h8 (by decide))) (ZrE (i := 6) h8 (by decide))) (Za9 X C 8 os (Zbx h8 (i := 6) (by decide)))
  (fun x hx => by
   refine Ze (List.mem_map.mp hx) fun s' _ z_2 => ?_;subst z_2;refine ⟨ZbV (Yf (d := .int (s' : Int)) (e := .box 16) rfl (Zf rfl rfl (ZgI (i := 5) h8 (by decide))) ?_), fun _ => rfl⟩;rw [Zbp];show (vin _ _ (.box (11 + 5))).map (!·) = _;rw [Zsv h8 (i := 5) (by decide)]; rfl)
  (by rw [ZM]; have := o6.len; unfold Cap; lia)
 rw [Zam, List.map_id'] at e2;refine ZD (d := .list (ZF (Xq os))) (Zf e1 e2 ?_);have h16 := Za9 X C 8 os (Zbx h8 (i := 5) (by decide))
 have hl : (ZF (os.getD 5 [])).length + (ZF ((os.getD 6 []).filter fun s => !(os.getD 5 []).contains s)).length <= Cap := by
  rw [ZM, ZM];have h1 := o5.len;have h2 := o6.len;have h3 := List.length_filter_le (fun s => !(os.getD 5 []).contains s) (os.getD 6 []);unfold Cap; lia
 rw [Zqn (show Zx (dB X C 8 os) (.box (11 + 5)) = some (ZF (os.getD 5 [])) by simp only [Zx, h16])];rw [if_pos (ZR hl)];unfold ZF Xq Jn;rw [List.map_append]
theorem Zg5 (h8 : os.length = 8) (hok : JD os) : Zas (Xq os) := Zcu hok (hok _ (List.mem_of_getElem? (Zbx h8 (by decide))))
theorem Zpz (h8 : os.length = 8) (hok : JD os) : S.assign 11 (Zq 2 (emL (D.tup [(D.bin Zc (D.var 4) (D.var 1)), (D.bin ZE (D.bin Zc (D.bin Zc (D.var 5) (D.const (.int 5))) (D.var 1)) (D.bin Zc (D.bin Zc (D.var 5) (D.const (.int 6))) (D.var 1))), (D.bin ZE (D.call ZkF [(D.bin (bv vin) (D.var 1) (D.bin Zc (D.var 8) (D.const (.int 5))))]) (D.call ZkF [(D.bin (bv vin) (D.var 1) (D.bin Zc (D.var 8) (D.const (.int 6))))]))])) { it := (I.val (D.var 10)), tp := false, tgt := (fun d σ => some (σ.set 1 (some d))), ifs := (T.all []) } [] (.list []))
  (dSt N wk (.list (ZB base 10)) c f v o u (some (.list (ZF (Xq os)))) s) (dB X C 8 os) = some (.next, dSt N wk (.list (ZB base 10)) c f v o u (some (.list (ZF (Xq os)))) (some (.list ((Xq os).map (Zin (wAt base) C os)))), dB X C 8 os) := by
 have hlo := Zg5 h8 hok
 have := Jb (f := D.tup [(D.bin Zc (D.var 4) (D.var 1)), (D.bin ZE (D.bin Zc (D.bin Zc (D.var 5) (D.const (.int 5))) (D.var 1)) (D.bin Zc (D.bin Zc (D.var 5) (D.const (.int 6))) (D.var 1))), (D.bin ZE (D.call ZkF [(D.bin (bv vin) (D.var 1) (D.bin Zc (D.var 8) (D.const (.int 5))))]) (D.call ZkF [(D.bin (bv vin) (D.var 1) (D.bin Zc (D.var 8) (D.const (.int 6))))]))])
  (it := I.val (D.var 10)) (ifs := T.all []) (tp := false) (σ := dSt N wk (.list (ZB base 10)) c f v o u (some (.list (ZF (Xq os)))) s) (B := dB X C 8 os) (B₁ := dB X C 8 os) (xs := ZF (Xq os))
  (fun _ => true) (ZbQ (Zin (wAt base) C os)) rfl
  (fun x hx => by
   refine Ze (List.mem_map.mp hx) fun s' hs' z_2 => ?_;subst z_2;have hs3 := hlo.lt s' hs';refine ⟨rfl, fun _ => ?_⟩;rw [Xx];refine Zk6 (Zf rfl rfl (ZkD (by lia))) (Zf (Zf (Zf rfl rfl (ZpD (i := 5) (by decide))) rfl (Zpg (by decide) hs3)) (Zf (Zf rfl rfl (ZpD (i := 6) (by decide))) rfl (Zpg (by decide) hs3)) rfl) (Zf (Yd (d := .bool ((os.getD 5 []).contains s')) (Zf (d := .int (s' : Int)) (e := .box (11 + 5)) rfl (Zf rfl rfl (ZgI (i := 5) h8 (by decide))) ?_) rfl) (Yd (d := .bool ((os.getD 6 []).contains s')) (Zf (d := .int (s' : Int)) (e := .box (11 + 6)) rfl (Zf rfl rfl (ZgI (i := 6) h8 (by decide))) ?_) rfl) rfl)
   ·unfold bv; rw [Zsv h8 (by decide)]; rfl
   ·unfold bv; rw [Zsv h8 (by decide)]; rfl)
  (by rw [ZM]; have := hlo.len; unfold Cap; lia)
 rw [List.filter_eq_self.mpr (fun _ _ => rfl), Jd] at this;exact ZD this
noncomputable abbrev Zuq : DE := Zq 2 (emL (Zq 2 (emL (D.tup [(D.bin Zc (D.var 6) (D.var 1)), (D.bin Zc (D.bin Zc (D.var 7) (D.var 3)) (D.var 1))])) { it := (I.val (D.bin Zc (D.var 8) (D.var 1))), tp := false, tgt := (fun d σ => some (σ.set 1 (some d))), ifs := (T.all []) } [] (.list []))) { it := (I.val (D.call Zo [(D.const (.int 8))])), tp := false, tgt := (fun d σ => some (σ.set 1 (some d))), ifs := (T.all []) } [] (.list [])
theorem Zq9 (h8 : os.length = 8) (hok : JD os) : Zuq (dSt N wk (.list (ZB base 10)) c f v o u l s) (dB X C 8 os) = some (.list ((List.range 8).map (Zgk (wAt base) C os)), dB X C 8 os) := by
 have := Jb (f := Zq 2 (emL (D.tup [(D.bin Zc (D.var 6) (D.var 1)), (D.bin Zc (D.bin Zc (D.var 7) (D.var 3)) (D.var 1))])) { it := (I.val (D.bin Zc (D.var 8) (D.var 1))), tp := false, tgt := (fun d σ => some (σ.set 1 (some d))), ifs := (T.all []) } [] (.list []))
  (it := I.val (D.call Zo [(D.const (.int 8))])) (ifs := T.all []) (tp := false) (σ := dSt N wk (.list (ZB base 10)) c f v o u l s) (B := dB X C 8 os) (B₁ := dB X C 8 os) (xs := ZF (List.range 8))
  (fun _ => true) (ZbQ (Zgk (wAt base) C os)) (ZQ (d := .range 0 ((8 : Nat) : Int)) rfl (YI (by decide)))
  (fun x hx => by
   refine Ze (List.mem_map.mp hx) fun i hi z_2 => ?_;subst z_2;have hi := List.mem_range.mp hi;have oi : Zas (os.getD i []) := hok _ (List.mem_of_getElem? (Zbx h8 hi));refine ⟨rfl, fun _ => ?_⟩;rw [Xx]
   have e2 := ZhY (f := D.tup [(D.bin Zc (D.var 6) (D.var 1)), (D.bin Zc (D.bin Zc (D.var 7) (D.var 3)) (D.var 1))]) (it := I.val (D.bin Zc (D.var 8) (D.var 1))) (ifs := T.all []) (tp := false) (σ := none :: some (.int (i : Int)) :: dSt N wk (.list (ZB base 10)) c f v o u l s) (B := dB X C 8 os) (n := 11 + i) (xs := ZF (os.getD i []))
    (fun _ => true) (ZbQ fun s => .tup [.str (wAt base s), .int (C i s)]) (ZQ (d := .box (11 + i)) (Zf rfl rfl (ZgI h8 hi)) (ZrE h8 hi)) (Za9 X C 8 os (Zbx h8 hi))
    (fun x hx => by
     refine Ze (List.mem_map.mp hx) fun s' hs' z_2 => ?_;subst z_2;have hs3 := oi.lt s' hs';refine ⟨rfl, fun _ => ?_⟩;rw [Xx];exact ZdO (Zf rfl rfl (ZkD (by lia))) (Zf (Zf rfl rfl (ZpD hi)) rfl (Zpg hi hs3)))
    (by rw [ZM]; have := oi.len; unfold Cap; lia)
   rw [List.filter_eq_self.mpr (fun _ _ => rfl), Jd] at e2;exact e2)
  (by rw [ZM]; simp [Cap])
 rw [List.filter_eq_self.mpr (fun _ _ => rfl), Jd] at this;exact this
noncomputable abbrev s2E : DE := Zq 2 (emL (D.slice ZiU (D.var 1) none (some (D.const (.int 2))))) { it := (I.val (D.var 11)), tp := false, tgt := (fun d σ => some (σ.set 1 (some d))), ifs := (T.all []) } [] (.list [])
noncomputable abbrev s3E : DE := Zq 4 (emL (D.tup [(D.var 1), (D.tup [(D.var 2), (D.var 3)])])) { it := (I.val (D.var 11)), tp := false, tgt := (S.parts [1, 2, 3]), ifs := (T.all []) } [] (.list [])
theorem ZsV (h8 : os.length = 8) (hok : JD os) {B : Bx} : s2E (dSt N wk (.list (ZB base 10)) c f v o u l (some (.list ((Xq os).map (Zin (wAt base) C os))))) B = some (.list ((Xq os).map fun s => .tup [.str (wAt base s), .int (C 5 s + C 6 s)]), B) := by
 have := Jb (f := D.slice ZiU (D.var 1) none (some (D.const (.int 2)))) (it := I.val (D.var 11)) (ifs := T.all []) (tp := false) (σ := dSt N wk (.list (ZB base 10)) c f v o u l (some (.list ((Xq os).map (Zin (wAt base) C os))))) (B := B) (B₁ := B) (xs := (Xq os).map (Zin (wAt base) C os))
  (fun _ => true) (fun x => match x with | .tup xs => .tup (xs.take 2) | _ => .none) rfl
  (fun x hx => by
   refine Ze (List.mem_map.mp hx) fun s' hs' z_2 => ?_;subst z_2;exact ⟨rfl, fun _ => rfl⟩)
  (by rw [List.length_map]; have := (Zg5 h8 hok).len; unfold Cap; lia)
 rw [List.filter_eq_self.mpr (fun _ _ => rfl), List.map_map] at this;exact this
theorem ZsS (h8 : os.length = 8) (hok : JD os) {B : Bx} : s3E (dSt N wk (.list (ZB base 10)) c f v o u l (some (.list ((Xq os).map (Zin (wAt base) C os))))) B = some (.list ((Xq os).map fun s => .tup [.str (wAt base s), .tup [.int (C 5 s + C 6 s), .int (Zf3 os s)]]), B) := by
 have := ZtO (f := D.tup [(D.var 1), (D.tup [(D.var 2), (D.var 3)])]) (it := I.val (D.var 11)) (ifs := T.all []) (tp := false) (σ := dSt N wk (.list (ZB base 10)) c f v o u l (some (.list ((Xq os).map (Zin (wAt base) C os))))) (B := B) (B₁ := B) (xs := (Xq os).map (Zin (wAt base) C os))
  (fun _ => true) (fun x => match x with | .tup [a, b, d] => .tup [a, .tup [b, d]] | _ => .none) rfl
  (fun x hx => by
   refine Ze (List.mem_map.mp hx) fun s' hs' z_2 => ?_;subst z_2;exact ⟨_, _, _, rfl, rfl, fun _ => rfl⟩)
  (by rw [List.length_map]; have := (Zg5 h8 hok).len; unfold Cap; lia)
 rw [List.filter_eq_self.mpr (fun _ _ => rfl), List.map_map] at this;exact this
end
theorem ZjT (w : Nat -> Str) (C : Cnt) (os : List (List Nat)) : Yc 6 (Zfi w C os) = true := by
 show ((List.range 8).map (Zgk w C os) ++ _ : List V).all (Yc 5) = true;rw [List.all_append, Bool.and_eq_true]
 constructor
 ·rw [List.all_eq_true]
  intro x hx;refine Ze (List.mem_map.mp hx) fun v _ z_2 => ?_;subst z_2;simp [Zgk, Yc]
 ·simp [Yc]
noncomputable def ZV : VF := ZhM (fun (p : Mat × Nat) B ds => (∃ X, B = [X]) /\ ZS p.1 20 /\ p.2 <= 22 /\ ds = [YR p.1, XB p.1, .list (ZB p.2 10)]) fun p => Zfi (wAt p.2) (Zbf p.1) (YB p.1 8)
theorem Zl4 {N : Mat} (hN : ZS N 20) {base : Nat} (hb : base <= 22) {X : V} : ZV [X] [YR N, XB N, .list (ZB base 10)] = some (Zfi (wAt base) (Zbf N) (YB N 8), [X]) :=
 ZdD (a := (N, base)) ⟨⟨X, rfl⟩, hN, hb, rfl⟩ fun p ⟨_, h1, h2, h3⟩ => by
  injection h3 with h3 h4
  injection h4 with _ h4
  injection h4 with h4 _
  injection h4 with h4
  rw [ZfZ hN h1 h3, ZfG hb h2 h4]
theorem Zgl : Runs ZaY Zan ["net", "walks", "words"] ZV := Zcc fun p B ds ⟨⟨X, hX⟩, hN, hb, hds⟩ => by
 obtain ⟨N, base⟩ := p;simp only at hN hb hds;subst hX hds;obtain ⟨h1, h8⟩ := Zcv N 8;refine Zei (Zn7 (N := N) (X := X) (a := some (YR N)) (b := some (.list (ZB base 10))) (τ := [none, none, none, none, none, none])) fun c f e1 => ?_;refine Zrk (Zmb (N := N) (wk := XB N) (wd := .list (ZB base 10)) (X := X) (C := Zbf N) (c := c) (f := f) (v0 := none) (o0 := none) (u0 := none) (l := none) (s := none)) fun v o u e2 => ?_;refine ⟨rfl, (dB X (Zbf N) 8 (YB N 8)).tail, Zfi (wAt base) (Zbf N) (YB N 8), 6, ?_, Jr 6 _ (ZjT _ _ _)⟩;have hB : [X] ++ (dB X (Zbf N) 8 (YB N 8)).tail = dB X (Zbf N) 8 (YB N 8) := rfl;rw [hB];refine Zi (σ₁ := [some (YR N), some (XB N), some (.list (ZB base 10)), some (.box 9), none, none, none, none, none, none, none, none]) (B₁ := cB X fun _ _ => 0) rfl ?_;refine Zi e1 ?_;refine Zi (σ₁ := dSt N (XB N) (.list (ZB base 10)) c f none none none none none) (B₁ := dB X (Zbf N) 0 []) rfl ?_;refine Zi e2 (Zi (ZpA h8 h1) (Zi (Zpz h8 h1) (YD ?_)));refine Zf (Zq9 h8 h1) (e := .list [.list ((Xq (YB N 8)).map fun s => .tup [.str (wAt base s), .int (Zbf N 5 s + Zbf N 6 s)]), .list ((Xq (YB N 8)).map fun s => .tup [.str (wAt base s), .tup [.int (Zbf N 5 s + Zbf N 6 s), .int (Zf3 (YB N 8) s)]])]) (B₂ := dB X (Zbf N) 8 (YB N 8)) ?_ ?_
 ·simp only [D.list, D.row, ZsV h8 h1, ZsS h8 h1]
 ·simp only [ZeM, Zx, List.length_map, List.length_range, List.length_cons, List.length_nil]
  rw [if_pos (by decide)];rfl
section
variable {σ : St} {B : Bx} {N : Mat} {b : Nat} {bk : Bk}
theorem Ze0 (hk : Zc0 bk) {w : Nat -> Str} {t : Nat} (ht : t < 8) : Zc B (.list (ZO w bk)) (.int (t : Int)) = some (XG w (bk t)) := by
 rw [Y0 (by rw [JU]; exact ht) (by lia), Zgx ht]
noncomputable def Zaq (w : Nat -> Str) (o : List Nat) (f : Nat -> Int × Int) : V := .dict (o.map w) (o.map fun s => .tup [.int (f s).1, .int (f s).2])
noncomputable def Js (o : List Nat) (s : Nat) : Int := if o.contains s then 1 else 0
noncomputable def Zeg (b : Zak) (s : Nat) : Int × Int := (b.2 s, Js b.1 s)
theorem Zim {w : Nat -> Str} (hw : ∀ s < 10, ∀ t < 10, w s = w t -> s = t) {x y : Zak} (h : J2 x) (h' : J2 y) {B : Bx} :
  Zm B [Zaq w x.1 (Zeg x), Zaq w y.1 (Zeg y)] = some (Zaq w (x.1 ++ y.1.filter (· ∉ x.1)) fun s => (y.2 s + x.2 s, Js y.1 s + Js x.1 s), B) := by
 have z : ∀ (b : Zak), J2 b -> ∀ s, s ∉ b.1 -> Zeg b s = (0, 0) := fun b hb s hs => by
  unfold Zeg Js;rw [hb.zero s hs, if_neg (by rw [List.contains_iff_mem]; exact hs)]
 refine ZgU (fun p : Int × Int => .tup [.int p.1, .int p.2]) (fun a b => (b.1 + a.1, b.2 + a.2)) (Zeg x) (Zeg y) x.1 y.1 Zm5 (fun _ => rfl) h.nodup h'.nodup h.lt h'.lt (fun s hs => ?_) (fun s hs => ?_) hw
 ·rw [z x h s hs]
  exact Prod.ext (Int.add_zero _) (Int.add_zero _)
 ·rw [z y h' s hs]
  exact Prod.ext (Int.zero_add _) (Int.zero_add _)
noncomputable abbrev ZrP (t : Int) : DE := Zq 2 (emD (D.var 1) (D.tup [(D.bin Zc (D.bin Zc (D.var 9) (D.const (.int t))) (D.var 1)), (D.const (.int 1))])) { it := (I.val (D.bin Zc (D.var 7) (D.const (.int t)))), tp := false, tgt := (fun d σ => some (σ.set 1 (some d))), ifs := (T.all []) } [] (.dict [] [])
theorem ZkV {w : Nat -> Str} (hw : ∀ s < 10, ∀ t < 10, w s = w t -> s = t) (hk : Zc0 bk) (h7 : σ[7]? = some (some (.list (ZO w bk)))) {t : Nat} (ht : t < 8) :
  ZrP (t : Int) σ B = some (Zaq w (bk t).1 (Zeg (bk t)), B) := by
 have ho := hk t;have hlen := YQ ho.nodup ho.lt
 have hsrc : I.val (D.bin Zc (D.var 7) (D.const (.int (t : Int)))) σ B = some (.seq ((bk t).1.map fun s => V.str (w s)), B) := by
  refine ZQ (d := XG w (bk t)) (Zf (Zt h7) rfl (Ze0 hk ht)) ?_;simp only [XG, Zaf, List.map_map];rfl
 have hex : ∀ x : V, ∃ s, (∃ s' ∈ (bk t).1, x = V.str (w s')) -> s ∈ (bk t).1 /\ x = V.str (w s) := fun x => by
  by_cases h : ∃ s' ∈ (bk t).1, x = V.str (w s')
  ·obtain ⟨s', h1, h2⟩ := h; exact ⟨s', fun _ => ⟨h1, h2⟩⟩
  ·exact ⟨0, fun h' => absurd h' h⟩
 have main := Zs4 (fk := D.var 1) (fv := D.tup [(D.bin Zc (D.bin Zc (D.var 9) (D.const (.int (t : Int)))) (D.var 1)), (D.const (.int 1))]) (it := I.val (D.bin Zc (D.var 7) (D.const (.int (t : Int))))) (ifs := T.all []) (tp := false) (σ := σ) (B := B) (B₁ := B)
  (fun x => match x with | .str y => y | _ => ⟨#[]⟩) (fun x => match x with | .str y => (match X5 ((bk t).1.map w) ((bk t).1.map fun s => V.int ((bk t).2 s)) y with | some d => .tup [d, .int 1] | none => .none) | _ => .none) hsrc
  (fun x hx => by
   refine Ze (List.mem_map.mp hx) fun s hs z_2 => ?_;subst z_2
   have hl : X5 ((bk t).1.map w) ((bk t).1.map fun s => V.int ((bk t).2 s)) (w s) = some (.int ((bk t).2 s)) :=
    Zds (β := fun s => V.int ((bk t).2 s)) (fun s' hs' e => hw s' (by have := ho.lt s' hs'; lia) s (by have := ho.lt s hs; lia) e) hs
   refine ⟨rfl, rfl, ?_⟩;simp only [hl];refine ZdO (Zf (d := XG w (bk t)) (Zf (Zt (i := 9) (σ := none :: some (.str (w s)) :: σ) h7) rfl (Ze0 hk ht)) rfl ?_) rfl;show X5 _ _ _ = _;exact hl)
  (by
   rw [List.map_map];exact Zdw (fun s hs s' hs' e => hw s (by have := ho.lt s hs; lia) s' (by have := ho.lt s' hs'; lia) e) ho.nodup)
  (by rw [List.length_map]; unfold Cap; lia)
 unfold ZrP;rw [main];unfold Zaq;rw [List.map_map, List.map_map];congr 3;apply List.map_congr_left;intro s hs
 have hl : X5 ((bk t).1.map w) ((bk t).1.map fun s => V.int ((bk t).2 s)) (w s) = some (.int ((bk t).2 s)) :=
  Zds (β := fun s => V.int ((bk t).2 s)) (fun s' hs' e => hw s' (by have := ho.lt s' hs'; lia) s (by have := ho.lt s hs; lia) e) hs
 simp only [Function.comp, hl, Zeg, Js];rw [if_pos (by simpa using hs)]
noncomputable def Xl (b : Nat) (c : List Nat) : Nat := (c.map fun v => 2 ^ (b + v)).sum
noncomputable def Xi (v : Nat) : Str := ⟨#[97 + v]⟩
noncomputable def Jw (c : List Nat) : Str := Txt.join "" (c.map Xi)
noncomputable def chR (N : Mat) (b : Nat) (c : List Nat) : V := Jv (ZF c) (.int (wgt N c)) (Xl b c) [.str (Jw c)]
theorem Zq8 {B : Bx} : ∀ v : Nat, v < 8 -> Zc B (.str "abcdefgh") (.int (v : Int)) = some (.str (Xi v)) := by
 intro v hv;have hl : (("abcdefgh" : Str)).length = 8 := by decide +kernel
 rw [Zd6];unfold ZgP;rw [if_pos (ZcX (by lia)), hl, Zbs hv];simp only [Option.bind_some];have e : ∀ j < 8, (("abcdefgh" : Str)).cps[j]? = some (97 + j) := by decide +kernel
 rw [e v hv];rfl
theorem ZnC (l : List Nat) : ((l.map fun (v : Nat) => (v : Int)).sum) = ((l.sum : Nat) : Int) := by
 induction l with
 | nil => rfl
 | cons x l ih => simp only [List.map_cons, List.sum_cons, ih]; lia
theorem Zqt {k : Nat} (h : k <= 1000) : ZfD B (.int 1) (.int (k : Int)) = some (.int ((2 ^ k : Nat) : Int)) := by
 simp only [ZfD];rw [if_pos (by simp only [Bool.and_eq_true, decide_eq_true_eq]; exact ⟨⟨by lia, by lia⟩, by decide⟩), Int.toNat_natCast, Int.one_mul];simp
noncomputable abbrev Zsn : DE := D.tup [(D.var 1), (D.var 2), (D.call Zi6 [(Zq 2 (emL (D.bin ZfD (D.const (.int 1)) (D.bin ZE (D.var 8) (D.var 1)))) { it := (I.val (D.var 1)), tp := false, tgt := (fun d σ => some (σ.set 1 (some d))), ifs := (T.all []) } [] (.list []))]), (D.meth Y8 ZcO (D.const (.str "")) [(Zq 2 (emL (D.bin Zc (D.const (.str "abcdefgh")) (D.var 1))) { it := (I.val (D.var 1)), tp := false, tgt := (fun d σ => some (σ.set 1 (some d))), ifs := (T.all []) } [] (.list []))])]
theorem Zod (h3 : σ[3]? = some (some (.int (b : Int)))) (hb : b <= 22) {c : List Nat} (hlt : ∀ v ∈ c, v < 8) (hlen : c.length <= 8) {x : V} :
  Zsn (none :: some (YT c) :: some x :: σ) B = some (Jv (ZF c) x (Xl b c) [.str (Jw c)], B) := by
 have e1 := Jb (f := D.bin ZfD (D.const (.int 1)) (D.bin ZE (D.var 8) (D.var 1))) (it := I.val (D.var 1)) (ifs := T.all []) (tp := false) (σ := none :: some (YT c) :: some x :: σ) (B := B) (B₁ := B) (xs := ZF c)
  (fun _ => true) (ZbQ fun v => .int ((2 ^ (b + v) : Nat) : Int)) rfl
  (fun y hy => by
   refine Ze (List.mem_map.mp hy) fun v hv z_2 => ?_;subst z_2;have := hlt v hv;refine ⟨rfl, fun _ => ?_⟩;rw [Xx];refine Zf rfl (Zf (Zt (i := 8) (σ := none :: some (.int (v : Int)) :: none :: some (YT c) :: some x :: σ) h3) rfl (c := .int ((b + v : Nat) : Int)) ?_) (Zqt (by lia));show some (V.int ((b : Int) + (v : Int))) = _;rw [Int.natCast_add])
  (by rw [ZM]; unfold Cap; lia)
 rw [List.filter_eq_self.mpr (fun _ _ => rfl), Jd] at e1
 have e2 := Jb (f := D.bin Zc (D.const (.str "abcdefgh")) (D.var 1)) (it := I.val (D.var 1)) (ifs := T.all []) (tp := false) (σ := none :: some (YT c) :: some x :: σ) (B := B) (B₁ := B) (xs := ZF c)
  (fun _ => true) (ZbQ fun v => .str (Xi v)) rfl
  (fun y hy => by
   refine Ze (List.mem_map.mp hy) fun v hv z_2 => ?_;subst z_2;refine ⟨rfl, fun _ => ?_⟩;rw [Xx];exact Zf rfl rfl (Zq8 v (hlt v hv)))
  (by rw [ZM]; unfold Cap; lia)
 rw [List.filter_eq_self.mpr (fun _ _ => rfl), Jd] at e2
 have hs : Zi6 B [.list (c.map fun v => V.int ((2 ^ (b + v) : Nat) : Int))] = some (.int ((Xl b c : Nat) : Int), B) := by
  have hi : Xz (c.map fun v => V.int ((2 ^ (b + v) : Nat) : Int)) = some (c.map fun v => ((2 ^ (b + v) : Nat) : Int)) := by
   rw [show (c.map fun v => V.int ((2 ^ (b + v) : Nat) : Int)) = (c.map fun v => ((2 ^ (b + v) : Nat) : Int)).map V.int by rw [List.map_map]; rfl, ZaI]
  simp only [Zi6, Y4, Zx, hi, Option.map_some];congr 3;unfold Xl;rw [<- ZnC, List.map_map];rfl
 have hj : ZcO B [.str "", .list (c.map fun v => V.str (Xi v))] = some (.str (Jw c), B) := by
  refine Zdj (l := c.map Xi) (by simp [Zx, List.map_map]) ?_
  have h2 := Zfn (l := (c.map Xi).map (·.length)) (c := 1) (fun y hy => by
   simp only [List.map_map, List.mem_map] at hy;refine Ze hy fun j _ z_2 => ?_;clear hy;subst z_2;exact Nat.le_refl _)
  have h3 : (Str.ofString "").length = 0 := by decide +kernel
  simp only [List.length_map] at h2 ⊢;rw [h3];lia
 exact ZlE rfl rfl (Yd e1 hs) (XS rfl rfl e2 hj)
noncomputable def ZdZ : List (List Nat) := (Yz 8).filter fun c => decide (4 < Zs c)
noncomputable def chS (s : Nat) : List (List Nat) := ZdZ.filter fun c => YA c == s
noncomputable def Xw (N : Mat) (b : Nat) (L : List (List Nat)) : List V := (L.filter (Yn N)).map (chR N b)
theorem Zel : ∀ c ∈ Yz 8, (∀ v ∈ c, v < 8) /\ c.length <= 8 /\ c ≠ [] := by decide +kernel
noncomputable abbrev Ztz : DE := Zq 3 (emL Zsn) { it := (I.val (D.var 10)), tp := false, tgt := (S.parts [1, 2]), ifs := (T.all [(T.cmp vgt (D.bin Zc (D.var 1) (D.un YH (D.const (.int 1)))) (D.const (.int 4)))]) } [] (.list [])
theorem Zqb (h3 : σ[3]? = some (some (.int (b : Int)))) (hb : b <= 22) (h10 : σ[10]? = some (some (XB N))) : Ztz σ B = some (.list (Xw N b ZdZ), B) := by
 have hlen : (Yj N (Yz 8)).length <= Cap := by
  have h1 := Zc9 N (Yz 8);have h2 := (ZbF 8 (by lia)).2;unfold Cap; lia
 have main := Zrn (f := Zsn) (it := I.val (D.var 10)) (ifs := T.all [(T.cmp vgt (D.bin Zc (D.var 1) (D.un YH (D.const (.int 1)))) (D.const (.int 4)))]) (tp := false) (σ := σ) (B := B) (B₁ := B) (xs := Yj N (Yz 8))
  (fun x => decide (4 < Zs (Zci x))) (fun x => chR N b (Zci x)) (ZQ (Zt h10) rfl)
  (fun x hx => by
   refine Ze (List.mem_map.mp hx) fun c hc z_2 => ?_;subst z_2;have ho := Zel c (List.mem_filter.mp hc).1;rw [JR];refine ⟨YT c, .int (wgt N c), rfl, ZbV (Yf (ZhW ho.2.2) rfl ?_), fun _ => Zod h3 hb ho.1 ho.2.1⟩;show some (decide ((4 : Int) < (Zs c : Int))) = _;congr 1;rw [decide_eq_decide];lia)
  hlen
 have e : ((Yj N (Yz 8)).filter fun x => decide (4 < Zs (Zci x))).map (fun x => chR N b (Zci x)) = Xw N b ZdZ := by
  unfold Yj Xw ZdZ;rw [List.filter_map, List.map_map]
  have h1 : ((fun x => decide (4 < Zs (Zci x))) ∘ Zal N) = fun c => decide (4 < Zs c) := by
   funext c; simp only [Function.comp, JR]
  have h2 : ((fun x => chR N b (Zci x)) ∘ Zal N) = chR N b := by
   funext c; simp only [Function.comp, JR]
  rw [h1, h2, List.filter_filter, List.filter_filter];congr 2;funext c;rw [Bool.and_comm]
 rw [e] at main;exact main
end
noncomputable def ZbR : V -> List Nat
 | .tup (.list xs :: _) => xs.map fun d => match d with | .int i => i.toNat | _ => 0
 | _ => []
theorem ZmR (c : List Nat) (x : V) (m : Nat) (r : List V) : ZbR (Jv (ZF c) x m r) = c := by
 show (c.map fun (v : Nat) => V.int (v : Int)).map _ = c;rw [List.map_map]
 conv => rhs; rw [<- List.map_id c]
 apply List.map_congr_left;intro v _;simp
theorem Xf (N : Mat) (b : Nat) (c : List Nat) : ZbR (chR N b c) = c := ZmR _ _ _ _
theorem ZkL {c : List Nat} (h : c ∈ ZdZ) : (∀ v ∈ c, v < 8) /\ c.length <= 8 /\ c ≠ [] := Zel c (List.mem_filter.mp h).1
theorem ZiE : ZdZ.length = 196 := by decide +kernel
theorem Zbq (N : Mat) (b : Nat) (L : List (List Nat)) : (Xw N b L).length <= L.length := by
 unfold Xw; rw [List.length_map]; exact List.length_filter_le _ _
theorem ZbC (N : Mat) (b : Nat) (L : List (List Nat)) (p : List Nat -> Bool) : (Xw N b L).filter (fun x => p (ZbR x)) = Xw N b (L.filter p) := by
 unfold Xw;rw [List.filter_map];have h1 : ((fun x => p (ZbR x)) ∘ chR N b) = p := by funext c; simp only [Function.comp, Xf]
 rw [h1, List.filter_filter, List.filter_filter];congr 2;funext c;rw [Bool.and_comm]
theorem Zit {B : Bx} {c : List Nat} (h : c ≠ []) : Zc B (.list (ZF c)) (.int 0) = some (.int (YA c : Int)) := Ze2 h
theorem ZjG {B : Bx} {c : List Nat} (h : c ≠ []) : Zc B (.list (ZF c)) (.int (-1)) = some (.int (Zs c : Int)) := ZcU h
theorem Zi8 {B : Bx} {N : Mat} {b : Nat} {c : List Nat} : Zc B (chR N b c) (.int 0) = some (.list (ZF c)) := ZqC (by simp)
theorem ZrG {B : Bx} {N : Mat} {b : Nat} {c : List Nat} : Zc B (chR N b c) (.int 1) = some (.int (wgt N c)) := by
 unfold chR Jv;have := Zb0 (B := B) (xs := [.list (ZF c), .int (wgt N c), .int ((Xl b c : Nat) : Int), .str (Jw c)]) (k := 1) (by simp) (by lia);exact this
theorem ZrH {B : Bx} {N : Mat} {b : Nat} {c : List Nat} : Zc B (chR N b c) (.int 2) = some (.int ((Xl b c : Nat) : Int)) := ZlT (by simp)
theorem ZrA {B : Bx} {N : Mat} {b : Nat} {c : List Nat} : Zc B (chR N b c) (.int 3) = some (.str (Jw c)) := by
 unfold chR Jv;have := Zb0 (B := B) (xs := [.list (ZF c), .int (wgt N c), .int ((Xl b c : Nat) : Int), .str (Jw c)]) (k := 3) (by simp) (by lia);exact this
theorem ZaP {B : Bx} {σ : St} {i : Nat} {N : Mat} {b : Nat} {c : List Nat} (h : σ[i]? = some (some (chR N b c))) (hne : c ≠ []) : D.bin Zc (D.bin Zc (D.var i) (D.const (.int 0))) (D.un YH (D.const (.int 1))) σ B = some (.int (Zs c : Int), B) :=
 Zf (Zf (Zt h) rfl Zi8) (e := .int (-1)) rfl (ZjG hne)
section
variable {σ : St} {B : Bx} {N : Mat} {b : Nat} {bk : Bk}
noncomputable abbrev ZtN : DE := Zq 2 (emL (Zq 2 (emL (D.var 1)) { it := (I.val (D.var 13)), tp := false, tgt := (fun d σ => some (σ.set 1 (some d))), ifs := (T.all [(T.cmp X8 (D.bin Zc (D.bin Zc (D.var 1) (D.const (.int 0))) (D.const (.int 0))) (D.var 3))]) } [] (.list []))) { it := (I.val (D.call Zo [(D.const (.int 3))])), tp := false, tgt := (fun d σ => some (σ.set 1 (some d))), ifs := (T.all []) } [] (.list [])
noncomputable def Zb4 (N : Mat) (b : Nat) : V := .list ((List.range 3).map fun s => .list (Xw N b (chS s)))
theorem ZqA (h11 : σ[11]? = some (some (.list (Xw N b ZdZ)))) : ZtN σ B = some (Zb4 N b, B) := by
 have main := Jb (f := Zq 2 (emL (D.var 1)) { it := (I.val (D.var 13)), tp := false, tgt := (fun d σ => some (σ.set 1 (some d))), ifs := (T.all [(T.cmp X8 (D.bin Zc (D.bin Zc (D.var 1) (D.const (.int 0))) (D.const (.int 0))) (D.var 3))]) } [] (.list []))
  (it := I.val (D.call Zo [(D.const (.int 3))])) (ifs := T.all []) (tp := false) (σ := σ) (B := B) (B₁ := B) (xs := ZF (List.range 3)) (fun _ => true) (ZbQ fun s => .list (Xw N b (chS s))) (ZQ (d := .range 0 ((3 : Nat) : Int)) rfl (YI (by decide)))
  (fun x hx => by
   refine Ze (List.mem_map.mp hx) fun s hs z_2 => ?_;subst z_2;refine ⟨rfl, fun _ => ?_⟩;rw [Xx]
   have inner := Jb (f := D.var 1) (it := I.val (D.var 13)) (ifs := T.all [(T.cmp X8 (D.bin Zc (D.bin Zc (D.var 1) (D.const (.int 0))) (D.const (.int 0))) (D.var 3))]) (tp := false) (σ := none :: some (.int (s : Int)) :: σ) (B := B) (B₁ := B) (xs := Xw N b ZdZ)
    (fun x => YA (ZbR x) == s) (fun x => x) (ZQ (Zt (i := 13) (σ := none :: some (.int (s : Int)) :: σ) h11) rfl)
    (fun x hx => by
     refine Ze (List.mem_map.mp hx) fun c hc z_2 => ?_;subst z_2;have ho := ZkL (List.mem_filter.mp hc).1;rw [Xf];refine ⟨ZbV (Yf (d := .int (YA c : Int)) (e := .int (s : Int)) (Zf (Zf rfl rfl Zi8) rfl (Zit ho.2.2)) rfl ?_), fun _ => rfl⟩;rw [Zct];congr 1;rw [Bool.eq_iff_iff, beq_iff_eq, beq_iff_eq];lia)
    (by have := Zbq N b ZdZ; rw [ZiE] at this; unfold Cap; lia)
   rw [ZbC N b ZdZ (fun c => YA c == s), List.map_id'] at inner;exact inner)
  (by rw [ZM]; simp [Cap])
 rw [List.filter_eq_self.mpr (fun _ _ => rfl), Jd] at main;exact main
theorem Zbh (s : Nat) (hs : s < 3) : Zc B (Zb4 N b) (.int (s : Int)) = some (.list (Xw N b (chS s))) := by
 unfold Zb4;rw [Y0 (by simpa using hs) (by lia), List.getElem?_map, List.getElem?_range hs];rfl
noncomputable def sqL (bk : Bk) : List V := [.int ((bk 5).2 0), .int ((bk 6).2 0), .int ((bk 7).2 0), .int ((bk 5).2 1), .int ((bk 6).2 1), .int ((bk 7).2 1), .int ((bk 5).2 2), .int ((bk 6).2 2), .int ((bk 7).2 2)]
theorem Zpp (hk : Zc0 bk) {w : Nat -> Str} (hw : ∀ s < 10, ∀ t < 10, w s = w t -> s = t) (t : Nat) {s : Nat} (hs : s < 3) : Zjh B [XG w (bk t), .str (w s), .int 0] = some (.int ((bk t).2 s), B) := by
 have ho := hk t;have hinj : ∀ s' ∈ (bk t).1, w s' = w s -> s' = s := fun s' hs' e => hw s' (by have := ho.lt s' hs'; lia) s (by lia) e;refine Zad ?_;show (if ((bk t).1.map w).contains (w s) then X5 ((bk t).1.map w) ((bk t).1.map fun s => V.int ((bk t).2 s)) (w s) else some (.int 0)) = _
 by_cases h : s ∈ (bk t).1
 ·rw [if_pos (by simpa using (XO hinj).mpr h)]
  exact Zds (β := fun s => V.int ((bk t).2 s)) hinj h
 ·rw [if_neg (by
   have : w s ∉ (bk t).1.map w := fun z => h ((XO hinj).mp z)
   simpa using this), ho.zero s h]
noncomputable abbrev sqE : DE := Zq 3 (emL (D.meth ZeJ Zjh (D.bin Zc (D.var 10) (D.var 2)) [(D.bin Zc (D.var 9) (D.var 1)), (D.const (.int 0))])) { it := (I.val (D.call Zo [(D.const (.int 3))])), tp := false, tgt := (fun d σ => some (σ.set 1 (some d))), ifs := (T.all []) } [{ it := (I.val (D.call Zo [(D.const (.int 5)), (D.const (.int 8))])), tp := false, tgt := (fun d σ => some (σ.set 2 (some d))), ifs := (T.all []) }] (.list [])
theorem ZtP (hk : Zc0 bk) (hb : b <= 22) (h6 : σ[6]? = some (some (.list (ZB b 10)))) (h7 : σ[7]? = some (some (.list (ZO (wAt b) bk)))) : sqE σ B = some (.list (sqL bk), B) := by
 have main := ZpO (f := D.meth ZeJ Zjh (D.bin Zc (D.var 10) (D.var 2)) [(D.bin Zc (D.var 9) (D.var 1)), (D.const (.int 0))]) (it := I.val (D.call Zo [(D.const (.int 3))])) (it2 := I.val (D.call Zo [(D.const (.int 5)), (D.const (.int 8))])) (ifs := T.all []) (ifs2 := T.all []) (tp := false) (tp2 := false)
  (σ := σ) (B := B) (B₁ := B) (xs := ZF (List.range 3)) (fun _ => [.int 5, .int 6, .int 7]) (fun x y => match x, y with | .int s, .int t => .int ((bk t.toNat).2 s.toNat) | _, _ => .none) (ZQ (d := .range 0 ((3 : Nat) : Int)) rfl (YI (by decide)))
  (fun x hx => by
   refine Ze (List.mem_map.mp hx) fun s hs z_2 => ?_;subst z_2;have hs := List.mem_range.mp hs;refine ⟨rfl, fun z => ⟨rfl, ZQ (d := .range ((5 : Nat) : Int) ((5 + 3 : Nat) : Int)) rfl (ZbE (by decide))⟩, fun y hy => ⟨rfl, ?_⟩⟩
   obtain ⟨t, ht, rfl⟩ : ∃ t : Nat, t < 8 /\ y = .int (t : Int) := by
    simp only [List.mem_cons, List.not_mem_nil, or_false] at hy;rcases hy with rfl | rfl | rfl
    ·exact ⟨5, by decide, rfl⟩
    ·exact ⟨6, by decide, rfl⟩
    ·exact ⟨7, by decide, rfl⟩
   simp only [Int.toNat_natCast];exact ZnM (Zf (Zt (i := 10) (σ := none :: some (.int (s : Int)) :: some (.int (t : Int)) :: σ) h7) rfl (Ze0 hk ht)) rfl (Zf (Zt (i := 9) (σ := none :: some (.int (s : Int)) :: some (.int (t : Int)) :: σ) h6) rfl (ZkD (by lia))) rfl (Zpp hk (ZhC hb) t hs))
  (by decide)
 exact main
noncomputable def ZdL (a b c d e f g h i : Int) : Int := a * (e * i - f * h) - b * (d * i - f * g) + c * (d * h - e * g)
noncomputable abbrev Zue : DE := D.bin ZE (D.bin ZbX (D.bin Xb (D.var 21) (D.bin ZbX (D.bin Xb (D.var 25) (D.var 29)) (D.bin Xb (D.var 26) (D.var 28)))) (D.bin Xb (D.var 22) (D.bin ZbX (D.bin Xb (D.var 24) (D.var 29)) (D.bin Xb (D.var 26) (D.var 27))))) (D.bin Xb (D.var 23) (D.bin ZbX (D.bin Xb (D.var 24) (D.var 28)) (D.bin Xb (D.var 25) (D.var 27))))
theorem Zac {x y : Int} (h : small x = true) : Xb B (.int x) (.int y) = some (.int (x * y)) := by simp only [Zk9, h, if_true]
theorem ZsR {q : Nat -> Int} (h : ∀ j < 9, σ[21 + j]? = some (some (.int (q j)))) (hs : ∀ j < 6, small (q j) = true) : Zue σ B = some (.int (ZdL (q 0) (q 1) (q 2) (q 3) (q 4) (q 5) (q 6) (q 7) (q 8)), B) := by
 have v : ∀ {j : Nat}, j < 9 -> D.var (21 + j) σ B = some (.int (q j), B) := fun {j} hj => Zt (h j hj);have m : ∀ {j k : Nat}, j < 6 -> k < 9 -> D.bin Xb (D.var (21 + j)) (D.var (21 + k)) σ B = some (.int (q j * q k), B) := fun {j k} hj hk => Zf (v (by lia)) (v hk) (Zac (hs j hj));have s : ∀ {j k l n : Nat}, j < 6 -> k < 9 -> l < 6 -> n < 9 -> D.bin ZbX (D.bin Xb (D.var (21 + j)) (D.var (21 + k))) (D.bin Xb (D.var (21 + l)) (D.var (21 + n))) σ B = some (.int (q j * q k - q l * q n), B) := fun {j k l n} hj hk hl hn => Zf (m hj hk) (m hl hn) rfl
 exact Zf (Zf (Zf (v (j := 0) (by decide)) (s (j := 4) (k := 8) (l := 5) (n := 7) (by decide) (by decide) (by decide) (by decide)) (Zac (hs 0 (by decide)))) (Zf (v (j := 1) (by decide)) (s (j := 3) (k := 8) (l := 5) (n := 6) (by decide) (by decide) (by decide) (by decide)) (Zac (hs 1 (by decide)))) rfl)
  (Zf (v (j := 2) (by decide)) (s (j := 3) (k := 7) (l := 4) (n := 6) (by decide) (by decide) (by decide) (by decide)) (Zac (hs 2 (by decide)))) rfl
end
theorem ZcA : ls (Str.ofString "...") = [46, 46, 46] := by decide +kernel
theorem Zef : Builtin.Str.strKind (Str.ofString "...") = 1 := by decide +kernel
theorem ZpC {ws : List Str} (h2 : 2 <= ws.length) : ZcT "..." (Txt.join "..." ws) = true := by
 rw [ZjN]
 match ws, h2 with
 | x :: y :: r, _ =>
  have hl : ls (Txt.join "..." (x :: y :: r)) = ls x ++ ([46, 46, 46] ++ ZaM [46, 46, 46] ((y :: r).map ls)) := by
   rw [Zbt, ZcA, List.map_cons, Zai _ _ (by simp), List.append_assoc]
  have h3 : (Str.ofString "...").length = 3 := by rw [<- Xo, ZcA]; rfl
  refine ⟨(ls x).length, ?_, ?_⟩
  ·rw [h3, <- Xo (Txt.join "..." (x :: y :: r)), hl]
   simp only [List.length_append, List.length_cons, List.length_nil];lia
  ·rw [Zgw, hl, h3, ZcA]
   simp
theorem Znl {ws : List Str} {got : Str} {B : Bx} (h2 : 2 <= ws.length) (hd : ∀ w ∈ ws, (46 : Nat) ∉ ls w) (hl : (Txt.join "..." ws).length <= 1000) (hg : got.length <= 1000) (hw : ∀ w ∈ ws, w.length <= 1000) (hn : ws.length <= 1000) :
  Zr B [.str (Txt.join "..." ws), .str got] = some (.bool (ZlZ got ws), B) := by
 refine Zad ?_;have hs := Zdd ZcA Zef (ws := ws) (by intro e; subst e; simp at h2) hd;show Zns (Txt.join "..." ws) got = _;unfold Zns;simp only [hs, ZpC h2]
 rw [if_pos ⟨ZR (by unfold Cap; lia), ZR (by unfold Cap; lia)⟩, if_neg (by simp), if_pos ⟨h2, by unfold Cap; lia, by
  rw [List.all_eq_true];intro w hw';exact ZR (by have := hw w hw'; unfold Cap; lia)⟩]
noncomputable def Zb7 (s : Nat) (c : List Nat) : List (List Str) := [[Xi s, "f"], [Xi s, "g"], [Xi s, "h"], ["", "d", ""], ["", "e", ""], [Jw c, Xi (Zs c)], [Xi ((s + 1) % 3), Xi (Zs c)]]
noncomputable def Za7 (c : List Nat) : List Bool := [Zs c == 5, Zs c == 6, Zs c == 7, c.contains 3, c.contains 4, false, false]
theorem Zo5 : ∀ s < 3, ∀ c ∈ chS s, (Zb7 s c).map (ZlZ (Jw c)) = Za7 c := by decide +kernel
theorem Zt2 (x y : Str) : Txt.join "..." [x, y] = x ++ "..." ++ y := by
 show Builtin.Str.glued _ _ = _;rw [StrLaws.glued_eq_join];rfl
theorem Zmw (x y z : Str) : x ++ y ++ z = x ++ (y ++ z) := ZhR (by simp [Zg3])
theorem Zr0 : (Str.ofString "..." ++ Str.ofString "f") = Str.ofString "...f" := by decide +kernel
theorem Zr6 : (Str.ofString "..." ++ Str.ofString "g") = Str.ofString "...g" := by decide +kernel
theorem Zsi : (Str.ofString "..." ++ Str.ofString "h") = Str.ofString "...h" := by decide +kernel
theorem Zsu : Txt.join "..." ["", "d", ""] = "...d..." := by decide +kernel
theorem Ztj : Txt.join "..." ["", "e", ""] = "...e..." := by decide +kernel
theorem ZiR (v : Nat) : ls (Xi v) = [97 + v] := rfl
theorem Zfo : ∀ l : List (List Nat), ZaM [] l = l.flatten
 | [] => rfl
 | [x] => by simp [ZaM]
 | x :: y :: r => by rw [Zai _ _ (by simp), Zfo (y :: r)]; simp
theorem ZhJ (c : List Nat) : ls (Jw c) = c.map (97 + ·) := by
 unfold Jw;rw [Zbt, show ls (Str.ofString "") = [] by decide +kernel, Zfo, List.map_map]
 induction c with
 | nil => rfl
 | cons v c ih => simp only [List.map_cons, List.flatten_cons, ih, Function.comp, ZiR]; rfl
theorem ZbZ (c : List Nat) : (Jw c).length = c.length := by rw [<- Xo, ZhJ, List.length_map]
theorem ZaQ {B : Bx} {x y : Str} (h : x.length + y.length <= 1000) : ZE B (.str x) (.str y) = some (.str (x ++ y)) := by
 simp only [Zhz]; rw [if_pos (ZR (by unfold Cap; lia))]
theorem ZmL {B : Bx} {c : List Nat} (h : c ≠ []) : Zc B (.str (Jw c)) (.int (-1)) = some (.str (Xi (Zs c))) := by
 rw [Zd6];unfold ZgP;obtain ⟨n, hn⟩ : ∃ n, c.length = n + 1 := ⟨c.length - 1, by have := List.length_pos_iff.mpr h; lia⟩;rw [if_pos (by decide), ZbZ, hn, J4];simp only [Option.bind_some]
 have e : (Jw c).cps[n]? = some (97 + Zs c) := by
  rw [<- Array.getElem?_toList];show (ls (Jw c))[n]? = _;rw [ZhJ, List.getElem?_map]
  have : c[n]? = some (Zs c) := by
   unfold Zs;rw [List.getLastD_eq_getLast?, List.getLast?_eq_getElem?, show c.length - 1 = n by lia, List.getElem?_eq_getElem (by lia)];rfl
  rw [this]; rfl
 rw [e];rfl
theorem Ztp {B : Bx} : ∀ s : Nat, s < 3 -> Zc B (.str "abc") (.int (s : Int)) = some (.str (Xi s)) := by
 intro s hs
 match s, hs with
 | 0, _ => rfl
 | 1, _ => rfl
 | 2, _ => rfl
theorem ZtA {B : Bx} : ∀ s : Nat, s < 3 -> Zc B (.str "abc") (.int ((s : Int) - 2)) = some (.str (Xi ((s + 1) % 3))) := by
 intro s hs
 match s, hs with
 | 0, _ => rfl
 | 1, _ => rfl
 | 2, _ => rfl
theorem ZiL : (Str.ofString "...").length = 3 /\ (Str.ofString "...f").length = 4 /\ (Str.ofString "...g").length = 4 /\ (Str.ofString "...h").length = 4 /\ (Str.ofString "f").length = 1 /\ (Str.ofString "g").length = 1 /\ (Str.ofString "h").length = 1 /\ (Str.ofString "...d...").length = 7 /\ (Str.ofString "...e...").length = 7 := by decide +kernel
theorem Ju (v : Nat) : (Xi v).length = 1 := rfl
section
variable {σ : St} {B : Bx} {N : Mat} {b : Nat}
noncomputable abbrev Zg2 : DE := D.list [(D.bin ZE (D.bin Zc (D.const (.str "abc")) (D.var 3)) (D.const (.str "...f"))), (D.bin ZE (D.bin Zc (D.const (.str "abc")) (D.var 3)) (D.const (.str "...g"))), (D.bin ZE (D.bin Zc (D.const (.str "abc")) (D.var 3)) (D.const (.str "...h"))), (D.const (.str "...d...")), (D.const (.str "...e...")), (D.bin ZE (D.bin ZE (D.bin Zc (D.var 1) (D.const (.int 3))) (D.const (.str "..."))) (D.bin Zc (D.bin Zc (D.var 1) (D.const (.int 3))) (D.un YH (D.const (.int 1))))), (D.bin ZE (D.bin ZE (D.bin Zc (D.const (.str "abc")) (D.bin ZbX (D.var 3) (D.const (.int 2)))) (D.const (.str "..."))) (D.bin Zc (D.bin Zc (D.var 1) (D.const (.int 3))) (D.un YH (D.const (.int 1)))))]
theorem ZnQ {f1 f2 f3 f4 f5 f6 f7 : DE} {d1 d2 d3 d4 d5 d6 d7 : V} (h1 : f1 σ B = some (d1, B)) (h2 : f2 σ B = some (d2, B)) (h3 : f3 σ B = some (d3, B)) (h4 : f4 σ B = some (d4, B)) (h5 : f5 σ B = some (d5, B)) (h6 : f6 σ B = some (d6, B)) (h7 : f7 σ B = some (d7, B)) :
  D.list [f1, f2, f3, f4, f5, f6, f7] σ B = some (.list [d1, d2, d3, d4, d5, d6, d7], B) := by simp [D.list, D.row, h1, h2, h3, h4, h5, h6, h7]
theorem Zn3 {c : List Nat} {s : Nat} (hs : s < 3) (hne : c ≠ []) (hlen : c.length <= 8) : Zg2 (none :: some (chR N b c) :: none :: some (.int (s : Int)) :: σ) B = some (.list ((Zb7 s c).map fun ws => V.str (Txt.join "..." ws)), B) := by
 obtain ⟨l0, l1, l2, l3, _, _, _, _, _⟩ := ZiL;have ea : D.bin Zc (D.const (.str "abc")) (D.var 3) (none :: some (chR N b c) :: none :: some (.int (s : Int)) :: σ) B = some (.str (Xi s), B) := Zf rfl rfl (Ztp s hs);have er : D.bin Zc (D.var 1) (D.const (.int 3)) (none :: some (chR N b c) :: none :: some (.int (s : Int)) :: σ) B = some (.str (Jw c), B) := Zf rfl rfl ZrA;have el : D.bin Zc (D.bin Zc (D.var 1) (D.const (.int 3))) (D.un YH (D.const (.int 1))) (none :: some (chR N b c) :: none :: some (.int (s : Int)) :: σ) B = some (.str (Xi (Zs c)), B) := Zf er (e := .int (-1)) rfl (ZmL hne);have e2 : D.bin Zc (D.const (.str "abc")) (D.bin ZbX (D.var 3) (D.const (.int 2))) (none :: some (chR N b c) :: none :: some (.int (s : Int)) :: σ) B = some (.str (Xi ((s + 1) % 3)), B) := Zf rfl (e := .int ((s : Int) - 2)) rfl (ZtA s hs)
 have e6 : D.bin ZE (D.bin ZE (D.bin Zc (D.var 1) (D.const (.int 3))) (D.const (.str "..."))) (D.bin Zc (D.bin Zc (D.var 1) (D.const (.int 3))) (D.un YH (D.const (.int 1)))) (none :: some (chR N b c) :: none :: some (.int (s : Int)) :: σ) B = some (.str (Jw c ++ "..." ++ Xi (Zs c)), B) :=
  Zf (Zf er (e := .str "...") rfl (ZaQ (B := B) (by rw [ZbZ, l0]; lia))) el (ZaQ (B := B) (by rw [ZlC, ZbZ, l0, Ju]; lia))
 have e7 : D.bin ZE (D.bin ZE (D.bin Zc (D.const (.str "abc")) (D.bin ZbX (D.var 3) (D.const (.int 2)))) (D.const (.str "..."))) (D.bin Zc (D.bin Zc (D.var 1) (D.const (.int 3))) (D.un YH (D.const (.int 1)))) (none :: some (chR N b c) :: none :: some (.int (s : Int)) :: σ) B = some (.str (Xi ((s + 1) % 3) ++ "..." ++ Xi (Zs c)), B) :=
  Zf (Zf e2 (e := .str "...") rfl (ZaQ (B := B) (by rw [Ju, l0]; lia))) el (ZaQ (B := B) (by rw [ZlC, Ju, l0, Ju]; lia))
 have ef : D.bin ZE (D.bin Zc (D.const (.str "abc")) (D.var 3)) (D.const (.str "...f")) (none :: some (chR N b c) :: none :: some (.int (s : Int)) :: σ) B = some (.str (Xi s ++ "...f"), B) := Zf ea (e := .str "...f") rfl (ZaQ (B := B) (by rw [Ju, l1]; lia));have eg : D.bin ZE (D.bin Zc (D.const (.str "abc")) (D.var 3)) (D.const (.str "...g")) (none :: some (chR N b c) :: none :: some (.int (s : Int)) :: σ) B = some (.str (Xi s ++ "...g"), B) := Zf ea (e := .str "...g") rfl (ZaQ (B := B) (by rw [Ju, l2]; lia));have eh : D.bin ZE (D.bin Zc (D.const (.str "abc")) (D.var 3)) (D.const (.str "...h")) (none :: some (chR N b c) :: none :: some (.int (s : Int)) :: σ) B = some (.str (Xi s ++ "...h"), B) := Zf ea (e := .str "...h") rfl (ZaQ (B := B) (by rw [Ju, l3]; lia))
 have := ZnQ ef eg eh
  (f4 := D.const (.str "...d...")) rfl (f5 := D.const (.str "...e...")) rfl
  e6 e7
 unfold Zg2;rw [this];simp only [Zb7, List.map_cons, List.map_nil, Zt2, Zsu, Ztj, Zmw, Zr0, Zr6, Zsi]
noncomputable def Zo0 (g : Str -> V) : V -> V
 | .str y => g y
 | _ => .none
theorem ZgA (g : Str -> V) (y : Str) : Zo0 g (.str y) = g y := rfl
noncomputable def YF (c : List Nat) : V := .list ((Za7 c).map V.bool)
noncomputable def Zah (N : Mat) : V := .list ((List.range 3).map fun s => .list (((chS s).filter (Yn N)).map YF))
noncomputable abbrev Zrb : DE := Zq 2 (emL (D.call Zr [(D.var 1), (D.bin Zc (D.var 3) (D.const (.int 3)))])) { it := (I.val Zg2), tp := false, tgt := (fun d σ => some (σ.set 1 (some d))), ifs := (T.all []) } [] (.list [])
theorem ZaJ {s : Nat} {c : List Nat} (h : c ∈ chS s) : (∀ v ∈ c, v < 8) /\ c.length <= 8 /\ c ≠ [] := ZkL (List.mem_filter.mp h).1
theorem Zmo (v : Nat) : (46 : Nat) ∉ ls (Xi v) := by rw [ZiR]; simp; lia
theorem Zoy : (46 : Nat) ∉ ls (Str.ofString "f") /\ (46 : Nat) ∉ ls (Str.ofString "g") /\ (46 : Nat) ∉ ls (Str.ofString "h") /\ (46 : Nat) ∉ ls (Str.ofString "d") /\ (46 : Nat) ∉ ls (Str.ofString "e") /\ (46 : Nat) ∉ ls (Str.ofString "") := by decide +kernel
theorem ZoY : (Str.ofString "f").length = 1 /\ (Str.ofString "g").length = 1 /\ (Str.ofString "h").length = 1 /\ (Str.ofString "d").length = 1 /\ (Str.ofString "e").length = 1 /\ (Str.ofString "").length = 0 := by decide +kernel
theorem Zl0 {s : Nat} {c : List Nat} (hlen : c.length <= 8) : ∀ ws ∈ Zb7 s c, 2 <= ws.length /\ (∀ w ∈ ws, (46 : Nat) ∉ ls w) /\ (∀ w ∈ ws, w.length <= 8) /\ ws.length <= 3 := by
 have hlets : (46 : Nat) ∉ ls (Jw c) := by rw [ZhJ]; simp; lia
 have hll := ZbZ c;obtain ⟨a1, a2, a3, a4, a5, a6⟩ := Zoy;obtain ⟨b1, b2, b3, b4, b5, b6⟩ := ZoY;have hl := Ju;have hd := Zmo;intro ws hws;simp only [Zb7, List.mem_cons, List.not_mem_nil, or_false] at hws;rcases hws with rfl | rfl | rfl | rfl | rfl | rfl | rfl
 all_goals refine ⟨by simp, fun w hw => ?_, fun w hw => ?_, by simp⟩
 all_goals simp only [List.mem_cons, List.not_mem_nil, or_false] at hw
 all_goals rcases hw with rfl | hw
 all_goals first
  | exact hd _ | exact a1 | exact a2 | exact a3 | exact a4 | exact a5 | exact a6 | exact hlets
  | (rw [hl]; lia) | (rw [hll]; lia) | (rw [b4]; lia) | (rw [b5]; lia) | (rw [b6]; lia)
  | (subst hw; first | exact hd _ | exact a1 | exact a2 | exact a3 | (rw [hl]; lia) | (rw [b1]; lia) | (rw [b2]; lia) | (rw [b3]; lia))
  | (rcases hw with rfl | rfl <;> first | exact a4 | exact a5 | exact a6 | (rw [b4]; lia) | (rw [b5]; lia) | (rw [b6]; lia))
theorem ZpH {ws : List Str} (h3 : ws.length <= 3) (hw : ∀ w ∈ ws, w.length <= 8) : (Txt.join "..." ws).length <= 1000 := by
 show (Builtin.Str.glued _ _).length <= _;rw [StrLaws.glued_eq_join];refine Nat.le_trans (StrLaws.join_length_le _ _) ?_
 have h1 := Zfn (l := ws.map (·.length)) (c := 8) (fun x hx => by
  refine Ze (List.mem_map.mp hx) fun w h z_2 => ?_;subst z_2;exact hw w h)
 have h2 := ZiL.1;rw [List.length_map] at h1;rw [h2];lia
theorem Ztd {c : List Nat} {s : Nat} (hs : s < 3) (hc : c ∈ chS s) : Zrb (none :: some (chR N b c) :: none :: some (.int (s : Int)) :: σ) B = some (YF c, B) := by
 refine XR (ZaJ hc) fun h1 h2 h3 => ?_;have hok := Zl0 (s := s) h2
 have main := Jb (f := D.call Zr [(D.var 1), (D.bin Zc (D.var 3) (D.const (.int 3)))]) (it := I.val Zg2) (ifs := T.all []) (tp := false) (σ := none :: some (chR N b c) :: none :: some (.int (s : Int)) :: σ) (B := B) (B₁ := B) (xs := (Zb7 s c).map fun ws => V.str (Txt.join "..." ws))
  (fun _ => true) (Zo0 fun y => .bool (ZlZ (Jw c) (Txt.split y "..."))) (ZQ (Zn3 hs h3 h2) rfl)
  (fun x hx => by
   refine Ze (List.mem_map.mp hx) fun ws hws z_2 => ?_;subst z_2;obtain ⟨a1, a2, a3, a4⟩ := hok ws hws;refine ⟨rfl, fun _ => ?_⟩;rw [ZgA, Zdd ZcA Zef (by intro e; subst e; simp at a1) a2];exact Zag rfl (Zf rfl rfl ZrA) (Znl a1 a2 (ZpH a4 a3) (by rw [ZbZ]; lia) (fun w hw => by have := a3 w hw; lia) (by lia)))
  (by simp [Zb7, Cap])
 have key : ((Zb7 s c).map fun ws => V.str (Txt.join "..." ws)).map (Zo0 fun y => .bool (ZlZ (Jw c) (Txt.split y "..."))) = (Za7 c).map V.bool := by
  rw [<- Zo5 s hs c hc, List.map_map, List.map_map];apply List.map_congr_left;intro ws hws;obtain ⟨a1, a2, a3, a4⟩ := hok ws hws;simp only [Function.comp];rw [ZgA, Zdd ZcA Zef (by intro e; subst e; simp at a1) a2]
 rw [List.filter_eq_self.mpr (fun _ _ => rfl), key] at main;exact main
noncomputable abbrev Zrz : DE := Zq 2 (emL (Zq 2 (emL Zrb) { it := (I.val (D.bin Zc (D.var 14) (D.var 1))), tp := false, tgt := (fun d σ => some (σ.set 1 (some d))), ifs := (T.all []) } [] (.list []))) { it := (I.val (D.call Zo [(D.const (.int 3))])), tp := false, tgt := (fun d σ => some (σ.set 1 (some d))), ifs := (T.all []) } [] (.list [])
theorem ZcC (s : Nat) : (chS s).length <= 196 := by
 unfold chS;have := List.length_filter_le (fun c => YA c == s) ZdZ;rw [ZiE] at this;exact this
theorem Zqf (h12 : σ[12]? = some (some (Zb4 N b))) : Zrz σ B = some (Zah N, B) := by
 have main := Jb (f := Zq 2 (emL Zrb) { it := (I.val (D.bin Zc (D.var 14) (D.var 1))), tp := false, tgt := (fun d σ => some (σ.set 1 (some d))), ifs := (T.all []) } [] (.list []))
  (it := I.val (D.call Zo [(D.const (.int 3))])) (ifs := T.all []) (tp := false) (σ := σ) (B := B) (B₁ := B) (xs := ZF (List.range 3)) (fun _ => true) (ZbQ fun s => .list (((chS s).filter (Yn N)).map YF)) (ZQ (d := .range 0 ((3 : Nat) : Int)) rfl (YI (by decide)))
  (fun x hx => by
   refine Ze (List.mem_map.mp hx) fun s hs z_2 => ?_;subst z_2;have hs := List.mem_range.mp hs;refine ⟨rfl, fun _ => ?_⟩;rw [Xx]
   have inner := Jb (f := Zrb) (it := I.val (D.bin Zc (D.var 14) (D.var 1))) (ifs := T.all []) (tp := false) (σ := none :: some (.int (s : Int)) :: σ) (B := B) (B₁ := B) (xs := Xw N b (chS s))
    (fun _ => true) (fun x => YF (ZbR x)) (ZQ (Zf (Zt (i := 14) (σ := none :: some (.int (s : Int)) :: σ) h12) rfl (Zbh s hs)) rfl)
    (fun x hx => by
     refine Ze (List.mem_map.mp hx) fun c hc z_2 => ?_;subst z_2;refine ⟨rfl, fun _ => ?_⟩;rw [Xf];exact Ztd hs (List.mem_filter.mp hc).1)
    (by have h1 := Zbq N b (chS s); have h2 := ZcC s; unfold Cap; lia)
   rw [List.filter_eq_self.mpr (fun _ _ => rfl)] at inner;unfold Xw at inner;rw [List.map_map] at inner;have e : ((fun x => YF (ZbR x)) ∘ chR N b) = YF := by funext c; simp only [Function.comp, Xf]
   rw [e] at inner;exact inner)
  (by rw [ZM]; simp [Cap])
 rw [List.filter_eq_self.mpr (fun _ _ => rfl), Jd] at main;exact main
end
noncomputable def Zc2 : Nat -> V -> Bool
 | _, .bool _ => true
 | _, .int _ => true
 | _, .str _ => true
 | n + 1, .list xs => xs.all (Zc2 n)
 | n + 1, .tup xs => xs.all (Zc2 n)
 | _, _ => false
theorem ZiY {f : V -> V -> Option Bool} : ∀ {xs : List V}, (∀ x ∈ xs, f x x = some true) -> eqs f xs xs = some true := by
 intro xs_
 induction xs_ with
 | nil =>
  intro _;exact rfl
 | cons x xs ih_ =>
  intro h;simp only [eqs, h x (.head _), ih_ fun y hy => h y (List.mem_cons_of_mem _ hy), Bool.and_self]
theorem Zoh : ∀ (n : Nat) (d : V), Zc2 n d = true -> veq n d d = some true := by
 intro n
 induction n with
 | zero =>
  intro d h
  cases d with
  | bool b => exact congrArg some (beq_self_eq_true b)
  | int i => exact congrArg some (beq_self_eq_true i)
  | str x => exact congrArg some (beq_self_eq_true x)
  | _ => simp [Zc2] at h
 | succ n ih =>
  intro d h
  cases d with
  | bool b => exact congrArg some (beq_self_eq_true b)
  | int i => exact congrArg some (beq_self_eq_true i)
  | str x => exact congrArg some (beq_self_eq_true x)
  | list xs =>
   simp only [Zc2, List.all_eq_true] at h;exact (if_pos rfl).trans (ZiY fun x hx => ih x (h x hx))
  | tup xs =>
   simp only [Zc2, List.all_eq_true] at h;exact (if_pos rfl).trans (ZiY fun x hx => ih x (h x hx))
  | _ => simp [Zc2] at h
theorem ZgB {B : Bx} {xs : List V} (h : Zc2 12 (.list xs) = true) : X8 B (.list xs) (.list xs) = some true := by
 simp only [X8, Zx];exact Zoh 12 _ h
theorem ZmY {B : Bx} {xs : List V} (h : Zc2 12 (.list xs) = true) : ZaX B (.list xs) (.list xs) = some false := by
 simp only [ZaX, ZgB h, Option.map_some, Bool.not_true]
noncomputable def b1V (bs : List Bool) : V := .list (bs.map V.bool)
noncomputable def b2V (l : List (List Bool)) : V := .list (l.map b1V)
noncomputable def b3V (L : List (List (List Bool))) : V := .list (L.map b2V)
theorem Zcz {α : Type} {f : α -> V} {g : α -> PyData} (h : ∀ a, ZeD (f a) = some (g a)) : ∀ l : List α, Zem (l.map f) = some (l.map g)
 | [] => by simp [Zem]
 | a :: l => by simp [Zem, h a, Zcz h l]
noncomputable def p1 (bs : List Bool) : PyData := .list (bs.map .bool)
noncomputable def p2 (l : List (List Bool)) : PyData := .list (l.map p1)
noncomputable def p3 (L : List (List (List Bool))) : PyData := .list (L.map p2)
theorem Zua (bs : List Bool) : ZeD (b1V bs) = some (p1 bs) := by
 unfold b1V p1;simp only [ZeD];rw [Zcz (g := PyData.bool) (fun b => by simp [ZeD])];rfl
theorem Zt8 (l : List (List Bool)) : ZeD (b2V l) = some (p2 l) := by
 unfold b2V p2;simp only [ZeD];rw [Zcz Zua];rfl
theorem Zug (L : List (List (List Bool))) : ZeD (b3V L) = some (p3 L) := by
 unfold b3V p3;simp only [ZeD];rw [Zcz Zt8];rfl
theorem Za6 {α : Type} {g : α -> PyData} (h : ∀ a, (g a).showable = true) : ∀ l : List α, PyData.showableAll (l.map g) = true
 | [] => by simp [PyData.showableAll]
 | a :: l => by simp [PyData.showableAll, h a, Za6 h l]
theorem ZtL (L : List (List (List Bool))) : (p3 L).showable = true := by
 have h1 : ∀ bs, (p1 bs).showable = true := fun bs => by
  unfold p1; simp only [PyData.showable]; exact Za6 (g := PyData.bool) (fun b => by simp [PyData.showable]) bs
 have h2 : ∀ l, (p2 l).showable = true := fun l => by unfold p2; simp only [PyData.showable]; exact Za6 h1 l
 unfold p3; simp only [PyData.showable]; exact Za6 h2 L
theorem ZaC {α : Type} {g : α -> PyData} {n : Nat} (h : ∀ a, (g a).depth <= n) : ∀ l : List α, PyData.depthAll (l.map g) <= n
 | [] => by simp [PyData.depthAll]
 | a :: l => by simp only [List.map_cons, PyData.depthAll]; exact Nat.max_le.mpr ⟨h a, ZaC h l⟩
theorem ZrR (L : List (List (List Bool))) : (p3 L).depth <= 400 := by
 have h1 : ∀ bs, (p1 bs).depth <= 1 := fun bs => by
  unfold p1; simp only [PyData.depth];have := ZaC (g := PyData.bool) (n := 0) (fun b => by simp [PyData.depth]) bs;lia
 have h2 : ∀ l, (p2 l).depth <= 2 := fun l => by
  unfold p2; simp only [PyData.depth];have := ZaC h1 l;lia
 unfold p3; simp only [PyData.depth];have := ZaC h2 L;lia
theorem Zax {α : Type} {g : α -> PyData} : ∀ l : List α, PyData.shownAll (l.map g) = l.map fun a => (g a).shown
 | [] => by simp [PyData.shownAll]
 | a :: l => by simp [PyData.shownAll, Zax l]
theorem Zg9 {ts : List Str} {n k : Nat} (hn : ts.length <= n) (hk : ∀ t ∈ ts, t.length <= k) : (listText ts).length <= n * k + 2 * n + 3 := by
 have h1 := listText_len_le ts
 have h2 := Zfn (l := ts.map (·.length)) (c := k) (fun x hx => by
  refine Ze (List.mem_map.mp hx) fun t ht z_2 => ?_;subst z_2;exact hk t ht)
 rw [List.length_map] at h2;have h3 := Nat.mul_le_mul_right k hn;lia
theorem ZoH : (Str.ofString "True").length <= 5 /\ (Str.ofString "False").length <= 5 := by decide +kernel
theorem ZtB {L : List (List (List Bool))} (h1 : L.length <= 3) (h2 : ∀ l ∈ L, l.length <= 196) (h3 : ∀ l ∈ L, ∀ bs ∈ l, bs.length <= 10) : ∃ r, Zff (b3V L) = some r := by
 have s1 : ∀ bs : List Bool, bs.length <= 10 -> (p1 bs).shown.length <= 73 := fun bs hb => by
  unfold p1; simp only [PyData.shown];rw [Zax]
  exact Zg9 (n := 10) (k := 5) (by simpa using hb) (fun t ht => by
   refine Ze (List.mem_map.mp ht) fun b _ z_2 => ?_;subst z_2;simp only [PyData.shown]
   first | exact nn b | cases b
   ·exact ZoH.2
   ·exact ZoH.1)
 have s2 : ∀ l : List (List Bool), l.length <= 196 -> (∀ bs ∈ l, bs.length <= 10) -> (p2 l).shown.length <= 14703 := fun l hl hb => by
  unfold p2; simp only [PyData.shown];rw [Zax]
  exact Zg9 (n := 196) (k := 73) (by simpa using hl) (fun t ht => by
   refine Ze (List.mem_map.mp ht) fun bs hbs z_2 => ?_;subst z_2;exact s1 bs (hb bs hbs))
 have s3 : (p3 L).shown.length <= 44118 := by
  unfold p3; simp only [PyData.shown];rw [Zax]
  exact Zg9 (n := 3) (k := 14703) (by simpa using h1) (fun t ht => by
   refine Ze (List.mem_map.mp ht) fun l hl z_2 => ?_;subst z_2;exact s2 l (h2 l hl) (h3 l hl))
 unfold Zff;rw [Zug];simp only [ZtL, decide_eq_true (ZrR L), Bool.true_and, ZR (show (p3 L).shown.length <= Cap by unfold Cap; lia), if_true];exact ⟨_, rfl⟩
section
variable {σ : St} {B : Bx} {N : Mat} {b : Nat}
noncomputable def ZpG (N : Mat) : List (List (List Bool)) := (List.range 3).map fun s => ((chS s).filter (Yn N)).map Za7
theorem Znn (N : Mat) : Zah N = b3V (ZpG N) := by
 unfold Zah b3V ZpG;rw [List.map_map];congr 1;apply List.map_congr_left;intro s _;simp only [Function.comp, b2V, List.map_map];rfl
theorem ZlU (N : Mat) : ∃ r, Zff (Zah N) = some r := by
 rw [Znn];refine ZtB (by simp [ZpG]) (fun l hl => ?_) (fun l hl bs hbs => ?_)
 ·refine Ze (List.mem_map.mp hl) fun s _ z_2 => ?_
  subst z_2;rw [List.length_map];exact Nat.le_trans (List.length_filter_le _ _) (ZcC s)
 ·refine Ze (List.mem_map.mp hl) fun s _ z_2 => ?_
  subst z_2;refine Ze (List.mem_map.mp hbs) fun c _ z_2 => ?_;subst z_2;simp [Za7]
noncomputable abbrev ZsZ : DE := Zq 2 (emL (Zq 2 (emL (D.bin ZE (Zq 2 (emL (D.bin (bv X8) (D.bin Zc (D.bin Zc (D.var 3) (D.const (.int 0))) (D.un YH (D.const (.int 1)))) (D.var 1))) { it := (I.val (D.call Zo [(D.const (.int 5)), (D.const (.int 8))])), tp := false, tgt := (fun d σ => some (σ.set 1 (some d))), ifs := (T.all []) } [] (.list [])) (D.list [(D.bin (bv vin) (D.const (.int 3)) (D.bin Zc (D.var 1) (D.const (.int 0)))), (D.bin (bv vin) (D.const (.int 4)) (D.bin Zc (D.var 1) (D.const (.int 0)))), (D.const (.bool false)), (D.const (.bool false))]))) { it := (I.val (D.bin Zc (D.var 14) (D.var 1))), tp := false, tgt := (fun d σ => some (σ.set 1 (some d))), ifs := (T.all []) } [] (.list []))) { it := (I.val (D.call Zo [(D.const (.int 3))])), tp := false, tgt := (fun d σ => some (σ.set 1 (some d))), ifs := (T.all []) } [] (.list [])
theorem Zng {f1 f2 f3 f4 : DE} {d1 d2 d3 d4 : V} (h1 : f1 σ B = some (d1, B)) (h2 : f2 σ B = some (d2, B)) (h3 : f3 σ B = some (d3, B)) (h4 : f4 σ B = some (d4, B)) : D.list [f1, f2, f3, f4] σ B = some (.list [d1, d2, d3, d4], B) := by simp [D.list, D.row, h1, h2, h3, h4]
theorem Za5 (a t : Nat) : ((a : Int) == (t : Int)) = (a == t) := by
 rw [Bool.eq_iff_iff, beq_iff_eq, beq_iff_eq]; lia
theorem ZqU {c : List Nat} (hne : c ≠ []) : D.bin ZE (Zq 2 (emL (D.bin (bv X8) (D.bin Zc (D.bin Zc (D.var 3) (D.const (.int 0))) (D.un YH (D.const (.int 1)))) (D.var 1))) { it := (I.val (D.call Zo [(D.const (.int 5)), (D.const (.int 8))])), tp := false, tgt := (fun d σ => some (σ.set 1 (some d))), ifs := (T.all []) } [] (.list [])) (D.list [(D.bin (bv vin) (D.const (.int 3)) (D.bin Zc (D.var 1) (D.const (.int 0)))), (D.bin (bv vin) (D.const (.int 4)) (D.bin Zc (D.var 1) (D.const (.int 0)))), (D.const (.bool false)), (D.const (.bool false))])
  (none :: some (chR N b c) :: σ) B = some (YF c, B) := by
 have e1 := Jb (f := D.bin (bv X8) (D.bin Zc (D.bin Zc (D.var 3) (D.const (.int 0))) (D.un YH (D.const (.int 1)))) (D.var 1)) (it := I.val (D.call Zo [(D.const (.int 5)), (D.const (.int 8))])) (ifs := T.all []) (tp := false) (σ := none :: some (chR N b c) :: σ) (B := B) (B₁ := B) (xs := ZF [5, 6, 7])
  (fun _ => true) (ZbQ fun t => .bool (Zs c == t)) (ZQ (d := .range ((5 : Nat) : Int) ((5 + 3 : Nat) : Int)) rfl (ZbE (by decide)))
  (fun x hx => by
   refine Ze (List.mem_map.mp hx) fun t _ z_2 => ?_;subst z_2;refine ⟨rfl, fun _ => ?_⟩;rw [Xx];refine Zf (ZaP (i := 3) rfl hne) rfl ?_;unfold bv;rw [Zct, Za5];rfl)
  (by decide)
 rw [List.filter_eq_self.mpr (fun _ _ => rfl), Jd] at e1
 have hin : ∀ k : Nat, D.bin (bv vin) (D.const (.int (k : Int))) (D.bin Zc (D.var 1) (D.const (.int 0))) (none :: some (chR N b c) :: σ) B = some (.bool (c.contains k), B) := fun k => by
  refine Zf rfl (Zf rfl rfl Zi8) ?_;unfold bv;rw [Zij];rfl
 have e2 := Zng (hin 3) (hin 4) (f3 := D.const (.bool false)) rfl (f4 := D.const (.bool false)) rfl;refine Zf e1 e2 ?_;rfl
theorem Zsw (h12 : σ[12]? = some (some (Zb4 N b))) : ZsZ σ B = some (Zah N, B) := by
 have main := Jb (f := Zq 2 (emL (D.bin ZE (Zq 2 (emL (D.bin (bv X8) (D.bin Zc (D.bin Zc (D.var 3) (D.const (.int 0))) (D.un YH (D.const (.int 1)))) (D.var 1))) { it := (I.val (D.call Zo [(D.const (.int 5)), (D.const (.int 8))])), tp := false, tgt := (fun d σ => some (σ.set 1 (some d))), ifs := (T.all []) } [] (.list [])) (D.list [(D.bin (bv vin) (D.const (.int 3)) (D.bin Zc (D.var 1) (D.const (.int 0)))), (D.bin (bv vin) (D.const (.int 4)) (D.bin Zc (D.var 1) (D.const (.int 0)))), (D.const (.bool false)), (D.const (.bool false))]))) { it := (I.val (D.bin Zc (D.var 14) (D.var 1))), tp := false, tgt := (fun d σ => some (σ.set 1 (some d))), ifs := (T.all []) } [] (.list []))
  (it := I.val (D.call Zo [(D.const (.int 3))])) (ifs := T.all []) (tp := false) (σ := σ) (B := B) (B₁ := B) (xs := ZF (List.range 3)) (fun _ => true) (ZbQ fun s => .list (((chS s).filter (Yn N)).map YF)) (ZQ (d := .range 0 ((3 : Nat) : Int)) rfl (YI (by decide)))
  (fun x hx => by
   refine Ze (List.mem_map.mp hx) fun s hs z_2 => ?_;subst z_2;have hs := List.mem_range.mp hs;refine ⟨rfl, fun _ => ?_⟩;rw [Xx]
   have inner := Jb (f := D.bin ZE (Zq 2 (emL (D.bin (bv X8) (D.bin Zc (D.bin Zc (D.var 3) (D.const (.int 0))) (D.un YH (D.const (.int 1)))) (D.var 1))) { it := (I.val (D.call Zo [(D.const (.int 5)), (D.const (.int 8))])), tp := false, tgt := (fun d σ => some (σ.set 1 (some d))), ifs := (T.all []) } [] (.list [])) (D.list [(D.bin (bv vin) (D.const (.int 3)) (D.bin Zc (D.var 1) (D.const (.int 0)))), (D.bin (bv vin) (D.const (.int 4)) (D.bin Zc (D.var 1) (D.const (.int 0)))), (D.const (.bool false)), (D.const (.bool false))]))
    (it := I.val (D.bin Zc (D.var 14) (D.var 1))) (ifs := T.all []) (tp := false) (σ := none :: some (.int (s : Int)) :: σ) (B := B) (B₁ := B) (xs := Xw N b (chS s))
    (fun _ => true) (fun x => YF (ZbR x)) (ZQ (Zf (Zt (i := 14) (σ := none :: some (.int (s : Int)) :: σ) h12) rfl (Zbh s hs)) rfl)
    (fun x hx => by
     refine Ze (List.mem_map.mp hx) fun c hc z_2 => ?_;subst z_2;refine ⟨rfl, fun _ => ?_⟩;rw [Xf];exact ZqU (ZaJ (List.mem_filter.mp hc).1).2.2)
    (by have h1 := Zbq N b (chS s); have h2 := ZcC s; unfold Cap; lia)
   rw [List.filter_eq_self.mpr (fun _ _ => rfl)] at inner;unfold Xw at inner;rw [List.map_map] at inner;have e : ((fun x => YF (ZbR x)) ∘ chR N b) = YF := by funext c; simp only [Function.comp, Xf]
   rw [e] at inner;exact inner)
  (by rw [ZM]; simp [Cap])
 rw [List.filter_eq_self.mpr (fun _ _ => rfl), Jd] at main;exact main
theorem ZqY (h12 : σ[12]? = some (some (Zb4 N b))) (h30 : σ[30]? = some (some (Zah N))) : T.cmp ZaX (D.call Zeo [(D.var 30)]) (D.call Zeo [ZsZ]) σ B = some (false, B) := by
 obtain ⟨r, hr⟩ := ZlU N
 have hf : Zeo B [Zah N] = some (.str r, B) := by
  refine Zad ?_;show (if ZhI (Zah N) then (Zff (Zah N)).map V.str else none) = _;rw [hr];rfl
 refine Yf (Yd (Zt h30) hf) (Yd (Zsw h12) hf) ?_;unfold ZaX;rw [ZlB, beq_self_eq_true];rfl
end
section
variable {σ : St} {B : Bx} {N : Mat} {b : Nat} {bk : Bk}
noncomputable def cS (N : Mat) (s t : Nat) : Int := ((((chS s).filter (Yn N)).filter fun c => (Za7 c).getD t false).map (wgt N)).sum
noncomputable def chP : V -> List Nat
 | .tup [r, _] => ZbR r
 | _ => []
noncomputable abbrev Znh : DE := D.call Zi6 [(Zq 3 (emL (D.bin Zc (D.var 1) (D.const (.int 1)))) { it := (I.zip (D.bin Zc (D.var 15) (D.var 1)) (D.bin Zc (D.var 33) (D.var 1))), tp := true, tgt := (S.parts [1, 2]), ifs := (T.all [(T.of (D.bin Zc (D.var 2) (D.var 5)))]) } [] (.list []))]
theorem ZmX {l : List Bool} {t : Nat} (ht : t < l.length) (h : t < 100) : Zc B (.list (l.map V.bool)) (.int (t : Int)) = some (.bool (l.getD t false)) := by
 rw [Y0 (by simpa using ht) (by lia), List.getElem?_map, List.getD_eq_getElem?_getD, List.getElem?_eq_getElem ht];rfl
theorem Zqe {f g : DE} {xs ys : List V} (hf : f σ B = some (.list xs, B)) (hg : g σ B = some (.list ys, B)) : I.zip f g σ B = some (.seq ((xs.zip ys).map fun p => .tup [p.1, p.2]), B) := by simp [I.zip, hf, hg]
theorem Zra (h12 : σ[12]? = some (some (Zb4 N b))) (h30 : σ[30]? = some (some (Zah N))) {s t : Nat} (hs : s < 3) (ht : t < 3) : Znh (none :: some (.int (s : Int)) :: some (.int (t : Int)) :: σ) B = some (.int (cS N s t), B) := by
 have hmine : D.bin Zc (D.var 15) (D.var 1) (none :: some (.int (s : Int)) :: some (.int (t : Int)) :: σ) B = some (.list (Xw N b (chS s)), B) :=
  Zf (Zt (i := 15) (σ := none :: some (.int (s : Int)) :: some (.int (t : Int)) :: σ) h12) rfl (Zbh s hs)
 have htold : D.bin Zc (D.var 33) (D.var 1) (none :: some (.int (s : Int)) :: some (.int (t : Int)) :: σ) B = some (.list (((chS s).filter (Yn N)).map YF), B) := by
  refine Zf (Zt (i := 33) (σ := none :: some (.int (s : Int)) :: some (.int (t : Int)) :: σ) h30) rfl ?_;unfold Zah;rw [Y0 (by simpa using hs) (by lia), List.getElem?_map, List.getElem?_range hs];rfl
 have hz : (((Xw N b (chS s)).zip (((chS s).filter (Yn N)).map YF)).map fun p => V.tup [p.1, p.2]) = ((chS s).filter (Yn N)).map fun c => V.tup [chR N b c, YF c] := by
  unfold Xw;rw [List.zip_map', List.map_map];rfl
 have hit := Zqe hmine htold;rw [hz] at hit
 have main := Zrn (f := D.bin Zc (D.var 1) (D.const (.int 1))) (it := I.zip (D.bin Zc (D.var 15) (D.var 1)) (D.bin Zc (D.var 33) (D.var 1))) (ifs := T.all [(T.of (D.bin Zc (D.var 2) (D.var 5)))]) (tp := true) (σ := none :: some (.int (s : Int)) :: some (.int (t : Int)) :: σ) (B := B) (B₁ := B)
  (fun x => (Za7 (chP x)).getD t false) (fun x => .int (wgt N (chP x))) hit
  (fun x hx => by
   refine Ze (List.mem_map.mp hx) fun c hc z_2 => ?_;subst z_2;have hP : chP (.tup [chR N b c, YF c]) = c := Xf N b c;rw [hP];refine ⟨chR N b c, YF c, rfl, ZbV (XC (Zf (d := YF c) (e := .int (t : Int)) rfl rfl (ZmX (l := Za7 c) (by show t < 7; lia) (by lia))) rfl), fun _ => Zf rfl rfl ZrG⟩)
  (by rw [List.length_map]; have h1 := List.length_filter_le (Yn N) (chS s); have h2 := ZcC s; unfold Cap; lia)
 have e : ((((chS s).filter (Yn N)).map fun c => V.tup [chR N b c, YF c]).filter fun x => (Za7 (chP x)).getD t false).map (fun x => V.int (wgt N (chP x))) = ((((chS s).filter (Yn N)).filter fun c => (Za7 c).getD t false).map (wgt N)).map V.int := by
  rw [List.filter_map, List.map_map, List.map_map]
  have h1 : ((fun x => (Za7 (chP x)).getD t false) ∘ fun c => V.tup [chR N b c, YF c]) = fun c => (Za7 c).getD t false := by
   funext c;have hP : chP (.tup [chR N b c, YF c]) = c := Xf N b c;simp only [Function.comp, hP]
  rw [h1];apply List.map_congr_left;intro c _;have hP : chP (.tup [chR N b c, YF c]) = c := Xf N b c;simp only [Function.comp, hP]
 rw [e] at main;refine Yd main ?_;simp only [Zi6, Y4, Zx, ZaI, Option.map_some];rfl
noncomputable abbrev ZrZ : DE := Zq 3 (emL Znh) { it := (I.val (D.call Zo [(D.const (.int 3))])), tp := false, tgt := (fun d σ => some (σ.set 1 (some d))), ifs := (T.all []) } [{ it := (I.val (D.call Zo [(D.const (.int 3))])), tp := false, tgt := (fun d σ => some (σ.set 2 (some d))), ifs := (T.all []) }] (.list [])
theorem ZsD (h12 : σ[12]? = some (some (Zb4 N b))) (h30 : σ[30]? = some (some (Zah N))) (hP : ∀ s < 3, ∀ t < 3, cS N s t = (bk (5 + t)).2 s) : ZrZ σ B = some (.list (sqL bk), B) := by
 have main := ZpO (f := Znh) (it := I.val (D.call Zo [(D.const (.int 3))])) (it2 := I.val (D.call Zo [(D.const (.int 3))])) (ifs := T.all []) (ifs2 := T.all []) (tp := false) (tp2 := false)
  (σ := σ) (B := B) (B₁ := B) (xs := ZF (List.range 3)) (fun _ => ZF (List.range 3)) (fun x y => match x, y with | .int s, .int t => .int ((bk (5 + t.toNat)).2 s.toNat) | _, _ => .none) (ZQ (d := .range 0 ((3 : Nat) : Int)) rfl (YI (by decide)))
  (fun x hx => by
   refine Ze (List.mem_map.mp hx) fun s hs z_2 => ?_;subst z_2;have hs := List.mem_range.mp hs;refine ⟨rfl, fun z => ⟨rfl, ZQ (d := .range 0 ((3 : Nat) : Int)) rfl (YI (by decide))⟩, fun y hy => ⟨rfl, ?_⟩⟩;refine Ze (List.mem_map.mp hy) fun t ht z_2 => ?_;subst z_2;have ht := List.mem_range.mp ht;simp only [Int.toNat_natCast];rw [<- hP s hs t ht];exact Zra h12 h30 hs ht)
  (by decide)
 exact main
theorem ZtZ (bk : Bk) : Zc2 12 (.list (sqL bk)) = true := by simp [sqL, Zc2]
theorem ZpQ (h12 : σ[12]? = some (some (Zb4 N b))) (h30 : σ[30]? = some (some (Zah N))) (h20 : σ[20]? = some (some (.list (sqL bk)))) (hP : ∀ s < 3, ∀ t < 3, cS N s t = (bk (5 + t)).2 s) : T.cmp ZaX ZrZ (D.var 20) σ B = some (false, B) :=
 Yf (ZsD h12 h30 hP) (Zt h20) (ZmY (ZtZ bk))
noncomputable def ZcK (p : Xd) : V := .tup [p.one, p.two, .int ((p.m1 + p.m2 : Nat) : Int), .str (ZP (p.m1 + p.m2))]
noncomputable def Zi5 (b : Nat) (L : List V) : Prop := ∀ x ∈ L, ∃ p : Xd, p.Ok /\ p.base = b /\ x = ZcK p
theorem Zpa {F : VF} {f1 f2 f3 f4 f5 f6 : DE} {d1 d2 d3 d4 d5 d6 d : V} (h1 : f1 σ B = some (d1, B)) (h2 : f2 σ B = some (d2, B)) (h3 : f3 σ B = some (d3, B)) (h4 : f4 σ B = some (d4, B)) (h5 : f5 σ B = some (d5, B)) (h6 : f6 σ B = some (d6, B)) (hF : F B [d1, d2, d3, d4, d5, d6] = some (d, B)) :
  D.call F [f1, f2, f3, f4, f5, f6] σ B = some (d, B) := by simp [D.call, D.row, h1, h2, h3, h4, h5, h6, hF]
noncomputable abbrev ZtT : DE := Zq 2 (emL (D.var 1)) { it := (I.val (D.var 14)), tp := false, tgt := (fun d σ => some (σ.set 1 (some d))), ifs := (T.all [(T.not (T.of (D.call ZU [(D.bin Zc (D.var 1) (D.const (.int 0))), (D.bin Zc (D.var 1) (D.const (.int 1))), (D.bin Zc (D.var 1) (D.const (.int 2))), (D.bin Zc (D.var 1) (D.const (.int 3))), (D.var 5), (D.var 8)])))]) } [] (.list [])
theorem Zq7 {L : List V} (hL : Zi5 b L) (hcap : L.length <= Cap) (h14 : σ[14]? = some (some (.box 0))) (h3 : σ[3]? = some (some (.int (b : Int)))) (h6 : σ[6]? = some (some (.list (ZB b 10)))) : T.cmp ZaX ZtT (D.list []) σ [.list L] = some (false, [.list L]) := by
 have main := ZhY (f := D.var 1) (it := I.val (D.var 14)) (ifs := T.all [(T.not (T.of (D.call ZU [(D.bin Zc (D.var 1) (D.const (.int 0))), (D.bin Zc (D.var 1) (D.const (.int 1))), (D.bin Zc (D.var 1) (D.const (.int 2))), (D.bin Zc (D.var 1) (D.const (.int 3))), (D.var 5), (D.var 8)])))]) (tp := false) (σ := σ) (B := [.list L]) (n := 0) (xs := L)
  (fun _ => false) (fun x => x) (ZQ (Zt h14) rfl) rfl
  (fun x hx => by
   refine Xn (hL x hx) fun p hp hpb z_3 => ?_;subst z_3;refine ⟨ZbV ?_, fun h => by cases h⟩
   have hc : D.call ZU [(D.bin Zc (D.var 1) (D.const (.int 0))), (D.bin Zc (D.var 1) (D.const (.int 1))), (D.bin Zc (D.var 1) (D.const (.int 2))), (D.bin Zc (D.var 1) (D.const (.int 3))), (D.var 5), (D.var 8)] (none :: some (ZcK p) :: σ) [.list L] = some (.bool true, [.list L]) := by
    have hF := Zmm hp (B := [.list L]);unfold Xd.args at hF;rw [hpb] at hF
    have ix : ∀ (k : Nat) (d : V), ([p.one, p.two, .int ((p.m1 + p.m2 : Nat) : Int), .str (ZP (p.m1 + p.m2))] : List V)[k]? = some d -> k < 4 -> D.bin Zc (D.var 1) (D.const (.int (k : Int))) (none :: some (ZcK p) :: σ) [.list L] = some (d, [.list L]) := fun k d hd hk =>
     Zf rfl rfl (by unfold ZcK; rw [Zb0 (by simpa using hk) (by lia), hd])
    exact Zpa (ix 0 _ rfl (by decide)) (ix 1 _ rfl (by decide)) (ix 2 _ rfl (by decide)) (ix 3 _ rfl (by decide)) (Zt (i := 5) (σ := none :: some (ZcK p) :: σ) h3) (Zt (i := 8) (σ := none :: some (ZcK p) :: σ) h6) hF
   simp only [T.not, XC hc (c := true) rfl, Bool.not_true])
  hcap
 rw [List.filter_eq_nil_iff.mpr (fun _ _ => by simp), List.map_nil] at main;exact Yf main rfl rfl
noncomputable def Zcg : V -> V
 | .dict ks ds => .list (Zbe ks ds)
 | _ => .none
theorem ZdQ (w : Nat -> Str) (o : List Nat) (g : Nat -> V) : Zbe (o.map w) (o.map g) = o.map fun s => .tup [.str (w s), g s] := by
 unfold Zbe;rw [List.zip_map', List.map_map];rfl
theorem Zdr (o o' : List Nat) : o'.filter (· ∉ o) = o'.filter fun s => !o.contains s := by
 apply List.filter_congr;intro s _;rw [Bool.eq_iff_iff];simp
theorem Zp9 (w : Nat -> Str) (C : Cnt) (os : List (List Nat)) : Zc2 12 (Zfi w C os) = true := by
 show ((List.range 8).map (Zgk w C os) ++ _ : List V).all (Zc2 11) = true;rw [List.all_append, Bool.and_eq_true]
 constructor
 ·rw [List.all_eq_true]
  intro x hx;refine Ze (List.mem_map.mp hx) fun v _ z_2 => ?_;subst z_2;simp [Zgk, Zc2]
 ·simp [Zc2]
theorem ZsL {L : List V} {C : Cnt} {os : List (List Nat)} (hN : ZS N 20) (hb : b <= 22) (hk : Zc0 bk) (hC : C = Zbf N) (hos : os = YB N 8) (hP1 : ∀ v < 8, (bk v).1 = os.getD v []) (hP2 : ∀ v < 8, ∀ s < 3, (bk v).2 s = C v s)
  (h2 : σ[2]? = some (some (YR N))) (h6 : σ[6]? = some (some (.list (ZB b 10)))) (h7 : σ[7]? = some (some (.list (ZO (wAt b) bk)))) (h8 : σ[8]? = some (some (XG (wAt b) (JM (bk 5) (bk 6)))))
  (h9 : σ[9]? = some (some (Zaq (wAt b) ((bk 5).1 ++ (bk 6).1.filter (· ∉ (bk 5).1)) fun s => ((bk 6).2 s + (bk 5).2 s, Js (bk 6).1 s + Js (bk 5).1 s)))) (h10 : σ[10]? = some (some (XB N))) :
  D.bin (bv X8) (Zq 2 (emL (D.listItems (D.var 1))) { it := (I.val (D.bin ZE (D.var 7) (D.list [(D.var 8), (D.var 9)]))), tp := false, tgt := (fun d σ => some (σ.set 1 (some d))), ifs := (T.all []) } [] (.list [])) (D.call ZV [(D.var 2), (D.var 10), (D.var 6)]) σ [.list L] = some (.bool true, [.list L]) := by
 have hsum : D.bin ZE (D.var 7) (D.list [(D.var 8), (D.var 9)]) σ [.list L] = some (.list (ZO (wAt b) bk ++ [XG (wAt b) (JM (bk 5) (bk 6)), Zaq (wAt b) ((bk 5).1 ++ (bk 6).1.filter (· ∉ (bk 5).1)) fun s => ((bk 6).2 s + (bk 5).2 s, Js (bk 6).1 s + Js (bk 5).1 s)]), [.list L]) := by
  refine Zf (Zt h7) (e := .list [XG (wAt b) (JM (bk 5) (bk 6)), Zaq (wAt b) ((bk 5).1 ++ (bk 6).1.filter (· ∉ (bk 5).1)) fun s => ((bk 6).2 s + (bk 5).2 s, Js (bk 6).1 s + Js (bk 5).1 s)]) (B₂ := [.list L]) (by simp only [D.list, D.row, Zt h8, Zt h9]) ?_;simp only [ZeM, Zx, JU, List.length_cons, List.length_nil];rw [if_pos (by decide)]
 have hdl : ∀ (d : V) (ks : List Str) (ds : List V), d = .dict ks ds -> ks.length <= Cap -> D.listItems (D.var 1) (none :: some d :: σ) [.list L] = some (Zcg d, [.list L]) := fun d ks ds hd hl => by
  subst hd;simp only [D.listItems, D.var, List.getElem?_cons_succ, List.getElem?_cons_zero, ZR hl, if_true, Zcg]
 have l5 := YQ (hk 5).nodup (hk 5).lt;have l6 := YQ (hk 6).nodup (hk 6).lt;have lf := List.length_filter_le (fun s => decide (s ∉ (bk 5).1)) (bk 6).1
 have main := Jb (f := D.listItems (D.var 1)) (it := I.val (D.bin ZE (D.var 7) (D.list [(D.var 8), (D.var 9)]))) (ifs := T.all []) (tp := false) (σ := σ) (B := [.list L]) (B₁ := [.list L]) (fun _ => true) Zcg (ZQ hsum rfl)
  (fun x hx => by
   refine ⟨rfl, fun _ => ?_⟩;rcases List.mem_append.mp hx with hx | hx
   ·refine Ze (List.mem_map.mp hx) fun v _ z_2 => ?_
    subst z_2;refine hdl _ _ _ rfl ?_;rw [List.length_map];have := YQ (hk v).nodup (hk v).lt;unfold Cap; lia
   ·simp only [List.mem_cons, List.not_mem_nil, or_false] at hx
    rcases hx with rfl | rfl
    ·refine hdl _ _ _ rfl ?_
     rw [List.length_map];unfold JM;simp only [List.length_append];unfold Cap; lia
    ·refine hdl _ _ _ rfl ?_
     rw [List.length_map, List.length_append];unfold Cap; lia)
  (by rw [List.length_append, JU]; simp [Cap])
 rw [List.filter_eq_self.mpr (fun _ _ => rfl)] at main;have hd := Zl4 hN hb (X := .list L)
 have hcall : D.call ZV [(D.var 2), (D.var 10), (D.var 6)] σ [.list L] = some (Zfi (wAt b) C os, [.list L]) := by
  rw [hC, hos];exact Zdo (Zt h2) (Zt h10) (Zt h6) hd
 have key : ((ZO (wAt b) bk ++ [XG (wAt b) (JM (bk 5) (bk 6)), Zaq (wAt b) ((bk 5).1 ++ (bk 6).1.filter (· ∉ (bk 5).1)) fun s => ((bk 6).2 s + (bk 5).2 s, Js (bk 6).1 s + Js (bk 5).1 s)]).map Zcg) =
   (List.range 8).map (Zgk (wAt b) C os) ++ [.list ((Xq os).map fun s => .tup [.str (wAt b s), .int (C 5 s + C 6 s)]), .list ((Xq os).map fun s => .tup [.str (wAt b s), .tup [.int (C 5 s + C 6 s), .int (Zf3 os s)]])] := by
  have hlast : (bk 5).1 ++ (bk 6).1.filter (· ∉ (bk 5).1) = Xq os := by
   rw [Zdr, hP1 5 (by decide), hP1 6 (by decide)];rfl
  have hlt : ∀ s ∈ Xq os, s < 3 := fun s hs => by
   rw [<- hlast] at hs;rcases List.mem_append.mp hs with h | h
   ·exact (hk 5).lt s h
   ·exact (hk 6).lt s (List.mem_filter.mp h).1
  rw [List.map_append];congr 1
  ·unfold ZO
   rw [List.map_map];apply List.map_congr_left;intro v hv;have hv := List.mem_range.mp hv;show V.list (Zbe ((bk v).1.map (wAt b)) ((bk v).1.map fun s => V.int ((bk v).2 s))) = Zgk (wAt b) C os v;rw [ZdQ];unfold Zgk;rw [<- hP1 v hv];congr 1;apply List.map_congr_left;intro s hs;rw [hP2 v hv s ((hk v).lt s hs)]
  ·simp only [List.map_cons, List.map_nil]
   congr 1
   ·show V.list (Zbe ((JM (bk 5) (bk 6)).1.map (wAt b)) ((JM (bk 5) (bk 6)).1.map fun s => V.int ((JM (bk 5) (bk 6)).2 s))) = _
    rw [ZdQ];show V.list (((bk 5).1 ++ (bk 6).1.filter (· ∉ (bk 5).1)).map fun s => V.tup [.str (wAt b s), .int ((bk 5).2 s + (bk 6).2 s)]) = _;rw [hlast];congr 1;apply List.map_congr_left;intro s hs;rw [hP2 5 (by decide) s (hlt s hs), hP2 6 (by decide) s (hlt s hs)]
   ·congr 1
    unfold Zaq Zcg;simp only;rw [ZdQ, hlast];congr 1;apply List.map_congr_left;intro s hs;rw [hP2 5 (by decide) s (hlt s hs), hP2 6 (by decide) s (hlt s hs)]
    have e1 : Js (bk 6).1 s + Js (bk 5).1 s = Zf3 os s := by
     unfold Js Zf3;rw [hP1 5 (by decide), hP1 6 (by decide)];lia
    rw [e1, Int.add_comm (C 6 s)]
 rw [key] at main;refine Zf main hcall ?_;unfold bv Zfi;rw [ZgB (Zp9 _ _ _)];rfl
end
theorem ZdX (b m : Nat) (p q : Nat -> Bool) (h : ∀ k < m, p (b + k) = q k) : ((List.range m).map (b + ·)).filter p = ((List.range m).filter q).map (b + ·) := by
 rw [List.filter_map];congr 1;apply List.filter_congr;intro k hk;exact h k (List.mem_range.mp hk)
theorem ZdN {M b : Nat} (hM : M < 1024) (hb : b <= 22) : Z1 (2 ^ b * M) = ((List.range 10).filter M.testBit).map (b + ·) := by
 unfold Z1;have e1 : List.range 32 = List.range b ++ (List.range (32 - b)).map (b + ·) := by rw [<- List.range_add]; congr 1; lia
 have t : ∀ j, (2 ^ b * M).testBit j = (decide (j >= b) && M.testBit (j - b)) := fun j => Nat.testBit_two_pow_mul
 have e2 : (List.range b).filter (2 ^ b * M).testBit = [] := by
  rw [List.filter_eq_nil_iff];intro k hk;have := List.mem_range.mp hk;rw [t, decide_eq_false (by lia)];simp
 have e3 : ((List.range (32 - b)).map (b + ·)).filter (2 ^ b * M).testBit = ((List.range (32 - b)).filter M.testBit).map (b + ·) :=
  ZdX b (32 - b) _ _ fun k _ => by rw [t, decide_eq_true (by lia), Bool.true_and, show b + k - b = k by lia]
 have e4 : List.range (32 - b) = List.range 10 ++ (List.range (22 - b)).map (10 + ·) := by rw [<- List.range_add]; congr 1; lia
 have e5 : ((List.range (22 - b)).map (10 + ·)).filter M.testBit = [] := by
  rw [List.filter_eq_nil_iff];intro k hk;refine Ze (List.mem_map.mp hk) fun j _ z_2 => ?_;subst z_2
  have : M.testBit (10 + j) = false := Nat.testBit_lt_two_pow (Nat.lt_of_lt_of_le hM (by
   have : 2 ^ 10 <= 2 ^ (10 + j) := Nat.pow_le_pow_right (by decide) (by lia);lia))
  rw [this]; simp
 rw [e1, List.filter_append, e2, List.nil_append, e3, e4, List.filter_append, e5, List.append_nil]
theorem Zio (b : Nat) (c : List Nat) : Xl b c = 2 ^ b * Xl 0 c := by
 unfold Xl
 induction c with
 | nil => rfl
 | cons v c ih =>
  rw [List.map_cons, List.sum_cons, ih, List.map_cons, List.sum_cons, Nat.mul_add, Nat.zero_add, Nat.pow_add]
theorem Zn1 (b : Nat) (c c' : List Nat) : Xl b (c ++ c') = Xl b c + Xl b c' := by
 unfold Xl; rw [List.map_append, List.sum_append]
noncomputable def dis (c c' : List Nat) : Bool := (c.filter (c'.contains ·)).isEmpty
noncomputable def Zq1 (c c' : List Nat) : Bool := decide (Xl 0 c + Xl 0 c' ≠ 0) && decide (Xl 0 c + Xl 0 c' < 1024) && (((List.range 10).filter (Xl 0 c + Xl 0 c').testBit).length == c.length + c'.length) == dis c c' && decide (c.length <= 16) && decide (c'.length <= 16)
noncomputable def tin (b : Nat) (c : List Nat) (x : V) (r : List V) (c' : List Nat) (x' : V) (r' : List V) : Xd := { c1 := c, x1 := x, m1 := Xl b c, r1 := r, c2 := c', x2 := x', m2 := Xl b c', r2 := r', base := b }
theorem ZpM {b : Nat} (hb : b <= 22) {c c' : List Nat} (h : Zq1 c c' = true) {x x' : V} {r r' : List V} (hr : r.length <= 10) (hr' : r'.length <= 10) : (tin b c x r c' x' r').Ok := by
 unfold Zq1 at h;simp only [Bool.and_eq_true, decide_eq_true_eq, beq_iff_eq] at h;obtain ⟨⟨⟨⟨h1, h2⟩, h3⟩, h4⟩, h5⟩ := h;have hm : Xl b c + Xl b c' = 2 ^ b * (Xl 0 c + Xl 0 c') := by rw [Zio b c, Zio b c', Nat.mul_add]
 have hpos : 0 < 2 ^ b := Nat.pow_pos (by decide);refine ⟨?_, ?_, by show c.length <= 1000; lia, by show c'.length <= 1000; lia, hr, hr', hb, ?_, ?_⟩
 ·show Xl b c + Xl b c' ≠ 0
  rw [hm];intro z;rcases Nat.mul_eq_zero.mp z with z | z <;> lia
 ·show Xl b c + Xl b c' < 2 ^ 32
  rw [hm];have : 2 ^ b <= 2 ^ 22 := Nat.pow_le_pow_right (by decide) hb;have h6 : 2 ^ b * (Xl 0 c + Xl 0 c') < 2 ^ b * 1024 := Nat.mul_lt_mul_of_pos_left h2 hpos;lia
 ·show ((Z1 (Xl b c + Xl b c')).length == c.length + c'.length) = _
  rw [hm, ZdN h2 hb, List.length_map, h3];rfl
 ·show Z1 (Xl b c + Xl b c') = ((List.range 10).filter fun k => (Xl b c + Xl b c').testBit (b + k)).map (b + ·)
  rw [hm, ZdN h2 hb];congr 1;apply List.filter_congr;intro k _;rw [Nat.testBit_two_pow_mul, decide_eq_true (by lia), Bool.true_and, show b + k - b = k by lia]
theorem Zly {c : List Nat} {x : V} {m : Nat} {r : List V} (hx : Yc 9 x = true) (hr : r.all (Yc 9) = true) : Yc 10 (Jv (ZF c) x m r) = true := by
 show (V.list (ZF c) :: x :: V.int (m : Int) :: r).all (Yc 9) = true;rw [List.all_cons, List.all_cons, List.all_cons, hx, hr];have : Yc 9 (.list (ZF c)) = true := by simp [Yc, ZF]
 rw [this];rfl
theorem ZrQ {p : Xd} (hp : p.Ok) {L : List V} (hL : L.length <= Cap) (hn : L.all (Yc 11) = true) (h1 : Yc 10 p.one = true) (h2 : Yc 10 p.two = true) :
  ZC [.list L] [p.one, p.two, .box 0] = some (.bool (dis p.c1 p.c2), [.list (L ++ [ZcK p])]) := by
 have o1 : Zb3 p.one = true := Zoj (by rw [ZM]; exact hp.l1) hp.q1;have o2 : Zb3 p.two = true := Zoj (by rw [ZM]; exact hp.l2) hp.q2;have m1 : YP p.one = p.m1 := rfl;have m2 : YP p.two = p.m2 := rfl;have l1 : ZcP p.one = p.c1.length := ZM _;have l2 : ZcP p.two = p.c2.length := ZM _
 show (if Zb3 p.one = true /\ Zb3 p.two = true /\ YP p.one + YP p.two ≠ 0 /\ YP p.one + YP p.two < 2 ^ 32 /\ L.length <= Cap /\ L.all (Yc 11) = true /\ Yc 10 p.one = true /\ Yc 10 p.two = true then
   some (V.bool ((Z1 (YP p.one + YP p.two)).length == ZcP p.one + ZcP p.two), [V.list (L ++ [.tup [p.one, p.two, .int ((YP p.one + YP p.two : Nat) : Int), .str (ZP (YP p.one + YP p.two))]])]) else none) = _
 rw [m1, m2, l1, l2, if_pos ⟨o1, o2, hp.ne, hp.lt, hL, hn, h1, h2⟩, hp.apart];rfl
theorem Zqc {p : Xd} (h1 : Yc 10 p.one = true) (h2 : Yc 10 p.two = true) : Yc 11 (ZcK p) = true := by
 show ([p.one, p.two, .int ((p.m1 + p.m2 : Nat) : Int), .str (ZP (p.m1 + p.m2))] : List V).all (Yc 10) = true;rw [List.all_cons, h1, List.all_cons, h2];rfl
noncomputable def Zdu (c1 c2 : List Nat) : Bool := Zs c2 != Zs c1
noncomputable def ZfP (c1 c2 c3 : List Nat) : Bool := Zs c3 != Zs c1 && Zs c3 != Zs c2
theorem ZqM : ∀ c1 ∈ chS 0, ∀ c2 ∈ chS 1, Zdu c1 c2 = true -> Zq1 c1 c2 = true /\ (dis c1 c2 = true -> c1.length + c2.length <= 8) := by decide +kernel
theorem Zp8 : ∀ c1 ∈ chS 0, ∀ c2 ∈ chS 1, Zdu c1 c2 = true -> dis c1 c2 = true -> ∀ c3 ∈ chS 2, ZfP c1 c2 c3 = true -> Zq1 (c1 ++ c2) c3 = true /\ (dis (c1 ++ c2) c3 = true -> c1.length + c2.length + c3.length <= 8) /\ (Zs c1, Zs c2, Zs c3) ∈ Zh8 := by decide +kernel
structure Fx (js : List Nat) (σ σ' : St) : Prop where
 len : σ'.length = σ.length
 keep : ∀ j, j ∉ js -> σ'[j]? = σ[j]?
theorem Fx.refl (js : List Nat) (σ : St) : Fx js σ σ := ⟨rfl, fun _ _ => rfl⟩
theorem Fx.trans {js : List Nat} {a b c : St} (h : Fx js a b) (h' : Fx js b c) : Fx js a c := ⟨h'.len.trans h.len, fun j hj => (h'.keep j hj).trans (h.keep j hj)⟩
theorem Fx.mono {js js' : List Nat} {a b : St} (h : Fx js a b) (hs : ∀ j ∈ js, j ∈ js') : Fx js' a b := ⟨h.len, fun j hj => h.keep j fun z => hj (hs j z)⟩
theorem Fx.set {js : List Nat} {a b : St} (h : Fx js a b) {i : Nat} (hi : i ∈ js) (x : Option V) : Fx js a (b.set i x) := ⟨by rw [List.length_set]; exact h.len, fun j hj => by
 rw [List.getElem?_set_ne (by intro e; subst e; exact hj hi)]; exact h.keep j hj⟩
theorem ZcY {σ : St} {i : Nat} {x : Option V} (h : i < σ.length) : (σ.set i x)[i]? = some x := by rw [List.getElem?_set_self h]
theorem ZmF {σ : St} {i : Nat} {x : Option V} (h : σ[i]? = some x) : i < σ.length := (List.getElem?_eq_some_iff.mp h).1
noncomputable def XM (b : Nat) (L : List V) : Prop := Zi5 b L /\ L.all (Yc 11) = true
theorem XM.snoc {b : Nat} {L : List V} (h : XM b L) {p : Xd} (hp : p.Ok) (hb : p.base = b) (h1 : Yc 10 p.one = true) (h2 : Yc 10 p.two = true) : XM b (L ++ [ZcK p]) := by
 refine ⟨fun x hx => ?_, ?_⟩
 ·rcases List.mem_append.mp hx with hx | hx
  ·exact h.1 x hx
  ·simp only [List.mem_singleton] at hx
   exact ⟨p, hp, hb, hx⟩
 ·rw [List.all_append, h.2, List.all_cons, Zqc h1 h2]; rfl
section
variable {N : Mat}
noncomputable def Zb1 (N : Mat) (c1 c2 c3 : List Nat) : Int := if dis (c1 ++ c2) c3 then wgt N c1 * wgt N c2 * wgt N c3 * ZmT (Zs c1, Zs c2, Zs c3) else 0
noncomputable def T3 (N : Mat) (c1 c2 : List Nat) : Int := ((((chS 2).filter (ZfP c1 c2)).filter (Yn N)).map (Zb1 N c1 c2)).sum
noncomputable def T2 (N : Mat) (c1 : List Nat) : Int := ((((chS 1).filter (Zdu c1)).filter (Yn N)).map fun c2 => if dis c1 c2 then T3 N c1 c2 else 0).sum
noncomputable def T1 (N : Mat) : Int := (((chS 0).filter (Yn N)).map (T2 N)).sum
end
theorem ZsT : ∀ k ≤ 8, (20 : Int) ^ k <= 25600000000 := by decide +kernel
theorem ZiI {x y : Int} {a c : Nat} (hx : 0 <= x /\ x <= 20 ^ a) (hy : 0 <= y /\ y <= 20 ^ c) : 0 <= x * y /\ x * y <= 20 ^ (a + c) := by
 refine ⟨Int.mul_nonneg hx.1 hy.1, ?_⟩;rw [Int.pow_add];exact Int.mul_le_mul hx.2 hy.2 hy.1 (Int.le_trans hx.1 hx.2)
theorem Zg6 {x : Int} {a : Nat} (hx : 0 <= x /\ x <= 20 ^ a) (ha : a <= 8) : small x = true := by
 have := ZsT a ha;unfold small;simp only [Bool.and_eq_true, decide_eq_true_eq];lia
structure LSt (N : Mat) (b : Nat) (way : Int) (σ : St) : Prop where
 h3 : σ[3]? = some (some (.int (b : Int)))
 h4 : σ[4]? = some (some (.int way))
 h5 : σ[5]? = some (some (ZdR way))
 h12 : σ[12]? = some (some (Zb4 N b))
 h14 : σ[14]? = some (some (.box 0))
 len : 20 <= σ.length
theorem LSt.fx {js : List Nat} {N : Mat} {b : Nat} {way : Int} {σ σ' : St} (h : LSt N b way σ) (f : Fx js σ σ') (hj : ∀ j ∈ js, j ∈ [13, 15, 16, 17, 18, 19]) : LSt N b way σ' := by
 have k : ∀ i, i ∉ [13, 15, 16, 17, 18, 19] -> σ'[i]? = σ[i]? := fun i hi => f.keep i fun z => hi (hj i z);exact ⟨by rw [k 3 (by decide)]; exact h.h3, by rw [k 4 (by decide)]; exact h.h4, by rw [k 5 (by decide)]; exact h.h5, by rw [k 12 (by decide)]; exact h.h12, by rw [k 14 (by decide)]; exact h.h14, by rw [f.len]; exact h.len⟩
noncomputable section
noncomputable abbrev Znp : DS := S.ite (T.of (D.call ZC [(D.var 17), (D.var 19), (D.var 14)])) (S.aug Zbj 13 (D.bin Xb (D.bin Xb (D.bin Xb (D.bin Zc (D.var 15) (D.const (.int 1))) (D.bin Zc (D.var 16) (D.const (.int 1)))) (D.bin Zc (D.var 19) (D.const (.int 1)))) (D.call Z4 [(D.var 5), (D.var 4), (D.bin ZE (D.var 18) (D.tup [(D.bin Zc (D.bin Zc (D.var 19) (D.const (.int 0))) (D.un YH (D.const (.int 1))))]))]))) S.skip
noncomputable abbrev ZoD : DE := Zq 2 (emL (D.var 1)) { it := (I.val (D.bin Zc (D.var 12) (D.const (.int 2)))), tp := false, tgt := (fun d σ => some (σ.set 1 (some d))), ifs := (T.all [(T.cmp Jp (D.bin Zc (D.bin Zc (D.var 1) (D.const (.int 0))) (D.un YH (D.const (.int 1)))) (D.var 20))]) } [] (.list [])
noncomputable abbrev Zrl : DS := S.loopS (I.val ZoD) (fun d σ => some (σ.set 19 (some d))) Znp S.skip
noncomputable abbrev ZrX : DS := S.assigns [17, 18] (D.tup [(D.tup [(D.bin ZE (D.bin Zc (D.var 15) (D.const (.int 0))) (D.bin Zc (D.var 16) (D.const (.int 0)))), (D.const (.int 0)), (D.bin ZE (D.bin Zc (D.var 15) (D.const (.int 2))) (D.bin Zc (D.var 16) (D.const (.int 2))))]), (D.tup [(D.bin Zc (D.bin Zc (D.var 15) (D.const (.int 0))) (D.un YH (D.const (.int 1)))), (D.bin Zc (D.bin Zc (D.var 16) (D.const (.int 0))) (D.un YH (D.const (.int 1))))])])
noncomputable abbrev ZpP : DS := S.ite (T.of (D.call ZC [(D.var 15), (D.var 16), (D.var 14)])) (S.seq ZrX Zrl) S.skip
noncomputable abbrev ZnE : DE := Zq 2 (emL (D.var 1)) { it := (I.val (D.bin Zc (D.var 12) (D.const (.int 1)))), tp := false, tgt := (fun d σ => some (σ.set 1 (some d))), ifs := (T.all [(T.cmp ZaX (D.bin Zc (D.bin Zc (D.var 1) (D.const (.int 0))) (D.un YH (D.const (.int 1)))) (D.bin Zc (D.bin Zc (D.var 17) (D.const (.int 0))) (D.un YH (D.const (.int 1)))))]) } [] (.list [])
noncomputable abbrev Zrg : DS := S.loopS (I.val ZnE) (fun d σ => some (σ.set 16 (some d))) ZpP S.skip
noncomputable abbrev Zts : DS := S.loopS (I.val (D.bin Zc (D.var 12) (D.const (.int 0)))) (fun d σ => some (σ.set 15 (some d))) Zrg S.skip
end
section
variable {σ : St} {B : Bx} {N : Mat} {b : Nat} {way : Int} {L : List V}
noncomputable def ZgY (b : Nat) (c1 c2 : List Nat) : V := Jv (ZF (c1 ++ c2)) (.int 0) (Xl b (c1 ++ c2)) []
noncomputable def Zgr (c1 c2 : List Nat) : V := .tup [.int (Zs c1 : Int), .int (Zs c2 : Int)]
theorem ZcG (N : Mat) (b : Nat) (c : List Nat) : Yc 10 (chR N b c) = true := Zly rfl rfl
theorem ZgF (b : Nat) (c1 c2 : List Nat) : Yc 10 (ZgY b c1 c2) = true := Zly rfl rfl
theorem Zhb {i : Nat} {c : List Nat} (h : σ[i]? = some (some (chR N b c))) : D.bin Zc (D.var i) (D.const (.int 1)) σ B = some (.int (wgt N c), B) := Zf (Zt h) rfl ZrG
theorem Zpi (hN : ZS N 20) (hb : b <= 22) (hw : way = 1 \/ way = -1) {c1 c2 c3 : List Nat} (h1 : c1 ∈ chS 0) (h2 : c2 ∈ chS 1) (hf : Zdu c1 c2 = true) (hd : dis c1 c2 = true) (h3 : c3 ∈ chS 2) (hf3 : ZfP c1 c2 c3 = true)
  (S0 : LSt N b way σ) {tot : Int} (h13 : σ[13]? = some (some (.int tot))) (h15 : σ[15]? = some (some (chR N b c1))) (h16 : σ[16]? = some (some (chR N b c2))) (h17 : σ[17]? = some (some (ZgY b c1 c2))) (h18 : σ[18]? = some (some (Zgr c1 c2))) (h19 : σ[19]? = some (some (chR N b c3)))
  (hL : XM b L) (hcap : L.length <= Cap) : ∃ σ' L', Znp σ [.list L] = some (.next, σ', [.list L']) /\ Fx [13] σ σ' /\ σ'[13]? = some (some (.int (tot + Zb1 N c1 c2 c3))) /\ XM b L' /\ L'.length = L.length + 1 := by
 obtain ⟨a1, a2, a3⟩ := Zp8 c1 h1 c2 h2 hf hd c3 h3 hf3;have hp := ZpM (x := .int 0) (r := []) (x' := .int (wgt N c3)) (r' := [.str (Jw c3)]) hb a1 (by simp) (by simp);have hap := ZrQ hp hcap hL.2 (ZgF b c1 c2) (ZcG N b c3)
 have hcall : D.call ZC [(D.var 17), (D.var 19), (D.var 14)] σ [.list L] = some (.bool (dis (c1 ++ c2) c3), [.list (L ++ [ZcK (tin b (c1 ++ c2) (.int 0) [] c3 (.int (wgt N c3)) [.str (Jw c3)])])]) :=
  Zdo (Zt h17) (Zt h19) (Zt S0.h14) hap
 have hL' := hL.snoc hp rfl (ZgF b c1 c2) (ZcG N b c3);unfold Znp
 cases hdis : dis (c1 ++ c2) c3 with
 | false =>
  rw [hdis] at hcall;refine ⟨σ, _, (X4 (XC hcall rfl)).trans rfl, Fx.refl _ _, ?_, hL', by simp⟩;unfold Zb1;rw [hdis, if_neg (by decide), Int.add_zero];exact h13
 | true =>
  rw [hdis] at hcall;have l8 := a2 hdis;have w1 := ZbK hN c1;have w2 := ZbK hN c2;have w3 := ZbK hN c3;have n1 := List.length_pos_iff.mpr (ZaJ h1).2.2;have n2 := List.length_pos_iff.mpr (ZaJ h2).2.2;have n3 := List.length_pos_iff.mpr (ZaJ h3).2.2;have w12 := ZiI w1 w2;have w123 := ZiI w12 w3
  have e : D.bin Xb (D.bin Xb (D.bin Xb (D.bin Zc (D.var 15) (D.const (.int 1))) (D.bin Zc (D.var 16) (D.const (.int 1)))) (D.bin Zc (D.var 19) (D.const (.int 1)))) (D.call Z4 [(D.var 5), (D.var 4), (D.bin ZE (D.var 18) (D.tup [(D.bin Zc (D.bin Zc (D.var 19) (D.const (.int 0))) (D.un YH (D.const (.int 1))))]))])
    σ [.list (L ++ [ZcK (tin b (c1 ++ c2) (.int 0) [] c3 (.int (wgt N c3)) [.str (Jw c3)])])] = some (.int (Zb1 N c1 c2 c3), [.list (L ++ [ZcK (tin b (c1 ++ c2) (.int 0) [] c3 (.int (wgt N c3)) [.str (Jw c3)])])]) := by
   have ee : D.bin ZE (D.var 18) (D.tup [(D.bin Zc (D.bin Zc (D.var 19) (D.const (.int 0))) (D.un YH (D.const (.int 1))))]) σ [.list (L ++ [ZcK (tin b (c1 ++ c2) (.int 0) [] c3 (.int (wgt N c3)) [.str (Jw c3)])])] = some (Zjb (Zs c1, Zs c2, Zs c3), [.list (L ++ [ZcK (tin b (c1 ++ c2) (.int 0) [] c3 (.int (wgt N c3)) [.str (Jw c3)])])]) :=
    Zf (Zt h18) (e := .tup [.int (Zs c3 : Int)]) (by simp only [D.tup, D.row, ZaP h19 (ZaJ h3).2.2]) rfl
   have := Zf (Zf (Zf (Zhb (B := [.list (L ++ [ZcK (tin b (c1 ++ c2) (.int 0) [] c3 (.int (wgt N c3)) [.str (Jw c3)])])]) h15) (Zhb h16) (Zac (Zg6 w1 (by lia)))) (Zhb h19) (Zac (Zg6 w12 (by lia)))) (Zdo (Zt S0.h5) (Zt S0.h4) ee (ZlI hw a3)) (Zac (Zg6 w123 (by lia)));rw [this];unfold Zb1;rw [hdis];rfl
  refine ⟨σ.set 13 (some (.int (tot + Zb1 N c1 c2 c3))), _, (ZaT (XC hcall rfl)).trans (ZjE h13 e rfl), (Fx.refl _ _).set (by decide) _, ZcY (ZmF h13), hL', by simp⟩
end
section
variable {σ : St} {B : Bx} {N : Mat} {b : Nat} {way : Int} {L : List V}
theorem ZpV (x a c : Nat) : Jp B (.int (x : Int)) (.tup [.int (a : Int), .int (c : Int)]) = some (x != a && x != c) := by
 show (ZdW (.int (x : Int)) [.int (a : Int), .int (c : Int)]).map (!·) = _;have : ZdW (.int (x : Int)) [.int (a : Int), .int (c : Int)] = some (((a : Int) == (x : Int)) || (((c : Int) == (x : Int)) || false)) := rfl;rw [this];simp only [Option.map_some];congr 1;rw [Za5, Za5];rw [Bool.eq_iff_iff];simp only [Bool.not_eq_true', Bool.or_eq_false_iff, beq_eq_false_iff_ne, Bool.and_eq_true, bne_iff_ne, and_true]
 constructor <;> rintro ⟨h1, h2⟩ <;> exact ⟨Ne.symm h1, Ne.symm h2⟩
theorem ZoW (S0 : LSt N b way σ) {c1 c2 : List Nat} (h18 : σ[18]? = some (some (Zgr c1 c2))) : ZoD σ B = some (.list (Xw N b ((chS 2).filter (ZfP c1 c2))), B) := by
 have main := Jb (f := D.var 1) (it := I.val (D.bin Zc (D.var 12) (D.const (.int 2)))) (ifs := T.all [(T.cmp Jp (D.bin Zc (D.bin Zc (D.var 1) (D.const (.int 0))) (D.un YH (D.const (.int 1)))) (D.var 20))]) (tp := false) (σ := σ) (B := B) (B₁ := B) (xs := Xw N b (chS 2))
  (fun x => ZfP c1 c2 (ZbR x)) (fun x => x) (ZQ (Zf (Zt S0.h12) rfl (Zbh 2 (by decide))) rfl)
  (fun x hx => by
   refine Ze (List.mem_map.mp hx) fun c hc z_2 => ?_;subst z_2;rw [Xf];exact ⟨ZbV (Yf (ZaP (i := 1) rfl (ZaJ (List.mem_filter.mp hc).1).2.2) (Zt (i := 20) (σ := none :: some (chR N b c) :: σ) h18) (ZpV _ _ _)), fun _ => rfl⟩)
  (by have h1 := Zbq N b (chS 2); have h2 := ZcC 2; unfold Cap; lia)
 rw [ZbC N b (chS 2) (ZfP c1 c2), List.map_id'] at main;exact main
theorem Zf1 : (chS 2).length = 28 /\ (chS 1).length = 56 /\ (chS 0).length = 112 := by decide +kernel
theorem Zfa {X : Type} {f : X -> V} {it : DI} {body : DS} {slot : Nat} {fx : List Nat} {P : X -> Prop} {term : X -> Int} {w : Nat} {L0 : List X} {tot : Int} (hin : slot ∈ fx) (hne : slot ≠ 13) (hs : slot < σ.length)
  (step : ∀ x σ1 t L', P x -> Fx fx σ σ1 -> σ1[13]? = some (some (.int t)) -> σ1[slot]? = some (some (f x)) -> XM b L' -> L'.length + w <= Cap ->
   ∃ σ2 L2, body σ1 [.list L'] = some (.next, σ2, [.list L2]) /\ Fx fx σ1 σ2 /\ σ2[13]? = some (some (.int (t + term x))) /\ XM b L2 /\ L2.length <= L'.length + w)
  (hit : it σ [.list L] = some (.seq (L0.map f), [.list L])) (hP : ∀ x ∈ L0, P x) (h13 : σ[13]? = some (some (.int tot))) (hL : XM b L) (hcap : L.length + w * L0.length <= Cap) :
  ∃ σ' L', S.loopS it (fun d σ => some (σ.set slot (some d))) body S.skip σ [.list L] = some (.next, σ', [.list L']) /\ Fx fx σ σ' /\ σ'[13]? = some (some (.int (tot + (L0.map term).sum))) /\ XM b L' /\ L'.length <= L.length + w * L0.length := by
 refine YU (Jo (f := f) (it := it) (els := S.skip) (tgt := fun d σ => some (σ.set slot (some d))) (body := body) (σ := σ) (B := [.list L]) (L := L0)
  (fun Lc σ' B' => ∃ (t' : Int) (L' : List V), (∀ c ∈ Lc, P c) /\ Fx fx σ σ' /\ σ'[13]? = some (some (.int t')) /\ t' + (Lc.map term).sum = tot + (L0.map term).sum /\ B' = [.list L'] /\ XM b L' /\ L'.length + w * Lc.length <= L.length + w * L0.length)
  (fun c Lc σ' B' h => ZnK h fun t' L' hc hF ht hT hB hI hl => by
   rw [hB];rw [List.length_cons, Nat.mul_succ] at hl;have F1 := hF.set hin (some (f c));refine JQ (step c (σ'.set slot (some (f c))) t' L' (hc c (.head _)) F1 ((List.getElem?_set_ne hne).trans ht) (ZcY (Nat.lt_of_lt_of_eq hs hF.len.symm)) hI (by lia)) fun σ2 L2 e2 F2 t2 i2 l2 => ?_;exact ⟨_, _, _, rfl, e2, t' + term c, L2, fun c h => hc c (.tail _ h), F1.trans F2, t2, by rw [<- hT, List.map_cons, List.sum_cons, Int.add_assoc], rfl, i2, by lia⟩)
  hit ⟨tot, L, hP, Fx.refl _ _, h13, rfl, rfl, hL, Nat.le_refl _⟩) fun σ' B' h e => ZnK h fun t' L' _ hF ht hT hB hI hl => ?_
 rw [hB] at e;rw [show t' = _ from (Int.add_zero t').symm.trans hT] at ht;exact ⟨σ', L', e, hF, ht, hI, hl⟩
theorem ZpE (hN : ZS N 20) (hb : b <= 22) (hw : way = 1 \/ way = -1) {c1 c2 : List Nat} (h1 : c1 ∈ chS 0) (h2 : c2 ∈ chS 1) (hf : Zdu c1 c2 = true) (hd : dis c1 c2 = true)
  (S0 : LSt N b way σ) {tot : Int} (h13 : σ[13]? = some (some (.int tot))) (h15 : σ[15]? = some (some (chR N b c1))) (h16 : σ[16]? = some (some (chR N b c2))) (h17 : σ[17]? = some (some (ZgY b c1 c2))) (h18 : σ[18]? = some (some (Zgr c1 c2)))
  (hL : XM b L) (hcap : L.length + 28 <= Cap) : ∃ σ' L', Zrl σ [.list L] = some (.next, σ', [.list L']) /\ Fx [13, 19] σ σ' /\ σ'[13]? = some (some (.int (tot + T3 N c1 c2))) /\ XM b L' /\ L'.length <= L.length + 28 := by
 have hl : (((chS 2).filter (ZfP c1 c2)).filter (Yn N)).length <= 28 := Nat.le_trans (List.length_filter_le _ _) (Nat.le_trans (List.length_filter_le _ _) (Nat.le_of_eq Zf1.1))
 refine JQ (Zfa (slot := 19) (fx := [13, 19]) (P := fun c => c ∈ chS 2 /\ ZfP c1 c2 c = true) (term := Zb1 N c1 c2) (w := 1) (by decide) (by decide) (by have := S0.len; lia) (fun c3 σ1 t L' hc F1 ht hs hI hl => ?_)
  (ZQ (ZoW S0 h18) rfl) (fun c h => List.mem_filter.mp (List.mem_filter.mp h).1) h13 hL (by lia)) fun σ' L' e F t i l => ⟨σ', L', e, F, t, i, by lia⟩
 have k := fun i hi => F1.keep i hi;refine JQ (Zpi hN hb hw h1 h2 hf hd hc.1 hc.2 (S0.fx F1 (by decide)) ht ((k 15 (by decide)).trans h15) ((k 16 (by decide)).trans h16) ((k 17 (by decide)).trans h17) ((k 18 (by decide)).trans h18) hs hI (Nat.le_trans (Nat.le_add_right _ _) hl)) fun σ2 L2 e2 F2 t2 i2 l2 => ⟨σ2, L2, e2, F2.mono (by decide), t2, i2, Nat.le_of_eq l2⟩
theorem Zs6 {c1 c2 : List Nat} (n1 : c1 ≠ []) (n2 : c2 ≠ []) (hl : c1.length + c2.length <= 100) (h15 : σ[15]? = some (some (chR N b c1))) (h16 : σ[16]? = some (some (chR N b c2))) : ZrX σ B = some (.next, (σ.set 17 (some (ZgY b c1 c2))).set 18 (some (Zgr c1 c2)), B) := by
 have e0 : D.bin ZE (D.bin Zc (D.var 15) (D.const (.int 0))) (D.bin Zc (D.var 16) (D.const (.int 0))) σ B = some (.list (ZF (c1 ++ c2)), B) := by
  refine Zf (Zf (Zt h15) rfl Zi8) (Zf (Zt h16) rfl Zi8) ?_;simp only [ZeM, Zx, ZM];rw [if_pos (ZR (by unfold Cap; lia))];unfold ZF;rw [List.map_append]
 have e2 : D.bin ZE (D.bin Zc (D.var 15) (D.const (.int 2))) (D.bin Zc (D.var 16) (D.const (.int 2))) σ B = some (.int ((Xl b (c1 ++ c2) : Nat) : Int), B) := by
  refine Zf (Zf (Zt h15) rfl ZrH) (Zf (Zt h16) rfl ZrH) ?_;rw [Zn1, Int.natCast_add];rfl
 have et := ZdO (Zk6 e0 (g := D.const (.int 0)) (e := .int 0) rfl e2) (ZdO (ZaP (B := B) h15 n1) (ZaP h16 n2));unfold ZrX S.assigns;rw [et];rfl
theorem Zo4 (hN : ZS N 20) (hb : b <= 22) (hw : way = 1 \/ way = -1) {c1 c2 : List Nat} (h1 : c1 ∈ chS 0) (h2 : c2 ∈ chS 1) (hf : Zdu c1 c2 = true)
  (S0 : LSt N b way σ) {tot : Int} (h13 : σ[13]? = some (some (.int tot))) (h15 : σ[15]? = some (some (chR N b c1))) (h16 : σ[16]? = some (some (chR N b c2)))
  (hL : XM b L) (hcap : L.length + 29 <= Cap) : ∃ σ' L', ZpP σ [.list L] = some (.next, σ', [.list L']) /\ Fx [13, 17, 18, 19] σ σ' /\ σ'[13]? = some (some (.int (tot + if dis c1 c2 then T3 N c1 c2 else 0))) /\ XM b L' /\ L'.length <= L.length + 29 := by
 obtain ⟨a1, a2⟩ := ZqM c1 h1 c2 h2 hf;have hp := ZpM (x := .int (wgt N c1)) (r := [.str (Jw c1)]) (x' := .int (wgt N c2)) (r' := [.str (Jw c2)]) hb a1 (by simp) (by simp);have hap := ZrQ hp (by lia) hL.2 (ZcG N b c1) (ZcG N b c2)
 have hcall : D.call ZC [(D.var 15), (D.var 16), (D.var 14)] σ [.list L] = some (.bool (dis c1 c2), [.list (L ++ [ZcK (tin b c1 (.int (wgt N c1)) [.str (Jw c1)] c2 (.int (wgt N c2)) [.str (Jw c2)])])]) :=
  Zdo (Zt h15) (Zt h16) (Zt S0.h14) hap
 have hL' := hL.snoc hp rfl (ZcG N b c1) (ZcG N b c2);unfold ZpP
 cases hdis : dis c1 c2 with
 | false =>
  rw [hdis] at hcall;refine ⟨σ, _, (X4 (XC hcall rfl)).trans rfl, Fx.refl _ _, ?_, hL', by simp⟩;rw [if_neg (by decide), Int.add_zero];exact h13
 | true =>
  rw [hdis] at hcall;have len := S0.len;have l8 := a2 hdis;have F1 : Fx [13, 17, 18, 19] σ ((σ.set 17 (some (ZgY b c1 c2))).set 18 (some (Zgr c1 c2))) := ((Fx.refl _ σ).set (by decide) _).set (by decide) _;have S1 := S0.fx F1 (by decide)
  obtain ⟨σ2, L2, e2, F2, t2, i2, l2⟩ := ZpE (σ := (σ.set 17 (some (ZgY b c1 c2))).set 18 (some (Zgr c1 c2))) hN hb hw h1 h2 hf hdis S1 (tot := tot)
   (by rw [List.getElem?_set_ne (by decide), List.getElem?_set_ne (by decide)]; exact h13) (by rw [List.getElem?_set_ne (by decide), List.getElem?_set_ne (by decide)]; exact h15) (by rw [List.getElem?_set_ne (by decide), List.getElem?_set_ne (by decide)]; exact h16)
   (by rw [List.getElem?_set_ne (by decide)]; exact ZcY (by lia)) (ZcY (by rw [List.length_set]; lia)) hL' (by rw [List.length_append]; simp only [List.length_cons, List.length_nil]; lia)
  refine ⟨σ2, L2, (ZaT (XC hcall rfl)).trans ((Yi (Zs6 (ZaJ h1).2.2 (ZaJ h2).2.2 (by lia) h15 h16)).trans e2), F1.trans (F2.mono (by decide)), ?_, i2, by simp only [List.length_append, List.length_cons, List.length_nil] at l2; lia⟩;rw [if_pos rfl];exact t2
theorem ZmJ (S0 : LSt N b way σ) {c1 : List Nat} (h1 : c1 ∈ chS 0) (h15 : σ[15]? = some (some (chR N b c1))) : ZnE σ B = some (.list (Xw N b ((chS 1).filter (Zdu c1))), B) := by
 have main := Jb (f := D.var 1) (it := I.val (D.bin Zc (D.var 12) (D.const (.int 1)))) (ifs := T.all [(T.cmp ZaX (D.bin Zc (D.bin Zc (D.var 1) (D.const (.int 0))) (D.un YH (D.const (.int 1)))) (D.bin Zc (D.bin Zc (D.var 17) (D.const (.int 0))) (D.un YH (D.const (.int 1)))))]) (tp := false) (σ := σ) (B := B) (B₁ := B) (xs := Xw N b (chS 1))
  (fun x => Zdu c1 (ZbR x)) (fun x => x) (ZQ (Zf (Zt S0.h12) rfl (Zbh 1 (by decide))) rfl)
  (fun x hx => by
   refine Ze (List.mem_map.mp hx) fun c hc z_2 => ?_;subst z_2;rw [Xf];refine ⟨ZbV (Yf (ZaP (i := 1) rfl (ZaJ (List.mem_filter.mp hc).1).2.2) (ZaP (i := 17) (σ := none :: some (chR N b c) :: σ) h15 (ZaJ h1).2.2) ?_), fun _ => rfl⟩;unfold ZaX;rw [Zct, Za5];rfl)
  (by have h1 := Zbq N b (chS 1); have h2 := ZcC 1; unfold Cap; lia)
 rw [ZbC N b (chS 1) (Zdu c1), List.map_id'] at main;exact main
theorem ZnD (hN : ZS N 20) (hb : b <= 22) (hw : way = 1 \/ way = -1) {c1 : List Nat} (h1 : c1 ∈ chS 0) (S0 : LSt N b way σ) {tot : Int} (h13 : σ[13]? = some (some (.int tot))) (h15 : σ[15]? = some (some (chR N b c1)))
  (hL : XM b L) (hcap : L.length + 1624 <= Cap) : ∃ σ' L', Zrg σ [.list L] = some (.next, σ', [.list L']) /\ Fx [13, 16, 17, 18, 19] σ σ' /\ σ'[13]? = some (some (.int (tot + T2 N c1))) /\ XM b L' /\ L'.length <= L.length + 1624 := by
 have hl : (((chS 1).filter (Zdu c1)).filter (Yn N)).length <= 56 := Nat.le_trans (List.length_filter_le _ _) (Nat.le_trans (List.length_filter_le _ _) (Nat.le_of_eq Zf1.2.1))
 refine JQ (Zfa (slot := 16) (fx := [13, 16, 17, 18, 19]) (P := fun c => c ∈ chS 1 /\ Zdu c1 c = true) (term := fun c2 => if dis c1 c2 then T3 N c1 c2 else 0) (w := 29) (by decide) (by decide) (by have := S0.len; lia) (fun c2 σ1 t L' hc F1 ht hs hI hl => ?_)
  (ZQ (ZmJ S0 h1 h15) rfl) (fun c h => List.mem_filter.mp (List.mem_filter.mp h).1) h13 hL (by lia)) fun σ' L' e F t i l => ⟨σ', L', e, F, t, i, by lia⟩
 exact JQ (Zo4 hN hb hw h1 hc.1 hc.2 (S0.fx F1 (by decide)) ht ((F1.keep 15 (by decide)).trans h15) hs hI hl) fun σ2 L2 e2 F2 t2 i2 l2 => ⟨σ2, L2, e2, F2.mono (by decide), t2, i2, l2⟩
theorem ZpF (hN : ZS N 20) (hb : b <= 22) (hw : way = 1 \/ way = -1) (S0 : LSt N b way σ) (h13 : σ[13]? = some (some (.int 0))) : ∃ σ' L', Zts σ [.list []] = some (.next, σ', [.list L']) /\ Fx [13, 15, 16, 17, 18, 19] σ σ' /\ σ'[13]? = some (some (.int (T1 N))) /\ XM b L' /\ L'.length <= Cap := by
 have hl : ((chS 0).filter (Yn N)).length <= 112 := Nat.le_trans (List.length_filter_le _ _) (Nat.le_of_eq Zf1.2.2)
 refine JQ (Zfa (slot := 15) (fx := [13, 15, 16, 17, 18, 19]) (P := fun c => c ∈ chS 0) (term := T2 N) (w := 1624) (by decide) (by decide) (by have := S0.len; lia) (fun c1 σ1 t L' hc F1 ht hs hI hl => ?_)
  (ZQ (Zf (Zt S0.h12) rfl (Zbh 0 (by decide))) rfl) (fun c h => (List.mem_filter.mp h).1) h13 ⟨fun x hx => (by cases hx), rfl⟩ (by unfold Cap; rw [List.length_nil]; lia)) fun σ' L' e F t i l => ⟨σ', L', e, F, (Int.zero_add (T1 N)) ▸ t, i, by rw [List.length_nil] at l; unfold Cap; lia⟩
 exact JQ (ZnD hN hb hw hc (S0.fx F1 (by decide)) ht hs hI hl) fun σ2 L2 e2 F2 t2 i2 l2 => ⟨σ2, L2, e2, F2.mono (by decide), t2, i2, l2⟩
end
noncomputable def qV (bk : Bk) (j : Nat) : Int := (bk (5 + j % 3)).2 (j / 3)
structure Ze8 (N : Mat) : Prop where
 ord : ∀ v < 8, (Yg N 7 v).1 = (YB N 8).getD v []
 val : ∀ v < 8, ∀ s < 3, (Yg N 7 v).2 s = Zbf N v s
 sums : ∀ s < 3, ∀ t < 3, cS N s t = (Yg N 7 (5 + t)).2 s
 det : T1 N = ZdL (qV (Yg N 7) 0) (qV (Yg N 7) 1) (qV (Yg N 7) 2) (qV (Yg N 7) 3) (qV (Yg N 7) 4) (qV (Yg N 7) 5) (qV (Yg N 7) 6) (qV (Yg N 7) 7) (qV (Yg N 7) 8)
 small : ∀ j < 6, small (qV (Yg N 7) j) = true
noncomputable abbrev lS (sc : V) (x1 x2 x3 x4 x5 x6 x7 x8 x9 x10 x11 x12 x13 x14 : Option V) : St := [some sc, x1, x2, x3, x4, x5, x6, x7, x8, x9, x10, x11, x12, x13, x14, none, none, none, none, none, none, none, none, none, none, none, none, none, none, none, none]
noncomputable abbrev Zuh : DS := ZlH Zr ZC Z8 Z0 ZV Yk Z4 ZU Z6 Z7 Zm
section
variable {N : Mat} {b : Nat} {way : Int} {σ : St} {L : List V}
noncomputable abbrev ZrD : DS := S.seq (S.ite (T.cmp ZaX ZtT (D.list [])) (S.ret (D.const (.bool false))) S.skip) (S.ret (D.bin (bv X8) (Zq 2 (emL (D.listItems (D.var 1))) { it := (I.val (D.bin ZE (D.var 7) (D.list [(D.var 8), (D.var 9)]))), tp := false, tgt := (fun d σ => some (σ.set 1 (some d))), ifs := (T.all []) } [] (.list [])) (D.call ZV [(D.var 2), (D.var 10), (D.var 6)])))
structure ZfW (N : Mat) (b : Nat) (way : Int) (σ : St) : Prop where
 st : LSt N b way σ
 len : σ.length = 31
 h2 : σ[2]? = some (some (YR N))
 h6 : σ[6]? = some (some (.list (ZB b 10)))
 h7 : σ[7]? = some (some (.list (ZO (wAt b) (Yg N 7))))
 h8 : σ[8]? = some (some (XG (wAt b) (JM (Yg N 7 5) (Yg N 7 6))))
 h9 : σ[9]? = some (some (Zaq (wAt b) ((Yg N 7 5).1 ++ (Yg N 7 6).1.filter (· ∉ (Yg N 7 5).1)) fun s => ((Yg N 7 6).2 s + (Yg N 7 5).2 s, Js (Yg N 7 6).1 s + Js (Yg N 7 5).1 s)))
 h10 : σ[10]? = some (some (XB N))
theorem ZfW.fx {js : List Nat} {σ' : St} (h : ZfW N b way σ) (f : Fx js σ σ') (hj : ∀ j ∈ js, j ∈ [13, 15, 16, 17, 18, 19, 20, 21, 22, 23, 24, 25, 26, 27, 28, 29, 30]) : ZfW N b way σ' := by
 have k : ∀ i, i ∉ [13, 15, 16, 17, 18, 19, 20, 21, 22, 23, 24, 25, 26, 27, 28, 29, 30] -> σ'[i]? = σ[i]? := fun i hi => f.keep i fun z => hi (hj i z);have s := h.st
 exact ⟨⟨by rw [k 3 (by decide)]; exact s.h3, by rw [k 4 (by decide)]; exact s.h4, by rw [k 5 (by decide)]; exact s.h5, by rw [k 12 (by decide)]; exact s.h12, by rw [k 14 (by decide)]; exact s.h14, by rw [f.len]; exact s.len⟩,
  by rw [f.len]; exact h.len, by rw [k 2 (by decide)]; exact h.h2, by rw [k 6 (by decide)]; exact h.h6, by rw [k 7 (by decide)]; exact h.h7, by rw [k 8 (by decide)]; exact h.h8, by rw [k 9 (by decide)]; exact h.h9, by rw [k 10 (by decide)]; exact h.h10⟩
theorem ZpX (hN : ZS N 20) (hb : b <= 22) (P : Ze8 N) (F : ZfW N b way σ) (hL : Zi5 b L) (hcap : L.length <= Cap) : ZbI ZrD σ [.list L] (.bool true) [.list L] := by
 refine Zi ((X4 (Zq7 hL hcap F.st.h14 F.st.h3 F.h6)).trans rfl) (YD ?_);exact ZsL hN hb (Zdp 7) rfl rfl P.ord P.val F.h2 F.h6 F.h7 F.h8 F.h9 F.h10
noncomputable abbrev Zro : DS := S.seq (S.assign 30 Zrz) (S.seq (S.ite (T.cmp ZaX ZrZ (D.var 20)) (S.ret (D.const (.bool false))) S.skip) (S.seq (S.ite (T.cmp ZaX (D.call Zeo [(D.var 30)]) (D.call Zeo [ZsZ])) (S.ret (D.const (.bool false))) S.skip) ZrD))
theorem ZoV (hN : ZS N 20) (hb : b <= 22) (P : Ze8 N) (F : ZfW N b way σ) (h20 : σ[20]? = some (some (.list (sqL (Yg N 7))))) (hL : Zi5 b L) (hcap : L.length <= Cap) : ZbI Zro σ [.list L] (.bool true) [.list L] := by
 have Fx1 : Fx [30] σ (σ.set 30 (some (Zah N))) := (Fx.refl _ _).set (by decide) _;have F1 := F.fx Fx1 (by decide);have h30 : (σ.set 30 (some (Zah N)))[30]? = some (some (Zah N)) := ZcY (by rw [F.len]; decide);have h20' : (σ.set 30 (some (Zah N)))[20]? = some (some (.list (sqL (Yg N 7)))) := by rw [Fx1.keep 20 (by decide)]; exact h20
 refine Zi (ZD (Zqf F.st.h12)) ?_;refine Zi ((X4 (ZpQ F1.st.h12 h30 h20' P.sums)).trans rfl) ?_;refine Zi ((X4 (ZqY F1.st.h12 h30)).trans rfl) ?_;exact ZpX hN hb P F1 hL hcap
noncomputable abbrev Zt0 : DS := S.seq (S.assign 20 sqE) (S.seq (S.assigns [21, 22, 23, 24, 25, 26, 27, 28, 29] (D.var 20)) (S.seq (S.ite (T.cmp ZaX (D.var 13) Zue) (S.ret (D.const (.bool false))) S.skip) Zro))
noncomputable def ZlA : Nat -> List V -> St -> St
 | _, [], σ => σ
 | i, d :: ds, σ => ZlA (i + 1) ds (σ.set i (some d))
theorem ZiN {ds : List V} : ∀ {i j : Nat} {σ : St}, j < i -> (ZlA i ds σ)[j]? = σ[j]? := by
 induction ds with
 | nil => intro i j σ _; rfl
 | cons d ds ih => intro i j σ h; exact (ih (Nat.lt_succ_of_lt h)).trans (List.getElem?_set_ne (Nat.ne_of_gt h))
theorem Zpu {ds : List V} : ∀ {i j : Nat} {σ : St} {d : V}, ds[j]? = some d -> i + ds.length <= σ.length -> (ZlA i ds σ)[i + j]? = some (some d) := by
 induction ds with
 | nil => intro i j σ d h; exact nn h
 | cons x ds ih =>
  intro i j σ d h hl;rw [List.length_cons] at hl
  cases j with
  | zero => rw [<- Option.some.inj h]; exact (ZiN (Nat.lt_succ_self i)).trans (List.getElem?_set_self (Nat.lt_of_lt_of_le (Nat.lt_add_of_pos_right (Nat.succ_pos _)) hl))
  | succ j =>
   have := ih (i := i + 1) (σ := σ.set i (some x)) h (by rw [List.length_set, Nat.add_right_comm]; exact hl);rw [Nat.add_right_comm] at this;exact this
noncomputable def Zqv (N : Mat) (σ : St) : St := ZlA 21 ((List.range 9).map fun j => V.int (qV (Yg N 7) j)) (σ.set 20 (some (.list (sqL (Yg N 7)))))
theorem ZnX (hN : ZS N 20) (hb : b <= 22) (P : Ze8 N) (F : ZfW N b way σ) (h13 : σ[13]? = some (some (.int (T1 N)))) (hL : Zi5 b L) (hcap : L.length <= Cap) : ZbI Zt0 σ [.list L] (.bool true) [.list L] := by
 have len := F.len;have Fx1 : Fx [20, 21, 22, 23, 24, 25, 26, 27, 28, 29] σ (Zqv N σ) := ((((((((((Fx.refl _ σ).set (by decide) _).set (by decide) _).set (by decide) _).set (by decide) _).set (by decide) _).set (by decide) _).set (by decide) _).set (by decide) _).set (by decide) _).set (by decide) _;have F1 := F.fx Fx1 (by decide)
 have e2 : S.assigns [21, 22, 23, 24, 25, 26, 27, 28, 29] (D.var 20) (σ.set 20 (some (.list (sqL (Yg N 7))))) [.list L] = some (.next, Zqv N σ, [.list L]) := by
  unfold S.assigns;rw [Zt (ZcY (by rw [len]; decide))];rfl
 have hq : ∀ j < 9, (Zqv N σ)[21 + j]? = some (some (.int (qV (Yg N 7) j))) := fun j hj =>
  Zpu (by rw [List.getElem?_map, List.getElem?_range hj]; rfl) (by rw [List.length_set, len, List.length_map, List.length_range]; decide)
 have h20 : (Zqv N σ)[20]? = some (some (.list (sqL (Yg N 7)))) := (ZiN (by decide)).trans (ZcY (by rw [len]; decide));refine Zi (ZD (ZtP (Zdp 7) hb F.h6 F.h7)) (Zi e2 ?_);refine Zi ((X4 (Yf (Zt (by rw [Fx1.keep 13 (by decide)]; exact h13)) (ZsR hq P.small) ?_)).trans rfl) (ZoV hN hb P F1 h20 hL hcap);unfold ZaX;rw [Zct, <- P.det, beq_self_eq_true];rfl
end
theorem ZgK (x : Int) (m : Nat) (hm : 0 < m) : ∃ k : Nat, k < m /\ Int.fmod x (m : Int) = (k : Int) := by
 have h1 := Int.fmod_nonneg_of_pos x (show (0 : Int) < (m : Int) by lia);have h2 := Int.fmod_lt_of_pos x (show (0 : Int) < (m : Int) by lia);exact ⟨(Int.fmod x (m : Int)).toNat, by lia, by lia⟩
theorem ZkG {ns : List Int} (h : ns.length <= 63) {B : Bx} : Z0 B [.list (ns.map V.int)] = some (.list ((Zdc 11 Zeb ns).map V.int), B) := by
 refine Zad ?_;show (Sb.bind (Xz (ns.map V.int)) _).1 = _;rw [Sb.bind_eq (ZaI ns)];exact if_pos (Nat.le_trans h (by decide))
theorem ZoN {cs : List Int} (h : cs.length = 11) : Yk [] [.list (cs.map V.int)] = some (YR (ZhO cs), []) := by
 refine Zad ?_;show (Sb.bind (Xz (cs.map V.int)) _).1 = _;rw [Sb.bind_eq (ZaI cs)];exact if_pos h
theorem ZjJ {b : Nat} (h : b <= 22) {B : Bx} : Z7 B [.int (b : Int)] = some (.list (ZB b 10), B) := by
 refine Zad ?_;show (if 0 <= (b : Int) /\ (b : Int) <= 22 then some (V.list (ZB (b : Int).toNat 10)) else none) = _;rw [if_pos ⟨by lia, by lia⟩, Int.toNat_natCast]
theorem Zjs {f : DE} {σ : St} {B B₁ : Bx} {i j : Nat} {x y : V} (h : f σ B = some (.tup [x, y], B₁)) : S.assigns [i, j] f σ B = some (.next, (σ.set i (some x)).set j (some y), B₁) := by
 unfold S.assigns;rw [h];rfl
theorem Zp3 (ns : List Int) (h : ns.length <= 63) (P : ∀ N, ZS N 20 -> Ze8 N) : ∃ B', ZbI Zuh (Zbd ZkR ["script"] [.list (ns.map .int)]) [] (.bool true) B' := by
 refine Xn (⟨Zdc 11 Zeb ns, ZkG h, Zkd _ _ _, trivial⟩ : ∃ cs : List Int, Z0 [] [.list (ns.map .int)] = some (.list (cs.map V.int), []) /\ cs.length = 11 /\ True) fun cs hcs hcl _ => ?_
 have i10 : Zc [] (.list (cs.map V.int)) (.int 10) = some (.int (cs.getD 10 0)) := by
  have := Y0 (B := []) (xs := cs.map V.int) (k := 10) (by rw [List.length_map, hcl]; decide) (by decide);rw [Ze6 (by rw [hcl]; decide)] at this;exact this
 refine Ze (⟨ZhO cs, ZoN hcl, Zqx cs⟩ : ∃ N, Yk [] [.list (cs.map V.int)] = some (YR N, []) /\ ZS N 20) fun N hNe hN => ?_;refine Ze (ZgK (cs.getD 10 0) 13 (by decide)) fun b hb13 hbe => ?_;refine Ze (ZgK (Int.fdiv (cs.getD 10 0) 13) 2 (by decide)) fun k2 hk2 hke => ?_;have hb : b <= 22 := by lia
 refine Ze (⟨1 - 2 * (k2 : Int), rfl, by lia⟩ : ∃ way : Int, way = 1 - 2 * (k2 : Int) /\ (way = 1 \/ way = -1)) fun way hway hw => ?_;have hbk := Zdp (N := N) 7;have hwi := ZhC hb
 have F0 : ZfW N b way (lS (.list (ns.map .int)) (some (.list (cs.map V.int))) (some (YR N)) (some (.int (b : Int))) (some (.int way)) (some (ZdR way)) (some (.list (ZB b 10))) (some (.list (ZO (wAt b) (Yg N 7)))) (some (XG (wAt b) (JM (Yg N 7 5) (Yg N 7 6))))
   (some (Zaq (wAt b) ((Yg N 7 5).1 ++ (Yg N 7 6).1.filter (· ∉ (Yg N 7 5).1)) fun s => ((Yg N 7 6).2 s + (Yg N 7 5).2 s, Js (Yg N 7 6).1 s + Js (Yg N 7 5).1 s))) (some (XB N)) (some (.list (Xw N b ZdZ))) (some (Zb4 N b)) (some (.int 0)) (some (.box 0))) :=
  ⟨⟨rfl, rfl, rfl, rfl, rfl, by simp⟩, rfl, rfl, rfl, rfl, rfl, rfl, rfl⟩
 refine JQ (ZpF hN hb hw F0.st rfl) fun σ' L' e13 Fx13 t13 i13 c13 => ⟨[.list L'], ?_⟩
 refine Zi (ZD (Yd rfl hcs)) (Zi (ZD (Yd rfl hNe)) (Zi (B₁ := []) (Zjs (x := .int (b : Int)) (y := .int way) (ZdO (B₂ := []) (Zf (Zf rfl rfl i10) (e := .int 13) rfl ?_)
  (Zf (d := .int 1) rfl (Zf (d := .int 2) rfl (Zf (c := .int (k2 : Int)) (Zf (c := .int (Int.fdiv (cs.getD 10 0) 13)) (Zf rfl rfl i10) (e := .int 13) rfl ?_) (e := .int 2) rfl ?_) (Zac (by decide))) ?_))) ?_))
 ·simp only [X9]
  rw [if_neg (by decide), <- hbe];rfl
 ·simp only [ZcL]
  rw [if_neg (by decide)]
 ·simp only [X9]
  rw [if_neg (by decide), <- hke];rfl
 ·rw [hway]; rfl
 refine Zi (B₁ := []) (ZD (d := ZdR way) rfl) (Zi (ZD (Yd rfl (ZjJ hb))) (Zi (ZD (Zag rfl rfl (ZjA hN hb))) ?_));refine Zi (ZD (Zag (Zf rfl rfl (Ze0 (t := 5) hbk (by decide))) (Zf rfl rfl (Ze0 (t := 6) hbk (by decide))) (Zeq hwi (hbk 5) (hbk 6)))) ?_;refine Zi (ZD (Zag (ZkV (t := 5) hwi hbk rfl (by decide)) (ZkV (t := 6) hwi hbk rfl (by decide)) (Zim hwi (hbk 5) (hbk 6)))) ?_;refine Zi (ZD (Yd rfl (ZjK hN))) (Zi (ZD (Zqb rfl hb rfl)) (Zi (ZD (ZqA rfl)) ?_));exact Zi (B₁ := [.list []]) rfl (Zi e13 (ZnX hN hb (P N hN) (F0.fx Fx13 (by decide)) t13 i13.1 c13))
theorem ZgL (s : Nat) (b' : Zak) : ∀ (n : Nat) (b : Zak), (ZaZ n b b').2 s = b.2 s + (n : Int) * b'.2 s
 | 0, b => by simp [ZaZ]
 | n + 1, b => by
  show (ZaZ n (JM b b') b').2 s = _;rw [ZgL s b' n];show b.2 s + b'.2 s + (n : Int) * b'.2 s = _;rw [Int.natCast_add, Int.add_mul];lia
theorem ZhX (o o' : List Nat) : o'.filter (· ∉ o ++ o'.filter (· ∉ o)) = [] := by
 rw [List.filter_eq_nil_iff];intro s hs;simp only [decide_eq_true_eq, List.mem_append, List.mem_filter];intro h;exact h (if h1 : s ∈ o then .inl h1 else .inr ⟨hs, h1⟩)
theorem ZfB (b' : Zak) : ∀ (n : Nat) (b : Zak), b'.1.filter (· ∉ b.1) = [] -> (ZaZ n b b').1 = b.1
 | 0, b, _ => rfl
 | n + 1, b, h => by
  have e : (JM b b').1 = b.1 := by unfold JM; simp only; rw [h, List.append_nil]
  show (ZaZ n (JM b b') b').1 = _;rw [ZfB b' n (JM b b') (by rw [e]; exact h), e]
theorem ZjL (b' : Zak) (n : Nat) (b : Zak) : (ZaZ n b b').1 = if 0 < n then b.1 ++ b'.1.filter (fun s => !b.1.contains s) else b.1 := by
 cases n with
 | zero => rfl
 | succ n =>
  rw [if_pos (by lia)];show (ZaZ n (JM b b') b').1 = _;have e : (JM b b').1 = b.1 ++ b'.1.filter (· ∉ b.1) := rfl;rw [ZfB b' n (JM b b') (by rw [e]; exact ZhX _ _), e, Zdr]
variable {N : Mat}
theorem Zbg {v : Nat} {bk : Bk} {u : Nat} (h : u ≠ v) : ∀ k, bkU N v bk k u = bk u
 | 0 => rfl
 | k + 1 => by
  rw [Zck];unfold Zar;rw [if_neg h, Zbg h k]
theorem Zc6 {u : Nat} : ∀ k, k < u -> Yg N k u = bk0 u
 | 0, _ => rfl
 | k + 1, h => by rw [ZaE, Zbg (by lia), Zc6 k (by lia)]
theorem ZbH {u : Nat} : ∀ k, u <= k -> Yg N k u = Yg N u u
 | 0, h => by rw [show u = 0 by lia]
 | k + 1, h => by
  by_cases e : u = k + 1
  ·rw [e]
  ·rw [ZaE, Zbg (by lia), ZbH k (by lia)]
noncomputable def fin (N : Mat) (v : Nat) : Zak := Yg N v v
theorem Zf6 {v : Nat} (h : v <= 7) : Yg N 7 v = fin N v := ZbH 7 h
theorem Zk3 (s v : Nat) (bk : Bk) : ∀ k, k <= v -> (bkU N v bk k v).2 s = (bk v).2 s + ((List.range k).map fun u => (((N u v).toNat : Nat) : Int) * (bk u).2 s).sum
 | 0, _ => by simp [bkU]
 | k + 1, h => by
  rw [Zck];unfold Zar;rw [if_pos rfl, ZgL, Zk3 s v bk k (by lia), Zbg (by lia), List.range_succ, List.map_append, List.sum_append];simp only [List.map_cons, List.map_nil, List.sum_cons, List.sum_nil];lia
theorem Zja (v : Nat) (bk : Bk) : ∀ k, k <= v -> (bkU N v bk k v).1 = ((List.range k).filter fun u => decide (0 < N u v)).foldl (fun o u => o ++ (bk u).1.filter (fun s => !o.contains s)) (bk v).1
 | 0, _ => rfl
 | k + 1, h => by
  rw [Zck];unfold Zar;rw [if_pos rfl, ZjL, Zja v bk k (by lia), Zbg (by lia), List.range_succ, List.filter_append, List.foldl_append]
  by_cases e : 0 < N k v
  ·rw [if_pos (by lia)]
   simp [e]
  ·rw [if_neg (by lia)]
   simp [e]
noncomputable def del (v s : Nat) : Int := if v < 3 /\ s = v then 1 else 0
theorem Zlw (v s : Nat) : (bk0 v).2 s = del v s := by
 unfold bk0 del
 by_cases h : v < 3
 ·rw [if_pos h]; simp [h]
 ·rw [if_neg h]; simp [h]
theorem ZaA (hN : ZS N 20) (v s : Nat) : (fin N v).2 s = del v s + ((List.range v).map fun u => N u v * (fin N u).2 s).sum := by
 cases v with
 | zero => simp [fin, Yg, Zlw]
 | succ k =>
  unfold fin;rw [ZaE, show 1 + k = k + 1 by lia, Zk3 s (k + 1) _ (k + 1) (Nat.le_refl _), Zc6 k (by lia), Zlw];congr 2;apply List.map_congr_left;intro u hu;have hu := List.mem_range.mp hu;rw [ZbH k (by lia), Int.toNat_of_nonneg (hN.nonneg u (k + 1))]
theorem Znc (v : Nat) : (bk0 v).1 = Xk v := by
 unfold bk0 Xk; split <;> rfl
theorem Zow (v : Nat) : (fin N v).1 = ((List.range v).filter fun u => decide (0 < N u v)).foldl (fun o u => o ++ (fin N u).1.filter (fun s => !o.contains s)) (Xk v) := by
 cases v with
 | zero => rfl
 | succ k =>
  unfold fin;rw [ZaE, show 1 + k = k + 1 by lia, Zja (k + 1) _ (k + 1) (Nat.le_refl _), Zc6 k (by lia), Znc]
  have : ∀ (us : List Nat) (o : List Nat), (∀ u ∈ us, u <= k) -> us.foldl (fun o u => o ++ (Yg N k u).1.filter (fun s => !o.contains s)) o = us.foldl (fun o u => o ++ (Yg N u u).1.filter (fun s => !o.contains s)) o := by
   intro us
   induction us with
   | nil => intros; rfl
   | cons u us ih =>
    intro o h;rw [List.foldl_cons, List.foldl_cons, ZbH k (h u (.head _))];exact ih _ fun u' hu' => h u' (List.mem_cons_of_mem _ hu')
  exact this _ _ fun u hu => by have := List.mem_range.mp (List.mem_filter.mp hu).1; lia
theorem Zfw : ∀ (k v : Nat), v < k -> (YB N k).getD v [] = J8 N (YB N v) v
 | 0, v, h => absurd h (by lia)
 | k + 1, v, h => by
  have hl := (Zcv N k).2;rw [Zb5, List.getD_eq_getElem?_getD]
  by_cases e : v = k
  ·subst e
   rw [List.getElem?_append_right (by lia), hl, Nat.sub_self];rfl
  ·rw [List.getElem?_append_left (by lia), <- List.getD_eq_getElem?_getD, Zfw k v (by lia)]
theorem Zlb : ∀ (n v : Nat), v < n -> (fin N v).1 = J8 N (YB N v) v
 | 0, v, h => absurd h (by lia)
 | n + 1, v, h => by
  rw [Zow];unfold J8
  have : ∀ (us : List Nat) (o : List Nat), (∀ u ∈ us, u < v) -> us.foldl (fun o u => o ++ (fin N u).1.filter (fun s => !o.contains s)) o = us.foldl (Jn (YB N v)) o := by
   intro us
   induction us with
   | nil => intros; rfl
   | cons u us ih =>
    intro o ho;rw [List.foldl_cons, List.foldl_cons];have hu := ho u (.head _)
    have e : Jn (YB N v) o u = o ++ (fin N u).1.filter (fun s => !o.contains s) := by
     unfold Jn;rw [Zfw v u hu, Zlb n u (by lia)]
    rw [e];exact ih _ fun u' hu' => ho u' (List.mem_cons_of_mem _ hu')
  exact this _ _ fun u hu => List.mem_range.mp (List.mem_filter.mp hu).1
theorem ZnZ : ∀ v < 8, (Yg N 7 v).1 = (YB N 8).getD v [] := fun v h => by
 rw [Zf6 (by lia), Zfw 8 v h];exact Zlb (v + 1) v (by lia)
variable {N : Mat}
noncomputable def Y6 (f : List Nat -> Int) (L : List (List Nat)) : Int := (L.map f).sum
theorem Zjo (f : List Nat -> Int) (a b : List (List Nat)) : Y6 f (a ++ b) = Y6 f a + Y6 f b := by unfold Y6; rw [List.map_append, List.sum_append]
theorem Zms (f : List Nat -> Int) {a b : List (List Nat)} (h : a.Perm b) : Y6 f a = Y6 f b := by
 induction h with
 | nil => rfl
 | cons x _ ih => unfold Y6 at *; simp only [List.map_cons, List.sum_cons, ih]
 | swap x y l => unfold Y6; simp only [List.map_cons, List.sum_cons]; lia
 | trans _ _ h1 h2 => exact h1.trans h2
theorem Zc7 {f g : List Nat -> Int} {L : List (List Nat)} (h : ∀ c ∈ L, f c = g c) : Y6 f L = Y6 g L := by
 unfold Y6; congr 1; exact List.map_congr_left h
theorem ZgM (f : List Nat -> Int) (g : Nat -> List (List Nat)) : ∀ us : List Nat, Y6 f (us.flatMap g) = (us.map fun u => Y6 f (g u)).sum
 | [] => rfl
 | u :: us => by rw [List.flatMap_cons, Zjo, ZgM f g us, List.map_cons, List.sum_cons]
theorem Zpf (f : List Nat -> Int) (g : List Nat -> List Nat) (L : List (List Nat)) : Y6 f (L.map g) = Y6 (fun c => f (g c)) L := by unfold Y6; rw [List.map_map]; rfl
theorem Zo9 (f : List Nat -> Int) (x : Int) (L : List (List Nat)) : Y6 (fun c => f c * x) L = x * Y6 f L := by
 unfold Y6
 induction L with
 | nil => simp
 | cons c L ih => simp only [List.map_cons, List.sum_cons, ih, Int.mul_add]; rw [Int.mul_comm]
theorem JT {f : List Nat -> Int} (h : ∀ c, Yn N c = false -> f c = 0) : ∀ L : List (List Nat), Y6 f (L.filter (Yn N)) = Y6 f L
 | [] => rfl
 | c :: L => by
  cases hg : Yn N c with
  | false =>
   rw [List.filter_cons_of_neg (by simp [hg]), JT h L];show Y6 f L = f c + Y6 f L;rw [h c hg]; lia
  | true =>
   rw [List.filter_cons_of_pos hg];show f c + Y6 f (L.filter (Yn N)) = f c + Y6 f L;rw [JT h L]
theorem ZbY (hN : ZS N 20) : ∀ c : List Nat, Yn N c = false -> wgt N c = 0 := by
 have key : ∀ (c : List Nat) (u : Nat), Zb8 N u c = false -> ZbU N u c = 0 := by
  intro c
  induction c with
  | nil => intro u h; cases h
  | cons v c ih =>
   intro u h;simp only [Zb8, Bool.and_eq_false_imp] at h;simp only [ZbU]
   by_cases hp : 0 < N u v
   ·rw [ih v (h (decide_eq_true hp)), Int.mul_zero]
   ·have := hN.nonneg u v
    rw [show N u v = 0 by lia, Int.zero_mul]
 intro c h
 cases c with
 | nil => first | exact nn h | cases h
 | cons u c => exact key c u h
noncomputable def chT (v : Nat) : List (List Nat) := (Yz 8).filter fun c => Zs c == v
theorem Zps : ∀ v < 8, (chT v).isPerm ((if v < 3 then [[v]] else []) ++ (List.range v).flatMap fun u => (chT u).map (· ++ [v])) = true := by decide +kernel
noncomputable def Qv (N : Mat) (v s : Nat) : Int := Y6 (wgt N) ((chT v).filter fun c => YA c == s)
theorem ZjV {c : List Nat} (h : c ≠ []) (v : Nat) : YA (c ++ [v]) = YA c := by
 cases c with
 | nil => exact absurd rfl h
 | cons u c => rfl
theorem Zpx {u : Nat} {c : List Nat} (h : c ∈ chT u) : c ≠ [] /\ Zs c = u := by
 obtain ⟨h1, h2⟩ := List.mem_filter.mp h;exact ⟨(Zft c h1).1, by simpa using h2⟩
theorem Zew (g : Nat -> List (List Nat)) (p : List Nat -> Bool) : ∀ us : List Nat, (us.flatMap g).filter p = us.flatMap fun u => (g u).filter p
 | [] => rfl
 | u :: us => by rw [List.flatMap_cons, List.filter_append, Zew g p us, List.flatMap_cons]
theorem ZrM {v s : Nat} (hv : v < 8) : Qv N v s = del v s + ((List.range v).map fun u => N u v * Qv N u s).sum := by
 have hp := List.isPerm_iff.mp (Zps v hv);have hp2 := hp.filter fun c => YA c == s;unfold Qv;rw [Zms _ hp2, List.filter_append, Zjo, Zew, ZgM];congr 1
 ·unfold del
  by_cases h : v < 3
  ·rw [if_pos h]
   by_cases e : s = v
   ·subst e
    rw [if_pos ⟨h, rfl⟩];have : ([[s]] : List (List Nat)).filter (fun c => YA c == s) = [[s]] := by simp [YA]
    rw [this];rfl
   ·rw [if_neg (fun z => e z.2)]
    have : ([[v]] : List (List Nat)).filter (fun c => YA c == s) = [] := by
     simp [YA];exact fun z => e z.symm
    rw [this];rfl
  ·rw [if_neg h, if_neg (fun z => h z.1)]
   rfl
 ·congr 1
  apply List.map_congr_left;intro u hu;rw [List.filter_map, Zpf]
  have e1 : (chT u).filter ((fun c => YA c == s) ∘ fun c => c ++ [v]) = (chT u).filter fun c => YA c == s := by
   apply List.filter_congr;intro c hc;simp only [Function.comp, ZjV (Zpx hc).1]
  rw [e1, <- Zo9];apply Zc7;intro c hc;have ho := Zpx (List.mem_filter.mp hc).1;rw [Zjk N ho.1, ho.2]
theorem ZeA {n : Nat} {f g : Nat -> Int} (h : ∀ u < n, f u = g u) : ((List.range n).map f).sum = ((List.range n).map g).sum := by
 congr 1;exact List.map_congr_left fun u hu => h u (List.mem_range.mp hu)
theorem ZkQ (hN : ZS N 20) (s : Nat) : ∀ (n v : Nat), v < n -> v < 8 -> (fin N v).2 s = Qv N v s
 | 0, v, h, _ => absurd h (by lia)
 | n + 1, v, h, h8 => by
  rw [ZaA hN, ZrM h8];congr 1;exact ZeA fun u hu => by rw [ZkQ hN s n u (by lia) (by lia)]
theorem Znk (v s : Nat) : ∀ (L : List (List Nat)) (C : Cnt), (L.foldl (Zcs N) C) v s = C v s + Y6 (wgt N) (L.filter fun c => Zs c == v && YA c == s) := by
 intro xs_
 induction xs_ with
 | nil =>
  intro C;simp [Y6]
 | cons c L ih_ =>
  intro C;rw [List.foldl_cons, ih_];unfold Zcs Zl3
  by_cases h : Zs c = v /\ YA c = s
  ·obtain ⟨h1, h2⟩ := h
   subst h1 h2;rw [if_pos ⟨rfl, rfl⟩, List.filter_cons_of_pos (by simp)];show _ = C _ _ + (wgt N c + Y6 (wgt N) _);lia
  ·rw [if_neg (fun z => h ⟨z.1.symm, z.2.symm⟩), List.filter_cons_of_neg (by simpa using h)]
theorem Zub (hN : ZS N 20) (v s : Nat) : Zbf N v s = Qv N v s := by
 unfold Zbf;rw [Znk];unfold Qv chT;rw [List.filter_filter, List.filter_filter]
 have e : (Yz 8).filter (fun c => (Zs c == v && YA c == s) && Yn N c) = ((Yz 8).filter fun c => YA c == s && Zs c == v).filter (Yn N) := by
  rw [List.filter_filter];apply List.filter_congr;intro c _
  cases Zs c == v <;> cases YA c == s <;> cases Yn N c <;> rfl
 rw [e, JT (ZbY hN)];lia
theorem ZnV (hN : ZS N 20) : ∀ v < 8, ∀ s < 3, (Yg N 7 v).2 s = Zbf N v s := fun v h s _ => by
 rw [Zf6 (by lia), Zub hN, ZkQ hN s (v + 1) v (by lia) h]
theorem Zmk (hN : ZS N 20) : ∀ s < 3, ∀ t < 3, cS N s t = (Yg N 7 (5 + t)).2 s := fun s hs t ht => by
 rw [Zf6 (by lia), ZkQ hN s (5 + t + 1) (5 + t) (by lia) (by lia)]
 have e : (((chS s).filter (Yn N)).filter fun c => (Za7 c).getD t false) = ((chT (5 + t)).filter fun c => YA c == s).filter (Yn N) := by
  unfold chS ZdZ chT;rw [List.filter_filter, List.filter_filter, List.filter_filter, List.filter_filter, List.filter_filter];apply List.filter_congr;intro c _
  have hf : (Za7 c).getD t false = (Zs c == 5 + t) := by
   match t, ht with
   | 0, _ => rfl
   | 1, _ => rfl
   | 2, _ => rfl
  rw [hf]
  by_cases h : Zs c = 5 + t
  ·have h4 : 4 < Zs c := by lia
   rw [h] at h4 ⊢;simp only [beq_self_eq_true, h4, decide_true]
   cases YA c == s <;> cases Yn N c <;> rfl
  ·have hb : (Zs c == 5 + t) = false := beq_eq_false_iff_ne.mpr h
   rw [hb]
   cases YA c == s <;> cases Yn N c <;> cases decide (4 < Zs c) <;> rfl
 unfold cS;rw [e];exact JT (ZbY hN) _
theorem ZtQ : ∀ v ≤ 7, (21 : Int) ^ v <= 1801088541 := by decide +kernel
theorem Ztx : ∀ v ≤ 7, 1 + 20 * ((List.range v).map fun u => (21 : Int) ^ u).sum = 21 ^ v := by decide +kernel
theorem Zkz {n : Nat} {f g : Nat -> Int} (h : ∀ u < n, 0 <= f u /\ f u <= 20 * g u) : 0 <= ((List.range n).map f).sum /\ ((List.range n).map f).sum <= 20 * ((List.range n).map g).sum := by
 induction n with
 | zero => simp
 | succ n ih =>
  have h1 := ih fun u hu => h u (by lia);have h2 := h n (by lia);rw [List.range_succ, List.map_append, List.map_append, List.sum_append, List.sum_append];simp only [List.map_cons, List.map_nil, List.sum_cons, List.sum_nil];lia
theorem ZiZ (hN : ZS N 20) (s : Nat) : ∀ (n v : Nat), v < n -> v < 8 -> 0 <= Qv N v s /\ Qv N v s <= 21 ^ v
 | 0, v, h, _ => absurd h (by lia)
 | n + 1, v, h, h8 => by
  rw [ZrM h8];have hd : 0 <= del v s /\ del v s <= 1 := by unfold del; split <;> lia
  have hs := Zkz (n := v) (f := fun u => N u v * Qv N u s) (g := fun u => (21 : Int) ^ u) (fun u hu => by
   have hq := ZiZ hN s n u (by lia) (by lia);exact ⟨Int.mul_nonneg (hN.nonneg u v) hq.1, Int.mul_le_mul (hN.le u v) hq.2 hq.1 (by decide)⟩)
  have h21 := Ztx v (by lia);lia
theorem Zkx (hN : ZS N 20) : ∀ j < 6, small (qV (Yg N 7) j) = true := fun j hj => by
 unfold qV;rw [Zf6 (by lia), ZkQ hN _ (5 + j % 3 + 1) (5 + j % 3) (by lia) (by lia)];have h := ZiZ hN (j / 3) (5 + j % 3 + 1) (5 + j % 3) (by lia) (by lia);have h2 := ZtQ (5 + j % 3) (by lia);unfold small;simp only [Bool.and_eq_true, decide_eq_true_eq];lia
variable {N : Mat}
noncomputable def ZnB : List (List Nat × List Nat × List Nat) := (chS 0).flatMap fun c1 => (((chS 1).filter (Zdu c1)).filter (dis c1)).flatMap fun c2 => (((chS 2).filter (ZfP c1 c2)).filter (dis (c1 ++ c2))).map fun c3 => (c1, c2, c3)
noncomputable def tw (N : Mat) (t : List Nat × List Nat × List Nat) : Int := wgt N t.1 * wgt N t.2.1 * wgt N t.2.2 * ZmT (Zs t.1, Zs t.2.1, Zs t.2.2)
theorem ZhD (f : List Nat -> Int) (p : List Nat -> Bool) : ∀ L : List (List Nat), Y6 (fun c => if p c then f c else 0) L = Y6 f (L.filter p)
 | [] => rfl
 | c :: L => by
  have ih := ZhD f p L;have hd : ∀ (g : List Nat -> Int) (M : List (List Nat)), Y6 g (c :: M) = g c + Y6 g M := fun g M => by unfold Y6; rw [List.map_cons, List.sum_cons]
  rw [hd, ih]
  cases h : p c with
  | false =>
   rw [List.filter_cons_of_neg (by simp [h]), if_neg (by decide)];lia
  | true =>
   rw [List.filter_cons_of_pos h, hd, if_pos rfl]
theorem ZgR {f : List Nat -> Int} {L : List (List Nat)} (h : ∀ c, f c = 0) : Y6 f L = 0 := by
 unfold Y6
 induction L with
 | nil => rfl
 | cons c L ih => rw [List.map_cons, List.sum_cons, ih, h c]; rfl
theorem Zf2 {c1 c2 c3 : List Nat} (h : wgt N c1 = 0 \/ wgt N c2 = 0 \/ wgt N c3 = 0) : Zb1 N c1 c2 c3 = 0 := by
 unfold Zb1
 split
 ·rcases h with h | h | h <;> rw [h] <;> simp
 ·rfl
theorem ZkT {c1 c2 : List Nat} (h : wgt N c1 = 0 \/ wgt N c2 = 0) : T3 N c1 c2 = 0 := by
 show Y6 (Zb1 N c1 c2) _ = 0;exact ZgR fun c3 => Zf2 (by rcases h with h | h <;> simp [h])
theorem Zt9 (hN : ZS N 20) (c1 c2 : List Nat) : T3 N c1 c2 = Y6 (fun c3 => tw N (c1, c2, c3)) (((chS 2).filter (ZfP c1 c2)).filter (dis (c1 ++ c2))) := by
 show Y6 (Zb1 N c1 c2) (((chS 2).filter (ZfP c1 c2)).filter (Yn N)) = _;rw [JT (fun c h => Zf2 (.inr (.inr (ZbY hN c h))))];exact ZhD (fun c3 => tw N (c1, c2, c3)) (dis (c1 ++ c2)) _
theorem Zrv (hN : ZS N 20) (c1 : List Nat) : T2 N c1 = Y6 (fun c2 => T3 N c1 c2) (((chS 1).filter (Zdu c1)).filter (dis c1)) := by
 show Y6 (fun c2 => if dis c1 c2 then T3 N c1 c2 else 0) (((chS 1).filter (Zdu c1)).filter (Yn N)) = _;rw [JT (fun c h => by simp [ZkT (c1 := c1) (.inr (ZbY hN c h))])];exact ZhD (fun c2 => T3 N c1 c2) (dis c1) _
theorem Ztt (hN : ZS N 20) : T1 N = Y6 (T2 N) (chS 0) := by
 show Y6 (T2 N) ((chS 0).filter (Yn N)) = _;refine JT (fun c h => ?_) _;rw [Zrv hN];exact ZgR fun c2 => ZkT (.inl (ZbY hN c h))
noncomputable def Zgb (N : Mat) (L : List (List Nat × List Nat × List Nat)) : Int := (L.map (tw N)).sum
theorem Zd5 (g : List Nat -> List (List Nat × List Nat × List Nat)) : ∀ L : List (List Nat), Zgb N (L.flatMap g) = Y6 (fun c => Zgb N (g c)) L
 | [] => rfl
 | c :: L => by
  have : Zgb N (g c ++ L.flatMap g) = Zgb N (g c) + Zgb N (L.flatMap g) := by unfold Zgb; rw [List.map_append, List.sum_append]
  rw [List.flatMap_cons, this, Zd5 g L];unfold Y6;rw [List.map_cons, List.sum_cons]
theorem ZnH (hN : ZS N 20) : T1 N = Zgb N ZnB := by
 rw [Ztt hN];unfold ZnB;rw [Zd5];refine Zc7 fun c1 _ => ?_;rw [Zrv hN, Zd5];refine Zc7 fun c2 _ => ?_;rw [Zt9 hN];unfold Zgb Y6;rw [List.map_map];rfl
noncomputable def Zkm : List (List Nat × List Nat × List Nat) := [([0, 5], [1, 6], [2, 7]), ([0, 5], [1, 6], [2, 3, 7]), ([0, 5], [1, 6], [2, 4, 7]), ([0, 5], [1, 6], [2, 3, 4, 7]), ([0, 5], [1, 7], [2, 6]), ([0, 5], [1, 7], [2, 3, 6]), ([0, 5], [1, 7], [2, 4, 6]), ([0, 5], [1, 7], [2, 3, 4, 6]), ([0, 5], [1, 3, 6], [2, 7]), ([0, 5], [1, 3, 6], [2, 4, 7]), ([0, 5], [1, 3, 7], [2, 6]), ([0, 5], [1, 3, 7], [2, 4, 6]), ([0, 5], [1, 4, 6], [2, 7]), ([0, 5], [1, 4, 6], [2, 3, 7]), ([0, 5], [1, 4, 7], [2, 6]), ([0, 5], [1, 4, 7], [2, 3, 6]), ([0, 5], [1, 3, 4, 6], [2, 7]), ([0, 5], [1, 3, 4, 7], [2, 6]), ([0, 6], [1, 5], [2, 7]), ([0, 6], [1, 5], [2, 3, 7]), ([0, 6], [1, 5], [2, 4, 7]), ([0, 6], [1, 5], [2, 3, 4, 7]), ([0, 6], [1, 7], [2, 5]), ([0, 6], [1, 7], [2, 3, 5]), ([0, 6], [1, 7], [2, 4, 5]), ([0, 6], [1, 7], [2, 3, 4, 5]), ([0, 6], [1, 3, 5], [2, 7]), ([0, 6], [1, 3, 5], [2, 4, 7]), ([0, 6], [1, 3, 7], [2, 5]), ([0, 6], [1, 3, 7], [2, 4, 5]), ([0, 6], [1, 4, 5], [2, 7]), ([0, 6], [1, 4, 5], [2, 3, 7]), ([0, 6], [1, 4, 7], [2, 5]), ([0, 6], [1, 4, 7], [2, 3, 5]), ([0, 6], [1, 3, 4, 5], [2, 7]), ([0, 6], [1, 3, 4, 7], [2, 5]), ([0, 7], [1, 5], [2, 6]), ([0, 7], [1, 5], [2, 3, 6]), ([0, 7], [1, 5], [2, 4, 6]), ([0, 7], [1, 5], [2, 3, 4, 6]), ([0, 7], [1, 6], [2, 5]), ([0, 7], [1, 6], [2, 3, 5]), ([0, 7], [1, 6], [2, 4, 5]), ([0, 7], [1, 6], [2, 3, 4, 5]), ([0, 7], [1, 3, 5], [2, 6]), ([0, 7], [1, 3, 5], [2, 4, 6]), ([0, 7], [1, 3, 6], [2, 5]), ([0, 7], [1, 3, 6], [2, 4, 5]), ([0, 7], [1, 4, 5], [2, 6]), ([0, 7], [1, 4, 5], [2, 3, 6]), ([0, 7], [1, 4, 6], [2, 5]), ([0, 7], [1, 4, 6], [2, 3, 5]), ([0, 7], [1, 3, 4, 5], [2, 6]), ([0, 7], [1, 3, 4, 6], [2, 5]), ([0, 3, 5], [1, 6], [2, 7]), ([0, 3, 5], [1, 6], [2, 4, 7]), ([0, 3, 5], [1, 7], [2, 6]), ([0, 3, 5], [1, 7], [2, 4, 6]), ([0, 3, 5], [1, 4, 6], [2, 7]), ([0, 3, 5], [1, 4, 7], [2, 6]), ([0, 3, 6], [1, 5], [2, 7]), ([0, 3, 6], [1, 5], [2, 4, 7]), ([0, 3, 6], [1, 7], [2, 5]), ([0, 3, 6], [1, 7], [2, 4, 5]), ([0, 3, 6], [1, 4, 5], [2, 7]), ([0, 3, 6], [1, 4, 7], [2, 5]), ([0, 3, 7], [1, 5], [2, 6]), ([0, 3, 7], [1, 5], [2, 4, 6]), ([0, 3, 7], [1, 6], [2, 5]), ([0, 3, 7], [1, 6], [2, 4, 5]), ([0, 3, 7], [1, 4, 5], [2, 6]), ([0, 3, 7], [1, 4, 6], [2, 5]), ([0, 4, 5], [1, 6], [2, 7]), ([0, 4, 5], [1, 6], [2, 3, 7]), ([0, 4, 5], [1, 7], [2, 6]), ([0, 4, 5], [1, 7], [2, 3, 6]), ([0, 4, 5], [1, 3, 6], [2, 7]), ([0, 4, 5], [1, 3, 7], [2, 6]), ([0, 4, 6], [1, 5], [2, 7]), ([0, 4, 6], [1, 5], [2, 3, 7]), ([0, 4, 6], [1, 7], [2, 5]), ([0, 4, 6], [1, 7], [2, 3, 5]), ([0, 4, 6], [1, 3, 5], [2, 7]), ([0, 4, 6], [1, 3, 7], [2, 5]), ([0, 4, 7], [1, 5], [2, 6]), ([0, 4, 7], [1, 5], [2, 3, 6]), ([0, 4, 7], [1, 6], [2, 5]), ([0, 4, 7], [1, 6], [2, 3, 5]), ([0, 4, 7], [1, 3, 5], [2, 6]), ([0, 4, 7], [1, 3, 6], [2, 5]), ([0, 3, 4, 5], [1, 6], [2, 7]), ([0, 3, 4, 5], [1, 7], [2, 6]), ([0, 3, 4, 6], [1, 5], [2, 7]), ([0, 3, 4, 6], [1, 7], [2, 5]), ([0, 3, 4, 7], [1, 5], [2, 6]), ([0, 3, 4, 7], [1, 6], [2, 5])]
theorem Zpq : ZnB = Zkm := by decide +kernel
theorem Zmc : Zgb N Zkm = (N 0 5 * 1) * (N 1 6 * 1) * (N 2 7 * 1) * 1 + ((N 0 5 * 1) * (N 1 6 * 1) * (N 2 3 * (N 3 7 * 1)) * 1 + ((N 0 5 * 1) * (N 1 6 * 1) * (N 2 4 * (N 4 7 * 1)) * 1 + ((N 0 5 * 1) * (N 1 6 * 1) * (N 2 3 * (N 3 4 * (N 4 7 * 1))) * 1 + ((N 0 5 * 1) * (N 1 7 * 1) * (N 2 6 * 1) * -1 + ((N 0 5 * 1) * (N 1 7 * 1) * (N 2 3 * (N 3 6 * 1)) * -1 + ((N 0 5 * 1) * (N 1 7 * 1) * (N 2 4 * (N 4 6 * 1)) * -1 + ((N 0 5 * 1) * (N 1 7 * 1) * (N 2 3 * (N 3 4 * (N 4 6 * 1))) * -1 + ((N 0 5 * 1) * (N 1 3 * (N 3 6 * 1)) * (N 2 7 * 1) * 1 + ((N 0 5 * 1) * (N 1 3 * (N 3 6 * 1)) * (N 2 4 * (N 4 7 * 1)) * 1 + ((N 0 5 * 1) * (N 1 3 * (N 3 7 * 1)) * (N 2 6 * 1) * -1 + ((N 0 5 * 1) * (N 1 3 * (N 3 7 * 1)) * (N 2 4 * (N 4 6 * 1)) * -1 + ((N 0 5 * 1) * (N 1 4 * (N 4 6 * 1)) * (N 2 7 * 1) * 1 + ((N 0 5 * 1) * (N 1 4 * (N 4 6 * 1)) * (N 2 3 * (N 3 7 * 1)) * 1 + ((N 0 5 * 1) * (N 1 4 * (N 4 7 * 1)) * (N 2 6 * 1) * -1 + ((N 0 5 * 1) * (N 1 4 * (N 4 7 * 1)) * (N 2 3 * (N 3 6 * 1)) * -1 + ((N 0 5 * 1) * (N 1 3 * (N 3 4 * (N 4 6 * 1))) * (N 2 7 * 1) * 1 + ((N 0 5 * 1) * (N 1 3 * (N 3 4 * (N 4 7 * 1))) * (N 2 6 * 1) * -1 + ((N 0 6 * 1) * (N 1 5 * 1) * (N 2 7 * 1) * -1 + ((N 0 6 * 1) * (N 1 5 * 1) * (N 2 3 * (N 3 7 * 1)) * -1 + ((N 0 6 * 1) * (N 1 5 * 1) * (N 2 4 * (N 4 7 * 1)) * -1 + ((N 0 6 * 1) * (N 1 5 * 1) * (N 2 3 * (N 3 4 * (N 4 7 * 1))) * -1 + ((N 0 6 * 1) * (N 1 7 * 1) * (N 2 5 * 1) * 1 + ((N 0 6 * 1) * (N 1 7 * 1) * (N 2 3 * (N 3 5 * 1)) * 1 + ((N 0 6 * 1) * (N 1 7 * 1) * (N 2 4 * (N 4 5 * 1)) * 1 + ((N 0 6 * 1) * (N 1 7 * 1) * (N 2 3 * (N 3 4 * (N 4 5 * 1))) * 1 + ((N 0 6 * 1) * (N 1 3 * (N 3 5 * 1)) * (N 2 7 * 1) * -1 + ((N 0 6 * 1) * (N 1 3 * (N 3 5 * 1)) * (N 2 4 * (N 4 7 * 1)) * -1 + ((N 0 6 * 1) * (N 1 3 * (N 3 7 * 1)) * (N 2 5 * 1) * 1 + ((N 0 6 * 1) * (N 1 3 * (N 3 7 * 1)) * (N 2 4 * (N 4 5 * 1)) * 1 + ((N 0 6 * 1) * (N 1 4 * (N 4 5 * 1)) * (N 2 7 * 1) * -1 + ((N 0 6 * 1) * (N 1 4 * (N 4 5 * 1)) * (N 2 3 * (N 3 7 * 1)) * -1 + ((N 0 6 * 1) * (N 1 4 * (N 4 7 * 1)) * (N 2 5 * 1) * 1 + ((N 0 6 * 1) * (N 1 4 * (N 4 7 * 1)) * (N 2 3 * (N 3 5 * 1)) * 1 + ((N 0 6 * 1) * (N 1 3 * (N 3 4 * (N 4 5 * 1))) * (N 2 7 * 1) * -1 + ((N 0 6 * 1) * (N 1 3 * (N 3 4 * (N 4 7 * 1))) * (N 2 5 * 1) * 1 + ((N 0 7 * 1) * (N 1 5 * 1) * (N 2 6 * 1) * 1 + ((N 0 7 * 1) * (N 1 5 * 1) * (N 2 3 * (N 3 6 * 1)) * 1 + ((N 0 7 * 1) * (N 1 5 * 1) * (N 2 4 * (N 4 6 * 1)) * 1 + ((N 0 7 * 1) * (N 1 5 * 1) * (N 2 3 * (N 3 4 * (N 4 6 * 1))) * 1 + ((N 0 7 * 1) * (N 1 6 * 1) * (N 2 5 * 1) * -1 + ((N 0 7 * 1) * (N 1 6 * 1) * (N 2 3 * (N 3 5 * 1)) * -1 + ((N 0 7 * 1) * (N 1 6 * 1) * (N 2 4 * (N 4 5 * 1)) * -1 + ((N 0 7 * 1) * (N 1 6 * 1) * (N 2 3 * (N 3 4 * (N 4 5 * 1))) * -1 + ((N 0 7 * 1) * (N 1 3 * (N 3 5 * 1)) * (N 2 6 * 1) * 1 + ((N 0 7 * 1) * (N 1 3 * (N 3 5 * 1)) * (N 2 4 * (N 4 6 * 1)) * 1 + ((N 0 7 * 1) * (N 1 3 * (N 3 6 * 1)) * (N 2 5 * 1) * -1 + ((N 0 7 * 1) * (N 1 3 * (N 3 6 * 1)) * (N 2 4 * (N 4 5 * 1)) * -1 + ((N 0 7 * 1) * (N 1 4 * (N 4 5 * 1)) * (N 2 6 * 1) * 1 + ((N 0 7 * 1) * (N 1 4 * (N 4 5 * 1)) * (N 2 3 * (N 3 6 * 1)) * 1 + ((N 0 7 * 1) * (N 1 4 * (N 4 6 * 1)) * (N 2 5 * 1) * -1 + ((N 0 7 * 1) * (N 1 4 * (N 4 6 * 1)) * (N 2 3 * (N 3 5 * 1)) * -1 + ((N 0 7 * 1) * (N 1 3 * (N 3 4 * (N 4 5 * 1))) * (N 2 6 * 1) * 1 + ((N 0 7 * 1) * (N 1 3 * (N 3 4 * (N 4 6 * 1))) * (N 2 5 * 1) * -1 + ((N 0 3 * (N 3 5 * 1)) * (N 1 6 * 1) * (N 2 7 * 1) * 1 + ((N 0 3 * (N 3 5 * 1)) * (N 1 6 * 1) * (N 2 4 * (N 4 7 * 1)) * 1 + ((N 0 3 * (N 3 5 * 1)) * (N 1 7 * 1) * (N 2 6 * 1) * -1 + ((N 0 3 * (N 3 5 * 1)) * (N 1 7 * 1) * (N 2 4 * (N 4 6 * 1)) * -1 + ((N 0 3 * (N 3 5 * 1)) * (N 1 4 * (N 4 6 * 1)) * (N 2 7 * 1) * 1 + ((N 0 3 * (N 3 5 * 1)) * (N 1 4 * (N 4 7 * 1)) * (N 2 6 * 1) * -1 + ((N 0 3 * (N 3 6 * 1)) * (N 1 5 * 1) * (N 2 7 * 1) * -1 + ((N 0 3 * (N 3 6 * 1)) * (N 1 5 * 1) * (N 2 4 * (N 4 7 * 1)) * -1 + ((N 0 3 * (N 3 6 * 1)) * (N 1 7 * 1) * (N 2 5 * 1) * 1 + ((N 0 3 * (N 3 6 * 1)) * (N 1 7 * 1) * (N 2 4 * (N 4 5 * 1)) * 1 + ((N 0 3 * (N 3 6 * 1)) * (N 1 4 * (N 4 5 * 1)) * (N 2 7 * 1) * -1 + ((N 0 3 * (N 3 6 * 1)) * (N 1 4 * (N 4 7 * 1)) * (N 2 5 * 1) * 1 + ((N 0 3 * (N 3 7 * 1)) * (N 1 5 * 1) * (N 2 6 * 1) * 1 + ((N 0 3 * (N 3 7 * 1)) * (N 1 5 * 1) * (N 2 4 * (N 4 6 * 1)) * 1 + ((N 0 3 * (N 3 7 * 1)) * (N 1 6 * 1) * (N 2 5 * 1) * -1 + ((N 0 3 * (N 3 7 * 1)) * (N 1 6 * 1) * (N 2 4 * (N 4 5 * 1)) * -1 + ((N 0 3 * (N 3 7 * 1)) * (N 1 4 * (N 4 5 * 1)) * (N 2 6 * 1) * 1 + ((N 0 3 * (N 3 7 * 1)) * (N 1 4 * (N 4 6 * 1)) * (N 2 5 * 1) * -1 + ((N 0 4 * (N 4 5 * 1)) * (N 1 6 * 1) * (N 2 7 * 1) * 1 + ((N 0 4 * (N 4 5 * 1)) * (N 1 6 * 1) * (N 2 3 * (N 3 7 * 1)) * 1 + ((N 0 4 * (N 4 5 * 1)) * (N 1 7 * 1) * (N 2 6 * 1) * -1 + ((N 0 4 * (N 4 5 * 1)) * (N 1 7 * 1) * (N 2 3 * (N 3 6 * 1)) * -1 + ((N 0 4 * (N 4 5 * 1)) * (N 1 3 * (N 3 6 * 1)) * (N 2 7 * 1) * 1 + ((N 0 4 * (N 4 5 * 1)) * (N 1 3 * (N 3 7 * 1)) * (N 2 6 * 1) * -1 + ((N 0 4 * (N 4 6 * 1)) * (N 1 5 * 1) * (N 2 7 * 1) * -1 + ((N 0 4 * (N 4 6 * 1)) * (N 1 5 * 1) * (N 2 3 * (N 3 7 * 1)) * -1 + ((N 0 4 * (N 4 6 * 1)) * (N 1 7 * 1) * (N 2 5 * 1) * 1 + ((N 0 4 * (N 4 6 * 1)) * (N 1 7 * 1) * (N 2 3 * (N 3 5 * 1)) * 1 + ((N 0 4 * (N 4 6 * 1)) * (N 1 3 * (N 3 5 * 1)) * (N 2 7 * 1) * -1 + ((N 0 4 * (N 4 6 * 1)) * (N 1 3 * (N 3 7 * 1)) * (N 2 5 * 1) * 1 + ((N 0 4 * (N 4 7 * 1)) * (N 1 5 * 1) * (N 2 6 * 1) * 1 + ((N 0 4 * (N 4 7 * 1)) * (N 1 5 * 1) * (N 2 3 * (N 3 6 * 1)) * 1 + ((N 0 4 * (N 4 7 * 1)) * (N 1 6 * 1) * (N 2 5 * 1) * -1 + ((N 0 4 * (N 4 7 * 1)) * (N 1 6 * 1) * (N 2 3 * (N 3 5 * 1)) * -1 + ((N 0 4 * (N 4 7 * 1)) * (N 1 3 * (N 3 5 * 1)) * (N 2 6 * 1) * 1 + ((N 0 4 * (N 4 7 * 1)) * (N 1 3 * (N 3 6 * 1)) * (N 2 5 * 1) * -1 + ((N 0 3 * (N 3 4 * (N 4 5 * 1))) * (N 1 6 * 1) * (N 2 7 * 1) * 1 + ((N 0 3 * (N 3 4 * (N 4 5 * 1))) * (N 1 7 * 1) * (N 2 6 * 1) * -1 + ((N 0 3 * (N 3 4 * (N 4 6 * 1))) * (N 1 5 * 1) * (N 2 7 * 1) * -1 + ((N 0 3 * (N 3 4 * (N 4 6 * 1))) * (N 1 7 * 1) * (N 2 5 * 1) * 1 + ((N 0 3 * (N 3 4 * (N 4 7 * 1))) * (N 1 5 * 1) * (N 2 6 * 1) * 1 + ((N 0 3 * (N 3 4 * (N 4 7 * 1))) * (N 1 6 * 1) * (N 2 5 * 1) * -1 + 0))))))))))))))))))))))))))))))))))))))))))))))))))))))))))))))))))))))))))))))))))))))))))))))) := by kernel_rfl
theorem Zr1 (a b c d e f g h i x y z : Int) : ZdL a (b + x * a) (c + y * a + z * (b + x * a)) d (e + x * d) (f + y * d + z * (e + x * d)) g (h + x * g) (i + y * g + z * (h + x * g)) = ZdL a b c d e f g h i := by
 unfold ZdL
 grind
theorem Zs5 (a b c d e f g h i x y z : Int) : ZdL (a * 1 + d * x + g * y) (b * 1 + e * x + h * y) (c * 1 + f * x + i * y) (a * 0 + d * 1 + g * z) (b * 0 + e * 1 + h * z) (c * 0 + f * 1 + i * z) (a * 0 + d * 0 + g * 1) (b * 0 + e * 0 + h * 1) (c * 0 + f * 0 + i * 1) = ZdL a b c d e f g h i := by
 unfold ZdL
 grind
theorem Ztm {a b c d e f g h i p5 p6 p7 q5 q6 q7 r5 r6 r7 x y z : Int} (a0 : a = p5) (a1 : b = p6 + x * a) (a2 : c = p7 + y * a + z * b) (b0 : d = q5) (b1 : e = q6 + x * d) (b2 : f = q7 + y * d + z * e) (c0 : g = r5) (c1 : h = r6 + x * g) (c2 : i = r7 + y * g + z * h) :
  ZdL a b c d e f g h i = ZdL p5 p6 p7 q5 q6 q7 r5 r6 r7 := by
 rw [a2, b2, c2, a1, b1, c1, a0, b0, c0];exact Zr1 ..
theorem Zur (hN : ZS N 20) (s : Nat) : (fin N 0).2 s = del 0 s := by simpa using ZaA hN 0 s
theorem Zun (hN : ZS N 20) (s : Nat) : (fin N 1).2 s = del 1 s + N 0 1 * (fin N 0).2 s := by simpa [List.range_succ] using ZaA hN 1 s
theorem Zus (hN : ZS N 20) (s : Nat) : (fin N 2).2 s = del 2 s + (N 0 2 * (fin N 0).2 s + N 1 2 * (fin N 1).2 s) := by simpa [List.range_succ] using ZaA hN 2 s
theorem Zui (hN : ZS N 20) (s : Nat) : (fin N 3).2 s = N 0 3 * (fin N 0).2 s + (N 1 3 * (fin N 1).2 s + N 2 3 * (fin N 2).2 s) := by simpa [List.range_succ, del] using ZaA hN 3 s
theorem Zum (hN : ZS N 20) (s : Nat) : (fin N 4).2 s = N 0 4 * (fin N 0).2 s + (N 1 4 * (fin N 1).2 s + (N 2 4 * (fin N 2).2 s + N 3 4 * (fin N 3).2 s)) := by simpa [List.range_succ, del] using ZaA hN 4 s
theorem Zuu (hN : ZS N 20) (s : Nat) : (fin N 5).2 s = N 0 5 * (fin N 0).2 s + (N 1 5 * (fin N 1).2 s + (N 2 5 * (fin N 2).2 s + (N 3 5 * (fin N 3).2 s + N 4 5 * (fin N 4).2 s))) := by simpa [List.range_succ, del] using ZaA hN 5 s
theorem Zut (hN : ZS N 20) (s : Nat) : (fin N 6).2 s = N 0 6 * (fin N 0).2 s + (N 1 6 * (fin N 1).2 s + (N 2 6 * (fin N 2).2 s + (N 3 6 * (fin N 3).2 s + (N 4 6 * (fin N 4).2 s + N 5 6 * (fin N 5).2 s)))) := by simpa [List.range_succ, del] using ZaA hN 6 s
theorem Zup (hN : ZS N 20) (s : Nat) : (fin N 7).2 s = N 0 7 * (fin N 0).2 s + (N 1 7 * (fin N 1).2 s + (N 2 7 * (fin N 2).2 s + (N 3 7 * (fin N 3).2 s + (N 4 7 * (fin N 4).2 s + (N 5 7 * (fin N 5).2 s + N 6 7 * (fin N 6).2 s))))) := by simpa [List.range_succ, del] using ZaA hN 7 s
theorem Zss : del 0 0 = 1 := by decide
theorem Zs0 : del 0 1 = 0 := by decide
theorem ZrU : del 0 2 = 0 := by decide
theorem ZrS : del 1 0 = 0 := by decide
theorem ZsK : del 1 1 = 1 := by decide
theorem Zsq : del 1 2 = 0 := by decide
theorem ZsP : del 2 0 = 0 := by decide
theorem Ztb : del 2 1 = 0 := by decide
theorem Ztf : del 2 2 = 1 := by decide
noncomputable def cF (N : Mat) (t i : Nat) : Int := N i t + N 3 t * N i 3 + N 4 t * (N i 4 + N 3 4 * N i 3)
theorem ZfH (hN : ZS N 20) (s : Nat) {x y z : Int} (e0 : (fin N 0).2 s = x) (e1 : (fin N 1).2 s = y) (e2 : (fin N 2).2 s = z) : ((fin N 5).2 s = cF N 5 0 * x + cF N 5 1 * y + cF N 5 2 * z) /\
  ((fin N 6).2 s = (cF N 6 0 * x + cF N 6 1 * y + cF N 6 2 * z) + N 5 6 * (fin N 5).2 s) /\ ((fin N 7).2 s = (cF N 7 0 * x + cF N 7 1 * y + cF N 7 2 * z) + N 5 7 * (fin N 5).2 s + N 6 7 * (fin N 6).2 s) := by
 rw [<- e0, <- e1, <- e2];have h3 := Zui hN s;have h4 := Zum hN s;have h5 := Zuu hN s;have h6 := Zut hN s;have h7 := Zup hN s;unfold cF;refine ⟨?_, ?_, ?_⟩
 ·rw [h5, h4, h3]; grind
 ·rw [h6, h4, h3]; grind
 ·rw [h7, h4, h3]; grind
theorem ZtF (hN : ZS N 20) : (fin N 0).2 0 = 1 /\ (fin N 1).2 0 = N 0 1 /\ (fin N 2).2 0 = N 0 2 + N 1 2 * N 0 1 /\ (fin N 0).2 1 = 0 /\ (fin N 1).2 1 = 1 /\ (fin N 2).2 1 = N 1 2 /\ (fin N 0).2 2 = 0 /\ (fin N 1).2 2 = 0 /\ (fin N 2).2 2 = 1 := by
 simp [Zus hN, Zun hN, Zur hN, Zss, Zs0, ZrU, ZrS, ZsK, Zsq, ZsP, Ztb, Ztf]
theorem ZoT (N : Mat) : ZdL (cF N 5 0) (cF N 6 0) (cF N 7 0) (cF N 5 1) (cF N 6 1) (cF N 7 1) (cF N 5 2) (cF N 6 2) (cF N 7 2) = Zgb N Zkm := by
 rw [Zmc];unfold cF ZdL
 grind
theorem Znq (hN : ZS N 20) : T1 N = ZdL (qV (Yg N 7) 0) (qV (Yg N 7) 1) (qV (Yg N 7) 2) (qV (Yg N 7) 3) (qV (Yg N 7) 4) (qV (Yg N 7) 5) (qV (Yg N 7) 6) (qV (Yg N 7) 7) (qV (Yg N 7) 8) := by
 have q : ∀ j, qV (Yg N 7) j = (fin N (5 + j % 3)).2 (j / 3) := fun j => by unfold qV; rw [Zf6 (by lia)]
 rw [q 0, q 1, q 2, q 3, q 4, q 5, q 6, q 7, q 8];show T1 N = ZdL ((fin N 5).2 0) ((fin N 6).2 0) ((fin N 7).2 0) ((fin N 5).2 1) ((fin N 6).2 1) ((fin N 7).2 1) ((fin N 5).2 2) ((fin N 6).2 2) ((fin N 7).2 2);rw [ZnH hN, Zpq, <- ZoT, <- Zs5 (cF N 5 0) (cF N 6 0) (cF N 7 0) (cF N 5 1) (cF N 6 1) (cF N 7 1) (cF N 5 2) (cF N 6 2) (cF N 7 2) (N 0 1) (N 0 2 + N 1 2 * N 0 1) (N 1 2)];refine Zt1 (ZtF hN) fun s0 s1 s2 s3 s4 s5 s6 s7 s8 => ?_;have A := ZfH hN 0 s0 s1 s2;have B := ZfH hN 1 s3 s4 s5;have C := ZfH hN 2 s6 s7 s8;exact (Ztm A.1 A.2.1 A.2.2 B.1 B.2.1 B.2.2 C.1 C.2.1 C.2.2).symm
theorem ZqI (hN : ZS N 20) : Ze8 N := ⟨ZnZ, ZnV hN, Zmk hN, Znq hN, Zkx hN⟩
theorem all04 : PySem.Challenge.rw_xg0032_04.Holds := Zop Zhf Zd3 Zd8 ZdG ZcJ Zfd ZeS Zhu ZeV Ze5 Zgl Zgf ZfQ Zge fun ns h => by
 obtain ⟨B', σ₁, e⟩ := Zp3 ns h fun N hN => ZqI hN;exact ⟨σ₁, B', e⟩
end Mine
theorem PySem.Challenge.cw_xg0032_04_holds : PySem.Challenge.rw_xg0032_04.Holds :=
 Mine.all04
