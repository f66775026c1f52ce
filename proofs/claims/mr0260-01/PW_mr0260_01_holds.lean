import PyProof.Rows.All
import Wide.All
import OpenK.AllK
import Wide.FinOn
import KE.KBits
import Lean
import PySem.Challenge.RW_mr0260_01
set_option Elab.async false
set_option maxRecDepth 100000
section
namespace Mine
theorem nos {α : Type _} {a : α} {G : Prop} (h : none = some a) : G :=by cases h
theorem son {α : Type _} {a : α} {G : Prop} (h : some a = none) : G := nos h.symm
theorem fnt {G : Prop} (h : false = true) : G :=by cases h
theorem tnf {G : Prop} (h : true = false) : G :=by cases h
theorem iteC {α : Type _} {c : Prop} [Decidable c] {a b d : α} {G : Prop} (k : c → a = d → G) (k' : ¬ c → b = d → G) (h : (if c then a else b) = d) : G := if hc : c then k hc ((if_pos hc).symm.trans h) else k' hc ((if_neg hc).symm.trans h)
theorem bsC {α β : Type _} {G : Prop} {x : Option α} {f : α → Option β} {b : β} (k : ∀ a, x = some a → f a = some b → G) (h : x.bind f = some b) : G :=by
  cases x with
  | none =>exact nos h
  | some a =>exact k a rfl h
theorem andC {a b : Bool} {G : Prop} (k : a = true → b = true → G) (h : (a && b) = true) : G :=by
  cases a with
  | false =>exact fnt h
  | true =>exact k rfl h
theorem nlC {α : Type _} {a : α} {l : List α} {G : Prop} (h : [] = a :: l) : G :=by cases h
theorem lnC {α : Type _} {a : α} {l : List α} {G : Prop} (h : a :: l = []) : G :=by cases h
theorem uq {α : Type _} {x : Option α} {a b : α} (h : x = some a) (h' : x = some b) : a = b := Option.some.inj (h.symm.trans h')
theorem look_self {κ α : Type _} [BEq κ] [LawfulBEq κ] {ρ : List (κ × α)} {x : κ} {d : α} : ((x, d) :: ρ).lookup x = some d :=by rw [List.lookup_cons, beq_self_eq_true]
theorem look_ne {κ α : Type _} [BEq κ] [LawfulBEq κ] {ρ : List (κ × α)} {x y : κ} {d : α} (h : y ≠ x) : ((x, d) :: ρ).lookup y = ρ.lookup y :=by rw [List.lookup_cons, beq_eq_false_iff_ne.mpr h]
theorem lookC {κ α : Type _} [BEq κ] [LawfulBEq κ] {ρ : List (κ × α)} {x y : κ} {d d' : α} {G : Prop} (k : y = x → d' = d → G) (k' : y ≠ x → ρ.lookup y = some d → G) (h : ((x, d') :: ρ).lookup y = some d) : G :=
  Classical.byCases (λq : y = x =>k q (Option.some.inj ((look_self.symm.trans (q ▸ h))))) λq =>k' q ((look_ne q).symm.trans h)
theorem ifsC {α : Type _} {c : Prop} [Decidable c] {a : Option α} {b : α} {G : Prop} (k : c → a = some b → G) (h : (if c then a else none) = some b) : G := if hc : c then k hc ((if_pos hc).symm.trans h) else nos ((if_neg hc).symm.trans h)
theorem ifnC {α : Type _} {c : Prop} [Decidable c] {a : Option α} {b : α} {G : Prop} (k : ¬ c → a = some b → G) (h : (if c then none else a) = some b) : G := if hc : c then nos ((if_pos hc).symm.trans h) else k hc ((if_neg hc).symm.trans h)
theorem X02 {p q G : Prop} (k : p → q → G) (h : p ∧ q) : G := k h.1 h.2
theorem X11 {α : Sort _} {p : α → Prop} {G : Prop} (k : ∀ a, p a → G) (h : ∃ a, p a) : G := Exists.elim h k
theorem X03 {p0 p1 p2 G : Prop} (k : p0 → p1 → p2 → G) (h : p0 ∧ p1 ∧ p2) : G := X02 (λa h =>X02 (k a) h) h
theorem X12 {α : Sort _} {p0 p1 : α → Prop} {G : Prop} (k : ∀ a, p0 a → p1 a → G) (h : ∃ a, p0 a ∧ p1 a) : G := X11 (λa h =>X02 (k a) h) h
theorem X21 {α β : Sort _} {p0 : α → β → Prop} {G : Prop} (k : ∀ a b, p0 a b → G) (h : ∃ a b, p0 a b) : G := X11 (λa h =>X11 (k a) h) h
theorem X04 {p0 p1 p2 p3 G : Prop} (k : p0 → p1 → p2 → p3 → G) (h : p0 ∧ p1 ∧ p2 ∧ p3) : G := X02 (λa h =>X03 (k a) h) h
theorem X13 {α : Sort _} {p0 p1 p2 : α → Prop} {G : Prop} (k : ∀ a, p0 a → p1 a → p2 a → G) (h : ∃ a, p0 a ∧ p1 a ∧ p2 a) : G := X11 (λa h =>X03 (k a) h) h
theorem X22 {α β : Sort _} {p0 p1 : α → β → Prop} {G : Prop} (k : ∀ a b, p0 a b → p1 a b → G) (h : ∃ a b, p0 a b ∧ p1 a b) : G := X11 (λa h =>X12 (k a) h) h
theorem X31 {α β γ : Sort _} {p0 : α → β → γ → Prop} {G : Prop} (k : ∀ a b c, p0 a b c → G) (h : ∃ a b c, p0 a b c) : G := X11 (λa h =>X21 (k a) h) h
theorem X05 {p0 p1 p2 p3 p4 G : Prop} (k : p0 → p1 → p2 → p3 → p4 → G) (h : p0 ∧ p1 ∧ p2 ∧ p3 ∧ p4) : G := X02 (λa h =>X04 (k a) h) h
theorem X14 {α : Sort _} {p0 p1 p2 p3 : α → Prop} {G : Prop} (k : ∀ a, p0 a → p1 a → p2 a → p3 a → G) (h : ∃ a, p0 a ∧ p1 a ∧ p2 a ∧ p3 a) : G := X11 (λa h =>X04 (k a) h) h
theorem X23 {α β : Sort _} {p0 p1 p2 : α → β → Prop} {G : Prop} (k : ∀ a b, p0 a b → p1 a b → p2 a b → G) (h : ∃ a b, p0 a b ∧ p1 a b ∧ p2 a b) : G := X11 (λa h =>X13 (k a) h) h
theorem X32 {α β γ : Sort _} {p0 p1 : α → β → γ → Prop} {G : Prop} (k : ∀ a b c, p0 a b c → p1 a b c → G) (h : ∃ a b c, p0 a b c ∧ p1 a b c) : G := X11 (λa h =>X22 (k a) h) h
theorem X41 {α β γ δ : Sort _} {p0 : α → β → γ → δ → Prop} {G : Prop} (k : ∀ a b c d, p0 a b c d → G) (h : ∃ a b c d, p0 a b c d) : G := X11 (λa h =>X31 (k a) h) h
theorem X06 {p0 p1 p2 p3 p4 p5 G : Prop} (k : p0 → p1 → p2 → p3 → p4 → p5 → G) (h : p0 ∧ p1 ∧ p2 ∧ p3 ∧ p4 ∧ p5) : G := X02 (λa h =>X05 (k a) h) h
theorem X15 {α : Sort _} {p0 p1 p2 p3 p4 : α → Prop} {G : Prop} (k : ∀ a, p0 a → p1 a → p2 a → p3 a → p4 a → G) (h : ∃ a, p0 a ∧ p1 a ∧ p2 a ∧ p3 a ∧ p4 a) : G := X11 (λa h =>X05 (k a) h) h
theorem X24 {α β : Sort _} {p0 p1 p2 p3 : α → β → Prop} {G : Prop} (k : ∀ a b, p0 a b → p1 a b → p2 a b → p3 a b → G) (h : ∃ a b, p0 a b ∧ p1 a b ∧ p2 a b ∧ p3 a b) : G := X11 (λa h =>X14 (k a) h) h
theorem X33 {α β γ : Sort _} {p0 p1 p2 : α → β → γ → Prop} {G : Prop} (k : ∀ a b c, p0 a b c → p1 a b c → p2 a b c → G) (h : ∃ a b c, p0 a b c ∧ p1 a b c ∧ p2 a b c) : G := X11 (λa h =>X23 (k a) h) h
theorem X42 {α β γ δ : Sort _} {p0 p1 : α → β → γ → δ → Prop} {G : Prop} (k : ∀ a b c d, p0 a b c d → p1 a b c d → G) (h : ∃ a b c d, p0 a b c d ∧ p1 a b c d) : G := X11 (λa h =>X32 (k a) h) h
theorem X07 {p0 p1 p2 p3 p4 p5 p6 G : Prop} (k : p0 → p1 → p2 → p3 → p4 → p5 → p6 → G) (h : p0 ∧ p1 ∧ p2 ∧ p3 ∧ p4 ∧ p5 ∧ p6) : G := X02 (λa h =>X06 (k a) h) h
theorem X16 {α : Sort _} {p0 p1 p2 p3 p4 p5 : α → Prop} {G : Prop} (k : ∀ a, p0 a → p1 a → p2 a → p3 a → p4 a → p5 a → G) (h : ∃ a, p0 a ∧ p1 a ∧ p2 a ∧ p3 a ∧ p4 a ∧ p5 a) : G := X11 (λa h =>X06 (k a) h) h
theorem X25 {α β : Sort _} {p0 p1 p2 p3 p4 : α → β → Prop} {G : Prop} (k : ∀ a b, p0 a b → p1 a b → p2 a b → p3 a b → p4 a b → G) (h : ∃ a b, p0 a b ∧ p1 a b ∧ p2 a b ∧ p3 a b ∧ p4 a b) : G := X11 (λa h =>X15 (k a) h) h
theorem X34 {α β γ : Sort _} {p0 p1 p2 p3 : α → β → γ → Prop} {G : Prop} (k : ∀ a b c, p0 a b c → p1 a b c → p2 a b c → p3 a b c → G) (h : ∃ a b c, p0 a b c ∧ p1 a b c ∧ p2 a b c ∧ p3 a b c) : G := X11 (λa h =>X24 (k a) h) h
theorem X43 {α β γ δ : Sort _} {p0 p1 p2 : α → β → γ → δ → Prop} {G : Prop} (k : ∀ a b c d, p0 a b c d → p1 a b c d → p2 a b c d → G) (h : ∃ a b c d, p0 a b c d ∧ p1 a b c d ∧ p2 a b c d) : G := X11 (λa h =>X33 (k a) h) h
theorem X08 {p0 p1 p2 p3 p4 p5 p6 p7 G : Prop} (k : p0 → p1 → p2 → p3 → p4 → p5 → p6 → p7 → G) (h : p0 ∧ p1 ∧ p2 ∧ p3 ∧ p4 ∧ p5 ∧ p6 ∧ p7) : G := X02 (λa h =>X07 (k a) h) h
theorem X17 {α : Sort _} {p0 p1 p2 p3 p4 p5 p6 : α → Prop} {G : Prop} (k : ∀ a, p0 a → p1 a → p2 a → p3 a → p4 a → p5 a → p6 a → G) (h : ∃ a, p0 a ∧ p1 a ∧ p2 a ∧ p3 a ∧ p4 a ∧ p5 a ∧ p6 a) : G := X11 (λa h =>X07 (k a) h) h
theorem X26 {α β : Sort _} {p0 p1 p2 p3 p4 p5 : α → β → Prop} {G : Prop} (k : ∀ a b, p0 a b → p1 a b → p2 a b → p3 a b → p4 a b → p5 a b → G) (h : ∃ a b, p0 a b ∧ p1 a b ∧ p2 a b ∧ p3 a b ∧ p4 a b ∧ p5 a b) : G := X11 (λa h =>X16 (k a) h) h
theorem X35 {α β γ : Sort _} {p0 p1 p2 p3 p4 : α → β → γ → Prop} {G : Prop} (k : ∀ a b c, p0 a b c → p1 a b c → p2 a b c → p3 a b c → p4 a b c → G) (h : ∃ a b c, p0 a b c ∧ p1 a b c ∧ p2 a b c ∧ p3 a b c ∧ p4 a b c) : G := X11 (λa h =>X25 (k a) h) h
theorem X44 {α β γ δ : Sort _} {p0 p1 p2 p3 : α → β → γ → δ → Prop} {G : Prop} (k : ∀ a b c d, p0 a b c d → p1 a b c d → p2 a b c d → p3 a b c d → G) (h : ∃ a b c d, p0 a b c d ∧ p1 a b c d ∧ p2 a b c d ∧ p3 a b c d) : G := X11 (λa h =>X34 (k a) h) h
end Mine
end
section
namespace Mine
open PySem PySem.Spec PySem.Calls PyProof.Rows PySem.W
noncomputable def HasC (Γ : PySem.Ctx) : Prop := Γ.code.isCaller = true ∨ (Γ.below.any λx =>x.1.isCaller) = true
noncomputable def wpC {α : Type} (M : Model) (A : Around) (t : Sem α) (Q : α → Shared → Prop) (E : Value → Shared → Prop) (s : Shared) : Prop :=
  ∀ Γ p, Γ.In A → HasC Γ → Sem.wp M Γ t (λa _ s' =>Q a s') (λe _ s' =>E e s') p s
noncomputable def codeC (M : Model) (A : Around) (c : Code) (R : Result → Shared → Prop) (s : Shared) : Prop :=
  ∀ Γ p, Γ.code = c → Γ.Below A → (Γ.below.any λx =>x.1.isCaller) = true → wpCode M Γ R p s
section
variable {α β : Type} {M : Model} {A : Around} {E : Value → Shared → Prop} {s : Shared}
theorem wpC_any {t : Sem α} {Q : α → Shared → Prop} (h : wpAny M A t Q E s) : wpC M A t Q E s := λΓ p hΓ _ =>h Γ p hΓ
theorem wpC_pure {a : α} {Q : α → Shared → Prop} (h : Q a s) : wpC M A (pure a) Q E s := λ_ _ _ _ =>h
theorem wpC_mono {t : Sem α} {Q Q' : α → Shared → Prop} {E' : Value → Shared → Prop} (h : wpC M A t Q E s) (hQ : ∀ a s, Q a s → Q' a s) (hE : ∀ e s, E e s → E' e s) : wpC M A t Q' E' s :=
  λΓ p hΓ hc =>Sem.wp_mono M Γ t (λa _ s =>hQ a s) (λe _ s =>hE e s) p s (h Γ p hΓ hc)
theorem wpC_bind {m : Sem α} {f : α → Sem β} {Q : β → Shared → Prop} (h : wpC M A m (λa s' =>wpC M A (f a) Q E s') E s) : wpC M A (m >>= f) Q E s := λΓ p hΓ hc =>by
  rw [Sem.wp_bind']
  exact Sem.wp_mono M Γ m (λa p' s' h' =>h' Γ p' hΓ hc) (λ_ _ _ h' =>h') p s (h Γ p hΓ hc)
theorem wpC_onRaise {m : Sem α} {k : Value → Sem Unit} {Q : α → Shared → Prop}
    (h : wpC M A m Q (λe s' =>wpC M A (k e) (λ_ s'' =>E e s'') E s') s) : wpC M A (m.onRaise k) Q E s := λΓ p hΓ hc =>by
  rw [Sem.wp_onRaise]
  exact Sem.wp_mono M Γ m (λ_ _ _ h' =>h') (λe p' s' h' =>h' Γ p' hΓ hc) p s (h Γ p hΓ hc)
theorem wpC_attempt {m : Sem α} {Q : Except Value α → Shared → Prop} (h : wpC M A m (fun a => Q (.ok a)) (fun e => Q (.error e)) s) :
    wpC M A m.attempt Q E s := λΓ p hΓ hc =>by rw [Sem.wp_attempt]; exact h Γ p hΓ hc
theorem wpC_holding {vs : List Value} {m : Sem α} {Q : α → Shared → Prop} (h : wpC M A m Q E s) : wpC M A (holding vs m) Q E s :=
  λΓ p hΓ hc =>by rw [Sem.wp_holding]; exact h Γ p hΓ hc
theorem wpC_standAt {pos : Pos} {Q : Unit → Shared → Prop} (h : Q () s) : wpC M A (standAt pos) Q E s := λ_ _ _ _ =>h
theorem wpC_eq {t t' : Sem α} {Q : α → Shared → Prop} (e : t = t') (h : wpC M A t' Q E s) : wpC M A t Q E s := e ▸ h
theorem HasC.enter {Γ : PySem.Ctx} (h : HasC Γ) (c : Code) (o : Option Value) (p : Pos) : ((Γ.enter c o p).below.any λx =>x.1.isCaller) = true :=by
  show (((Γ.code, p) :: Γ.below).any λx =>x.1.isCaller) = true
  rw [List.any_cons, Bool.or_eq_true]
  exact h
theorem wpC_run {c : Code} {h : Option Value} {Q : Flow → Shared → Prop}
    (hc : codeC M (A.mark h) c (λr s' =>match r with | .ok f =>Q f s' | .error e =>E e s') s) (hnb : h ≠ some byPass :=by intro x; cases x) :
    wpC M A (run c h) Q E s :=
  λΓ p hΓ hC =>by rw [Sem.wp_run]; exact hc _ p rfl (hΓ.enter c h p hnb) (hC.enter c h p)
theorem wpC_runValue {c : Code} {Q : Value → Shared → Prop}
    (hc : codeC M A c (λr s' =>match r with | .ok (.ret v) =>Q v s' | .ok _ =>False | .error e =>E e s') s) :
    wpC M A (runValue c) Q E s := λΓ p hΓ hC =>by rw [Sem.wp_runValue]; exact hc _ p rfl (hΓ.enter c none p (by intro x; exact nos x)) (hC.enter c none p)
theorem wpC_call {f : Value} {pos : List Value} {kw : List (Str × Value)} {Q : Value → Shared → Prop}
    (hc : codeC M A (.call f ⟨pos, kw⟩) (λr s' =>match r with | .ok (.ret v) =>Q v s' | .ok _ =>False | .error e =>E e s') s) :
    wpC M A (call f pos kw) Q E s := wpC_runValue hc
theorem codeC_of_tree {c : Code} {R : Result → Shared → Prop}
    (h : wpC M (A.under c) (M.den c) (fun fin s' => match fin with | .done f => R (.ok f) s' | .again c' => c'.quiet = true ∧ codeC M A c' R s')
      (λe s' =>R (.error e) s') s) : codeC M A c R s := λΓ p hc hΓ hC =>by
  rw [wpCode_iff_wp, hc]
  refine Sem.wp_mono M Γ _ (λfin p' s' h' =>?_) (λ_ _ _ h' =>h') p s (h Γ p (hc ▸ hΓ.in) (.inr hC))
  cases fin with
  | done f =>exact h'
  | again c' =>exact ⟨h'.1, h'.2 (Γ.goto c') p' rfl (hΓ.goto c') hC⟩
theorem codeC_any {c : Code} {R : Result → Shared → Prop} (h : codeAny M A c R s) : codeC M A c R s := λΓ p hc hΓ _ =>h Γ p hc hΓ
theorem codeC_loop {c : Code} {R : Result → Shared → Prop} (hq : c.quiet = true) (I : Nat → Shared → Prop)
    (turn : ∀ n s, I n s → wpC M (A.under c) (M.den c)
      (fun fin s' => match fin with
        | .done f =>R (.ok f) s'
        | .again c' =>(c' = c ∧ ∃ m, m < n ∧ I m s') ∨ (c'.quiet = true ∧ codeC M A c' R s')) (λe s' =>R (.error e) s') s)
    (n : Nat) (h : I n s) : codeC M A c R s :=by
  induction n using Nat.strongRecOn generalizing s with
  | ind n ih =>
    refine codeC_of_tree (wpC_mono (turn n s h) (λfin s' hf =>?_) λ_ _ h' =>h')
    cases fin with
    | done f =>exact hf
    | again c' =>
      rcases hf with ⟨rfl, m, hm, hI⟩ | hf
      · exact ⟨hq, ih m hm hI⟩
      · exact hf
end
theorem hasC_caller : HasC ⟨.builtin "claim.caller" {}, none, none, [], none⟩ := .inl rfl
theorem thread_endsC {prog : Program} {w : World} {t : Sem Fin} {s : Shared} {R : Result → Shared → Prop} (hreg : s.asleep)
    (h : wpC (model prog w) callerA t (λfin s' =>∃ f, fin = .done f ∧ (R (.ok f) s' ∧ leftWithCleanup s'.gens = false)) (λe s' =>R (.error e) s' ∧ leftWithCleanup s'.gens = false) s) :
    ∃ n r s' s'', runN (denote table) prog w n s ⟨t, .builtin "claim.caller" {}, default, []⟩ = .halted (outcomeOf r) s' ∧
      schedN (denote table) prog w n (.single s ⟨t, .builtin "claim.caller" {}, default, []⟩) = .halted (outcomeOf r) s' ∧ s'.forget = s''.forget ∧ R r s'' := by
  have hw : Sem.wp (model prog w) ⟨.builtin "claim.caller" {}, none, none, [], none⟩ t (Sem.finPost (model prog w) ⟨.builtin "claim.caller" {}, none, none, [], none⟩ fun r s' => R r s' ∧ leftWithCleanup s'.gens = false)
      (λe _ s' =>R (.error e) s' ∧ leftWithCleanup s'.gens = false) default s :=by
    refine Sem.wp_mono _ _ t (λfin p' s' h' =>?_) (λ_ _ _ h' =>h') default s (h _ default caller_in hasC_caller)
    obtain ⟨f, rfl, hf⟩ := h'
    exact hf
  obtain ⟨n, r, s₁, s₂, hs, hn, hfo, hR⟩ := wp_halts_full (M := model prog w) (R := R) hreg hw
  exact ⟨n, r, s₂, s₁, hn, hs, hfo, hR⟩
theorem callFromC {c : ClaimW} {tree : List Value → Sem Fin} {w : World} {s : Shared} {free : Addr → Prop} {gens : Prop} {kept : Heap → Prop} (hz : s.asleep) (hgens : s.gens = #[])
    (hspec : ∀ args, c.pre args = true → WData.layableAll args = true →
      ∀ ord : List DictEntry → List DictEntry, (∀ l, (ord l).Perm l) →
      ∃ vs s₁, layAllW c.records (classAt s.heap) w.params ord args s = some (vs, s₁) ∧
        wpC (model c.prog w) callerA (tree vs) (fun fin s' => ∃ f, fin = .done f ∧ (c.Ends s args vs s₁ (.ok f) s' ∧ s'.os = s.os ∧ AllBare s'.gens ∧ kept s'.heap))
          (λe s' =>c.Ends s args vs s₁ (.error e) s' ∧ s'.os = s.os ∧ AllBare s'.gens ∧ kept s'.heap) s₁) :
    c.CallFrom (fun vs => ⟨tree vs, .builtin "claim.caller" {}, default, []⟩) w free gens kept s := by
  intro args hpre hlay ord hord
  refine X22 (λvs s₁ hlaid hcode =>?_) (hspec args hpre hlay ord hord)
  have hal := layAllW_rest _ _ _ hlaid
  obtain ⟨k, r, s', s'', hrun, hsched, hfo, hcase, hos, hkp⟩ := thread_endsC (prog := c.prog) (w := w) (t := tree vs) (s := s₁)
    (R := λr s' =>c.Ends s args vs s₁ r s' ∧ s'.os = s.os ∧ kept s'.heap)
    (Shared.asleep_of_life hal.2.2.2 hz)
    (wpC_mono hcode (λfin s' x =>by
      revert x; refine X15 λf e h1 h2 h3 h4 =>?_
      exact ⟨f, e, ⟨h1, h2, h4⟩, leftWithCleanup_false_of_bare h3⟩) λe s' x =>by
      revert x; refine X04 λh1 h2 h3 h4 =>?_
      exact ⟨⟨h1, h2, h4⟩, leftWithCleanup_false_of_bare h3⟩)
  refine X05 (λeh u1 u2 eo u3 =>?_) (Shared.forget_eq hfo)
  have hcase := hcase.congr eh
  have hkp : kept s'.heap :=by rw [eh]; exact hkp
  rw [← eo] at hos
  have hlife : s'.heap.life = s.heap.life := (runN_life _ _ _ hrun).trans hal.2.2.2
  refine ⟨vs, s₁, hlaid, k, _, s', hsched, ?_, (λ_ i x hx =>by rw [hgens] at hx; simp at hx), hkp, by rw [hlife], Shared.rest_eq hos⟩
  exact hcase.elim (fun h => h.elim fun v h => .inl ⟨v, congrArg outcomeOf h.1, h.2.1, h.2.2.1, h.2.2.2.1, fun b o y _ => h.2.2.2.2.1 b o y, h.2.2.2.2.2⟩)
    λh =>h.elim λe h =>h.elim λob h =>h.elim λcls h =>.inr ⟨e, ob, cls, congrArg outcomeOf h.1, h.2.1, h.2.2.1, h.2.2.2.1, h.2.2.2.2.1, λb o y _ =>h.2.2.2.2.2 b o y⟩
end Mine
end
section
namespace Mine
open PySem PySem.Spec PySem.Calls PyProof.Rows PySem.W
abbrev WalkC2 {α : Type} (Yf : Shared → α) (Ya : World → α) (q : Program) (loose : List Str) (XP : (Str → Option Value) → Heap → Prop) (YP : World → Heap → Prop) (r : RowW) (d : DefRec) (kwd : List (Str × Expr)) : Prop :=
  ∀ (w : World) (s₀ s₁ : Shared) (mg mb : Str → Option Value), Ground q loose r.records XP w s₀ mg mb s₁.heap → YP w s₁.heap → Yf s₀ = Ya w → ∀ (a : Addr) (o : Obj) (pm cd doc dV kV : Value), s₁.heap.get? a = some o →
    o.data = .func { docDef d.name d.params d.body d.scope pm cd doc with defaults := dV, kwdefaults := kV } → s₁.heap.CodeRec cd d.name → Dflts mg s₁.heap d.params kwd dV kV → mg d.name = some (.ref a) → s₁.gens = #[] →
    ∀ (args : List WData) (vals : List Value) (as : List Addr), r.claim.pre args = true → WData.layableAll args = true → ReadsAllW r.records (classAt s₀.heap) s₁.heap vals args as → WellAll w.params s₁.heap vals args → (∀ a ∈ as, (a == sysModules) = false) →
      Laid r.records w s₀ s₁ args vals as →
      wpC (model r.prog w) callerA (PySem.call (.ref a) vals) (fun v s' => GoodWG r.claim (classAt s₀.heap) (ExcName.means s₀.heap) args s₁ (.ok (.ret v)) s')
        (λe s' =>GoodWG r.claim (classAt s₀.heap) (ExcName.means s₀.heap) args s₁ (.error e) s') s₁
theorem Top2.PySem.W.holds_open {r : OpenRow} {q : Program} {loose : List Str} {Xt : Shared → Bool} {XP : (Str → Option Value) → Heap → Prop} {α : Type} {Yf : Shared → α} {Ya : World → α} {YP : World → Heap → Prop} {d : DefRec} {kwd : List (Str × Expr)} {N : Nat}
    (left : LeftO r.prog q loose Xt Yf Ya N) (hY : ∀ w s, Yf s = Ya w → YP w s.heap) (hYk : ∀ w h h', YP w h → (∀ b o, h.get? b = some o → h'.get? b = some o) → YP w h')
    (hX : ∀ s, Xt s = true → XP (s.heap.nsMap mainGlobals) s.heap) (hXk : ∀ mg h h', XP mg h → (∀ b o, h.get? b = some o → h'.get? b = some o) → XP mg h')
    (hdef : defOf q r.name = some (d, kwd)) (hp : r.prog.theDef r.name = some (d.params, d.body, d.scope)) (hk : kwWritten? d.params.kwonlyargs d.params.kw_defaults = some kwd) (hRf : ∀ s, Xt s = true → RecFacts r.records s.heap) (hwr : (!r.writes || r.records.isEmpty) = true)
    (k1 : r.wellSaid = true) (ok : (chainsOk q && opensWell r.prog && (frees r.toRowW && r.within.isEmpty)) = true) (hb : r.prog.bare) (hw : r.toRowW.promised)
    (call : WalkC2 Yf Ya q loose XP YP r.toRowW d kwd) : r.Holds :=by
  refine ⟨k1, hw, ?_⟩
  obtain ⟨ok, k5⟩ := Bool.and_eq_true_iff.mp ok
  obtain ⟨hch, o1⟩ := Bool.and_eq_true_iff.mp ok
  obtain ⟨k5, k6⟩ := Bool.and_eq_true_iff.mp k5
  obtain ⟨hsame, hu, ha, hap, hm⟩ := frees_parts k5
  refine ⟨⟨hb, o1, by show r.toRowW.makers.map _ = []; rw [hm]; rfl⟩, hw.witness, λw =>⟨(left.behind hX hch w).1, λs' hs' =>?_⟩⟩
  obtain ⟨s₀, hf, hg0, s, hT, hz, hgens, hg, G00, y⟩ := (left.behind (XP := λmg h =>XP mg h ∧ RecFacts r.records h) (λs hs =>⟨hX s hs, hRf s hs⟩) hch w).2 s' hs'
  have G0 : Ground q loose [] XP w s (s.heap.nsMap mainGlobals) (s.heap.nsMap builtinsNs) s.heap := ⟨G00.T, G00.B, G00.D, G00.TE, G00.TD, G00.W, G00.X.1, G00.cls, G00.has, G00.apart, G00.once, G00.K⟩
  have RF := G00.X.2
  have hT' := hT
  refine ⟨s₀, hf, hg0, s, hT, λn hn =>?_, RF.1, RF.2.1, ?_⟩
  · obtain rfl : n = r.name := by split at hn <;> simp_all
    exact pinned_of_view hg G0 hdef hp hk
  have hgens : s.gens = #[] := Array.eq_empty_of_size_eq_zero (beq_iff_eq.mp hgens)
  have G : Ground q loose r.records XP w s _ _ s.heap := RF.ground G0
  refine callFromC (c := r.toRowW.claim) hz hgens λargs hpre hlay ord hord =>?_
  obtain ⟨⟨vs, s₁⟩, hlaid⟩ := Option.isSome_iff_exists.mp (layAllW_isSome (P := w.params) (ord := ord) G.has args r.toRowW.args s (pre_splitW hpre).1)
  have keeps := layAllW_keeps _ _ _ hlaid
  have hal := layAllW_rest _ _ _ hlaid
  obtain ⟨as, hrd, hin, hold⟩ := reads_layAllW hord _ _ _ hlaid hlay s₁.heap (λ_ _ e =>e)
  have L : Laid r.records w s s₁ args vs as := ⟨⟨ord, hord, hlaid⟩, hrd, hin, hold, keeps, hal.1.trans hgens, hal.2.2.1⟩
  have G₁ := G.keeps hXk keeps
  obtain ⟨a, o, pm, cd, doc, dV, kV, h1, h2, h3, h4, h5⟩ := G₁.fn hdef
  have h := call w s s₁ _ _ G₁ (hYk _ _ _ (hY w s y) keeps) y a o pm cd doc dV kV h2 h3 h4 h5 (defOf_name hdef ▸ h1) L.gens args vs as hpre hlay L.reads L.well (L.low G.low) L
  have hi := ident_freeW hu ha hap
  have hwi : r.toRowW.claim.within = [] := List.isEmpty_iff.mp k6
  refine ⟨vs, s₁, hlaid, ?_⟩
  refine wpC_bind (wpC_any (wpAny_nsGet G₁.T.g ?_))
  have h1' : s.heap.nsMap mainGlobals r.name = some (.ref a) := h1
  rw [h1']
  refine wpC_bind (wpC_mono h (λv s' g =>wpC_pure ⟨_, rfl, ?_⟩) λe s' g =>?_)
  · have z := g.laid (c := r.toRowW.claim) hsame hwi hi L
    exact ⟨z.1, z.2.1, z.2.2, λq =>⟨namesKept_of hT' hg _ keeps g.2.1.old, noTable hwr q⟩⟩
  · have z := g.laid (c := r.toRowW.claim) hsame hwi hi L
    exact ⟨z.1, z.2.1, z.2.2, λq =>⟨namesKept_of hT' hg _ keeps g.2.1.old, noTable hwr q⟩⟩
end Mine
end
section
open PySem PySem.Spec PySem.Calls PySem.W PyProof.Rows PySem.W.X
namespace Mine.Top2
noncomputable def prim.tw11292484682825573070 : Program := PySem.Challenge.pw_mr0260_01
theorem prim.te11292484682825573070 : PySem.Challenge.pw_mr0260_01 = prim.tw11292484682825573070 := rfl
noncomputable def pr (_ : Program) : Bool := true
set_option Elab.async true in
theorem prim : pr PySem.Challenge.pw_mr0260_01 = true :=by k_qdec
section
local macro_rules | `(tactic| o_head $_) =>`(tactic| contradiction)
set_option maxHeartbeats 0 in
theorem frag (hF : False) : OpenRow.Holds (OpenLaw.row PySem.Challenge.rw_mr0260_01) :=by
  k_head
end
noncomputable def asT : List Addr := [61, 2, 3, 35, 36, 37, 38, 40, 41, 43, 44, 45, 46, 48, 49, 51, 52, 53, 55, 56, 58, 59, 60, 62, 63, 65, 66, 67, 69, 70, 72, 73, 74, 76, 77, 79, 80, 81, 83, 84, 86, 87, 88, 90, 91, 93, 94, 95, 97, 98, 100, 101, 102, 104, 105, 107, 108, 109, 111, 112, 114, 115, 116, 118, 119, 121, 122, 123, 125, 126, 128, 129, 130, 131, 132, 133, 134, 135, 136, 137, 138, 139, 140, 141, 142, 143, 144, 145, 146, 147, 148, 149, 150, 151, 152, 153, 154, 155, 156, 157, 158, 159, 160, 161, 162, 163, 165, 166, 168, 169, 170, 172, 173, 175, 176, 177, 179, 180, 182, 183, 184, 187, 188, 189, 192, 193, 194, 197, 198, 199, 202, 203, 204, 207, 208, 209, 211, 212, 214, 215, 216, 218, 219, 221, 222, 223, 226, 227]
noncomputable def fragT (P : Params) : Frag := (61, { cls := .none, data := .fields #[] }) :: frag.heap_1 P
theorem asT_eq : ∀ P, asT = (fragT P).map (·.1) := λ_ =>by kernel_rfl
noncomputable def tVal (w : World) : List (Option Obj) := (fragT w.params).map λ(p : Addr × Obj) =>some p.2
theorem tOf (w : World) (s : Shared) (h : (asT.map s.heap.get?, decide (0 < s.toks), s.heap.objs.size, (s.heap.get? sysModules).isSome) = (tVal w, true, 228, true)) : (kHook fragT asT asT_eq).says w s.heap := (kHook fragT asT asT_eq).of w s (Prod.mk.inj h).1
noncomputable def tHook : Hook :=
  { α := List (Option Obj) × Bool × Nat × Bool, obs := fun s => (asT.map s.heap.get?, decide (0 < s.toks), s.heap.objs.size, (s.heap.get? sysModules).isSome), val := fun w => (tVal w, true, 228, true),
    says := (kHook fragT asT asT_eq).says, of := tOf, keeps := (kHook fragT asT asT_eq).keeps }
structure Seen (w : World) (s₁ : Shared) (mg mb : Str → Option Value) (ns : List Int) (its : List Value) (bm : Addr) (ob : Obj) (fa : Addr) : Prop where
  kx : (fragT w.params).In s₁.heap
  g : s₁.heap.Ns mainGlobals mg
  b : s₁.heap.Ns builtinsNs mb
  lim : s₁.heap.NoLimit
  bi : ∀ x : Str, x ≠ "__name__" → mb x = bootBuiltins x
  bm : BMod s₁.heap mainGlobals mg bm ob
  sm : ∃ o, s₁.heap.get? sysModules = some o
  tk : 0 < s₁.toks
  so : s₁.heap.get? 228 = some { cls := .type "list", data := .seq its.toArray 0 }
  gens : s₁.gens = #[]
  hI : IntsAre its ns
  len : ns.length ≤ 63
  fn : mg PySem.Challenge.rw_mr0260_01.row.name = some (.ref fa)
noncomputable def WalkH : Prop := ∀ (w : World) (s₀ s₁ : Shared) (mg mb : Str → Option Value) (ns : List Int) (its : List Value) (bm : Addr) (ob : Obj) (fa : Addr) (d : WData), Seen w s₁ mg mb ns its bm ob fa →
  wpC (model PySem.Challenge.rw_mr0260_01.row.prog w) callerA (call (.ref fa) [.ref 228]) (fun v s' => GoodWG PySem.Challenge.rw_mr0260_01.row.claim (classAt s₀.heap) (ExcName.means s₀.heap) [d] s₁ (.ok (.ret v)) s')
      (λe s' =>GoodWG PySem.Challenge.rw_mr0260_01.row.claim (classAt s₀.heap) (ExcName.means s₀.heap) [d] s₁ (.error e) s') s₁
class HasWalk : Prop where
  h : WalkH
end Mine.Top2
namespace Mine.Top3
open Mine.Top2
theorem PySem.W.holds_open [HW : HasWalk] {r : OpenRow} {q : Program} {loose : List Str} {Xt : Shared → Bool} {XP : (Str → Option Value) → Heap → Prop} {α : Type} {Yf : Shared → α} {Ya : World → α} {YP : World → Heap → Prop} {d : DefRec} {kwd : List (Str × Expr)} {N : Nat}
    (left : LeftO r.prog q loose Xt Yf Ya N) (hY : ∀ w s, Yf s = Ya w → YP w s.heap) (hYk : ∀ w h h', YP w h → (∀ b o, h.get? b = some o → h'.get? b = some o) → YP w h')
    (hX : ∀ s, Xt s = true → XP (s.heap.nsMap mainGlobals) s.heap) (hXk : ∀ mg h h', XP mg h → (∀ b o, h.get? b = some o → h'.get? b = some o) → XP mg h')
    (hdef : defOf q r.name = some (d, kwd)) (hp : r.prog.theDef r.name = some (d.params, d.body, d.scope)) (hk : kwWritten? d.params.kwonlyargs d.params.kw_defaults = some kwd) (hRf : ∀ s, Xt s = true → RecFacts r.records s.heap) (hwr : (!r.writes || r.records.isEmpty) = true)
    (k1 : r.wellSaid = true) (ok : (chainsOk q && opensWell r.prog && (frees r.toRowW && r.within.isEmpty)) = true) (hb : r.prog.bare) (hw : r.toRowW.promised)
    (call : HasWalk → WalkC2 Yf Ya q loose XP YP r.toRowW d kwd) : r.Holds :=
  Mine.Top2.PySem.W.holds_open left hY hYk hX hXk hdef hp hk hRf hwr k1 ok hb hw (call HW)
set_option maxHeartbeats 0 in
theorem headed [HasWalk] : PySem.Challenge.rw_mr0260_01.Holds :=by
  w_on
  o_law
  o_head tHook
  (case hw =>w_witness2)
  intro H w s₀ s₁ mg mb G y0 y fa o pm cd doc dV kV ho hd hcd hD hmg hg args vals as hpre hlay hrd hwl hlo L
  have KX : (fragT w.params).In s₁.heap := y0
  have ZN : s₀.heap.objs.size = 228 := congrArg (λx =>x.2.2.1) y
  have ZT : 0 < s₀.toks := of_decide_eq_true (congrArg (λx =>x.2.1) y)
  have hsm : ∃ o, s₁.heap.get? sysModules = some o := let ⟨o, ho⟩ := Option.isSome_iff_exists.mp (congrArg (λx =>x.2.2.2) y); ⟨o, L.keeps _ _ ho⟩
  clear y0 y
  refine Ground.open G ?_
  intro T B D TE TW
  obtain ⟨bm, ob, M⟩ := bmod_of_top T
  wrow_args hpre hlay hrd hwl hlo
  rename_i ns hs hlay0 hL1 hr1 hl2 as4 as3 sa its as0 hL ra w1 r0 hI hr hc1 hc2
  have hsa : sa = 228 := (script_at L).1.trans ZN
  have hso := script_obj L hL
  have htk : 0 < s₁.toks := Nat.lt_of_lt_of_le ZT (script_toks L rfl)
  subst hsa
  have hlen : ns.length ≤ 63 :=by omega
  exact H.h w s₀ s₁ mg mb ns its bm ob fa _ ⟨KX, T.g, T.b, T.nolimit, T.builtins, M, hsm, htk, hso, hg, hI, hlen, hmg⟩
end Mine.Top3
end
section
namespace Mine
open PySem PySem.Spec PyProof.Rows PySem.W
abbrev Store := Addr → Option Obj
noncomputable def Store.Le (S S' : Store) : Prop := ∀ a o, S a = some o → S' a = some o
noncomputable def Store.In (S : Store) (h : Heap) : Prop := ∀ a o, S a = some o → h.get? a = some o
theorem Store.Le.refl (S : Store) : S.Le S := λ_ _ e =>e
theorem Store.Le.trans {S S' S'' : Store} (a : S.Le S') (b : S'.Le S'') : S.Le S'' := λx o e =>b x o (a x o e)
noncomputable def Store.put (S : Store) (n : Addr) (o : Obj) : Store := λa =>if a = n then some o else S a
@[reducible] def listO (vs : Array Value) (n : Nat) : Obj := { cls := .type "list", data := .seq vs n }
@[reducible] def tupO (vs : Array Value) (n : Nat) : Obj := { cls := .type "tuple", data := .seq vs n }
mutual
inductive Rd (S : Store) : Value → PyData → Prop
  | none : Rd S .none .none
  | bool (b) : Rd S (.bool b) (.bool b)
  | int (i t) : Rd S (.int i t) (.int i)
  | str (x t) : Rd S (.str x t) (.str x)
  | list {a vs n xs} : S a = some (listO vs n) → RdAll S vs.toList xs → Rd S (.ref a) (.list xs)
  | tuple {a vs n xs} : S a = some (tupO vs n) → RdAll S vs.toList xs → Rd S (.ref a) (.tuple xs)
  | opq (a : Nat) : Rd S (.ref a) (.dict [(.int a, .none)])
inductive RdAll (S : Store) : List Value → List PyData → Prop
  | nil : RdAll S [] []
  | cons {v vs d ds} : Rd S v d → RdAll S vs ds → RdAll S (v :: vs) (d :: ds)
end
mutual
theorem Rd.le {S S' : Store} (l : S.Le S') {v : Value} {d : PyData} (r : Rd S v d) : Rd S' v d :=by
  cases r with
  | none =>exact .none
  | bool b =>exact .bool b
  | int i t =>exact .int i t
  | str x t =>exact .str x t
  | list h r =>exact .list (l _ _ h) (RdAll.le l r)
  | tuple h r =>exact .tuple (l _ _ h) (RdAll.le l r)
  | opq a =>exact .opq a
theorem RdAll.le {S S' : Store} (l : S.Le S') {vs : List Value} {ds : List PyData} (r : RdAll S vs ds) : RdAll S' vs ds :=by
  cases r with
  | nil =>exact .nil
  | cons a b =>exact .cons (Rd.le l a) (RdAll.le l b)
end
mutual
theorem Rd.reads {S : Store} {h : Heap} (l : S.In h) {v : Value} {d : PyData} (r : Rd S v d) (q : d.canLay0 = true) : ∃ as, Reads h v d as :=by
  cases r with
  | none =>exact ⟨_, .none⟩
  | bool b =>exact ⟨_, .bool b⟩
  | int i t =>exact ⟨_, .int i t⟩
  | str x t =>exact ⟨_, .str x t⟩
  | list h r =>exact (RdAll.reads l r (by simpa only [PyData.canLay0] using q)).elim λ_ x =>⟨_, .list (l _ _ h) rfl rfl x⟩
  | tuple h r =>exact (RdAll.reads l r (by simpa only [PyData.canLay0] using q)).elim λ_ x =>⟨_, .tuple (l _ _ h) rfl rfl x⟩
  | opq a =>exact fnt q
theorem RdAll.reads {S : Store} {h : Heap} (l : S.In h) {vs : List Value} {ds : List PyData} (r : RdAll S vs ds) (q : PyData.canLayAll0 ds = true) : ∃ as, ReadsAll h vs ds as :=by
  cases r with
  | nil =>exact ⟨_, .nil⟩
  | cons a b =>
    simp only [PyData.canLayAll0, Bool.and_eq_true] at q
    exact (Rd.reads l a q.1).elim λ_ x =>(RdAll.reads l b q.2).elim λ_ y =>⟨_, .cons x y⟩
end
noncomputable def RdSh (S : Store) (v : Value) : PyData → Prop
  | .none =>v = .none
  | .bool b =>v = .bool b
  | .int i =>∃ t, v = .int i t
  | .str x =>∃ t, v = .str x t
  | .list xs =>∃ a vs n, v = .ref a ∧ S a = some (listO vs n) ∧ RdAll S vs.toList xs
  | .tuple xs =>∃ a vs n, v = .ref a ∧ S a = some (tupO vs n) ∧ RdAll S vs.toList xs
  | .dict _ =>True
theorem Rd.shape {S : Store} {v : Value} {d : PyData} (r : Rd S v d) : RdSh S v d :=by
  cases r with
  | none =>rfl
  | bool b =>rfl
  | int i t =>exact ⟨t, rfl⟩
  | str x t =>exact ⟨t, rfl⟩
  | list h r =>exact ⟨_, _, _, rfl, h, r⟩
  | tuple h r =>exact ⟨_, _, _, rfl, h, r⟩
  | opq a =>trivial
noncomputable def RdAllSh (S : Store) (vs : List Value) : List PyData → Prop
  | [] =>vs = []
  | d :: ds =>∃ v ws, vs = v :: ws ∧ Rd S v d ∧ RdAll S ws ds
theorem RdAll.shape {S : Store} {vs : List Value} {ds : List PyData} (r : RdAll S vs ds) : RdAllSh S vs ds :=by
  cases r with
  | nil =>rfl
  | cons a b =>exact ⟨_, _, rfl, a, b⟩
theorem Rd.int_inv {S : Store} {v : Value} {i : Int} (r : Rd S v (.int i)) : ∃ t, v = .int i t := r.shape
theorem Rd.str_inv {S : Store} {v : Value} {x : Str} (r : Rd S v (.str x)) : ∃ t, v = .str x t := r.shape
theorem Rd.bool_inv {S : Store} {v : Value} {b : Bool} (r : Rd S v (.bool b)) : v = .bool b := r.shape
theorem Rd.none_inv {S : Store} {v : Value} (r : Rd S v .none) : v = .none := r.shape
theorem Rd.list_inv {S : Store} {v : Value} {xs : List PyData} (r : Rd S v (.list xs)) : ∃ a vs n, v = .ref a ∧ S a = some (listO vs n) ∧ RdAll S vs.toList xs := r.shape
theorem Rd.tuple_inv {S : Store} {v : Value} {xs : List PyData} (r : Rd S v (.tuple xs)) : ∃ a vs n, v = .ref a ∧ S a = some (tupO vs n) ∧ RdAll S vs.toList xs := r.shape
theorem RdAll.cons_inv {S : Store} {vs : List Value} {d : PyData} {ds : List PyData} (r : RdAll S vs (d :: ds)) : ∃ v ws, vs = v :: ws ∧ Rd S v d ∧ RdAll S ws ds := r.shape
theorem RdAll.nil_inv {S : Store} {vs : List Value} (r : RdAll S vs []) : vs = [] := r.shape
theorem RdAll.consC {S : Store} {vs : List Value} {d : PyData} {ds : List PyData} {G : Prop} (k : ∀ v ws, vs = v :: ws → Rd S v d → RdAll S ws ds → G) (r : RdAll S vs (d :: ds)) : G := X23 k r.shape
theorem RdAll.length {S : Store} {ds : List PyData} : ∀ {vs : List Value}, RdAll S vs ds → vs.length = ds.length :=by
  induction ds with
  | nil =>exact λr =>congrArg List.length r.nil_inv
  | cons d ds ih =>exact RdAll.consC λv ws e _ b =>e ▸ congrArg (· + 1) (ih b)
theorem RdAll.append {S : Store} {vs ws : List Value} {ds es : List PyData} (r : RdAll S vs ds) (b : RdAll S ws es) : RdAll S (vs ++ ws) (ds ++ es) :=by
  induction ds generalizing vs with
  | nil =>exact r.nil_inv ▸ b
  | cons d ds ih =>revert r; exact RdAll.consC λv vs e a r =>e ▸ .cons a (ih r)
theorem RdAll.drop {S : Store} : ∀ (k : Nat) {vs : List Value} {ds : List PyData}, RdAll S vs ds → RdAll S (vs.drop k) (ds.drop k) :=by
  intro k
  induction k with
  | zero =>exact id
  | succ k ih =>
    intro vs ds r
    cases ds with
    | nil =>rw [r.nil_inv]; exact .nil
    | cons d ds =>revert r; exact RdAll.consC λv ws e _ r =>e ▸ ih r
theorem RdAll.take {S : Store} : ∀ (k : Nat) {vs : List Value} {ds : List PyData}, RdAll S vs ds → RdAll S (vs.take k) (ds.take k) :=by
  intro k
  induction k with
  | zero =>exact λ_ =>.nil
  | succ k ih =>
    intro vs ds r
    cases ds with
    | nil =>rw [r.nil_inv]; exact .nil
    | cons d ds =>revert r; exact RdAll.consC λv ws e a r =>e ▸ .cons a (ih r)
theorem RdAll.get {S : Store} {ds : List PyData} : ∀ {vs : List Value} (k : Nat), RdAll S vs ds → ∀ {d}, ds[k]? = some d → ∃ v, vs[k]? = some v ∧ Rd S v d :=by
  induction ds with
  | nil =>exact λ_ _ _ e =>nos e
  | cons c ds ih =>
    intro vs k r d e
    revert r; refine RdAll.consC λv ws q a b =>?_
    rw [q]
    cases k with
    | zero =>exact ⟨v, rfl, Option.some.inj e ▸ a⟩
    | succ k =>exact ih k b e
structure Cx where
  w : World
  h₁ : Heap
  os₁ : OsState
  P : Addr
  mg : Str → Option Value
  mb : Str → Option Value
  S₀ : Store
  Tab : Heap → Prop
abbrev Cx.M (X : Cx) : Model := model PySem.Challenge.pw_mr0260_01 X.w
theorem get?_size (h : Heap) : h.get? h.objs.size = none :=by
  cases q : h.get? h.objs.size with
  | none =>rfl
  | some o =>exact absurd (Heap.lt_size q) (Nat.lt_irrefl _)
structure Gd (X : Cx) (S : Store) (s : Shared) : Prop where
  inn : S.In s.heap
  s0 : X.S₀.Le S
  base : Heap.ExtBut X.P X.h₁ s.heap
  isSeq : ∀ a o, S a = some o → ∃ vs n, o.data = .seq vs n
  sP : S X.P = none
  p1 : ∃ o, X.h₁.get? X.P = some o
  pH : ∃ o, s.heap.get? X.P = some o
  bare : AllBare s.gens
  tab : X.Tab s.heap
  os : s.os = X.os₁
  tp : 0 < s.toks
noncomputable def Ext (P : Addr) (h h' : Heap) : Prop := ∀ a o, a ≠ P → h.get? a = some o → ∃ sl, h'.get? a = some { o with slots := sl } ∧ ((∀ es n, o.data ≠ .dict es n) → sl = o.slots)
theorem Ext.of {P : Addr} {h h' : Heap} (e : Heap.ExtBut P h h') : Ext P h h' := λa o n g =>⟨o.slots, e a o n g, λ_ =>rfl⟩
theorem Ext.refl (P : Addr) (h : Heap) : Ext P h h := .of λ_ _ _ e =>e
theorem Ext.trans {P : Addr} {h h' h'' : Heap} (x : Ext P h h') (y : Ext P h' h'') : Ext P h h'' := λa o n g =>by
  refine X12 (λsl g1 k1 =>?_) (x a o n g)
  refine X12 (λsl' g2 k2 =>?_) (y a _ n g1)
  exact ⟨sl', g2, λhn =>(k2 hn).trans (k1 hn)⟩
theorem Ext.get {P : Addr} {h h' : Heap} (x : Ext P h h') {a : Addr} {o : Obj} (n : a ≠ P) (g : h.get? a = some o) (hn : ∀ es n, o.data ≠ .dict es n) : h'.get? a = some o :=by
  refine X12 (λsl g1 k1 =>?_) (x a o n g)
  rw [k1 hn] at g1
  exact g1
theorem Ext.on {P : Addr} {h h' h'' : Heap} (x : Ext P h h') (k : ∀ b o, h.get? b = some o → ∀ o', h'.get? b = some o' → h''.get? b = some o') : Ext P h h'' := λa o n g =>by
  refine X12 (λsl g1 k1 =>?_) (x a o n g)
  exact ⟨sl, k a o g _ g1, k1⟩
theorem Ext.live {P : Addr} {h h' : Heap} (x : Ext P h h') {a : Addr} {o : Obj} (n : a ≠ P) (g : h.get? a = some o) : ∃ o', h'.get? a = some o' ∧ o'.data = o.data ∧ o'.cls = o.cls :=by
  refine X12 (λsl g1 u3 =>?_) (x a o n g)
  exact ⟨_, g1, rfl, rfl⟩
theorem Ext.ns {P : Addr} {h h' : Heap} (x : Ext P h h') {a : Addr} {m : Str → Option Value} (n : a ≠ P) (hn : h.Ns a m) : h'.Ns a m :=by
  revert hn; refine X33 λo es ep ho hd r =>?_
  refine X12 (λsl g1 u4 =>?_) (x a o n ho)
  exact ⟨_, es, ep, g1, hd, r⟩
theorem Ext.cell {P : Addr} {h h' : Heap} (x : Ext P h h') {a : Addr} {v : Option Value} (n : a ≠ P) (hc : h.IsCell a v) : h'.IsCell a v :=by
  revert hc; refine X12 λo ho hd =>?_
  refine X12 (λsl g1 u5 =>?_) (x a o n ho)
  exact ⟨_, g1, hd⟩
structure Step (X : Cx) (S : Store) (s : Shared) (S' : Store) (s' : Shared) : Prop where
  gd : Gd X S' s'
  le : S.Le S'
  ext : Ext X.P s.heap s'.heap
  new : ∀ a o, S' a = some o → S a = some o ∨ s.heap.get? a = none
section
variable {X : Cx} {S S' S'' : Store} {s s' s'' : Shared}
theorem none_back {h h' : Heap} (e : Ext X.P h h') (hp : ∃ o, h'.get? X.P = some o) {a : Addr} (q : h'.get? a = none) : h.get? a = none :=by
  cases z : h.get? a with
  | none =>rfl
  | some o =>
    by_cases hP : a = X.P
    · subst hP; revert hp; refine X11 λo' e' =>?_; rw [q] at e'; exact nos e'
    · refine X12 (λo' e' u6 =>?_) (e.live hP z); rw [q] at e'; exact nos e'
theorem Step.refl (g : Gd X S s) : Step X S s S s := ⟨g, .refl _, .refl _ _, λ_ _ e =>.inl e⟩
theorem Step.trans (a : Step X S s S' s') (b : Step X S' s' S'' s'') : Step X S s S'' s'' :=
  ⟨b.gd, a.le.trans b.le, a.ext.trans b.ext,
    λx o e =>(b.new x o e).elim (λe' =>a.new x o e') (λl =>.inr (none_back a.ext a.gd.pH l))⟩
theorem Gd.toks (g : Gd X S s) (t : Nat) (ht : 0 < s.toks → 0 < t :=by first | exact id | exact λ_ =>Nat.succ_pos _ | exact λh =>Nat.lt_of_lt_of_le h (by omega)) : Gd X S { s with toks := t } := ⟨g.inn, g.s0, g.base, g.isSeq, g.sP, g.p1, g.pH, g.bare, g.tab, g.os, ht g.tp⟩
theorem Step.toks (a : Step X S s S' s') (t : Nat) (ht : 0 < s'.toks → 0 < t :=by first | exact id | exact λ_ =>Nat.succ_pos _ | exact λh =>Nat.lt_of_lt_of_le h (by omega)) : Step X S s S' { s' with toks := t } := ⟨a.gd.toks t ht, a.le, a.ext, a.new⟩
theorem Step.mono {t : Nat} (g : Gd X S s) (ht : 0 < s.toks → 0 < t :=by first | exact id | exact λ_ =>Nat.succ_pos _ | exact λh =>Nat.lt_of_lt_of_le h (by omega)) : Step X S s S { s with toks := t } := (Step.refl g).toks t ht
theorem Gd.notP (g : Gd X S s) {a : Addr} (ha : X.h₁.get? a = none) : a ≠ X.P :=by
  intro e; subst e; refine X11 (λo ho =>?_) g.p1; rw [ha] at ho; exact nos ho
theorem Gd.notP' (g : Gd X S s) {a : Addr} (ha : s.heap.get? a = none) : a ≠ X.P :=by
  intro e; subst e; refine X11 (λo ho =>?_) g.pH; rw [ha] at ho; exact nos ho
end
end Mine
end
section
namespace Mine
open PySem PySem.Spec PyProof.Rows PySem.W
abbrev Loc := List (Str × PyData)
structure Sc where
  names : List (Str × NameKind)
  outer : List Str
structure St where
  ρ : Loc
  ω : Option (Str × List PyData)
noncomputable def VarIs (env : Env) (h : Heap) (x : Str) (v : Value) : Prop :=
  (env.kindOf x = some .local ∧ ∃ m, h.Ns env.locals m ∧ m x = some v) ∨
  (env.kindOf x = some .cell ∧ ∃ c, env.cells.lookup x = some c ∧ h.IsCell c (some v))
structure EnvOk (X : Cx) (hb : Heap) (Γ : Sc) (env : Env) (h : Heap) : Prop where
  kind : env.scope.kind = .function
  names : env.scope.names = Γ.names
  glob : env.globals = mainGlobals
  bi : env.builtins = builtinsNs
  ns : ∃ m, h.Ns env.locals m
  lNew : hb.get? env.locals = none
  cell : ∀ n c, env.cells.lookup n = some c → ∃ v, h.IsCell c v
  cBase : ∀ n c, env.cells.lookup n = some c → X.h₁.get? c = none
  cNew : ∀ n c, env.cells.lookup n = some c → Γ.outer.contains n = false → hb.get? c = none
  inj : ∀ n n' c, env.cells.lookup n = some c → env.cells.lookup n' = some c → n = n'
  has : ∀ x, Γ.names.lookup x = some .cell → ∃ c, env.cells.lookup x = some c
structure At (X : Cx) (hb : Heap) (Sb : Store) (Γ : Sc) (env : Env) (σ : St) (S : Store) (s : Shared) : Prop where
  gd : Gd X S s
  keep : Ext X.P hb s.heap
  newS : ∀ a o, S a = some o → Sb a = some o ∨ hb.get? a = none
  leS : Sb.Le S
  hb1 : ∀ a, hb.get? a = none → X.h₁.get? a = none
  envOk : EnvOk X hb Γ env s.heap
  vars : ∀ x d, σ.ρ.lookup x = some d → ∃ v, VarIs env s.heap x v ∧ Rd S v d
  mask : ∀ x xs, σ.ω = some (x, xs) → σ.ρ.lookup x = none
  own : ∀ x xs, σ.ω = some (x, xs) → ∃ r vs n, VarIs env s.heap x (.ref r) ∧ s.heap.get? r = some (listO vs n) ∧ S r = none ∧ hb.get? r = none ∧ RdAll S vs.toList xs
noncomputable def Stays (o : Obj) : Prop := (∀ es n, o.data ≠ .dict es n) ∧ (∀ c, o.data ≠ .cell c) ∧ o.cls ≠ .type "list"
noncomputable def Fk (X : Cx) (s s' : Shared) : Prop := ∀ a o, a ≠ X.P → s.heap.get? a = some o → Stays o → s'.heap.get? a = some o
section
variable {X : Cx} {hb : Heap} {Sb S S' S'' : Store} {Γ : Sc} {env : Env} {σ : St} {s s' s'' : Shared} {A : Around} {E : Value → Shared → Prop}
theorem Fk.refl : Fk X s s := λ_ _ _ e _ =>e
theorem Fk.trans (a : Fk X s s') (b : Fk X s' s'') : Fk X s s'' := λx o n e d =>b x o n (a x o n e d) d
theorem Step.fk (a : Step X S s S' s') : Fk X s s' := λx o n e d =>a.ext.get n e d.1
theorem At.notP (T : At X hb Sb Γ env σ S s) {a : Addr} (ha : hb.get? a = none) : a ≠ X.P := T.gd.notP (T.hb1 a ha)
theorem At.localsNotP (T : At X hb Sb Γ env σ S s) : env.locals ≠ X.P := T.notP T.envOk.lNew
theorem VarIs.ext {h h' : Heap} {x : Str} {v : Value} (V : VarIs env h x v) (e : Ext X.P h h') (hl : env.locals ≠ X.P) (hc : ∀ c, env.cells.lookup x = some c → c ≠ X.P) : VarIs env h' x v :=by
  rcases V with ⟨k, m, hn, hv⟩ | ⟨k, c, hc', hx⟩
  · exact .inl ⟨k, m, e.ns hl hn, hv⟩
  · exact .inr ⟨k, c, hc', e.cell (hc c hc') hx⟩
theorem EnvOk.ext {h h' : Heap} (K : EnvOk X hb Γ env h) (e : Ext X.P h h') (hl : env.locals ≠ X.P) (hc : ∀ n c, env.cells.lookup n = some c → c ≠ X.P) : EnvOk X hb Γ env h' :=
  ⟨K.kind, K.names, K.glob, K.bi, let ⟨m, hm⟩ := K.ns; ⟨m, e.ns hl hm⟩, K.lNew, λn c h =>let ⟨v, hx⟩ := K.cell n c h; ⟨v, e.cell (hc n c h) hx⟩, K.cBase, K.cNew, K.inj, K.has⟩
theorem At.step (T : At X hb Sb Γ env σ S s) (a : Step X S s S' s') : At X hb Sb Γ env σ S' s' :=by
  have hc : ∀ n c, env.cells.lookup n = some c → c ≠ X.P := λn c h =>T.gd.notP (T.envOk.cBase n c h)
  refine ⟨a.gd, T.keep.trans a.ext, λx o e =>(a.new x o e).elim (T.newS x o) λl =>.inr (none_back T.keep T.gd.pH l), T.leS.trans a.le, T.hb1, T.envOk.ext a.ext T.localsNotP hc, λx d hx =>X12 (λv hv r =>⟨v, hv.ext a.ext T.localsNotP (hc x), r.le a.le⟩) (T.vars x d hx), T.mask, λx xs hx =>X35 (λr vs n hv hg hS hr hall =>?_) (T.own x xs hx)⟩
  refine ⟨r, vs, n, hv.ext a.ext T.localsNotP (hc x), a.ext.get (T.notP hr) hg nofun, ?_, hr, hall.le a.le⟩
  cases hq : S' r with
  | none =>rfl
  | some o' =>exact (a.new r o' hq).elim (λe' =>nos (hS.symm.trans e')) λl =>nos (l.symm.trans hg)
theorem At.done (T : At X hb Sb Γ env σ S s) {sb : Shared} (hsb : sb.heap = hb) : Step X Sb sb S s :=by
  subst hsb
  exact ⟨T.gd, T.leS, T.keep, T.newS⟩
theorem At.toks (T : At X hb Sb Γ env σ S s) (t : Nat) (ht : 0 < s.toks → 0 < t :=by first | exact id | exact λ_ =>Nat.succ_pos _ | exact λh =>Nat.lt_of_lt_of_le h (by omega)) : At X hb Sb Γ env σ S { s with toks := t } := T.step (.mono T.gd ht)
noncomputable def St.freeze (σ : St) : St := match σ.ω with
  | some (x, xs) =>⟨(x, .list xs) :: σ.ρ, none⟩
  | none =>σ
theorem Store.put_le {n : Addr} {o : Obj} (h : S n = none) : S.Le (S.put n o) := λ_ _ e =>(if_neg λq =>nos ((q ▸ h).symm.trans e)).trans e
theorem Store.put_self {n : Addr} {o : Obj} : (S.put n o) n = some o := if_pos rfl
theorem putC {n a : Addr} {o o' : Obj} {G : Prop} (k : a = n → o = o' → G) (k' : S a = some o' → G) (e : (S.put n o) a = some o') : G :=by
  revert e; unfold Store.put; exact iteC (λq e =>k q (Option.some.inj e)) λ_ e =>k' e
theorem Store.put_in {n : Addr} {o : Obj} {h : Heap} (i : S.In h) (e : h.get? n = some o) : (S.put n o).In h := λa o' =>putC (λq e' =>q ▸ e' ▸ e) (i a o')
theorem Gd.put (g : Gd X S s) {n : Addr} {o : Obj} {vs : Array Value} {k : Nat} (e : s.heap.get? n = some o) (d : o.data = .seq vs k) (hS : S n = none) (hn : n ≠ X.P) : Gd X (S.put n o) s :=
  ⟨Store.put_in g.inn e, g.s0.trans (Store.put_le hS), g.base, λa o' =>putC (λ_ e' =>e' ▸ ⟨vs, k, d⟩) (g.isSeq a o'), (if_neg (Ne.symm hn)).trans g.sP, g.p1, g.pH, g.bare, g.tab, g.os, g.tp⟩
theorem At.freeze (T : At X hb Sb Γ env σ S s) : ∃ S', S.Le S' ∧ (∀ a o, S' a = some o → S a = some o ∨ o.cls = .type "list") ∧ At X hb Sb Γ env σ.freeze S' s := by
  unfold St.freeze
  cases hω : σ.ω with
  | none =>exact ⟨S, .refl _, λ_ _ =>.inl, T⟩
  | some p =>
    refine X35 (λr vs n hv hg hS hr hall =>?_) (T.own p.1 p.2 hω)
    have hle : S.Le (S.put r (listO vs n)) := Store.put_le hS
    exact ⟨S.put r (listO vs n), hle, fun a o => putC (fun _ e => .inr (e ▸ rfl)) .inl, T.gd.put hg rfl hS (T.notP hr), T.keep, fun a o' => putC (fun q _ => .inr (q ▸ hr)) (T.newS a o'), T.leS.trans hle, T.hb1, T.envOk,
      λy d =>lookC (λq e =>⟨_, q ▸ hv, e ▸ .list Store.put_self (hall.le hle)⟩) λ_ hy =>X12 (λv hv' r' =>⟨v, hv', r'.le hle⟩) (T.vars y d hy), λy ys hy =>nos hy, λy ys hy =>nos hy⟩
theorem At.weaken (T : At X hb Sb Γ env σ S s) {σ' : St} (h : ∀ x d, σ'.ρ.lookup x = some d → σ.ρ.lookup x = some d) (hω : σ'.ω = σ.ω) : At X hb Sb Γ env σ' S s :=by
  refine ⟨T.gd, T.keep, T.newS, T.leS, T.hb1, T.envOk, λx d e =>T.vars x d (h x d e), λx xs e =>?_, λx xs e =>T.own x xs (hω ▸ e)⟩
  cases q : σ'.ρ.lookup x with
  | none =>rfl
  | some d =>
    have := h x d q
    rw [T.mask x xs (hω ▸ e)] at this
    exact nos this
theorem Gd.none_of (g : Gd X S s) {a : Addr} {o : Obj} (e : s.heap.get? a = some o) (h : ∀ vs n, o.data ≠ .seq vs n) : S a = none :=by
  cases q : S a with
  | none =>rfl
  | some o' =>
    have := g.inn a o' q
    rw [e] at this; replace this := Option.some.inj this; subst this
    refine X21 (λvs n d =>?_) (g.isSeq a o q)
    exact absurd d (h vs n)
end
end Mine
end
section
namespace Mine
open PySem PySem.Spec PyProof.Rows PySem.W
noncomputable def unown (x : Str) (o : Option (Str × List PyData)) : Option (Str × List PyData) := o.bind λw =>if w.1 = x then none else some w
noncomputable def St.setOwn (σ : St) (x : Str) (xs : List PyData) : St := ⟨σ.ρ, some (x, xs)⟩
noncomputable def Sc.mayStore (Γ : Sc) (x : Str) : Bool := if Γ.names.lookup x = some .local then true else if Γ.names.lookup x = some .cell then !Γ.outer.contains x else false
theorem mayStoreC {Γ : Sc} {x : Str} {G : Prop} (k1 : Γ.names.lookup x = some .local → G) (k2 : Γ.names.lookup x = some .cell → Γ.outer.contains x = false → G) (h : Γ.mayStore x = true) : G :=by
  revert h; exact iteC (λq _ =>k1 q) λ_ =>iteC (λq h =>k2 q ((Bool.not_eq_true' _).mp h)) λ_ h =>fnt h
noncomputable def Sc.isVar (Γ : Sc) (x : Str) : Bool := match Γ.names.lookup x with
  | some .local =>true
  | some .cell =>true
  | _ =>false
section
variable {X : Cx} {hb : Heap} {Sb S S' S'' : Store} {Γ : Sc} {env : Env} {σ : St} {s s' s'' : Shared} {A : Around} {E : Value → Shared → Prop}
theorem At.kindOf (T : At X hb Sb Γ env σ S s) (x : Str) : env.kindOf x = Γ.names.lookup x :=by
  unfold Env.kindOf; rw [T.envOk.names]
theorem loadVar (T : At X hb Sb Γ env σ S s) {x : Str} {v : Value} {Q : Value → Shared → Prop} (V : VarIs env s.heap x v) (h : Q v s) : wpAny X.M A (loadName env x) Q E s :=by
  rcases V with ⟨k, m, hn, hv⟩ | ⟨k, c, hc, hv⟩
  · exact wpAny_loadName_local T.envOk.kind k hn hv h
  · exact wpAny_loadName_cell T.envOk.kind k hc hv h
theorem evalVar (T : At X hb Sb Γ env σ S s) {x : Str} {pos : Pos} {d : PyData} {Q : Value → Shared → Prop} (hx : σ.ρ.lookup x = some d)
    (hd : (x == ("__debug__" : Str)) = false) (h : ∀ v, Rd S v d → Q v s) : wpAny X.M A (eval (.Name x pos) env) Q E s := by
  refine X12 (λv V r =>?_) (T.vars x d hx)
  exact wpAny_Name (loadVar T V (h v r)) hd
structure Nk (s s' : Shared) : Prop where
  keep : ∀ a o, (∀ es n, o.data ≠ .dict es n) → (∀ c, o.data ≠ .cell c) → s.heap.get? a = some o → s'.heap.get? a = some o
  live : ∀ a o, s.heap.get? a = some o → ∃ o', s'.heap.get? a = some o'
theorem Nk.fk (h : Nk s s') : Fk X s s' := λa o _ e d =>h.keep a o d.1 d.2.1 e
theorem Nk.trans (a : Nk s s') (b : Nk s' s'') : Nk s s'' := ⟨λx o h1 h2 e =>b.keep x o h1 h2 (a.keep x o h1 h2 e), λx o e =>(a.live x o e).elim λo' e' =>b.live x o' e'⟩
theorem Nk.refl : Nk s s := ⟨λ_ _ _ _ e =>e, λ_ o e =>⟨o, e⟩⟩
noncomputable def One (env : Env) (s s' : Shared) : Prop := ∃ a, Heap.SameBut a s.heap s'.heap ∧ (a = env.locals ∨ ∃ n, env.cells.lookup n = some a)
noncomputable def Codey (o : Obj) : Prop := (∃ vs, o.data = .fields vs) ∧ (o.cls = .type "code" ∨ o.cls = .none)
structure Cx.TabOk (X : Cx) : Prop where
  keep : ∀ {h h' : Heap}, X.Tab h → (∀ a o, h.get? a = some o → ((∃ o', X.h₁.get? a = some o') ∨ Codey o) → h'.get? a = some o) → X.Tab h'
theorem Cx.TabOk.push (TO : X.TabOk) {h : Heap} {o : Obj} (t : X.Tab h) : X.Tab (h.push o) := TO.keep t λ_ _ e _ =>Heap.get?_push_of_some _ e
theorem Gd.change (TO : X.TabOk) (g : Gd X S s) {fp : Addr → Prop} {h' : Heap} {t : Nat} (hk : ∀ a o, ¬ fp a → s.heap.get? a = some o → h'.get? a = some o) 
    (hf : ∀ a, fp a → X.h₁.get? a = none ∧ S a = none ∧ ∀ o, s.heap.get? a = some o → ¬ Codey o) (ht : 0 < s.toks → 0 < t :=by first | exact id | exact λ_ =>Nat.succ_pos _ | exact λh =>Nat.lt_of_lt_of_le h (by omega)) : Gd X S { s with heap := h', toks := t } :=
  ⟨fun b o e => hk b o (fun q => nos ((hf b q).2.1.symm.trans e)) (g.inn b o e), g.s0, fun b o n e => hk b o (fun q => nos ((hf b q).1.symm.trans e)) (g.base b o n e), g.isSeq, g.sP, g.p1, g.pH.elim fun o ho => ⟨o, hk _ o (fun q => g.p1.elim fun o' ho' => nos ((hf _ q).1.symm.trans ho')) ho⟩, g.bare,
    TO.keep g.tab (λa o e c =>hk a o (λq =>c.elim (λc =>c.elim λo' c =>nos ((hf a q).1.symm.trans c)) ((hf a q).2.2 o e)) e), g.os, ht g.tp⟩
theorem Gd.same (TO : X.TabOk) (g : Gd X S s) {a : Addr} {h' : Heap} {t : Nat} {oa : Obj} (hs : Heap.SameBut a s.heap h') (ha : X.h₁.get? a = none) (hS : S a = none) (ho : s.heap.get? a = some oa) (hc : ¬ Codey oa) (ht : 0 < s.toks → 0 < t :=by first | exact id | exact λ_ =>Nat.succ_pos _ | exact λh =>Nat.lt_of_lt_of_le h (by omega)) : Gd X S { s with heap := h', toks := t } :=
  g.change TO (fp := λb =>b = a) (λb o n e =>(hs.2 b n).trans e) (λb q =>q ▸ ⟨ha, hS, λo e =>uq ho e ▸ hc⟩) ht
theorem lstDict {vs : Array Value} {n m : Nat} {es : Array DictEntry} {G : Prop} (e : Data.seq vs n = Data.dict es m) : G :=by cases e
theorem lstCell {vs : Array Value} {n : Nat} {c : Option Value} {G : Prop} (e : Data.seq vs n = Data.cell c) : G :=by cases e
theorem dictSeq {es : Array DictEntry} {n m : Nat} {vs : Array Value} {G : Prop} (e : Data.dict es n = Data.seq vs m) : G :=by cases e
theorem dictCell {es : Array DictEntry} {n : Nat} {c : Option Value} {G : Prop} (e : Data.dict es n = Data.cell c) : G :=by cases e
theorem cellSeq {c : Option Value} {m : Nat} {vs : Array Value} {G : Prop} (e : Data.cell c = Data.seq vs m) : G :=by cases e
theorem notCodey {o : Obj} (h : ∀ vs, o.data ≠ .fields vs) : ¬ Codey o := λc =>c.1.elim h
theorem dictFld {es : Array DictEntry} {n : Nat} {vs : Array Value} {G : Prop} (e : Data.dict es n = Data.fields vs) : G :=by cases e
theorem cellFld {c : Option Value} {vs : Array Value} {G : Prop} (e : Data.cell c = Data.fields vs) : G :=by cases e
theorem nsObj {h : Heap} {a : Addr} {m : Str → Option Value} (hn : h.Ns a m) : ∃ o es ep, h.get? a = some o ∧ o.data = .dict es ep := X33 (λo es ep h1 h2 _ =>⟨o, es, ep, h1, h2⟩) hn
theorem nsNotCell {h : Heap} {a c : Addr} {m : Str → Option Value} {v : Option Value} (hn : h.Ns a m) (hc : h.IsCell c v) : a ≠ c := λq =>X32 (λo es ep h1 h2 =>X12 (λo' g1 g2 =>dictCell (h2.symm.trans ((congrArg Obj.data (uq h1 (q ▸ g1))).trans g2))) hc) (nsObj hn)
theorem nsUniq {h : Heap} {a : Addr} {m m' : Str → Option Value} (hn : h.Ns a m) (hn' : h.Ns a m') : m' = m := X34 (λo es ep h1 h2 _ h4 =>X34 (λo' es' ep' g1 g2 _ g4 =>by
  have e := h2.symm.trans ((congrArg Obj.data (uq h1 g1)).trans g2)
  cases e; exact funext λz =>(g4 z).symm.trans (h4 z)) hn') hn
theorem turnOne (TO : X.TabOk) (T : At X hb Sb Γ env σ S s) {a : Addr} {h' : Heap} {t : Nat} {oa : Obj} (hs : Heap.SameBut a s.heap h') (hbn : hb.get? a = none) (ho : s.heap.get? a = some oa) (hf : ∀ vs, oa.data ≠ .fields vs) (hq : ∀ vs n, oa.data ≠ .seq vs n)
    (hns : ∃ m, h'.Ns env.locals m) (hcell : ∀ n c u, env.cells.lookup n = some c → s.heap.IsCell c u → ∃ u', h'.IsCell c u') (ht : 0 < s.toks → 0 < t) : Gd X S { s with heap := h', toks := t } ∧ Ext X.P hb h' ∧ EnvOk X hb Γ env h' :=
  ⟨T.gd.same TO hs (T.hb1 _ hbn) (T.gd.none_of ho hq) ho (notCodey hf) ht, T.keep.on fun b o e o' e' => (hs.2 b fun q => nos ((q ▸ hbn).symm.trans e)).trans e',
    T.envOk.kind, T.envOk.names, T.envOk.glob, T.envOk.bi, hns, T.envOk.lNew, λn c hc =>(T.envOk.cell n c hc).elim λu hu =>hcell n c u hc hu, T.envOk.cBase, T.envOk.cNew, T.envOk.inj, T.envOk.has⟩
theorem setName (TO : X.TabOk) (T : At X hb Sb Γ env σ S s) {x : Str} {v : Value} {Q : Unit → Shared → Prop} (hx : Γ.mayStore x = true)
    (h : ∀ s', Gd X S s' → Ext X.P hb s'.heap → EnvOk X hb Γ env s'.heap → VarIs env s'.heap x v → (∀ y u, y ≠ x → VarIs env s.heap y u → VarIs env s'.heap y u) → Nk s s' → One env s s' → Q () s') :
    wpAny X.M A (storeName env x v) Q E s :=by
  refine T.envOk.ns.elim λm hm =>?_
  revert hx; refine mayStoreC (λk =>?_) λk hout =>?_
  · have k := (T.kindOf x).trans k
    refine X32 (λoL es ep hoL hdL =>?_) (nsObj hm)
    refine wpAny_storeName_local k hm (λh' hn hs =>?_) (by rw [T.envOk.kind]; rfl)
    have hcl : ∀ {c : Addr} {u : Option Value}, s.heap.IsCell c u → h'.IsCell c u := λhc =>hc.sameBut hs λq =>nsNotCell hm hc q.symm
    refine X03 (fun g e K => h _ g e K (.inl ⟨k, _, hn, if_pos rfl⟩) (fun y u hy V => V.elim (fun V => .inl ⟨V.1, V.2.elim fun m' V => ⟨_, hn, (if_neg hy).trans (nsUniq hm V.1 ▸ V.2)⟩⟩) fun V => .inr ⟨V.1, V.2.elim fun c V => ⟨c, V.1, hcl V.2⟩⟩) ?_ ⟨_, hs, .inl rfl⟩)
      (turnOne TO T hs T.envOk.lNew hoL (λ_ e =>dictFld (hdL.symm.trans e)) (λ_ _ e =>dictSeq (hdL.symm.trans e)) ⟨_, hn⟩ (λ_ _ u _ hu =>⟨u, hcl hu⟩) λ_ =>Nat.succ_pos _)
    exact ⟨λa o hnd _ ho =>(hs.2 a λq =>hnd _ _ ((congrArg Obj.data (uq hoL (q ▸ ho))).symm.trans hdL)).trans ho, λa o e =>if q : a = env.locals then X32 (λo1 _ _ g1 _ =>⟨o1, q ▸ g1⟩) (nsObj hn) else ⟨o, (hs.2 a q).trans e⟩⟩
  · refine (T.envOk.has x k).elim fun c hc => (T.envOk.cell x c hc).elim fun u hu => X12 (fun oc hoc hdc => ?_) hu
    refine wpAny_storeName_cell T.envOk.kind ((T.kindOf x).trans k) hc hu (λh' hc' hs =>?_)
    have hLc : ∀ {m'}, s.heap.Ns env.locals m' → h'.Ns env.locals m' := λhm =>hm.sameBut hs (nsNotCell hm hu)
    refine X03 (fun g e K => h _ g e K (.inr ⟨(T.kindOf x).trans k, c, hc, hc'⟩) (fun y w hy V => V.elim (fun V => .inl ⟨V.1, V.2.elim fun m' V => ⟨m', hLc V.1, V.2⟩⟩) fun V => .inr ⟨V.1, V.2.elim fun c2 V => ⟨c2, V.1, V.2.sameBut hs fun q => hy (T.envOk.inj _ _ _ V.1 (q ▸ hc))⟩⟩) ?_ ⟨_, hs, .inr ⟨x, hc⟩⟩)
      (turnOne TO T hs (T.envOk.cNew x c hc hout) hoc (λ_ e =>cellFld (hdc.symm.trans e)) (λ_ _ e =>cellSeq (hdc.symm.trans e)) ⟨m, hLc hm⟩ (λn c2 u2 hc2 hu2 =>if q : c2 = c then ⟨_, q ▸ hc'⟩ else ⟨u2, hu2.sameBut hs q⟩) id)
    exact ⟨λa o _ hnc ho =>(hs.2 a λq =>hnc _ ((congrArg Obj.data (uq hoc (q ▸ ho))).symm.trans hdc)).trans ho, λa o e =>if q : a = c then X12 (λo1 g1 _ =>⟨o1, q ▸ g1⟩) hc' else ⟨o, (hs.2 a q).trans e⟩⟩
theorem unown_some {x y : Str} {o : Option (Str × List PyData)} {ys : List PyData} (h : unown x o = some (y, ys)) : y ≠ x ∧ o = some (y, ys) :=by
  revert h; exact bsC λw h1 =>ifnC λhn h =>by rw [Option.some.inj h] at h1 hn; exact ⟨hn, h1⟩
structure Sets (σ : St) (x : Str) (d : PyData) (σ' : St) : Prop where
  look : ∀ y, σ'.ρ.lookup y = if y = x then some d else σ.ρ.lookup y
  own : σ'.ω = unown x σ.ω
theorem storeVar1 (TO : X.TabOk) (T : At X hb Sb Γ env σ S s) {σ' : St} {x : Str} {v : Value} {d : PyData} {Q : Unit → Shared → Prop} (hx : Γ.mayStore x = true) (r : Rd S v d) (hσ : Sets σ x d σ')
    (h : ∀ s', At X hb Sb Γ env σ' S s' → Nk s s' → One env s s' → Q () s') : wpAny X.M A (storeName env x v) Q E s :=by
  refine setName TO T hx λs' g k e V Vs o one =>h s' ⟨g, k, T.newS, T.leS, T.hb1, e, λy c hy =>?_, λy ys hy =>?_, λy ys hy =>?_⟩ o one
  · rw [hσ.look] at hy
    revert hy; exact iteC (λq hy =>⟨v, q ▸ V, Option.some.inj hy ▸ r⟩) λq hy =>X12 (λu hu ru =>⟨u, Vs y u q hu, ru⟩) (T.vars y c hy)
  · exact X02 (λhne hω =>(hσ.look y).trans ((if_neg hne).trans (T.mask y ys hω))) (unown_some (hσ.own ▸ hy))
  · exact X02 (λhne hω =>X35 (λr' vs n hv hg hS hr hall =>⟨r', vs, n, Vs y _ hne hv, o.keep r' _ (λ_ _ =>lstDict) (λ_ =>lstCell) hg, hS, hr, hall⟩) (T.own y ys hω)) (unown_some (hσ.own ▸ hy))
theorem storeVar (TO : X.TabOk) (T : At X hb Sb Γ env σ S s) {σ' : St} {x : Str} {v : Value} {d : PyData} {Q : Unit → Shared → Prop} (hx : Γ.mayStore x = true) (r : Rd S v d) (hσ : Sets σ x d σ')
    (h : ∀ s', At X hb Sb Γ env σ' S s' → Nk s s' → Q () s') : wpAny X.M A (storeName env x v) Q E s := storeVar1 TO T hx r hσ λs' T' n _ =>h s' T' n
theorem storeOwn (TO : X.TabOk) (T : At X hb Sb Γ env σ S s) {x : Str} {r : Addr} {vs : Array Value} {n : Nat} {xs : List PyData} {Q : Unit → Shared → Prop} (hx : Γ.mayStore x = true)
    (hω : σ.ω = none) (hm : σ.ρ.lookup x = none) (hg : s.heap.get? r = some (listO vs n)) (hS : S r = none) (hr : hb.get? r = none) (hall : RdAll S vs.toList xs)
    (h : ∀ s', At X hb Sb Γ env (σ.setOwn x xs) S s' → Nk s s' → Q () s') : wpAny X.M A (storeName env x (.ref r)) Q E s :=by
  exact setName TO T hx λs' g k e V Vs o' _ =>h s' ⟨g, k, T.newS, T.leS, T.hb1, e, λy c hy =>X12 (λu hu ru =>⟨u, Vs y u (λq =>nos ((q ▸ hm).symm.trans hy)) hu, ru⟩) (T.vars y c hy), λy ys hy =>(show x = y from (Prod.mk.inj (Option.some.inj hy)).1) ▸ hm, λy ys hy =>by
    cases Option.some.inj hy; exact ⟨r, vs, n, V, o'.keep r _ (λ_ _ =>lstDict) (λ_ =>lstCell) hg, hS, hr, hall⟩⟩ o'
theorem At.changeG (TO : X.TabOk) (T : At X hb Sb Γ env σ S s) {fp : Addr → Prop} {h' : Heap} {t : Nat} (hk : ∀ a o, ¬ fp a → s.heap.get? a = some o → h'.get? a = some o)
    (hf : ∀ a, fp a → hb.get? a = none ∧ S a = none ∧ ∀ o, s.heap.get? a = some o → (∀ es n, o.data ≠ .dict es n) ∧ (∀ c, o.data ≠ .cell c) ∧ ¬ Codey o)
    (ho : ∀ x xs r, σ.ω = some (x, xs) → fp r → VarIs env s.heap x (.ref r) → (∃ vs n, s.heap.get? r = some (listO vs n)) → False) (ht : 0 < s.toks → 0 < t :=by first | exact id | exact λ_ =>Nat.succ_pos _ | exact λh =>Nat.lt_of_lt_of_le h (by omega)) : At X hb Sb Γ env σ S { s with heap := h', toks := t } :=by
  have nL : ¬ fp env.locals := λq =>T.envOk.ns.elim λm hm =>X32 (λo es ep ho hd =>((hf _ q).2.2 o ho).1 es ep hd) (nsObj hm)
  have nsK : ∀ {m}, s.heap.Ns env.locals m → h'.Ns env.locals m := X34 λo es ep ho a b c =>⟨o, es, ep, hk _ _ nL ho, a, b, c⟩
  have cK : ∀ {c v}, s.heap.IsCell c v → h'.IsCell c v := X12 λo ho hd =>⟨o, hk _ _ (λq =>((hf _ q).2.2 o ho).2.1 _ hd) ho, hd⟩
  have vK : ∀ {x v}, VarIs env s.heap x v → VarIs env h' x v := λV =>V.elim (λV =>.inl ⟨V.1, V.2.elim λm V =>⟨m, nsK V.1, V.2⟩⟩) λV =>.inr ⟨V.1, V.2.elim λc V =>⟨c, V.1, cK V.2⟩⟩
  exact ⟨T.gd.change TO hk (fun a q => ⟨T.hb1 _ (hf a q).1, (hf a q).2.1, fun o e => ((hf a q).2.2 o e).2.2⟩) ht, T.keep.on fun b o e o' e' => hk b o' (fun q => nos ((hf b q).1.symm.trans e)) e', T.newS, T.leS, T.hb1,
    ⟨T.envOk.kind, T.envOk.names, T.envOk.glob, T.envOk.bi, T.envOk.ns.elim λm hm =>⟨m, nsK hm⟩, T.envOk.lNew, λn c hc =>(T.envOk.cell n c hc).elim λv hv =>⟨v, cK hv⟩, T.envOk.cBase, T.envOk.cNew, T.envOk.inj, T.envOk.has⟩,
    λx d e =>X12 (λv V r =>⟨v, vK V, r⟩) (T.vars x d e), T.mask, λx xs e =>X35 (λr vs n hv hg hS hr hall =>⟨r, vs, n, vK hv, hk _ _ (λq =>ho x xs r e q hv ⟨vs, n, hg⟩) hg, hS, hr, hall⟩) (T.own x xs e)⟩
theorem At.change (TO : X.TabOk) (T : At X hb Sb Γ env σ S s) {fp : Addr → Prop} {h' : Heap} {t : Nat} (hk : ∀ a o, ¬ fp a → s.heap.get? a = some o → h'.get? a = some o)
    (hf : ∀ a, fp a → hb.get? a = none ∧ S a = none ∧ ∀ o, s.heap.get? a = some o → Stays o ∧ ¬ Codey o) (ht : 0 < s.toks → 0 < t :=by first | exact id | exact λ_ =>Nat.succ_pos _ | exact λh =>Nat.lt_of_lt_of_le h (by omega)) : At X hb Sb Γ env σ S { s with heap := h', toks := t } :=
  T.changeG TO hk (fun a q => ⟨(hf a q).1, (hf a q).2.1, fun o e => ⟨((hf a q).2.2 o e).1.1, ((hf a q).2.2 o e).1.2.1, ((hf a q).2.2 o e).2⟩⟩)
    (λx xs r _ q _ h =>h.elim λ_ h =>h.elim λ_ hg =>((hf r q).2.2 _ hg).1.2.2 rfl) ht
end
end Mine
end
section
namespace Mine
open PySem PySem.Spec PyProof.Rows PySem.W
noncomputable def ifD {α β : Type _} (o : Option α) (f : α → β) (e : β) : β := match o with
  | some a =>f a
  | none =>e
theorem ifDC {α β : Type _} {o : Option α} {f : α → β} {e r : β} {G : Prop} (k : ∀ a, o = some a → f a = r → G) (k' : o = none → e = r → G) (h : ifD o f e = r) : G :=by
  cases o with
  | none =>exact k' rfl h
  | some a =>exact k a rfl h
theorem diteE {α : Type _} {c : Prop} [Decidable c] {f : c → Option α} {a : α} {G : Prop} (h : (if h : c then f h else none) = some a) (k : ∀ hc, f hc = some a → G) : G := if hc : c then k hc ((dif_pos hc).symm.trans h) else nos ((dif_neg hc).symm.trans h)
noncomputable def uB (e : PyData) : Option Bool := if h : e.ctorIdx = 1 then PyData.bool.elim e h λi =>some i else none
theorem uB_eq {e : PyData} {x : Bool} (h : uB e = some x) : e = PyData.bool x := diteE h λhc =>PyData.bool.elim (motive_1 := λe =>∀ hc, PyData.bool.elim e hc (λi =>some i) = some x → e = PyData.bool x) e hc (λ_ _ h =>congrArg (λx : Bool =>PyData.bool x) (Option.some.inj h)) hc
noncomputable def uI (e : PyData) : Option Int := if h : e.ctorIdx = 2 then PyData.int.elim e h λi =>some i else none
theorem uI_eq {e : PyData} {x : Int} (h : uI e = some x) : e = PyData.int x := diteE h λhc =>PyData.int.elim (motive_1 := λe =>∀ hc, PyData.int.elim e hc (λi =>some i) = some x → e = PyData.int x) e hc (λ_ _ h =>congrArg (λx : Int =>PyData.int x) (Option.some.inj h)) hc
noncomputable def uS (e : PyData) : Option Str := if h : e.ctorIdx = 3 then PyData.str.elim e h λi =>some i else none
theorem uS_eq {e : PyData} {x : Str} (h : uS e = some x) : e = PyData.str x := diteE h λhc =>PyData.str.elim (motive_1 := λe =>∀ hc, PyData.str.elim e hc (λi =>some i) = some x → e = PyData.str x) e hc (λ_ _ h =>congrArg (λx : Str =>PyData.str x) (Option.some.inj h)) hc
noncomputable def uL (e : PyData) : Option (List PyData) := if h : e.ctorIdx = 4 then PyData.list.elim e h λi =>some i else none
theorem uL_eq {e : PyData} {x : (List PyData)} (h : uL e = some x) : e = PyData.list x := diteE h λhc =>PyData.list.elim (motive_1 := λe =>∀ hc, PyData.list.elim e hc (λi =>some i) = some x → e = PyData.list x) e hc (λ_ _ h =>congrArg (λx : (List PyData) =>PyData.list x) (Option.some.inj h)) hc
noncomputable def dTupV (e : PyData) : Option (List PyData) := if h : e.ctorIdx = 5 then PyData.tuple.elim e h λi =>some i else none
theorem dTupV_eq {e : PyData} {x : (List PyData)} (h : dTupV e = some x) : e = PyData.tuple x := diteE h λhc =>PyData.tuple.elim (motive_1 := λe =>∀ hc, PyData.tuple.elim e hc (λi =>some i) = some x → e = PyData.tuple x) e hc (λ_ _ h =>congrArg (λx : (List PyData) =>PyData.tuple x) (Option.some.inj h)) hc
noncomputable def cI (e : Const) : Option Int := if h : e.ctorIdx = 2 then Const.int.elim e h λi =>some i else none
theorem cI_eq {e : Const} {x : Int} (h : cI e = some x) : e = Const.int x := diteE h λhc =>Const.int.elim (motive := λe =>∀ hc, Const.int.elim e hc (λi =>some i) = some x → e = Const.int x) e hc (λ_ _ h =>congrArg (λx : Int =>Const.int x) (Option.some.inj h)) hc
noncomputable def cS (e : Const) : Option Str := if h : e.ctorIdx = 5 then Const.str.elim e h λi =>some i else none
theorem cS_eq {e : Const} {x : Str} (h : cS e = some x) : e = Const.str x := diteE h λhc =>Const.str.elim (motive := λe =>∀ hc, Const.str.elim e hc (λi =>some i) = some x → e = Const.str x) e hc (λ_ _ h =>congrArg (λx : Str =>Const.str x) (Option.some.inj h)) hc
structure Gl where
  glob : Str → Option PyData
  call : Str → List PyData → Option PyData
  meth : PyData → Str → List PyData → Option PyData
noncomputable def constD : Const → Option PyData
  | .none =>some .none
  | .bool b =>some (.bool b)
  | .int i =>some (.int i)
  | .str x =>some (.str x)
  | _ =>none
noncomputable def strMulD (x : Str) (k : Int) : Option PyData := if 0 ≤ k ∧ k ≤ 100 ∧ x.length ≤ 100 then some (.str (Txt.mul x k)) else none
noncomputable def strAddD (x y : Str) : Option PyData := if x.length + y.length ≤ 100000 then some (.str (x ++ y)) else none
noncomputable def listAddD (x y : List PyData) : Option PyData := if x.length + y.length ≤ 100000 then some (.list (x ++ y)) else none
noncomputable def powD (a n : Int) : Option PyData := if 0 ≤ n ∧ n ≤ 64 ∧ 0 ≤ a ∧ a ≤ 64 then some (.int (a ^ n.toNat)) else none
noncomputable def mulD (a b : Int) : Option PyData := if -1000000 ≤ b ∧ b ≤ 1000000 then some (.int (a * b)) else none
noncomputable def addD (a b : PyData) : Option PyData := ifD (uI a) (λi =>(uI b).bind λj =>some (.int (i + j))) (ifD (uS a) (λx =>(uS b).bind (strAddD x)) ((uL a).bind λx =>(uL b).bind (listAddD x)))
noncomputable def ints2D (a b : PyData) (f : Int → Int → Option PyData) : Option PyData := (uI a).bind λi =>(uI b).bind λj =>f i j
noncomputable def binD (op : Operator) (a b : PyData) : Option PyData := match op with
  | .Add =>addD a b
  | .Sub =>ints2D a b λi j =>some (.int (i - j))
  | .Mult =>ifD (uI a) (λi =>(uI b).bind (mulD i)) ((uS a).bind λx =>(uI b).bind (strMulD x))
  | .FloorDiv =>ints2D a b λi j =>if 0 < j ∧ j < 1000000000 then some (.int (i.fdiv j)) else none
  | .Mod =>ints2D a b λi j =>if 0 < j then some (.int (i.fmod j)) else none
  | .Pow =>ints2D a b powD
  | .BitAnd =>ints2D a b λi j =>some (.int (Builtin.bitAnd i j))
  | _ =>none
noncomputable def mulL (c : Const) (b : PyData) : Option PyData := ifD (cI c) (λi =>(uI b).bind λj =>if -1000000 ≤ i ∧ i ≤ 1000000 then some (.int (i * j)) else none) ((cS c).bind λx =>(uI b).bind (strMulD x))
noncomputable def truthyD : PyData → Option Bool
  | .none =>some false
  | .bool b =>some b
  | .int i =>some (i != 0)
  | .str x =>if x.length ≤ 100000 then some (x.length != 0) else none
  | .list xs =>if xs.length ≤ 100000 then some (!xs.isEmpty) else none
  | .tuple xs =>if xs.length ≤ 100000 then some (!xs.isEmpty) else none
  | .dict _ =>none
noncomputable def okD (a b : PyData) : Bool := a.canLay0 && b.canLay0 && (decide (a.depth ≤ 64) || decide (b.depth ≤ 64))
noncomputable def isNo : PyData → Bool
  | .none =>true
  | _ =>false
noncomputable def noIs : PyData → Option Bool
  | .none =>some true
  | .dict _ =>none
  | _ =>some false
noncomputable def isD (a b : PyData) : Option Bool := ifD (uB b) (λy =>ifD (uB a) (λx =>some (x == y)) (if isNo a then some false else none)) (if isNo b then noIs a else none)
noncomputable def eqLeaf (a b : PyData) : Option Bool := ifD (uI a) (λi =>ifD (uI b) (λj =>some (i == j)) ((uS b).bind λ_ =>some false)) ((uS a).bind λx =>ifD (uS b) (λy =>some (x == y)) ((uI b).bind λ_ =>some false))
noncomputable def gtLeaf (a b : PyData) : Option Bool := ifD (uI a) (λi =>(uI b).bind λj =>some (decide (j < i))) ((uS a).bind λx =>(uS b).bind λy =>some (decide (y.cps.toList < x.cps.toList)))
noncomputable def gtAllD : List PyData → List PyData → Option Bool
  | [], _ =>some false
  | _ :: _, [] =>some true
  | x :: xs, y :: ys =>(eqLeaf x y).bind λe =>if e then gtAllD xs ys else gtLeaf x y
noncomputable def strsD : List PyData → Option (List Str)
  | [] =>some []
  | d :: r =>(uS d).bind λx =>(strsD r).bind λxs =>some (x :: xs)
noncomputable def ltD (a b : PyData) : Option Bool := ifD (uI a) (λi =>(uI b).bind λj =>some (decide (i < j))) ((uS a).bind λx =>(uS b).bind λy =>some (decide (x.cps.toList < y.cps.toList)))
noncomputable def cmpD (op : CmpOp) (a b : PyData) : Option Bool := match op with
  | .Eq =>if okD a b then some (PyData.eqv a b) else none
  | .NotEq =>if okD a b then some (!PyData.eqv a b) else none
  | .Lt =>ltD a b
  | .Gt =>ifD (uL a) (λx =>(uL b).bind (gtAllD x)) (gtLeaf a b)
  | .Is =>isD a b
  | .NotIn =>(uS a).bind λx =>(uS b).bind λy =>some (!(!(Builtin.Str.occurrences y x 0 y.length 1).isEmpty))
  | .In =>(uS a).bind λx =>(dTupV b).bind λys =>(strsD ys).bind λzs =>some (zs.any (· == x))
  | _ =>none
noncomputable def idxList (xs : List PyData) (i : Int) : Option PyData := if 0 ≤ i ∧ i ≤ 100000 then xs[i.toNat]? else none
noncomputable def idxStr (x : Str) (i : Int) : Option PyData := if 0 ≤ i ∧ i ≤ 100000 then (x.cps[i.toNat]?).map fun c => .str ⟨#[c]⟩ else
  if i = -1 ∧ x.cps.size ≤ 100000 then (x.cps[x.cps.size - 1]?).map λc =>.str ⟨#[c]⟩ else none
noncomputable def idxD (a b : PyData) : Option PyData := ifD (uL a) (λxs =>(uI b).bind (idxList xs)) (ifD (dTupV a) (λxs =>(uI b).bind (idxList xs)) ((uS a).bind λx =>(uI b).bind (idxStr x)))
noncomputable def takeD (xs : List PyData) (k : Int) : Option PyData := if 0 ≤ k ∧ xs.length ≤ 100000 then some (.list (xs.take k.toNat)) else none
noncomputable def dropD (xs : List PyData) (j : Int) : Option PyData := if 0 ≤ j ∧ xs.length ≤ 100000 then some (.list (xs.drop j.toNat)) else none
noncomputable def runD (xs : List PyData) (j k : Int) : Option PyData := if 0 ≤ j ∧ j ≤ k ∧ xs.length ≤ 100000 then some (.list ((xs.take k.toNat).drop j.toNat)) else none
noncomputable def takeS (x : Str) (k : Int) : Option PyData := if 0 ≤ k ∧ x.length ≤ 100000 then some (.str ⟨(x.cps.toList.take k.toNat).toArray⟩) else
    if k = -1 ∧ 0 < x.length ∧ x.length ≤ 100000 then some (.str ⟨(x.cps.toList.take (x.length - 1)).toArray⟩) else none
noncomputable def sliceD (d : PyData) (a b : Option PyData) : Option PyData := ifD (uL d) (fun xs => ifD a (fun j => (uI j).bind fun j => ifD b (fun k => (uI k).bind (runD xs j)) (dropD xs j)) (b.bind fun k => (uI k).bind (takeD xs)))
  (if a.isSome then none else (uS d).bind λx =>b.bind λk =>(uI k).bind (takeS x))
structure EvT where
  ev : Sc → Expr → Loc → Option PyData
  ts : Sc → Expr → Loc → Option Bool
noncomputable def isStar (e : Expr) : Bool := Nat.beq e.ctorIdx 22
noncomputable def evList (ev : Expr → Option PyData) : List Expr → Option (List PyData)
  | [] =>some []
  | e :: r =>if isStar e then none else (ev e).bind λd =>(evList ev r).bind λds =>some (d :: ds)
noncomputable def dName (e : Expr) : Option Str := if h : e.ctorIdx = 23 then Expr.Name.elim e h λx _ =>some x else none
theorem dName_eq {e : Expr} {x : Str} (h : dName e = some x) : ∃ p, e = Expr.Name x p := diteE h λhc =>Expr.Name.elim (motive_1 := λe =>∀ hc, Expr.Name.elim e hc (λx _ =>some x) = some x → ∃ p, e = Expr.Name x p) e hc (λ_ p _ h =>⟨p, congrArg (λx : Str =>Expr.Name x p) (Option.some.inj h)⟩) hc
noncomputable def dAttr (e : Expr) : Option (Expr × Str × Pos) := if h : e.ctorIdx = 20 then Expr.Attribute.elim e h λo m p =>some (o, m, p) else none
theorem dAttr_eq {e : Expr} {x : (Expr × Str × Pos)} (h : dAttr e = some x) : e = Expr.Attribute x.1 x.2.1 x.2.2 := diteE h λhc =>Expr.Attribute.elim (motive_1 := λe =>∀ hc, Expr.Attribute.elim e hc (λo m p =>some (o, m, p)) = some x → e = Expr.Attribute x.1 x.2.1 x.2.2) e hc (λ_ _ _ _ h =>congrArg (λx : (Expr × Str × Pos) =>Expr.Attribute x.1 x.2.1 x.2.2) (Option.some.inj h)) hc
noncomputable def dTup (e : Expr) : Option (List Expr) := if h : e.ctorIdx = 25 then Expr.Tuple.elim e h λes _ _ =>some es else none
theorem dTup_eq {e : Expr} {x : (List Expr)} (h : dTup e = some x) : ∃ c p, e = Expr.Tuple x c p := diteE h λhc =>Expr.Tuple.elim (motive_1 := λe =>∀ hc, Expr.Tuple.elim e hc (λes _ _ =>some es) = some x → ∃ c p, e = Expr.Tuple x c p) e hc (λ_ c p _ h =>⟨c, p, congrArg (λx : (List Expr) =>Expr.Tuple x c p) (Option.some.inj h)⟩) hc
noncomputable def dListE (e : Expr) : Option (List Expr) := if h : e.ctorIdx = 24 then Expr.List.elim e h λes _ =>some es else none
theorem dListE_eq {e : Expr} {x : (List Expr)} (h : dListE e = some x) : ∃ p, e = Expr.List x p := diteE h λhc =>Expr.List.elim (motive_1 := λe =>∀ hc, Expr.List.elim e hc (λes _ =>some es) = some x → ∃ p, e = Expr.List x p) e hc (λ_ p _ h =>⟨p, congrArg (λx : (List Expr) =>Expr.List x p) (Option.some.inj h)⟩) hc
noncomputable def dStar (e : Expr) : Option Expr := if h : e.ctorIdx = 22 then Expr.Starred.elim e h λe1 _ =>some e1 else none
theorem dStar_eq {e : Expr} {x : Expr} (h : dStar e = some x) : ∃ p, e = Expr.Starred x p := diteE h λhc =>Expr.Starred.elim (motive_1 := λe =>∀ hc, Expr.Starred.elim e hc (λe1 _ =>some e1) = some x → ∃ p, e = Expr.Starred x p) e hc (λ_ p _ h =>⟨p, congrArg (λx : Expr =>Expr.Starred x p) (Option.some.inj h)⟩) hc
noncomputable def dDict (e : Expr) : Option (List (Option Expr) × List Expr) := if h : e.ctorIdx = 6 then Expr.Dict.elim e h λks vs _ =>some (ks, vs) else none
theorem dDict_eq {e : Expr} {x : (List (Option Expr) × List Expr)} (h : dDict e = some x) : ∃ p, e = Expr.Dict x.1 x.2 p := diteE h λhc =>Expr.Dict.elim (motive_1 := λe =>∀ hc, Expr.Dict.elim e hc (λks vs _ =>some (ks, vs)) = some x → ∃ p, e = Expr.Dict x.1 x.2 p) e hc (λ_ _ p _ h =>⟨p, congrArg (λx : (List (Option Expr) × List Expr) =>Expr.Dict x.1 x.2 p) (Option.some.inj h)⟩) hc
noncomputable def dSlice (e : Expr) : Option (Option Expr × Option Expr × Option Expr) := if h : e.ctorIdx = 26 then Expr.Slice.elim e h λa b c _ =>some (a, b, c) else none
theorem dSlice_eq {e : Expr} {x : (Option Expr × Option Expr × Option Expr)} (h : dSlice e = some x) : ∃ p, e = Expr.Slice x.1 x.2.1 x.2.2 p := diteE h λhc =>Expr.Slice.elim (motive_1 := λe =>∀ hc, Expr.Slice.elim e hc (λa b c _ =>some (a, b, c)) = some x → ∃ p, e = Expr.Slice x.1 x.2.1 x.2.2 p) e hc (λ_ _ _ p _ h =>⟨p, congrArg (λx : (Option Expr × Option Expr × Option Expr) =>Expr.Slice x.1 x.2.1 x.2.2 p) (Option.some.inj h)⟩) hc
noncomputable def dCallK (e : Expr) : Option (Expr × List Expr × List Keyword × Pos) := if h : e.ctorIdx = 16 then Expr.Call.elim e h λf as ks p =>some (f, as, ks, p) else none
theorem dCallK_eq {e : Expr} {x : (Expr × List Expr × List Keyword × Pos)} (h : dCallK e = some x) : e = Expr.Call x.1 x.2.1 x.2.2.1 x.2.2.2 := diteE h λhc =>Expr.Call.elim (motive_1 := λe =>∀ hc, Expr.Call.elim e hc (λf as ks p =>some (f, as, ks, p)) = some x → e = Expr.Call x.1 x.2.1 x.2.2.1 x.2.2.2) e hc (λ_ _ _ _ _ h =>congrArg (λx : (Expr × List Expr × List Keyword × Pos) =>Expr.Call x.1 x.2.1 x.2.2.1 x.2.2.2) (Option.some.inj h)) hc
noncomputable def dConst (e : Expr) : Option Const := if h : e.ctorIdx = 19 then Expr.Constant.elim e h λk _ _ =>some k else none
theorem dConst_eq {e : Expr} {x : Const} (h : dConst e = some x) : ∃ c p, e = Expr.Constant x c p := diteE h λhc =>Expr.Constant.elim (motive_1 := λe =>∀ hc, Expr.Constant.elim e hc (λk _ _ =>some k) = some x → ∃ c p, e = Expr.Constant x c p) e hc (λ_ c p _ h =>⟨c, p, congrArg (λx : Const =>Expr.Constant x c p) (Option.some.inj h)⟩) hc
noncomputable def dAsgK (e : Stmt) : Option (List Expr × Expr) := if h : e.ctorIdx = 5 then Stmt.Assign.elim e h λts e1 _ =>some (ts, e1) else none
theorem dAsgK_eq {e : Stmt} {x : (List Expr × Expr)} (h : dAsgK e = some x) : ∃ p, e = Stmt.Assign x.1 x.2 p := diteE h λhc =>Stmt.Assign.elim (motive_2 := λe =>∀ hc, Stmt.Assign.elim e hc (λts e1 _ =>some (ts, e1)) = some x → ∃ p, e = Stmt.Assign x.1 x.2 p) e hc (λ_ _ p _ h =>⟨p, congrArg (λx : (List Expr × Expr) =>Stmt.Assign x.1 x.2 p) (Option.some.inj h)⟩) hc
noncomputable def dTryK (e : Stmt) : Option (List Stmt × List ExceptHandler × List Stmt × List Stmt) := if h : e.ctorIdx = 17 then Stmt.Try.elim e h λb hs oe fb _ =>some (b, hs, oe, fb) else none
theorem dTryK_eq {e : Stmt} {x : (List Stmt × List ExceptHandler × List Stmt × List Stmt)} (h : dTryK e = some x) : ∃ p, e = Stmt.Try x.1 x.2.1 x.2.2.1 x.2.2.2 p := diteE h λhc =>Stmt.Try.elim (motive_2 := λe =>∀ hc, Stmt.Try.elim e hc (λb hs oe fb _ =>some (b, hs, oe, fb)) = some x → ∃ p, e = Stmt.Try x.1 x.2.1 x.2.2.1 x.2.2.2 p) e hc (λ_ _ _ _ p _ h =>⟨p, congrArg (λx : (List Stmt × List ExceptHandler × List Stmt × List Stmt) =>Stmt.Try x.1 x.2.1 x.2.2.1 x.2.2.2 p) (Option.some.inj h)⟩) hc
noncomputable def dC {α : Type} : List α → Option (α × List α)
  | a :: r =>some (a, r)
  | [] =>none
theorem dC_eq {α : Type} {l : List α} {a : α × List α} (h : dC l = some a) : l = a.1 :: a.2 :=by
  cases l with
  | nil =>exact nos h
  | cons b r =>exact congrArg (λa : α × List α =>a.1 :: a.2) (Option.some.inj h)
noncomputable def d1 {α : Type} (l : List α) : Option α := (dC l).bind λp =>if p.2.isEmpty then some p.1 else none
theorem d1_eq {α : Type} {l : List α} {a : α} (h : d1 l = some a) : l = [a] :=by
  revert h; refine bsC λp h1 h =>?_
  revert h; refine ifsC λh2 h =>?_
  rw [dC_eq h1, List.isEmpty_iff.mp h2, Option.some.inj h]
noncomputable def d2 {α : Type} (l : List α) : Option (α × α) := (dC l).bind λp =>(d1 p.2).bind λb =>some (p.1, b)
theorem d2_eq {α : Type} {l : List α} {a : α × α} (h : d2 l = some a) : l = [a.1, a.2] :=by
  revert h; refine bsC λp h1 h =>?_
  revert h; refine bsC λb h2 h =>?_
  rw [dC_eq h1, d1_eq h2, ← Option.some.inj h]
noncomputable def d3 {α : Type} (l : List α) : Option (α × α × α) := (dC l).bind λp =>(d2 p.2).bind λb =>some (p.1, b)
theorem d3_eq {α : Type} {l : List α} {a : α × α × α} (h : d3 l = some a) : l = [a.1, a.2.1, a.2.2] :=by
  revert h; refine bsC λp h1 h =>?_
  revert h; refine bsC λb h2 h =>?_
  rw [dC_eq h1, d2_eq h2, ← Option.some.inj h]
noncomputable def dCall (e : Expr) : Option (Expr × List Expr × Pos) := (dCallK e).bind λc =>if c.2.2.1.isEmpty then some (c.1, c.2.1, c.2.2.2) else none
theorem dCall_eq {e : Expr} {x : Expr × List Expr × Pos} (h : dCall e = some x) : e = .Call x.1 x.2.1 [] x.2.2 :=by
  revert h; refine bsC λp h1 h =>?_
  revert h; refine ifsC λh2 h =>?_
  rw [dCallK_eq h1, List.isEmpty_iff.mp h2, ← Option.some.inj h]
noncomputable def dInt (e : Expr) : Option Int := (dConst e).bind cI
theorem dInt_eq {e : Expr} {z : Int} (h : dInt e = some z) : ∃ c p, e = .Constant (.int z) c p :=by
  revert h; refine bsC λk h1 h =>?_
  rw [← cI_eq h]; exact dConst_eq h1
noncomputable def dStrE (e : Expr) : Option Str := (dConst e).bind cS
theorem dStrE_eq {e : Expr} {z : Str} (h : dStrE e = some z) : ∃ c p, e = .Constant (.str z) c p :=by
  revert h; refine bsC λk h1 h =>?_
  rw [← cS_eq h]; exact dConst_eq h1
noncomputable def dAsg (st : Stmt) : Option (Expr × Expr) := (dAsgK st).bind λa =>(d1 a.1).bind λt =>some (t, a.2)
theorem dAsg_eq {st : Stmt} {x : Expr × Expr} (h : dAsg st = some x) : ∃ p, st = .Assign [x.1] x.2 p :=by
  revert h; refine bsC λa h1 h =>?_
  revert h; refine bsC λt h2 h =>?_
  rw [← Option.some.inj h, ← d1_eq h2]; exact dAsgK_eq h1
noncomputable def dTry (st : Stmt) : Option (List Stmt × List ExceptHandler × List Stmt) := (dTryK st).bind λa =>if a.2.2.2.isEmpty then some (a.1, a.2.1, a.2.2.1) else none
theorem dTry_eq {st : Stmt} {x : List Stmt × List ExceptHandler × List Stmt} (h : dTry st = some x) : ∃ p, st = .Try x.1 x.2.1 x.2.2 [] p :=by
  revert h; refine bsC λa h1 h =>?_
  revert h; refine ifsC λh2 h =>?_
  rw [← Option.some.inj h, ← List.isEmpty_iff.mp h2]; exact dTryK_eq h1
noncomputable def dHand : ExceptHandler → Option (Expr × List Stmt)
  | .ExceptHandler t n b _ =>t.bind λt =>if n.isNone then some (t, b) else none
theorem dHand_eq {hd : ExceptHandler} {x : Expr × List Stmt} (h : dHand hd = some x) : ∃ p, hd = .ExceptHandler (some x.1) none x.2 p :=by
  cases hd with
  | ExceptHandler t n b p =>
    revert h; refine bsC λe h1 h =>?_
    revert h; refine ifsC λh2 h =>?_
    rw [← Option.some.inj h, h1, Option.isNone_iff_eq_none.mp h2]; exact ⟨p, rfl⟩
theorem bind_some' {α β : Type} {x : Option α} {f : α → Option β} {b : β} (h : x.bind f = some b) : ∃ a, x = some a ∧ f a = some b := Option.bind_eq_some_iff.mp h
noncomputable def dNameInt (as : List Expr) : Option (Str × Int) := (d2 as).bind λa =>(dName a.1).bind λx =>(dInt a.2).bind λn =>some (x, n)
theorem dNameInt_eq {as : List Expr} {x : Str × Int} (h : dNameInt as = some x) : ∃ p c q, as = [.Name x.1 p, .Constant (.int x.2) c q] :=by
  revert h; refine bsC λa h1 h =>?_
  revert h; refine bsC λy h2 h =>?_
  revert h; refine bsC λn h3 h =>?_
  replace h := Option.some.inj h; subst h
  refine X11 (λp e1 =>?_) (dName_eq h2)
  refine X21 (λc q e2 =>?_) (dInt_eq h3)
  exact ⟨p, c, q, by rw [d2_eq h1, e1, e2]⟩
noncomputable def d2Str (as : List Expr) : Option (Str × Str) := (d2 as).bind λa =>(dStrE a.1).bind λx =>(dStrE a.2).bind λy =>some (x, y)
theorem d2Str_eq {as : List Expr} {x : Str × Str} (h : d2Str as = some x) : ∃ c p c' q, as = [.Constant (.str x.1) c p, .Constant (.str x.2) c' q] :=by
  revert h; refine bsC λa h1 h =>?_
  revert h; refine bsC λy h2 h =>?_
  revert h; refine bsC λn h3 h =>?_
  replace h := Option.some.inj h; subst h
  refine X21 (λc p e1 =>?_) (dStrE_eq h2)
  refine X21 (λc' q e2 =>?_) (dStrE_eq h3)
  exact ⟨c, p, c', q, by rw [d2_eq h1, e1, e2]⟩
noncomputable def dTwoName (as : List Expr) : Option (Expr × Str) := (d2 as).bind λa =>(dName a.2).bind λb =>some (a.1, b)
theorem dTwoName_eq {as : List Expr} {x : Expr × Str} (h : dTwoName as = some x) : ∃ p, as = [x.1, .Name x.2 p] :=by
  revert h; refine bsC λa h1 h =>?_
  revert h; refine bsC λb h2 h =>?_
  replace h := Option.some.inj h; subst h
  refine X11 (λp e1 =>?_) (dName_eq h2)
  exact ⟨p, by rw [d2_eq h1, e1]⟩
noncomputable def itemsD (d : PyData) : Option (List PyData) := ifD (uL d) some (dTupV d)
noncomputable def rangeD (a b c : Int) : Option (List PyData) :=
  if 0 < c ∧ a ≤ 1000 ∧ -1000 ≤ a ∧ b ≤ 1000 ∧ -1000 ≤ b ∧ c ≤ 1000 then some ((List.range (if a < b then ((b - a - 1) / c + 1).toNat else 0)).map λ(i : Nat) =>PyData.int (a + c * (i : Int))) else none
noncomputable def zipD : List PyData → List PyData → List PyData
  | x :: xs, y :: ys =>.tuple [x, y] :: zipD xs ys
  | _, _ =>[]
noncomputable def enumD (k : Nat) : List PyData → List PyData
  | [] =>[]
  | x :: xs =>.tuple [.int k, x] :: enumD (k + 1) xs
noncomputable def dGlob (Γ : Sc) (e : Expr) : Option (Str × List Expr) := (dCall e).bind λc =>(dName c.1).bind λf =>if Γ.names.lookup f = some .globalImplicit then some (f, c.2.1) else none
noncomputable def iterTup (Γ : Sc) (e : Expr) : Bool := ifD (dGlob Γ e) (fun c => decide (c.1 = Str.ofString "zip" ∨ c.1 = Str.ofString "enumerate")) false
noncomputable def isTuple (e : Expr) : Bool := Nat.beq e.ctorIdx 25
noncomputable def rangeA (ds : List PyData) : Option (List PyData) := ifD (d1 ds) (λb =>(uI b).bind λb =>rangeD 0 b 1) ((d3 ds).bind λt =>(uI t.1).bind λa =>(uI t.2.1).bind λb =>(uI t.2.2).bind λc =>rangeD a b c)
noncomputable def zipA (ds : List PyData) : Option (List PyData) := (d2 ds).bind λt =>(uL t.1).bind λa =>(uL t.2).bind λb =>some (zipD a b)
noncomputable def enumA (ds : List PyData) : Option (List PyData) := (d1 ds).bind λt =>(dTupV t).bind λa =>some (enumD 0 a)
noncomputable def plainI (V : EvT) (Γ : Sc) (e : Expr) (ρ : Loc) : Option (List PyData) := if Nat.beq e.ctorIdx 7 then none else (V.ev Γ e ρ).bind itemsD
noncomputable def iterE (V : EvT) (Γ : Sc) (e : Expr) (ρ : Loc) : Option (List PyData) := ifD (dGlob Γ e)
  (fun c => if c.1 = Str.ofString "range" then (evList (fun e => V.ev Γ e ρ) c.2).bind rangeA
    else if c.1 = Str.ofString "zip" then (evList (fun e => V.ev Γ e ρ) c.2).bind zipA
    else if c.1 = Str.ofString "enumerate" then (evList (fun e => V.ev Γ e ρ) c.2).bind enumA
    else plainI V Γ e ρ) (plainI V Γ e ρ)
noncomputable def bindTs (Γ : Sc) : List Expr → List PyData → Loc → Option Loc
  | [], [], ρ =>some ρ
  | t :: ts, d :: ds, ρ =>(dName t).bind λx =>if Γ.mayStore x ∧ (ρ.lookup x).isNone then bindTs Γ ts ds ((x, d) :: ρ) else none
  | _, _, _ =>none
noncomputable def bindC (t : Expr) (d : PyData) (Γ : Sc) (ρ : Loc) : Option Loc := ifD (dName t) (λx =>if Γ.mayStore x ∧ (ρ.lookup x).isNone then some ((x, d) :: ρ) else none) ((dTup t).bind λts =>(dTupV d).bind λds =>bindTs Γ ts ds ρ)
noncomputable def allIfs (ts : Expr → Option Bool) : List Expr → Option Bool
  | [] =>some true
  | c :: r =>(ts c).bind λok =>if ok then allIfs ts r else some false
noncomputable def compL (bind : PyData → Option Loc) (ifs : Loc → Option Bool) (inner : Loc → Option (List PyData)) : List PyData → Option (List PyData)
  | [] =>some []
  | d :: r =>(bind d).bind λρ₁ =>(ifs ρ₁).bind λok =>(if ok then inner ρ₁ else some []).bind λxs =>(compL bind ifs inner r).bind λys =>some (xs ++ ys)
noncomputable def compT (V : EvT) (Γ : Sc) (elt : Expr) : List Comprehension → List PyData → Loc → Option (List PyData)
  | [], _, _ =>none
  | g :: gs, ds, ρ => if g.is_async ≠ 0 ∨ iterTup Γ g.iter then none else
    compL (fun d => bindC g.target d Γ ρ) (fun ρ₁ => allIfs (fun c => V.ts Γ c ρ₁) g.ifs)
      (fun ρ₁ => match gs with
        | [] =>(V.ev Γ elt ρ₁).bind λd =>some [d]
        | g' :: _ =>(iterE V Γ g'.iter ρ₁).bind λds' =>compT V Γ elt gs ds' ρ₁) ds
noncomputable def Sc.inner (Γ : Sc) (scope : Scope) : Sc :=
  ⟨scope.names.map λp =>if p.2 = .free ∧ Γ.names.lookup p.1 = some .cell then (p.1, .cell) else p, (scope.names.filter λp =>p.2 = .free).map (·.1)⟩
noncomputable def innerLoc (Γ : Sc) (scope : Scope) (ρ : Loc) : Loc := ρ.filter λp =>decide (scope.names.lookup p.1 = some .free ∧ Γ.names.lookup p.1 = some .cell)
noncomputable def scopeOk (Γ : Sc) (scope : Scope) : Bool :=
  scope.kind = .function && scope.names.all (λp =>p.2 = .local && scope.names.lookup p.1 = some .local || p.2 = .cell && scope.names.lookup p.1 = some .cell || p.2 = .free && scope.names.lookup p.1 = some .free && Γ.names.lookup p.1 = some .cell || p.2 = .globalImplicit && scope.names.lookup p.1 = some .globalImplicit) && decide (scope.names.map (·.1)).Nodup
noncomputable def compE (V : EvT) (Γ : Sc) (elt : Expr) (gens : List Comprehension) (scope : Scope) (ρ : Loc) : Option (List PyData) := match gens with
  | [] =>none
  | g :: _ =>if scopeOk Γ scope ∧ iterTup Γ g.iter = false ∧ gens.all (λg =>g.is_async == 0) then (iterE V Γ g.iter ρ).bind λds =>(compT V (Γ.inner scope) elt gens ds (innerLoc Γ scope ρ)).bind λxs =>if xs.length ≤ 100000 then some xs else none else none
noncomputable def stops : BoolOp → Bool → Bool
  | .And, t =>!t
  | .Or, t =>t
noncomputable def boolV (V : EvT) (Γ : Sc) (op : BoolOp) (ρ : Loc) : List Expr → Option PyData
  | [] =>none
  | x :: r =>bif r.isEmpty then V.ev Γ x ρ else (V.ev Γ x ρ).bind λv =>(truthyD v).bind λt =>bif stops op t then some v else boolV V Γ op ρ r
noncomputable def allT (ts : Expr → Option Bool) (op : BoolOp) : List Expr → Option Bool
  | [] =>some (op == .And)
  | x :: r =>(ts x).bind λt =>bif stops op t then some t else allT ts op r
noncomputable def dictE : List (Option Expr) → List Expr → Option (List (Str × Int))
  | [], [] =>some []
  | k :: ks, v :: vs =>(k.bind dStrE).bind λk =>(dInt v).bind λv =>(dictE ks vs).bind λr =>some ((k, v) :: r)
  | _, _ =>none
noncomputable def sliceE (V : EvT) (Γ : Sc) (ρ : Loc) : Option Expr → Option (Option PyData)
  | none =>some none
  | some e =>(V.ev Γ e ρ).bind λd =>some (some d)
noncomputable def superCall (e : Expr) : Bool := Nat.beq e.ctorIdx 16
noncomputable def nameD (G : Gl) (Γ : Sc) (x : Str) (ρ : Loc) : Option PyData := if x = Str.ofString "__debug__" then none else (Γ.names.lookup x).bind fun k => if k = .local ∨ k = .cell then ρ.lookup x else if k = .globalImplicit then G.glob x else none
noncomputable def isMult (op : Operator) : Bool := decide (op = .Mult)
noncomputable def binGen (V : EvT) (Γ : Sc) (l : Expr) (op : Operator) (r : Expr) (ρ : Loc) : Option PyData := (V.ev Γ l ρ).bind λa =>(V.ev Γ r ρ).bind λb =>binD op a b
noncomputable def binE (V : EvT) (Γ : Sc) (l : Expr) (op : Operator) (r : Expr) (ρ : Loc) : Option PyData := ifD (if isMult op then dConst l else none) (λc =>(V.ev Γ r ρ).bind λb =>mulL c b) (binGen V Γ l op r ρ)
noncomputable def unE (V : EvT) (Γ : Sc) (op : UnaryOp) (x : Expr) (ρ : Loc) : Option PyData := if op = .USub then (V.ev Γ x ρ).bind λa =>(uI a).bind λi =>some (.int (-i)) else none
noncomputable def cmpE (V : EvT) (Γ : Sc) (l : Expr) (ops : List CmpOp) (rs : List Expr) (ρ : Loc) : Option Bool := (d1 ops).bind fun op => (d1 rs).bind fun r =>
  if behindInMarks op r then none else (V.ev Γ l ρ).bind λa =>(V.ev Γ r ρ).bind λb =>cmpD op a b
noncomputable def cmpV (V : EvT) (Γ : Sc) (l : Expr) (ops : List CmpOp) (rs : List Expr) (ρ : Loc) : Option PyData := (d1 ops).bind fun op => (d1 rs).bind fun r =>
  if behindInMarks op r then none else (V.ev Γ l ρ).bind λa =>(V.ev Γ r ρ).bind λb =>(cmpD op a b).bind λt =>some (.bool t)
noncomputable def subE (V : EvT) (Γ : Sc) (v i : Expr) (ρ : Loc) : Option PyData := ifD (dSlice i)
  (λs =>if s.2.2.isNone then (V.ev Γ v ρ).bind λd =>(sliceE V Γ ρ s.1).bind λa =>(sliceE V Γ ρ s.2.1).bind λb =>sliceD d a b else none)
  ((V.ev Γ v ρ).bind λd =>(V.ev Γ i ρ).bind λk =>idxD d k)
noncomputable def callGen (G : Gl) (V : EvT) (Γ : Sc) (f : Str) (args : List Expr) (ρ : Loc) : Option PyData :=
  if f = Str.ofString "__debug__" ∨ args.isEmpty then none else if Γ.names.lookup f = some .globalImplicit then (evList (fun e => V.ev Γ e ρ) args).bind fun ds => G.call f ds else none
noncomputable def instD (d : PyData) : Option PyData := ifD (uB d) (λ_ =>some (.bool true)) (ifD (uI d) (λ_ =>some (.bool false)) ((uS d).bind λ_ =>some (.bool false)))
noncomputable def callName (G : Gl) (V : EvT) (Γ : Sc) (f : Str) (args : List Expr) (ρ : Loc) : Option PyData := ifD ((d1 args).bind dStar)
  (fun e => if f = Str.ofString "_platform" ∧ Γ.names.lookup f = some .globalImplicit then (V.ev Γ e ρ).bind fun d => (uL d).bind fun xs => if 1000 < xs.length then none else G.call f xs else none)
  (ifD (dTwoName args) (fun x => if f = Str.ofString "isinstance" ∧ x.2 = Str.ofString "bool" ∧ Γ.names.lookup f = some .globalImplicit ∧ Γ.names.lookup x.2 = some .globalImplicit then (V.ev Γ x.1 ρ).bind instD else callGen G V Γ f args ρ) (callGen G V Γ f args ρ))
noncomputable def dictGetD (ks : List (Option Expr)) (vs : List Expr) (m : Str) (ap p : Pos) (a : Str) (n : Int) (ρ : Loc) : Option PyData := if m = Str.ofString "get" ∧ ap.endLine = p.line ∧ a ≠ Str.ofString "__debug__" then
      (dictE ks vs).bind λkvs =>((ρ.lookup a).bind uS).bind λx =>if kvs.length ≤ 8 ∧ kvs ≠ [] ∧ (kvs.map (·.1)).Nodup then some (.int ((kvs.lookup x).getD n)) else none
    else none
noncomputable def replD (V : EvT) (Γ : Sc) (o : Expr) (m : Str) (ap p : Pos) (a b : Str) (ρ : Loc) : Option PyData := if m = Str.ofString "replace" ∧ superCall o = false ∧ ap.endLine = p.line ∧ (a == b) = false ∧ b.length ≤ 14 then
      (V.ev Γ o ρ).bind λself =>(uS self).bind λx =>if x.length ≤ 100000 then some (.str (Txt.replace x a b)) else none
    else none
noncomputable def methGen (G : Gl) (V : EvT) (Γ : Sc) (o : Expr) (m : Str) (ap p : Pos) (args : List Expr) (ρ : Loc) : Option PyData :=
  if superCall o = true ∨ ap.endLine ≠ p.line ∨ 20 < args.length then none else (V.ev Γ o ρ).bind λself =>(evList (λe =>V.ev Γ e ρ) args).bind λds =>G.meth self m ds
noncomputable def callAttr (G : Gl) (V : EvT) (Γ : Sc) (o : Expr) (m : Str) (ap p : Pos) (args : List Expr) (ρ : Loc) : Option PyData := ifD (dDict o) (fun d => (dNameInt args).bind fun x => dictGetD d.1 d.2 m ap p x.1 x.2 ρ)
  (ifD (d2Str args) (λx =>replD V Γ o m ap p x.1 x.2 ρ) (methGen G V Γ o m ap p args ρ))
noncomputable def callE (G : Gl) (V : EvT) (Γ : Sc) (f : Expr) (args : List Expr) (ks : List Keyword) (p : Pos) (ρ : Loc) : Option PyData := if ks.isEmpty then ifD (dName f) (λg =>callName G V Γ g args ρ) ((dAttr f).bind λa =>callAttr G V Γ a.1 a.2.1 a.2.2 p args ρ) else none
noncomputable def stepE (G : Gl) (V : EvT) (Γ : Sc) (e : Expr) (ρ : Loc) : Option PyData := match e with
  | .Constant c _ _ =>constD c
  | .Name x _ =>nameD G Γ x ρ
  | .BinOp l op r _ =>binE V Γ l op r ρ
  | .UnaryOp op x _ =>unE V Γ op x ρ
  | .BoolOp op vs _ =>boolV V Γ op ρ vs
  | .IfExp t b o _ =>(V.ts Γ t ρ).bind λc =>if c then V.ev Γ b ρ else V.ev Γ o ρ
  | .Compare l ops rs _ =>cmpV V Γ l ops rs ρ
  | .Subscript v i _ =>subE V Γ v i ρ
  | .List es _ =>if 1000 < es.length then none else (evList (λe =>V.ev Γ e ρ) es).bind λds =>some (.list ds)
  | .Tuple es _ _ =>if 1000 < es.length then none else (evList (λe =>V.ev Γ e ρ) es).bind λds =>some (.tuple ds)
  | .ListComp elt gens scope _ =>(compE V Γ elt gens scope ρ).bind λxs =>some (.list xs)
  | .Call f args ks p =>callE G V Γ f args ks p ρ
  | _ =>none
noncomputable def stepT (V : EvT) (Γ : Sc) (e : Expr) (ρ : Loc) : Option Bool := match e with
  | .UnaryOp .. =>none
  | .BoolOp op vs _ =>allT (λe =>V.ts Γ e ρ) op vs
  | .IfExp t b o _ =>(V.ts Γ t ρ).bind λc =>if c then V.ts Γ b ρ else V.ts Γ o ρ
  | .Compare l ops rs _ =>cmpE V Γ l ops rs ρ
  | e =>(V.ev Γ e ρ).bind truthyD
noncomputable def evN (G : Gl) : Nat → EvT
  | 0 =>⟨λ_ _ _ =>none, λ_ _ _ =>none⟩
  | n + 1 =>⟨stepE G (evN G n), stepT (evN G n)⟩
inductive Out where
  | next | brk | cont
  | ret (d : PyData)
noncomputable def putLoc (x : Str) (d : PyData) : Loc → Loc
  | [] =>[(x, d)]
  | p :: r =>if p.1 = x then (x, d) :: r else p :: putLoc x d r
noncomputable def hasLoc (x : Str) : Loc → Bool
  | [] =>false
  | p :: r =>if p.1 = x then true else hasLoc x r
noncomputable def setLoc (x : Str) (d : PyData) (ρ : Loc) : Loc := if hasLoc x ρ then putLoc x d ρ else (x, d) :: ρ
noncomputable def assignD (Γ : Sc) (t : Expr) (d : PyData) (σ : St) : Option St := (dName t).bind λx =>if Γ.mayStore x then some ⟨setLoc x d σ.ρ, unown x σ.ω⟩ else none
noncomputable def assignsD (Γ : Sc) : List Expr → List PyData → St → Option St
  | [], [], σ =>some σ
  | t :: ts, d :: ds, σ =>(assignD Γ t d σ).bind λσ' =>assignsD Γ ts ds σ'
  | _, _, _ =>none
noncomputable def twoTups (ts : List Expr) : Option (List Expr × List Expr) := (d2 ts).bind λp =>(dTup p.1).bind λa =>(dTup p.2).bind λb =>some (a, b)
theorem twoTups_eq {ts : List Expr} {x : List Expr × List Expr} (h : twoTups ts = some x) : ∃ c1 p1 c2 p2, ts = [.Tuple x.1 c1 p1, .Tuple x.2 c2 p2] :=by
  revert h; refine bsC λp h1 h =>?_
  revert h; refine bsC λa h2 h =>?_
  revert h; refine bsC λb h3 h =>?_
  replace h := Option.some.inj h; subst h
  refine X21 (λc1 p1 e1 =>?_) (dTup_eq h2)
  refine X21 (λc2 p2 e2 =>?_) (dTup_eq h3)
  exact ⟨c1, p1, c2, p2, by rw [d2_eq h1, e1, e2]⟩
noncomputable def tupTarget (Γ : Sc) (ts : List Expr) (ds : List PyData) (σ : St) : Option St := ifD (twoTups ts) (λx =>(d2 ds).bind λy =>(dTupV y.1).bind λa =>(dTupV y.2).bind λb =>(assignsD Γ x.1 a σ).bind λσ' =>assignsD Γ x.2 b σ') (assignsD Γ ts ds σ)
noncomputable def targetD (Γ : Sc) (t : Expr) (d : PyData) (σ : St) : Option St := ifD (dName t) (λ_ =>assignD Γ t d σ) ((dTup t).bind λts =>(dTupV d).bind λds =>tupTarget Γ ts ds σ)
structure Ctx where
  G : Gl
  Γ : Sc
  owns : List Str
  frz : List Nat
  prim : Stmt → Option (St → Option (Out × St))
noncomputable def execs (ex : Stmt → St → Option (Out × St)) : List Stmt → St → Option (Out × St)
  | [], σ =>some (.next, σ)
  | st :: r, σ => (ex st σ).bind fun p => match p.1 with
    | .next =>execs ex r p.2
    | o =>some (o, p.2)
noncomputable def St.cut (σ : St) (n : List Str) : St := ⟨σ.ρ.filter λp =>n.contains p.1, σ.ω⟩
noncomputable def forD (target : PyData → St → Option St) (body orelse : St → Option (Out × St)) (n : List Str) : List PyData → St → Option (Out × St)
  | [], σ =>orelse σ
  | d :: r, σ => (target d σ).bind fun σ₁ => (body σ₁).bind fun p => match p.1 with
    | .next =>forD target body orelse n r (p.2.cut n)
    | .cont =>forD target body orelse n r (p.2.cut n)
    | .brk =>some (.next, p.2.cut n)
    | .ret d =>some (.ret d, p.2)
noncomputable def whileD (test : St → Option Bool) (body : St → Option (Out × St)) (n : List Str) : Nat → St → Option (Out × St)
  | 0, _ =>none
  | k + 1, σ => (test σ).bind fun c => if c then (body σ).bind fun p => match p.1 with
      | .next =>whileD test body n k (p.2.cut n)
      | .cont =>whileD test body n k (p.2.cut n)
      | .brk =>some (.next, p.2.cut n)
      | .ret d =>some (.ret d, p.2)
    else some (.next, σ)
noncomputable def isNilE (e : Expr) : Bool := ifD (dListE e) List.isEmpty false
theorem isNilE_eq {e : Expr} (h : isNilE e = true) : ∃ p, e = .List [] p :=by
  revert h; refine ifDC (λl h1 h =>?_) λ_ h =>fnt h
  rw [← List.isEmpty_iff.mp h]; exact dListE_eq h1
noncomputable def isAdd (op : Operator) : Bool := decide (op = .Add)
noncomputable def newD (C : Ctx) (x : Str) (σ : St) : Option (Out × St) := if C.Γ.mayStore x then if C.owns.contains x then (match σ.ω with | none =>if hasLoc x σ.ρ then none else some (.next, σ.setOwn x []) | _ =>none) else (assignD C.Γ (.Name x default) (.list []) σ).bind λσ' =>some (.next, σ') else none
noncomputable def asgGen (C : Ctx) (V : EvT) (t e : Expr) (σ : St) : Option (Out × St) := (V.ev C.Γ e σ.ρ).bind λd =>(targetD C.Γ t d σ).bind λσ' =>some (.next, σ')
noncomputable def asgD (C : Ctx) (V : EvT) (t e : Expr) (σ : St) : Option (Out × St) := ifD (dName t) (fun x => if isNilE e then newD C x σ else asgGen C V t e σ)
  (ifD (dTup e) (λvs =>if vs.all (constantsAlone 8) then none else asgGen C V t e σ) (asgGen C V t e σ))
noncomputable def augD (C : Ctx) (x : Str) (a b : PyData) (σ : St) : Option (Out × St) := (uS a).bind λu =>(uS b).bind λv =>if u.length + v.length ≤ 100000 then (assignD C.Γ (.Name x default) (.str (u ++ v)) σ).bind λσ' =>some (.next, σ') else none
noncomputable def ownD (C : Ctx) (V : EvT) (x m : Str) (e : Expr) (σ : St) : Option (Out × St) := ifD σ.ω (fun w => if w.1 = x then (if m = Str.ofString "append" then (V.ev C.Γ e σ.ρ).bind fun d => if w.2.length ≤ 100000 then some (.next, σ.setOwn x (w.2 ++ [d])) else none else
    if m = Str.ofString "extend" then (V.ev C.Γ e σ.ρ).bind fun d => (dTupV d).bind fun ds => if w.2.length + ds.length ≤ 100000 then some (.next, σ.setOwn x (w.2 ++ ds)) else none else none) else none) none
structure OwnCall where
  x : Str
  m : Str
  e : Expr
  ap : Pos
  p : Pos
noncomputable def dOwn (e : Expr) : Option OwnCall := (dCall e).bind λc =>(dAttr c.1).bind λa =>(dName a.1).bind λx =>(d1 c.2.1).bind λe =>some ⟨x, a.2.1, e, a.2.2, c.2.2⟩
theorem dOwn_eq {e : Expr} {c : OwnCall} (h : dOwn e = some c) : ∃ q, e = .Call (.Attribute (.Name c.x q) c.m c.ap) [c.e] [] c.p :=by
  revert h; refine bsC λc' h1 h =>?_
  revert h; refine bsC λa h2 h =>?_
  revert h; refine bsC λx h3 h =>?_
  revert h; refine bsC λe' h4 h =>?_
  replace h := Option.some.inj h; subst h
  refine X11 (λq e3 =>?_) (dName_eq h3)
  exact ⟨q, by rw [dCall_eq h1, dAttr_eq h2, e3, d1_eq h4]⟩
noncomputable def stepS (C : Ctx) (V : EvT) (ex : Stmt → St → Option (Out × St)) (st : Stmt) (σ : St) : Option (Out × St) := match st with
  | .Pass _ =>some (.next, σ)
  | .Break _ =>some (.brk, σ)
  | .Continue _ =>some (.cont, σ)
  | .Return r _ =>r.bind λe =>(V.ev C.Γ e (σ.freeze).ρ).bind λd =>some (.ret d, σ.freeze)
  | .If t b o _ =>(V.ts C.Γ t σ.ρ).bind λc =>if c then execs ex b σ else execs ex o σ
  | .Assign ts e _ =>(d1 ts).bind λt =>asgD C V t e σ
  | .AugAssign t op e _ =>if isAdd op then (dName t).bind λx =>(σ.ρ.lookup x).bind λa =>(V.ev C.Γ e σ.ρ).bind λb =>augD C x a b σ else none
  | .Expr e _ => (dOwn e).bind fun c => if c.ap.endLine ≠ c.p.line ∨ c.x = Str.ofString "__debug__" then none else ownD C V c.x c.m c.e σ
  | .While t body oe _ =>if oe.isEmpty then whileD (λσ =>V.ts C.Γ t σ.ρ) (execs ex body) (σ.ρ.map (·.1)) 1000 σ else none
  | .For t it body orelse _ =>if iterTup C.Γ it ∧ isTuple t = false then none else (iterE V C.Γ it σ.ρ).bind λds =>forD (targetD C.Γ t) (execs ex body) (execs ex orelse) (σ.ρ.map (·.1)) ds σ
  | _ =>none
noncomputable def stmtLine : Stmt → Nat
  | .For _ _ _ _ p =>p.line
  | .Assign _ _ p =>p.line
  | .If _ _ _ p =>p.line
  | .Try _ _ _ _ p =>p.line
  | .While _ _ _ p =>p.line
  | _ =>0
noncomputable def exN (C : Ctx) (V : EvT) : Nat → Stmt → St → Option (Out × St)
  | 0 =>λ_ _ =>none
  | n + 1 =>λst σ =>ifD (C.prim st) (λf =>f (if C.frz.contains (stmtLine st) then σ.freeze else σ)) (stepS C V (exN C V n) st (if C.frz.contains (stmtLine st) then σ.freeze else σ))
end Mine
end
section
namespace Mine
open PySem PySem.Spec PyProof.Rows PySem.W
structure FnRec where
  name : Str
  params : Arguments
  body : List Stmt
  scope : Scope
noncomputable def findFn (n : Str) : List Stmt → Option FnRec
  | [] =>none
  | .FunctionDef m a b _ _ _ sc _ _ _ :: r =>if m == n then some ⟨m, a, b, sc⟩ else findFn n r
  | _ :: r =>findFn n r
noncomputable def fnRec (n : String) : FnRec := (findFn (Str.ofString n) PySem.Challenge.pw_mr0260_01.main.body).getD ⟨Str.empty, ⟨[], [], none, [], [], none, []⟩, [], ⟨.function, [], false, false, []⟩⟩
noncomputable def runFn (C : Ctx) (nE nS : Nat) (body : List Stmt) (ρ : Loc) : Option PyData :=
  match execs (exN C (evN C.G nE) nS) body ⟨ρ, none⟩ with
  | some (.ret d, _) =>some d
  | some (.next, _) =>some .none
  | _ =>none
noncomputable def isDig (c : Nat) : Bool := 48 ≤ c && c ≤ 57
noncomputable def isSep (c : Nat) : Bool := c == 46 || c == 95 || c == 43 || c == 45
noncomputable def reGo : List Nat → List Nat → List Nat → List (List Nat)
  | txt, [], [] =>[txt]
  | txt, r :: rs, [] =>[txt, r :: rs, []]
  | txt, [], c :: cs =>if isDig c then reGo txt [c] cs else if isSep c then txt :: [c] :: reGo [] [] cs else reGo (txt ++ [c]) [] cs
  | txt, r :: rs, c :: cs =>if isDig c then reGo txt (r :: rs ++ [c]) cs else txt :: (r :: rs) :: (if isSep c then [] :: [c] :: reGo [] [] cs else reGo [c] [] cs)
noncomputable def splitCh (c : Nat) : List Nat → List (List Nat)
  | [] =>[[]]
  | a :: r => if a == c then [] :: splitCh c r else match splitCh c r with
    | [] =>[[a]]
    | w :: ws =>(a :: w) :: ws
noncomputable def S! (x : List Nat) : PyData := .str ⟨x.toArray⟩
end Mine
end
section
namespace Mine
open PySem PySem.Spec PyProof.Rows PySem.W
structure Room (A : Around) (k : Nat) : Prop where
  handled : A.handled = none
  guards : A.guards = some []
  frames : ∃ l, A.frames = some l
  depth : A.depth + k ≤ 900
  units : A.units + 200 * k ≤ 9000
structure CxOk (X : Cx) : Prop where
  tabOk : X.TabOk
  g : X.h₁.Ns mainGlobals X.mg
  b : X.h₁.Ns builtinsNs X.mb
  gP : mainGlobals ≠ X.P
  bP : builtinsNs ≠ X.P
  lim : X.h₁.NoLimit
  cP : cStatics ≠ X.P
  bi : ∀ x : Str, x ≠ "__name__" → X.mb x = bootBuiltins x
  sm : ∃ o, X.h₁.get? sysModules = some o
noncomputable def GlobIs (X : Cx) (f : Str) (fv : Value) : Prop := X.mg f = some fv ∨ (X.mg f = none ∧ X.mb f = some fv)
noncomputable def Plain (X : Cx) (fv : Value) : Prop := (∃ id, fv = .builtin id) ∨ (∃ T, fv = .type T) ∨ (∃ a o fd, fv = .ref a ∧ X.h₁.get? a = some o ∧ a ≠ X.P ∧ o.data = .func fd)
section
variable {X : Cx} {hb : Heap} {Sb S S' S'' : Store} {Γ : Sc} {env : Env} {σ : St} {s s' s'' : Shared} {A : Around} {E : Value → Shared → Prop}
theorem Gd.gNs (O : CxOk X) (g : Gd X S s) : s.heap.Ns mainGlobals X.mg := O.g.extBut g.base O.gP
theorem Gd.bNs (O : CxOk X) (g : Gd X S s) : s.heap.Ns builtinsNs X.mb := O.b.extBut g.base O.bP
theorem Gd.lim (O : CxOk X) (g : Gd X S s) : s.heap.NoLimit := O.lim.extBut g.base O.cP
theorem loadGlob (O : CxOk X) (T : At X hb Sb Γ env σ S s) {f : Str} {fv : Value} {Q : Value → Shared → Prop} (hf : GlobIs X f fv) (h : Q fv s) : wpAny X.M A (loadGlobal env f) Q E s :=by
  have h1 : s.heap.Ns env.globals X.mg := T.envOk.glob ▸ T.gd.gNs O
  have h2 : s.heap.Ns env.builtins X.mb := T.envOk.bi ▸ T.gd.bNs O
  rcases hf with hf | ⟨hm, hf⟩
  · exact Calls.loadGlobal_global h1 hf h
  · exact Calls.loadGlobal_builtin h1 hm h2 hf h
theorem evalGlob (O : CxOk X) (T : At X hb Sb Γ env σ S s) {f : Str} {p : Pos} {fv : Value} {Q : Value → Shared → Prop} (hk : Γ.names.lookup f = some .globalImplicit) (hf : GlobIs X f fv)
    (hd : (f == ("__debug__" : Str)) = false) (h : Q fv s) : wpAny X.M A (eval (.Name f p) env) Q E s :=
  Calls.Name_function_global T.envOk.kind ((T.kindOf f).trans hk) (loadGlob O T hf h) hd
theorem Gd.fresh (g : Gd X S s) : S s.heap.objs.size = none :=by
  cases q : S s.heap.objs.size with
  | none =>rfl
  | some o =>exact absurd (Heap.lt_size (g.inn _ o q)) (Nat.lt_irrefl _)
theorem get?_push_old {h : Heap} {o o' : Obj} {a : Addr} (e : h.get? a = some o') : (h.push o).get? a = some o' := Heap.get?_push_of_some o e
theorem Gd.push (O : CxOk X) (g : Gd X S s) (o : Obj) (t : Nat) (ht : 0 < s.toks → 0 < t :=by first | exact id | exact λ_ =>Nat.succ_pos _ | exact λh =>Nat.lt_of_lt_of_le h (by omega)) : Gd X S { s with heap := s.heap.push o, toks := t } :=
  ⟨λa o' e =>get?_push_old (g.inn a o' e), g.s0, λa o' n e =>get?_push_old (g.base a o' n e), g.isSeq, g.sP, g.p1, (let ⟨o, ho⟩ := g.pH; ⟨o, get?_push_old ho⟩), g.bare, O.tabOk.push g.tab, g.os, ht g.tp⟩
theorem Step.push (O : CxOk X) (g : Gd X S s) (o : Obj) (t : Nat) (ht : 0 < s.toks → 0 < t :=by first | exact id | exact λ_ =>Nat.succ_pos _ | exact λh =>Nat.lt_of_lt_of_le h (by omega)) : Step X S s S { s with heap := s.heap.push o, toks := t } :=
  ⟨g.push O o t ht, .refl _, .of λ_ _ _ e =>get?_push_old e, λ_ _ e =>.inl e⟩
theorem Step.alloc (O : CxOk X) (g : Gd X S s) {o : Obj} {vs : Array Value} {k : Nat} (hf : o.isFreed = false) (hd : o.data = .seq vs k) (t : Nat) (ht : 0 < s.toks → 0 < t := by first | exact id | exact fun _ => Nat.succ_pos _ | exact fun h => Nat.lt_of_lt_of_le h (by omega)) :
    Step X S s (S.put s.heap.objs.size o) { s with heap := s.heap.push o, toks := t } :=by
  have g' := g.push O o t ht
  have hn : s.heap.objs.size ≠ X.P := g.notP' (get?_size _)
  have e : (s.heap.push o).get? s.heap.objs.size = some o := Heap.get?_push_size _ hf
  refine ⟨g'.put (s := { s with heap := s.heap.push o, toks := t }) e hd g.fresh hn, Store.put_le g.fresh, .of λ_ _ _ e =>get?_push_old e, λa o' e' =>?_⟩
  unfold Store.put at e'
  revert e'; refine iteC (λ_ e' =>?_) λ_ e' =>?_
  · rename_i q; subst q; exact .inr (get?_size _)
  · exact .inl e'
theorem newListOk (O : CxOk X) (g : Gd X S s) {vs : List Value} {ds : List PyData} (r : RdAll S vs ds) {Q : Value → Shared → Prop} (hsz : vs.length ≤ sizeLine)
    (h : ∀ v S' s', Step X S s S' s' → Rd S' v (.list ds) → Q v s') : wpAny X.M A (newList vs) Q E s :=by
  refine wpAny_newObj_type (h _ _ _ (Step.alloc O g (o := listO vs.toArray 0) rfl rfl s.toks) (.list Store.put_self ((r.le (Store.put_le g.fresh)) ))) (by show vs.toArray.size ≤ sizeLine; rw [List.size_toArray]; exact hsz)
theorem newTupleOk (O : CxOk X) (g : Gd X S s) {vs : List Value} {ds : List PyData} (r : RdAll S vs ds) {Q : Value → Shared → Prop} (hsz : vs.length ≤ sizeLine)
    (h : ∀ v S' s', Step X S s S' s' → Rd S' v (.tuple ds) → Q v s') : wpAny X.M A (newTuple vs) Q E s :=by
  refine wpAny_newObj_type (h _ _ _ (Step.alloc O g (o := tupO vs.toArray 0) rfl rfl s.toks) (.tuple Store.put_self ((r.le (Store.put_le g.fresh)) ))) (by show vs.toArray.size ≤ sizeLine; rw [List.size_toArray]; exact hsz)
theorem intMulOk_small {a b : Int} (h : -1000000 ≤ b ∧ b ≤ 1000000) : IntMulOk a b :=by
  exact .of_right (PySem.intBits_le_64 (Int.lt_of_lt_of_le (by decide) h.1) (Int.lt_of_le_of_lt h.2 (by decide)))
theorem intMulOk_smallL {a b : Int} (h : -1000000 ≤ a ∧ a ≤ 1000000) : IntMulOk a b :=by
  exact .of_left (PySem.intBits_le_64 (Int.lt_of_lt_of_le (by decide) h.1) (Int.lt_of_le_of_lt h.2 (by decide)))
end
end Mine
end
section
namespace Mine
open PySem PySem.Spec PyProof.Rows PySem.W
section
variable {X : Cx} {hb : Heap} {Sb S S' S'' : Store} {Γ : Sc} {env : Env} {σ : St} {s s' s'' : Shared} {A : Around} {E : Value → Shared → Prop} {Q : Value → Shared → Prop}
theorem Rd.isList {h : Heap} (i : S.In h) {a : Addr} {vs : Array Value} {n : Nat} (e : S a = some (listO vs n)) : h.IsList a vs := ⟨_, i a _ e, rfl, n, rfl⟩
theorem Rd.isTup {h : Heap} (i : S.In h) {a : Addr} {vs : Array Value} {n : Nat} (e : S a = some (tupO vs n)) : IsTup h a vs := ⟨_, i a _ e, rfl, n, rfl⟩
@[elab_as_elim] theorem Rd.asI {P : Value → Prop} {v : Value} {d : PyData} {i : Int} (r : Rd S v d) (h : uI d = some i) (k : ∀ t, P (.int i t)) : P v := let ⟨_, e⟩ := Rd.int_inv (uI_eq h ▸ r); e ▸ k _
@[elab_as_elim] theorem Rd.asS {P : Value → Prop} {v : Value} {d : PyData} {i : Str} (r : Rd S v d) (h : uS d = some i) (k : ∀ t, P (.str i t)) : P v := let ⟨_, e⟩ := Rd.str_inv (uS_eq h ▸ r); e ▸ k _
@[elab_as_elim] theorem Rd.asB {P : Value → Prop} {v : Value} {d : PyData} {i : Bool} (r : Rd S v d) (h : uB d = some i) (k : P (.bool i)) : P v := (Rd.bool_inv (uB_eq h ▸ r)) ▸ k
@[elab_as_elim] theorem Rd.asL {P : Value → Prop} {v : Value} {d : PyData} {xs : List PyData} (r : Rd S v d) (h : uL d = some xs) (k : ∀ a vs n, S a = some (listO vs n) → RdAll S vs.toList xs → P (.ref a)) : P v := let ⟨_, _, _, e, h1, h2⟩ := Rd.list_inv (uL_eq h ▸ r); e ▸ k _ _ _ h1 h2
@[elab_as_elim] theorem Rd.asT {P : Value → Prop} {v : Value} {d : PyData} {xs : List PyData} (r : Rd S v d) (h : dTupV d = some xs) (k : ∀ a vs n, S a = some (tupO vs n) → RdAll S vs.toList xs → P (.ref a)) : P v := let ⟨_, _, _, e, h1, h2⟩ := Rd.tuple_inv (dTupV_eq h ▸ r); e ▸ k _ _ _ h1 h2
theorem Rd.of {v : Value} {d d' : PyData} (h : some d' = some d) (r : Rd S v d') : Rd S v d := Option.some.inj h ▸ r
@[elab_as_elim] theorem Rd.ints {P : Value → Value → Prop} {a b : Value} {da db d : PyData} {f : Int → Int → Option PyData} (ra : Rd S a da) (rb : Rd S b db) (h : ints2D da db f = some d) (k : ∀ i j t u, f i j = some d → P (.int i t) (.int j u)) : P a b :=by
  revert h; refine bsC λi h1 h =>ra.asI h1 λt =>?_
  revert h; exact bsC λj h2 h =>rb.asI h2 λu =>k i j t u h
theorem mulOk_small {x : Str} {k : Int} (h0 : 0 ≤ k) (h1 : k ≤ 100) (h2 : x.length ≤ 100) : MulOk x k :=by
  refine ⟨?_, λh _ =>?_, λ_ _ =>?_⟩
  · exact Bool.or_eq_false_iff.mpr ⟨decide_eq_false λq =>absurd (Int.lt_of_lt_of_le q (Int.le_trans (by decide) h0)) (Int.lt_irrefl _), decide_eq_false λq =>absurd (Int.lt_of_le_of_lt (Int.le_trans q h1) (by decide)) (Int.lt_irrefl _)⟩
  · exact Int.not_lt.mpr (Int.le_ediv_of_mul_le (b := 2 ^ 63 - 1) (Int.not_lt.mp h) (Int.le_trans (Int.mul_le_mul (show (x.length : Int) ≤ 100 from Int.ofNat_le.mpr h2) h1 h0 (by decide)) (by decide)))
  · unfold Builtin.Str.tooLong
    exact decide_eq_false (Nat.not_lt.mpr (Nat.le_trans (Nat.mul_le_mul h2 (Int.toNat_le.mpr h1)) (by decide)))
theorem strMulOk (g : Gd X S s) {x : Str} {k : Int} {t u : Tok} {d : PyData} (h : strMulD x k = some d) (hQ : ∀ v S' s', Step X S s S' s' → Rd S' v d → Q v s') : wpAny X.M A (binaryOp .Mult (.str x t) (.int k u)) Q E s :=by
  revert h; refine ifsC λhs h =>?_
  exact wpAny_with_toks g.tp (SB.mul (mulOk_small hs.1 hs.2.1 hs.2.2) (λ_ _ ht =>hQ _ _ _ (.mono g λ_ =>ht) (.of h (.str _ _))))
theorem binOk (O : CxOk X) (g : Gd X S s) {op : Operator} {a b : Value} {da db d : PyData} (ra : Rd S a da) (rb : Rd S b db) (h : binD op da db = some d)
    (hQ : ∀ v S' s', Step X S s S' s' → Rd S' v d → Q v s') : wpAny X.M A (binaryOp op a b) Q E s :=by
  cases op with
  | Add =>
    revert h; refine ifDC (λi h1 =>bsC λj h2 h =>ra.asI h1 λt =>rb.asI h2 λu =>add_int (hQ _ _ _ (.mono g) (.of h (.int _ _)))) λ_ =>ifDC (λx h1 =>bsC λy h2 =>ra.asS h1 λt =>rb.asS h2 λu =>ifsC λhl h =>?_) λ_ =>bsC λx h1 =>bsC λy h2 =>ra.asL h1 λl vs n hl rl =>rb.asL h2 λm ws k hm rm =>ifsC λhsz h =>?_
    · exact wpAny_with_toks g.tp (add_str (λt' tk ht =>hQ _ _ _ (.mono g λ_ =>ht) (.of h (.str _ _))) (Nat.le_trans hl (by decide)))
    · have e1 := rl.length; have e2 := rm.length
      rw [Array.length_toList] at e1 e2
      refine P.add_list (n := n) (n2 := k) (g.inn _ _ hl) (g.inn _ _ hm) (hQ _ _ _ (Step.alloc O g (o := listO (vs ++ ws) 0) rfl rfl s.toks) (.of h (.list Store.put_self ?_))) (by rw [e1, e2]; exact Nat.le_trans hsz (by decide))
      rw [Array.toList_append]
      exact (rl.append rm).le (Store.put_le g.fresh)
  | Sub =>exact ra.ints rb h λi j t u h =>sub_int (hQ _ _ _ (.mono g) (.of h (.int _ _)))
  | Mult =>
    revert h; refine ifDC (λi h1 =>bsC λj h2 =>ra.asI h1 λt =>rb.asI h2 λu =>ifsC λhs h =>?_) λ_ =>bsC λx h1 =>bsC λk h2 h =>ra.asS h1 λt =>rb.asI h2 λu =>strMulOk g h hQ
    exact mul_int (hQ _ _ _ (.mono g) (.of h (.int _ _))) (intMulOk_small hs)
  | FloorDiv =>
    refine ra.ints rb h λi j t u =>ifsC λhp h =>?_
    exact floordiv_int (Int.ne_of_gt hp.1) (hQ _ _ _ (.mono g) (.of h (.int _ _))) (.inl (PyProof.noPylong_small (by omega)))
  | Mod =>exact ra.ints rb h λi j t u =>ifsC λhp h =>mod_int (Int.ne_of_gt hp) (hQ _ _ _ (.mono g) (.of h (.int _ _)))
  | Pow =>
    refine ra.ints rb h λi j t u =>ifsC λhs h =>pow_int hs.1 ?_ (hQ _ _ _ (.mono g) (.of h (.int _ _)))
    have := PySem.intBits_le_64 (k := _) (Int.lt_of_lt_of_le (by decide) hs.2.2.1) (Int.lt_of_le_of_lt hs.2.2.2 (by decide))
    exact Int.le_trans (Int.mul_le_mul (Int.ofNat_le.mpr this) hs.2.1 hs.1 (by decide)) (by decide)
  | BitAnd =>exact ra.ints rb h λi j t u h =>and_int (hQ _ _ _ (.mono g) (.of h (.int _ _)))
  | _ =>exact nos h
theorem mulLOk (g : Gd X S s) {c : Const} {a b : Value} {da db d : PyData} (hc : constD c = some da) (ra : Rd S a da) (rb : Rd S b db) (h : mulL c db = some d)
    (hQ : ∀ v S' s', Step X S s S' s' → Rd S' v d → Q v s') : wpAny X.M A (binaryOp .Mult a b) Q E s :=by
  revert h; refine ifDC (λi h1 =>bsC λj h2 =>ifsC λhs h =>?_) λ_ =>bsC λx h1 =>bsC λk h2 h =>?_
  · rw [cI_eq h1] at hc
    refine (Rd.of hc.symm ra).asI rfl λt =>rb.asI h2 λu =>mul_int (hQ _ _ _ (.mono g) (.of h (.int _ _))) (intMulOk_smallL hs)
  · rw [cS_eq h1] at hc
    exact (Rd.of hc.symm ra).asS rfl λt =>rb.asI h2 λu =>strMulOk g h hQ
end
end Mine
end
section
namespace Mine
open PySem PySem.Spec PyProof.Rows PySem.W
section
variable {X : Cx} {hb : Heap} {Sb S S' S'' : Store} {Γ : Sc} {env : Env} {σ : St} {s s' s'' : Shared} {A : Around} {E : Value → Shared → Prop} {Q : Value → Shared → Prop}
theorem eqLeafOk {a b : Value} {da db : PyData} {e : Bool} (ra : Rd S a da) (rb : Rd S b db) (h : eqLeaf da db = some e) : SeqAt.EqAt A s a b e :=by
  revert h
  exact ifDC (fun i h1 => ra.asI h1 fun t => ifDC (fun j h2 h => rb.asI h2 fun u => Option.some.inj h ▸ SeqAt.EqAt.int_int _ _ _ _) fun _ => bsC fun y h2 h => rb.asS h2 fun u => Option.some.inj h ▸ SeqAt.EqAt.int_str _ _ _ _)
    λ_ =>bsC λx h1 =>ra.asS h1 λt =>ifDC (λy h2 h =>rb.asS h2 λu =>Option.some.inj h ▸ SeqAt.EqAt.str_str _ _ _ _) λ_ =>bsC λj h2 h =>rb.asI h2 λu =>Option.some.inj h ▸ SeqAt.EqAt.str_int _ _ _ _
theorem gtLeafOk {a b : Value} {da db : PyData} {e : Bool} (ra : Rd S a da) (rb : Rd S b db) (h : gtLeaf da db = some e) {prog : Program} {w : World} (hQ : Q (.bool e) s) : wpAny (model prog w) A (compareOp .Gt a b) Q E s :=by
  revert h
  exact ifDC (λi h1 =>bsC λj h2 h =>ra.asI h1 λt =>rb.asI h2 λu =>gt_int (Option.some.inj h ▸ hQ)) λ_ =>bsC λx h1 =>bsC λy h2 h =>ra.asS h1 λt =>rb.asS h2 λu =>P.gt_str (Option.some.inj h ▸ hQ)
theorem plain_eqLoop : plainId "list.__eq__.loop" = true := by decide +kernel
theorem entry_eqLoop : entryFor table "list.__eq__.loop" = some Builtin.«list.__eq__.loop» := PySem.MeetsSeq3.entry_eq_loop
theorem drop_cons {α : Type} {l : List α} {i : Nat} {x : α} {r : List α} (h : l.drop i = x :: r) : l[i]? = some x ∧ l.drop (i + 1) = r :=
  ⟨by have := congrArg (·[0]?) h; simpa using this, by rw [← List.drop_drop, h]; rfl⟩
theorem RdAll.nextC {vs : Array Value} {i : Nat} {d : PyData} {ds : List PyData} {G : Prop} (k : ∀ v, vs[i]? = some v → Rd S v d → RdAll S (vs.toList.drop (i + 1)) ds → G) (r : RdAll S (vs.toList.drop i) (d :: ds)) : G :=by
  revert r; refine RdAll.consC λv ws h r1 r2 =>?_
  exact k v (Array.getElem?_toList.symm.trans (drop_cons h).1) r1 ((drop_cons h).2 ▸ r2)
theorem RdAll.lastLe {vs : Array Value} {i : Nat} (r : RdAll S (vs.toList.drop i) []) : vs.size ≤ i := List.drop_eq_nil_iff.mp r.nil_inv
theorem getLt {vs : Array Value} {i : Nat} {v : Value} (h : vs[i]? = some v) : i < vs.size := (Array.getElem?_eq_some_iff.mp h).1
open SeqAt in
theorem gt_loop {l b : Addr} {items items2 : Array Value} {n n2 : Nat} {e : Bool} : ∀ (xs : List PyData) (i : Nat) (ys : List PyData), RdAll S (items.toList.drop i) xs → RdAll S (items2.toList.drop i) ys → gtAllD xs ys = some e → i ≤ items2.size →
      Meets (Builtin.«list.__eq__.loop» ⟨[.ref l, .ref b, rawInt i, rawInt 4], []⟩)
        (λ_ R s =>s.heap.get? l = some (listO items n) ∧ s.heap.get? b = some (listO items2 n2) ∧ R (.ok (.ret (.bool e))) s) :=by
  intro xs
  induction xs with
  | nil =>
    intro i ys rx _ he hi2 prog w A R s
    refine X03 λhl hb h =>?_
    cases s
    wp_walk using wpAny_loadPart' hl, wpAny_loadPart' hb
    rw [show items[((i : Nat) : Int).toNat]? = none from Array.getElem?_eq_none rx.lastLe]
    wp_walk using wpAny_loadPart' hl, wpAny_loadPart' hb
    show R (.ok (.ret (.bool (decide (items.size > items2.size))))) _
    rw [(decide_eq_false (Nat.not_lt.mpr (Nat.le_trans rx.lastLe hi2))).trans (Option.some.inj he)]; exact h
  | cons x xs ih =>
    intro i ys rx ry he hi2 prog w A R s
    refine X03 λhl hb h =>?_
    revert rx; refine RdAll.nextC λv h1 rx1 rx2 =>?_
    cases s
    wp_walk using wpAny_loadPart' hl, wpAny_loadPart' hb
    rw [show items[((i : Nat) : Int).toNat]? = some v from h1]
    cases ys with
    | nil =>
      rw [show items2[((i : Nat) : Int).toNat]? = none from Array.getElem?_eq_none ry.lastLe]
      wp_walk using wpAny_loadPart' hl, wpAny_loadPart' hb
      show R (.ok (.ret (.bool (decide (items.size > items2.size))))) _
      rw [(decide_eq_true (Nat.lt_of_le_of_lt ry.lastLe (getLt h1))).trans (Option.some.inj he)]; exact h
    | cons y ys =>
      revert ry; refine RdAll.nextC λu h2 ry1 ry2 =>?_
      rw [show items2[((i : Nat) : Int).toNat]? = some u from h2]
      revert he; refine bsC λq hq he =>?_
      refine wpAny_bind (eqLeafOk rx1 ry1 hq prog w _ _ ?_)
      cases q with
      | true =>
        wp_walk
        exact ⟨plainId_quiet plain_eqLoop _, codeAny_builtin entry_eqLoop (by
          rw [Around.under_plainId plain_eqLoop _]
          exact ih (i + 1) ys rx2 ry2 he (getLt h2) prog w A R _ ⟨hl, hb, h⟩)⟩
      | false =>
        wp_walk using wpAny_loadPart' hl, wpAny_loadPart' hb
        rw [show items[((i : Nat) : Int).toNat]? = some v from h1, show items2[((i : Nat) : Int).toNat]? = some u from h2]
        show wpAny _ _ (do let r ← compareOp .Gt v u; ret r) _ _ _
        exact wpAny_bind (gtLeafOk rx1 ry1 he (wpAny_pure h))
theorem gtListOk (g : Gd X S s) {l b : Addr} {vs ws : Array Value} {n n2 : Nat} {xs ys : List PyData} {e : Bool} (hl : S l = some (listO vs n)) (hb : S b = some (listO ws n2)) (rx : RdAll S vs.toList xs) (ry : RdAll S ws.toList ys)
    (h : gtAllD xs ys = some e) (hu : A.units < cLine) (hQ : Q (.bool e) s) : wpAny X.M A (compareOp .Gt (.ref l) (.ref b)) Q E s :=by
  have m : Meets (Builtin.«list.__gt__» ⟨[.ref l, .ref b], []⟩) (λ_ R s =>s.heap.get? l = some (listO vs n) ∧ s.heap.get? b = some (listO ws n2) ∧ R (.ok (.ret (.bool e))) s) :=by
    intro prog w A R s h'
    obtain ⟨hp, g, d, tk, os⟩ := s; revert h'; refine X03 λhl hb h' =>?_
    have f3 := AutoSeq1.sub_list_list
    wp_walk using wpAny_loadPart' hl, wpAny_loadPart' hb
    exact ⟨plainId_quiet plain_eqLoop _, codeAny_builtin entry_eqLoop (by
      rw [Around.under_plainId plain_eqLoop _]
      exact gt_loop xs 0 ys rx ry h (Nat.zero_le _) prog w A R _ ⟨hl, hb, h'⟩)⟩
  exact cmp_ofGt (richCompare_meets_room (op := .Gt) ⟨_, g.inn _ _ hl, rfl⟩ ⟨_, g.inn _ _ hb, rfl⟩ F.slot_list_gt F.entry_list_gt (F.args_list_gt_2 _ _) m
    ⟨g.inn _ _ hl, g.inn _ _ hb, show Value.bool e ≠ Value.notImplemented ∧ Q (.bool e) s from ⟨(λx =>nomatch x), hQ⟩⟩ hu)
theorem strsOk {vs : List Value} {ds : List PyData} (r : RdAll S vs ds) : ∀ {zs : List Str}, strsD ds = some zs → ∃ ts : List Tok, ts.length = zs.length ∧ vs = zs.zipWith (λz t =>Value.str z t) ts :=by
  induction ds generalizing vs with
  | nil =>
    intro zs h
    rw [r.nil_inv, ← Option.some.inj h]; exact ⟨[], rfl, rfl⟩
  | cons d ds ih =>
    intro zs
    refine bsC λx h1 =>bsC λys h2 h =>?_
    refine X23 (λv ws hv ra rb =>?_) r.cons_inv
    refine X12 (λts hl e =>?_) (ih rb h2)
    rw [hv, ← Option.some.inj h]
    exact ra.asS h1 λt =>⟨t :: ts, congrArg (· + 1) hl, congrArg (_ :: ·) e⟩
theorem bool_beq : ∀ x y : Bool, (Value.bool x == Value.bool y) = (x == y) :=by decide
theorem isOk {a b : Value} {da db : PyData} {t : Bool} (ra : Rd S a da) (rb : Rd S b db) (h : isD da db = some t) (hQ : Q (.bool t) s) : wpAny X.M A (compareOp .Is a b) Q E s :=by
  revert h; refine ifDC (λy hy =>rb.asB hy (ifDC (λx hx h =>ra.asB hx (wpAny_is_plain rfl ((bool_beq x y).trans (Option.some.inj h) ▸ hQ))) λ_ =>ifsC λhn h =>?_)) λ_ =>ifsC λhn h =>?_
  · cases rb with
    | none =>
      cases ra with
      | none =>exact wpAny_is_plain rfl ((show (Value.none == Value.none) = t from Option.some.inj h) ▸ hQ)
      | opq a =>exact nos h
      | _ =>exact wpAny_is_other rfl (λe =>nomatch e) (Option.some.inj h ▸ hQ)
    | _ =>exact fnt hn
  · cases ra with
    | none =>exact wpAny_is_other rfl (λe =>nomatch e) (Option.some.inj h ▸ hQ)
    | _ =>exact fnt hn
theorem inOk {x : Str} {u : Tok} {m : Addr} {ws : Array Value} {k : Nat} {zs : List Str} {ts : List Tok} (hl : ts.length = zs.length) (hws : ws.toList = zs.zipWith (λz t =>Value.str z t) ts) (hm : s.heap.get? m = some (tupO ws k)) (hQ : Q (.bool (zs.any (· == x))) s) : wpAny X.M A (compareOp .In (.str x u) (.ref m)) Q E s :=by
  refine SeqAt.in_tupleAt (λv =>match v with | .str z _ =>z == x | _ =>false) ⟨_, hm, rfl, k, rfl⟩ (λy hy =>?_) ?_
  · have hy' : y ∈ ws.toList := by simpa using hy
    rw [hws] at hy'
    obtain ⟨i, hi, e⟩ := List.getElem_of_mem hy'
    rw [List.getElem_zipWith] at e
    subst e
    exact SeqAt.EqAt.str_str _ _ _ _
  · have : ws.any (λv =>match v with | .str z _ =>z == x | _ =>false) = zs.any (· == x) :=by
      rw [← Array.any_toList, hws]
      clear hws hm hQ
      induction zs generalizing ts with
      | nil =>rfl
      | cons z zs ih =>
        cases ts with
        | nil =>cases hl
        | cons t ts =>exact congrArg (_ || ·) (ih (Nat.succ.inj hl))
    rw [this]; exact hQ
theorem eqTwo (R : Room A 0) (g : Gd X S s) {a b : Value} {da db : PyData} (ra : Rd S a da) (rb : Rd S b db) (ho : okD da db = true) {G : Prop} (k : ∀ as bs, Reads s.heap a da as → Reads s.heap b db bs → da.canLay0 = true → db.canLay0 = true → A.units + min da.depth db.depth < cLine → G) : G :=by
  revert ho; refine andC λh h3 =>?_
  revert h; refine andC λh1 h2 =>?_
  refine X11 (λas x =>X11 (λbs y =>k as bs x y h1 h2 (Nat.lt_of_le_of_lt (Nat.add_le_add R.units ?_) (by decide : 9000 + 64 < cLine))) (rb.reads g.inn h2)) (ra.reads g.inn h1)
  exact (Bool.or_eq_true_iff.mp h3).elim (λh =>Nat.le_trans (Nat.min_le_left _ _) (of_decide_eq_true h)) λh =>Nat.le_trans (Nat.min_le_right _ _) (of_decide_eq_true h)
theorem cmpOk (R : Room A 0) (g : Gd X S s) {op : CmpOp} {a b : Value} {da db : PyData} {t : Bool} (ra : Rd S a da) (rb : Rd S b db) (h : cmpD op da db = some t)
    (hQ : Q (.bool t) s) : wpAny X.M A (compareOp op a b) Q E s :=by
  cases op with
  | Eq =>revert h; exact ifsC λho h =>eqTwo R g ra rb ho λ_ _ x y h1 h2 hu =>SeqAt.compareEq_reads x y h1 h2 hu (Option.some.inj h ▸ hQ)
  | NotEq =>revert h; exact ifsC λho h =>eqTwo R g ra rb ho λ_ _ x y h1 h2 hu =>SeqAt.compareNe_reads x y h1 h2 hu (Option.some.inj h ▸ hQ)
  | Lt =>
    revert h
    exact ifDC (λi h1 =>bsC λj h2 h =>ra.asI h1 λt =>rb.asI h2 λu =>lt_int (Option.some.inj h ▸ hQ)) λ_ =>bsC λx h1 =>bsC λy h2 h =>ra.asS h1 λt =>rb.asS h2 λu =>lt_str (Option.some.inj h ▸ hQ)
  | Gt =>
    revert h
    exact ifDC (λx h1 =>bsC λy h2 h =>ra.asL h1 λl vs n hl rl =>rb.asL h2 λm ws k hm rm =>gtListOk g hl hm rl rm h (Nat.lt_of_le_of_lt R.units (by decide)) hQ) λ_ h =>gtLeafOk ra rb h hQ
  | Is =>exact isOk ra rb h hQ
  | NotIn =>revert h; exact bsC λx h1 =>bsC λy h2 h =>ra.asS h1 λt =>rb.asS h2 λu =>notIn_str (Option.some.inj h ▸ hQ)
  | In =>
    revert h
    exact bsC λx h1 =>bsC λys h2 =>bsC λzs h3 h =>ra.asS h1 λt =>rb.asT h2 λm ws k hm rm =>X12 (λts hl hws =>inOk hl hws (g.inn _ _ hm) (Option.some.inj h ▸ hQ)) (strsOk rm h3)
  | _ =>exact nos h
end
end Mine
end
section
namespace Mine
open PySem PySem.Spec PyProof.Rows PySem.W
section
variable {X : Cx} {hb : Heap} {Sb S S' S'' : Store} {Γ : Sc} {env : Env} {σ : St} {s s' s'' : Shared} {A : Around} {E : Value → Shared → Prop} {Q : Value → Shared → Prop}
theorem RdAll.size {vs : Array Value} {ds : List PyData} (r : RdAll S vs.toList ds) : vs.size = ds.length := r.length
theorem empty_eq {vs : Array Value} {ds : List PyData} (e : vs.size = ds.length) : (!vs.isEmpty) = !ds.isEmpty :=by
  cases ds with
  | nil =>exact congrArg (!·) (decide_eq_true e)
  | cons a r =>exact congrArg (!·) (decide_eq_false λq =>Nat.succ_ne_zero _ (e.symm.trans q))
theorem len_ne (n : Nat) : ((n : Int) != 0) = (n != 0) :=by cases n <;> rfl
theorem fit63 {i : Int} (h : i ≤ 100000) : i < 2 ^ 63 := Int.lt_of_le_of_lt h (by decide)
theorem low63 {i : Int} (h : 0 ≤ i) : -(2 ^ 63) ≤ i := Int.le_trans (by decide) h
theorem in63 {i : Int} (h : 0 ≤ i) (h9 : i ≤ 100000) : (decide (i < -(2 ^ 63 : Int)) || decide (i ≥ 2 ^ 63)) = false := Bool.or_eq_false_iff.mpr ⟨decide_eq_false (Int.not_lt.mpr (low63 h)), decide_eq_false (Int.not_le.mpr (fit63 h9))⟩
theorem seqIndex_last {n : Nat} (h : 0 < n) : seqIndex? (-1) n = some (n - 1) :=by
  cases n with
  | zero =>cases h
  | succ n =>
    unfold seqIndex?
    show (if (decide (0 ≤ (-1 : Int) + ((n + 1 : Nat) : Int)) && decide ((-1 : Int) + ((n + 1 : Nat) : Int) < ((n + 1 : Nat) : Int))) = true then some (((-1 : Int) + ((n + 1 : Nat) : Int)).toNat) else none) = _
    rw [show (-1 : Int) + ((n + 1 : Nat) : Int) = n from (Int.add_comm _ _).trans (Int.add_neg_cancel_right (n : Int) 1)]
    exact if_pos (Bool.and_eq_true_iff.mpr ⟨decide_eq_true (Int.natCast_nonneg n), decide_eq_true (Int.ofNat_lt.mpr (Nat.lt_succ_self n))⟩)
theorem truthyOk (g : Gd X S s) {v : Value} {d : PyData} {t : Bool} {Q : Bool → Shared → Prop} (r : Rd S v d) (h : truthyD d = some t) (hQ : ∀ s', Step X S s S s' → Q t s') : wpAny X.M A (truthy v) Q E s :=by
  cases r with
  | none =>exact truthy_none (Option.some.inj h ▸ hQ _ (.refl g))
  | bool b =>exact wpAny_truthy_bool (Option.some.inj h ▸ hQ _ (.refl g))
  | int i u =>exact PyProof.Rows.truthy_int (Option.some.inj h ▸ hQ _ (.refl g))
  | str x u =>revert h; exact ifsC λhl h =>P.truthy_str (Int.not_le.mpr (fit63 (Int.ofNat_le.mpr hl))) ((len_ne _).trans (Option.some.inj h) ▸ hQ _ (.mono g))
  | list hl rl =>revert h; exact ifsC λhz h =>wpAny_truthy_list (Rd.isList g.inn hl) (by rw [rl.size]; exact fit63 (Int.ofNat_le.mpr hz)) ((empty_eq rl.size).trans (Option.some.inj h) ▸ hQ _ (.mono g))
  | tuple hl rl =>revert h; exact ifsC λhz h =>truthy_tuple (Rd.isTup g.inn hl) (by rw [rl.size]; exact fit63 (Int.ofNat_le.mpr hz)) ((empty_eq rl.size).trans (Option.some.inj h) ▸ hQ _ (.mono g))
  | opq a =>exact nos h
theorem notSlice_subscripted {slice : Expr} (h : dSlice slice = none) (o i : Value) : subscripted slice false o i = operate [o, i] (getItem o i) :=by
  cases slice with
  | Slice a b c p =>exact son h
  | _ =>rfl
theorem idxListOk {vs : Array Value} {xs : List PyData} {i : Int} {d : PyData} (r : RdAll S vs.toList xs) (h : idxList xs i = some d) {G : Prop} (k : ∀ v, vs[i.toNat]? = some v → Rd S v d → 0 ≤ i → i ≤ 100000 → G) : G :=by
  revert h; exact ifsC λhi h =>X12 (λv hv rv =>k v (Array.getElem?_toList.symm.trans hv) rv hi.1 hi.2) (r.get _ h)
theorem idxOk (g : Gd X S s) {value slice : Expr} {o i : Value} {dO dI d : PyData} (ro : Rd S o dO) (ri : Rd S i dI) (h : idxD dO dI = some d) (hs : dSlice slice = none)
    (hQ : ∀ v S' s', Step X S s S' s' → Rd S' v d → Q v s') : wpAny X.M A (subscriptTail value slice o i) Q E s :=by
  have ns := notSlice_subscripted hs
  revert h
  refine ifDC (fun xs h1 => bsC fun k h2 h => ro.asL h1 fun l vs n hl rl => ri.asI h2 fun u => idxListOk rl h fun v hv rv h0 h9 =>
      tail_any (Rd.isList g.inn hl).typeIs slot_list_getitem.lookup (wpAny_getItem_list (Rd.isList g.inn hl) h0 (fit63 h9) hv (hQ _ _ _ (.refl g) rv)) (ns _ _)) λ_ =>
    ifDC (fun xs h1 => bsC fun k h2 h => ro.asT h1 fun l vs n hl rl => ri.asI h2 fun u => idxListOk rl h fun v hv rv h0 h9 =>
      tail_any ⟨_, g.inn _ _ hl, rfl⟩ F.slot_tuple_getitem.lookup (PyProof.Rows.getItem_tuple (Rd.isTup g.inn hl) (low63 h0) (fit63 h9) (j := k.toNat) (seqIndex_of h0 ((Int.toNat_lt h0).mp (getLt hv))) hv (hQ _ _ _ (.refl g) rv)) (ns _ _)) λ_ =>
    bsC λx h1 =>bsC λk h2 =>ro.asS h1 λt =>ri.asI h2 λu =>iteC (λhk h =>?_) λ_ =>ifsC λhk h =>?_
  · rw [Option.map_eq_some_iff] at h
    refine X12 (λc hc e =>?_) h
    refine tail_any (typeIs_str s x t) F.slot_str_getitem.lookup (getItem_str (in63 hk.1 hk.2) (c := c) ?_ (hQ _ _ _ (.mono g) (e ▸ .str _ _))) (ns _ _)
    rw [seqIndex_of (n := x.length) hk.1 ((Int.toNat_lt hk.1).mp (Array.getElem?_eq_some_iff.mp hc).1)]; exact hc
  · rw [Option.map_eq_some_iff] at h
    refine X12 (λc hc e =>?_) h
    rw [hk.1]
    refine tail_any (typeIs_str s x t) F.slot_str_getitem.lookup (getItem_str (by decide) (c := c) ?_ (hQ _ _ _ (.mono g) (e ▸ .str _ _))) (ns _ _)
    rw [seqIndex_last (n := x.length) (Nat.zero_lt_of_lt (Array.getElem?_eq_some_iff.mp hc).1)]; exact hc
end
end Mine
end
section
namespace Mine
open PySem PySem.Spec PyProof.Rows PySem.W
open AutoSeq1 (wpAny_loadPart')
section
variable {prog : Program} {w : World} {A : Around} {E : Value → Shared → Prop} {s : Shared}
theorem nextOf_tupleItem {it l : Addr} {i : Nat} {items : Array Value} {x : Value} {Q : Value → Shared → Prop} (hit : s.heap.IsTupleIter it l i) (hl : s.heap.IsTuple l items) (hx : items[i]? = some x)
    (hQ : ∀ h', h'.IsTupleIter it l (i + 1) → Heap.SameBut it s.heap h' → Q x { s with heap := h' }) : wpAny (model prog w) A (Builtin.SmallTypes.nextOf (.ref it)) Q E s :=by
  refine X13 (λo ho hc hd =>?_) (id hit)
  obtain ⟨ol, hol, u1, nl, hdl⟩ := hl
  unfold Builtin.SmallTypes.nextOf
  refine wpAny_bind (wpAny_callSpecial?_slot (name := Str.ofString "__next__") hit.typeIs F.slot_tuple_iterator_next
    (wpAny_call_entry F.slot_tuple_iterator_next hit.typeIs F.entry_tuple_iterator_next ?_ (F.args_tuple_iterator_next_1 _)))
  show wpAny _ _ (field (.ref it) 0 >>= _) _ _ s
  refine wpAny_bind (wpAny_field ho hd (x := .ref l) rfl ?_)
  show wpAny _ _ (if (Value.ref l == Value.none) = true then _ else _) _ _ s
  rw [if_neg (show ¬ ((Value.ref l == Value.none) = true) from Bool.false_ne_true)]
  show wpAny _ _ (field (.ref it) 1 >>= _) _ _ s
  refine wpAny_bind (wpAny_field ho hd (x := .int i 0) rfl ?_)
  show wpAny _ _ (seqItems? (.ref l) >>= _) _ _ s
  refine wpAny_bind (wpAny_seqItems hol hdl ?_)
  simp only [Int.toNat_natCast, hx]
  refine wpAny_bind (wpAny_setField ho hd (by simp) (wpAny_pure ⟨x, rfl, wpAny_pure (hQ _ ?_ (Heap.SameBut.update ..))⟩))
  exact ⟨_, Heap.get?_update_self _ ho (Obj.isFreed_of_fields (Obj.data_mapFields hd _)), (Obj.cls_mapFields ..).trans hc, by
    rw [Obj.data_mapFields hd]; simp [rawInt]⟩
theorem nextOf_tupleEnd {it l : Addr} {i : Nat} {items : Array Value} {Q : Value → Shared → Prop} (hh : A.handled = none) (hit : s.heap.IsTupleIter it l i) (hl : s.heap.IsTuple l items) (hx : items[i]? = none)
    (hE : ∀ h' e, Heap.ExtBut it s.heap h' → (∃ o, h'.get? e = some o ∧ o.cls = .type "StopIteration") → E (.ref e) { s with heap := h' }) : wpAny (model prog w) A (Builtin.SmallTypes.nextOf (.ref it)) Q E s := by
  refine X13 (λo ho hc hd =>?_) (id hit)
  obtain ⟨ol, hol, u2, nl, hdl⟩ := hl
  unfold Builtin.SmallTypes.nextOf
  refine wpAny_bind (wpAny_callSpecial?_slot (name := Str.ofString "__next__") hit.typeIs F.slot_tuple_iterator_next
    (wpAny_call_entry F.slot_tuple_iterator_next hit.typeIs F.entry_tuple_iterator_next ?_ (F.args_tuple_iterator_next_1 _)))
  show wpAny _ _ (field (.ref it) 0 >>= _) _ _ s
  refine wpAny_bind (wpAny_field ho hd (x := .ref l) rfl ?_)
  show wpAny _ _ (if (Value.ref l == Value.none) = true then _ else _) _ _ s
  rw [if_neg (show ¬ ((Value.ref l == Value.none) = true) from Bool.false_ne_true)]
  show wpAny _ _ (field (.ref it) 1 >>= _) _ _ s
  refine wpAny_bind (wpAny_field ho hd (x := .int i 0) rfl ?_)
  show wpAny _ _ (seqItems? (.ref l) >>= _) _ _ s
  refine wpAny_bind (wpAny_seqItems hol hdl ?_)
  simp only [Int.toNat_natCast, hx]
  refine wpAny_bind (wpAny_rule (wpAny_bind (wpAny_setField ho hd (by simp) ?_)))
  show wpAny _ _ (newExc (.type "StopIteration") [] >>= _) _ _ _
  refine wpAny_bind ?_
  simp only [newExc, newTuple]
  refine wpAny_bind (wpAny_newObj_type ?_ (by size_fits))
  refine wpAny_bind (m := firstArgMember _ _) (wpAny_of_eq (a := Value.none) (by first | rfl | (simp only [firstArgMember]; rfl)) ?_)
  refine wpAny_newObj_type ?_ (by size_fits)
  simp only [raiseNew]
  refine wpAny_bind (wpAny_handled ?_)
  first | rw [show A.in1.handled = none from hh] | rw [hh]
  refine wpAny_bind (wpAny_pure (wpAny_throw ?_))
  exact hE _ _ (((Heap.SameBut.update ..).extBut.push _).push _) ⟨_, Heap.get?_push_size _ rfl, rfl⟩
theorem drawsTuple (hh : A.handled = none) (it l : Addr) (hne : l ≠ it) (items : Array Value) : Draws prog w A it [it, l] items.size (fun i v => items[i]? = some v) (fun i h => h.IsTupleIter it l i ∧ h.IsTuple l items) where
  live := λi h st =>let ⟨⟨o, ho, _⟩, _⟩ := st; ⟨o, ho⟩
  frame := λi h h' st hk =>let ⟨⟨o, ho, r⟩, ⟨o2, ho2, r2⟩⟩ := st; ⟨⟨o, hk _ (by simp) _ ho, r⟩, ⟨o2, hk _ (by simp) _ ho2, r2⟩⟩
  item := λi s Q E hi st hQ =>nextOf_tupleItem st.1 st.2 (x := items[i]) (by simp [hi]) λh' hi' hs =>hQ _ h' s.toks (by simp [hi]) ⟨hi', let ⟨o, ho, r⟩ := st.2; ⟨o, (hs.2 _ hne).trans ho, r⟩⟩ hs
  done := λs Q E st hE =>nextOf_tupleEnd hh st.1 st.2 (by simp) hE
theorem meets_enumerate_newT (l : Addr) (items : Array Value) (n : Nat) :
    Meets (Builtin.«enumerate.__new__» ⟨[.type "enumerate", .ref l], []⟩) (fun _ R s => s.heap.get? l = some (tupO items n) ∧
      R (.ok (.ret (.ref (s.heap.push { cls := .type "tuple_iterator", data := .fields #[.ref l, .int 0 0] }).objs.size)))
        { s with heap := (s.heap.push { cls := .type "tuple_iterator", data := .fields #[.ref l, .int 0 0] }).push { cls := .type "enumerate", data := .fields #[.none, .bool false, .ref s.heap.objs.size, rawInt 0, .none, .none] } }) :=
  .of_wp λprog w A R s h =>by
    obtain ⟨hp, g, d, tk, os⟩ := s; revert h; refine X02 λhl h =>?_
    have hsub := sub_enumerate
    have hL : Heap.IsTuple (Shared.heap ⟨hp, g, d, tk, os⟩) l items := ⟨_, hl, rfl, n, rfl⟩
    wp_walk using wpAny_loadPart' hl
    refine wpAny_stack_any λst =>wpAny_pure ?_
    split
    · rename_i c _ _ _ _ _
      cases (c == Value.type "enumerate")
      · wp_walk using wpAny_loadPart' hl, wpAny_pyIter_tuple hL
        exact ⟨_, rfl, h⟩
      · wp_walk using wpAny_loadPart' hl, wpAny_pyIter_tuple hL
        exact ⟨_, rfl, h⟩
    · wp_walk using wpAny_loadPart' hl, wpAny_pyIter_tuple hL
      exact ⟨_, rfl, h⟩
theorem call_enumerate_tuple {l : Addr} {items : Array Value} {n : Nat} {Q : Value → Shared → Prop} (hl : s.heap.get? l = some (tupO items n))
    (h : Q (.ref (s.heap.objs.size + 1)) { s with heap := (s.heap.push { cls := .type "tuple_iterator", data := .fields #[.ref l, .int 0 0] }).push { cls := .type "enumerate", data := .fields #[.none, .bool false, .ref s.heap.objs.size, rawInt 0, .none, .none] } }) :
    wpAny (model prog w) A (call (.type "enumerate") [.ref l]) Q E s := by
  refine callType_new F.called_enumerate (by decide) (F.typeCall_enumerate_1 _) (F.newCall_enumerate_1 _) (λobj =>F.args_object_init_2 obj _) F.entry_enumerate_new (meets_enumerate_newT l items n) ⟨hl, ?_⟩
  have hz : (s.heap.push { cls := .type "tuple_iterator", data := .fields #[.ref l, .int 0 0] }).objs.size = s.heap.objs.size + 1 := Heap.size_push ..
  show _ ∧ _
  rw [hz]
  have := Heap.get?_push_size (s.heap.push { cls := .type "tuple_iterator", data := .fields #[.ref l, .int 0 0] })
      (o := { cls := .type "enumerate", data := .fields #[.none, .bool false, .ref s.heap.objs.size, rawInt 0, .none, .none] }) rfl
  rw [hz] at this
  exact ⟨⟨_, this, rfl⟩, h⟩
end
end Mine
end
section
namespace Mine
open PySem PySem.Spec PyProof.Rows PySem.W
structure SStep (X : Cx) (S : Store) (s : Shared) (S' : Store) (s' : Shared) : Prop where
  le : S.Le S'
  fk : Fk X s s'
  new : ∀ a o, S' a = some o → S a = some o ∨ s.heap.get? a = none ∨ o.cls = .type "list"
  live : ∀ a o, s.heap.get? a = some o → ∃ o', s'.heap.get? a = some o'
section
variable {X : Cx} {hb : Heap} {Sb S S' S'' : Store} {Γ : Sc} {env : Env} {σ : St} {s s' s'' : Shared} {A : Around} {E : Value → Shared → Prop} {Q : Value → Shared → Prop}
theorem SStep.refl : SStep X S s S s := ⟨.refl _, .refl, λ_ _ e =>.inl e, λ_ o e =>⟨o, e⟩⟩
theorem SStep.back (a : SStep X S s S' s') {x : Addr} (n : s'.heap.get? x = none) : s.heap.get? x = none :=by
  cases q : s.heap.get? x with
  | none =>rfl
  | some o' =>exact X11 (λo2 e2 =>nos (n.symm.trans e2)) (a.live x o' q)
theorem SStep.trans (a : SStep X S s S' s') (b : SStep X S' s' S'' s'') : SStep X S s S'' s'' :=
  ⟨a.le.trans b.le, a.fk.trans b.fk, fun x o e => (b.new x o e).elim (a.new x o) fun h => h.elim (fun n => .inr (.inl (a.back n))) fun l => .inr (.inr l),
    λx o e =>X11 (λo' e' =>b.live x o' e') (a.live x o e)⟩
theorem Step.sstep (a : Step X S s S' s') : SStep X S s S' s' :=
  ⟨a.le, a.fk, λx o e =>(a.new x o e).elim .inl λn =>.inr (.inl n), λx o e =>by
    by_cases hP : x = X.P
    · subst hP; exact a.gd.pH
    · refine X12 (λo' e' u1 =>?_) (a.ext.live hP e); exact ⟨o', e'⟩⟩
inductive ItAt (lo : Heap) (S : Store) (h : Heap) : Value → Bool → List PyData → Prop
  | list {a l : Addr} {vs : Array Value} {n i : Nat} {xs : List PyData} : lo.get? a = none → h.IsListIter a l i → S l = some (listO vs n) → RdAll S (vs.toList.drop i) xs → ItAt lo S h (.ref a) false xs
  | tuple {a l : Addr} {vs : Array Value} {n i : Nat} {xs : List PyData} : lo.get? a = none → h.IsTupleIter a l i → S l = some (tupO vs n) → RdAll S (vs.toList.drop i) xs → ItAt lo S h (.ref a) false xs
  | range {a : Addr} {x left step : Int} {xs : List PyData} : lo.get? a = none → IsRangeIter h a x left step → xs = ((List.range left.toNat).map λ(i : Nat) =>PyData.int (x + step * (i : Int))) → ItAt lo S h (.ref a) false xs
  | zip {z TI TO i1 i2 l1 l2 : Addr} {k1 k2 : Nat} {vs ws : Array Value} {n1 n2 : Nat} {xs ys : List PyData} {a b : Value} :
      ZipApart z TI TO i1 i2 l1 l2 → lo.get? z = none → lo.get? TI = none → lo.get? TO = none → lo.get? i1 = none → lo.get? i2 = none →
      IsZip h z TI TO .none → IsPair h TI (.ref i1) (.ref i2) → IsPair h TO a b → h.IsListIter i1 l1 k1 → h.IsListIter i2 l2 k2 → S TO = none → 
      S l1 = some (listO vs n1) → S l2 = some (listO ws n2) → RdAll S (vs.toList.drop k1) xs → RdAll S (ws.toList.drop k2) ys → {ds : List PyData} → ds = zipD xs ys → ItAt lo S h (.ref z) true ds
  | enum {e i l : Addr} {vs : Array Value} {n k : Nat} {old : Value} {xs : List PyData} : k ≤ vs.size → e ≠ i → lo.get? e = none → lo.get? i = none → IsEnum h e i k old → h.IsTupleIter i l k → S l = some (tupO vs n) → RdAll S (vs.toList.drop k) xs →
      {ds : List PyData} → ds = enumD k xs → ItAt lo S h (.ref e) true ds
theorem Stays.fields {o : Obj} {vs : Array Value} {T : String} (h : o.data = .fields vs) (hc : o.cls = .type T) (hT : T ≠ "list") : Stays o := ⟨fun _ _ e => (nomatch h.symm.trans e), fun _ e => (nomatch h.symm.trans e), fun e => hT (Value.type.inj (hc.symm.trans e))⟩
theorem tupStays {vs : Array Value} {n : Nat} : Stays (tupO vs n) := ⟨fun _ _ e => (by cases e), fun _ e => (by cases e), show Value.type "tuple" ≠ Value.type "list" by decide⟩
theorem ItAt.step {lo : Heap} {it : Value} {tup : Bool} {xs : List PyData} (I : ItAt lo S s.heap it tup xs) (g : Gd X S s) (g' : Gd X S' s') (hlo : ∀ a, lo.get? a = none → X.h₁.get? a = none) (a : SStep X S s S' s') : ItAt lo S' s'.heap it tup xs :=by
  have ob : ∀ {b : Addr} {o : Obj} {vs : Array Value} {T : String}, lo.get? b = none → s.heap.get? b = some o → o.cls = .type T → T ≠ "list" → o.data = .fields vs → s'.heap.get? b = some o := fun hn ho hc hT hd => a.fk _ _ (g.notP (hlo _ hn)) ho (.fields hd hc hT)
  have li : ∀ {i l k}, lo.get? i = none → s.heap.IsListIter i l k → s'.heap.IsListIter i l k := λhn =>X13 λo ho hc hd =>⟨o, ob hn ho hc (by decide) hd, hc, hd⟩
  have ti : ∀ {i l k}, lo.get? i = none → s.heap.IsTupleIter i l k → s'.heap.IsTupleIter i l k := λhn =>X13 λo ho hc hd =>⟨o, ob hn ho hc (by decide) hd, hc, hd⟩
  cases I with
  | list hn hi hS r =>exact .list hn (li hn hi) (a.le _ _ hS) (r.le a.le)
  | tuple hn hi hS r =>exact .tuple hn (ti hn hi) (a.le _ _ hS) (r.le a.le)
  | range hn hi e =>exact .range hn (ob hn hi rfl (by decide) rfl) e
  | zip D hz hTI hTO h1 h2 iz iTI iTO ii1 ii2 sTO sl1 sl2 r1 r2 eds =>
    have tp : ∀ {T x y}, lo.get? T = none → IsPair s.heap T x y → IsPair s'.heap T x y := λhn h =>a.fk _ _ (g.notP (hlo _ hn)) h tupStays
    refine .zip D hz hTI hTO h1 h2 (ob hz iz rfl (by decide) rfl) (tp hTI iTI) (tp hTO iTO) (li h1 ii1) (li h2 ii2) ?_ (a.le _ _ sl1) (a.le _ _ sl2) (r1.le a.le) (r2.le a.le) eds
    cases q : S' _ with
    | none =>rfl
    | some o =>
      exact (a.new _ o q).elim (fun e => nos (sTO.symm.trans e)) fun e => e.elim (fun e => nos (e.symm.trans iTO)) fun e => absurd ((congrArg Obj.cls (uq (tp hTO iTO) (g'.inn _ o q))).trans e) (show ¬ (Value.type "tuple" = Value.type "list") by decide)
  | enum hks hei he hi ie ii sl r eds =>exact .enum hks hei he hi (ob he ie rfl (by decide) rfl) (ti hi ii) (a.le _ _ sl) (r.le a.le) eds
theorem letOwned_other {target : Expr} {a : Addr} {v : Value} {o : Obj} {T : String} {vs : Array Value} {Q : Unit → Shared → Prop} (ho : s.heap.get? a = some o) (hc : o.cls = .type T) (hd : o.data = .fields vs)
    (hT : (["enumerate", "zip", "dict_itemiterator", "dict_reverseitemiterator", "odict_iterator", "itertools.zip_longest", "itertools.pairwise"].contains T) = false) (h : Q () s) :
    wpAny X.M A (letOwnedTupleGo target (.ref a) v) Q E s :=by
  have k : ∀ b : Addr, wpAny X.M A (load a >>= fun o => match o.cls, o.data with
      | .type n, .fields vs =>
        if ["enumerate", "zip", "dict_itemiterator", "dict_reverseitemiterator", "odict_iterator", "itertools.zip_longest", "itertools.pairwise"].contains n && vs[0]? == some (rawInt b) then do
          rule "for.unpacks-the-owned-tuple"
          updateField a 0 .none
        else pure ()
      | _, _ =>pure ()) Q E s := λb =>by
    refine wpAny_bind (wpAny_load ho ?_)
    rw [hc, hd]
    dsimp only
    rw [hT]
    exact wpAny_pure h
  cases target with
  | Tuple _ _ _ =>
    cases v with
    | ref b =>exact k b
    | _ =>exact wpAny_pure h
  | List _ _ =>
    cases v with
    | ref b =>exact k b
    | _ =>exact wpAny_pure h
  | _ =>exact wpAny_pure h
structure ItStep (lo : Heap) (S : Store) (s : Shared) (S' : Store) (s' : Shared) : Prop where
  le : S.Le S'
  keep : ∀ a o, lo.get? a ≠ none → s.heap.get? a = some o → s'.heap.get? a = some o
  new : ∀ a o, S' a = some o → S a = some o ∨ s.heap.get? a = none
  lists : ∀ a o, o.cls = .type "list" → s.heap.get? a = some o → s'.heap.get? a = some o
theorem SStep.it {s₀ : Shared} {S₀ : Store} (a : SStep X S₀ s₀ S s) (b : ItStep s₀.heap S s S' s') : SStep X S₀ s₀ S' s' :=
  ⟨a.le.trans b.le, fun x o n e d => b.keep x o (fun q => nos (q.symm.trans e)) (a.fk x o n e d), fun x o e => (b.new x o e).elim (a.new x o) fun n => .inr (.inl (a.back n)),
    λx o e =>X11 (λo' e' =>⟨o', b.keep x o' (λq =>nos (q.symm.trans e)) e'⟩) (a.live x o e)⟩
theorem fldSeq {vs ws : Array Value} {n : Nat} (e : Data.fields vs = Data.seq ws n) {G : Prop} : G := nomatch e
noncomputable def Turn (S : Store) (s : Shared) (a : Addr) : Prop := S a = none ∧ ∀ o, s.heap.get? a = some o → Stays o ∧ ¬ Codey o
theorem Turn.of (g : Gd X S s) {a : Addr} {o : Obj} {vs : Array Value} {T' : String} (ho : s.heap.get? a = some o) (hc : o.cls = .type T') (hT : T' ≠ "list" ∧ T' ≠ "code") (hd : o.data = .fields vs) : Turn S s a :=
  ⟨g.none_of ho (λ_ _ e =>nomatch hd.symm.trans e), λo' e =>uq ho e ▸ ⟨.fields hd hc hT.1, λc =>c.2.elim (λc =>hT.2 (Value.type.inj (hc.symm.trans c))) λc =>nomatch hc.symm.trans c⟩⟩
theorem it_change (O : CxOk X) {lo : Heap} (T : At X hb Sb Γ env σ S s) (hlo : ∀ a, lo.get? a = none → hb.get? a = none) {fp : Addr → Prop} {h' : Heap} {t : Nat} (hk : ∀ c o, ¬ fp c → s.heap.get? c = some o → h'.get? c = some o)
    (hf : ∀ c, fp c → lo.get? c = none ∧ Turn S s c) (ht : 0 < s.toks → 0 < t :=by first | exact id | exact λ_ =>Nat.succ_pos _ | exact λh =>Nat.lt_of_lt_of_le h (by omega)) :
    At X hb Sb Γ env σ S { s with heap := h', toks := t } ∧ ItStep lo S s S { s with heap := h', toks := t } :=
  ⟨T.change O.tabOk hk (λc q =>⟨hlo _ (hf c q).1, (hf c q).2⟩) ht, .refl _, λc o n e =>hk c o (λq =>n (hf c q).1) e, λ_ _ e =>.inl e, λc o hl e =>hk c o (λq =>((hf c q).2.2 o e).1.2.2 hl) e⟩
theorem one_change (O : CxOk X) {lo : Heap} (T : At X hb Sb Γ env σ S s) (hlo : ∀ a, lo.get? a = none → hb.get? a = none) {a : Addr} {o : Obj} {vs : Array Value} {T' : String} {h' : Heap} {t : Nat} (hn : lo.get? a = none)
    (ho : s.heap.get? a = some o) (hc : o.cls = .type T') (hT : T' ≠ "list" ∧ T' ≠ "code") (hd : o.data = .fields vs) (hk : Heap.ExtBut a s.heap h') (ht : 0 < s.toks → 0 < t := by first | exact id | exact fun _ => Nat.succ_pos _ | exact fun h => Nat.lt_of_lt_of_le h (by omega)) :
    At X hb Sb Γ env σ S { s with heap := h', toks := t } ∧ ItStep lo S s S { s with heap := h', toks := t } :=
  it_change O T hlo (fp := λb =>b = a) (λb o n e =>hk b o n e) (λ_ q =>q ▸ ⟨hn, .of T.gd ho hc hT hd⟩) ht
theorem At.put (T : At X hb Sb Γ env σ S s) {n : Addr} {o : Obj} {vs : Array Value} {k : Nat} (e : s.heap.get? n = some o) (d : o.data = .seq vs k) (hc : o.cls ≠ .type "list") (hS : S n = none) (hn : hb.get? n = none) : At X hb Sb Γ env σ (S.put n o) s := by
  have hle : S.Le (S.put n o) := Store.put_le hS
  refine ⟨T.gd.put e d hS (T.notP hn), T.keep, λa o' =>putC (λq _ =>.inr (q ▸ hn)) (T.newS a o'), T.leS.trans hle, T.hb1, T.envOk, λx d hx =>X12 (λv V r =>⟨v, V, r.le hle⟩) (T.vars x d hx), T.mask, λx xs hx =>?_⟩
  obtain ⟨r, vs, m, hv, hg, hSr, hr, hall⟩ := T.own x xs hx
  exact ⟨r, vs, m, hv, hg, (if_neg λq =>hc (congrArg Obj.cls (uq e (q ▸ hg)))).trans hSr, hr, hall.le hle⟩
theorem put_it {lo : Heap} {s₁ : Shared} (T : At X hb Sb Γ env σ S s₁) (st : ItStep lo S s S s₁) {n : Addr} {vs : Array Value} {k : Nat} (hs : s.heap.get? n = none) (e : s₁.heap.get? n = some (tupO vs k)) (hS : S n = none) (hn : hb.get? n = none) :
    At X hb Sb Γ env σ (S.put n (tupO vs k)) s₁ ∧ ItStep lo S s (S.put n (tupO vs k)) s₁ :=
  ⟨T.put e rfl (show Value.type "tuple" ≠ Value.type "list" by decide) hS hn, Store.put_le hS, st.keep, fun _ o' => putC (fun q _ => .inr (q ▸ hs)) (st.new _ o'), st.lists⟩
theorem zipD_cons {d : PyData} {r xs ys : List PyData} (h : d :: r = zipD xs ys) {G : Prop} (k : ∀ x xs' y ys', xs = x :: xs' → ys = y :: ys' → d = .tuple [x, y] → r = zipD xs' ys' → G) : G :=by
  cases xs with
  | nil =>exact lnC (show d :: r = [] from h)
  | cons x xs' =>
    cases ys with
    | nil =>exact lnC (show d :: r = [] from h)
    | cons y ys' =>exact k x xs' y ys' rfl rfl (List.cons.inj h).1 (List.cons.inj h).2
theorem enumD_cons {d : PyData} {r xs : List PyData} {n : Nat} (h : d :: r = enumD n xs) {G : Prop} (k : ∀ x xs', xs = x :: xs' → d = .tuple [.int n, x] → r = enumD (n + 1) xs' → G) : G :=by
  cases xs with
  | nil =>exact lnC (show d :: r = [] from h)
  | cons x xs' =>exact k x xs' rfl (List.cons.inj h).1 (List.cons.inj h).2
theorem enumD_nil {xs : List PyData} {k : Nat} (h : [] = enumD k xs) : xs = [] :=by
  cases xs with
  | nil =>rfl
  | cons x xs' =>exact nlC (show [] = _ :: _ from h)
theorem zipTurn (g : Gd X S s) {lo : Heap} {z TI TO i1 i2 l1 l2 : Addr} {k1 k2 : Nat} {a b : Value} (hz : lo.get? z = none) (hTO : lo.get? TO = none) (h1 : lo.get? i1 = none) (h2 : lo.get? i2 = none) (iz : IsZip s.heap z TI TO .none) (iTO : IsPair s.heap TO a b)
    (ii1 : s.heap.IsListIter i1 l1 k1) (ii2 : s.heap.IsListIter i2 l2 k2) (sTO : S TO = none) : ∀ c, (c = z ∨ c = TO ∨ c = i1 ∨ c = i2) → lo.get? c = none ∧ Turn S s c := λc q =>
  q.elim (fun q => q ▸ ⟨hz, .of g iz rfl (by decide) rfl⟩) fun q => q.elim (fun q => q ▸ ⟨hTO, sTO, fun o e => uq iTO e ▸ ⟨tupStays, fun c => X11 (fun _ e => nomatch e) c.1⟩⟩) fun q =>
    q.elim (λq =>q ▸ ⟨h1, X13 (λ_ ho hc hd =>.of g ho hc (by decide) hd) ii1⟩) λq =>q ▸ ⟨h2, X13 (λ_ ho hc hd =>.of g ho hc (by decide) hd) ii2⟩
theorem or4 {p q r t : Prop} (h : ¬ (p ∨ q ∨ r ∨ t)) {G : Prop} (k : ¬ p → ¬ q → ¬ r → ¬ t → G) : G := k (λx =>h (.inl x)) (λx =>h (.inr (.inl x))) (λx =>h (.inr (.inr (.inl x)))) λx =>h (.inr (.inr (.inr x)))
theorem or2 {p q : Prop} (h : ¬ (p ∨ q)) {G : Prop} (k : ¬ p → ¬ q → G) : G := k (λx =>h (.inl x)) λx =>h (.inr x)
theorem enumTurn (g : Gd X S s) {lo : Heap} {e i l : Addr} {k : Nat} {old : Value} (he : lo.get? e = none) (hi : lo.get? i = none) (ie : IsEnum s.heap e i k old) (ii : s.heap.IsTupleIter i l k) : ∀ c, (c = e ∨ c = i) → lo.get? c = none ∧ Turn S s c := fun c q =>
  q.elim (λq =>q ▸ ⟨he, .of g ie rfl (by decide) rfl⟩) λq =>q ▸ ⟨hi, X13 (λ_ ho hc hd =>.of g ho hc (by decide) hd) ii⟩
theorem nextItem (O : CxOk X) (hh : A.handled = none) {lo : Heap} (T : At X hb Sb Γ env σ S s) (hlo : ∀ a, lo.get? a = none → hb.get? a = none) {it : Value} {tup : Bool} {d : PyData} {r : List PyData} (I : ItAt lo S s.heap it tup (d :: r))
    {target : Expr} (ht : tup = true → ∃ es k p, target = .Tuple es k p) {N : Shared → Prop} {K : Value → Shared → Prop} {E' : Value → Shared → Prop}
    (hQ : ∀ v S' s', At X hb Sb Γ env σ S' s' → ItStep lo S s S' s' → ItAt lo S' s'.heap it tup r → Rd S' v d → K v s') :
    wpAny X.M A (pyNext it) (λx s₁ =>match x with | none =>N s₁ | some v =>wpAny X.M A (letOwnedTupleGo target it v) (λ_ s₂ =>K v s₂) E' s₁) E s :=by
  have g := T.gd
  have hnew : s.heap.get? s.heap.objs.size = none := get?_size _
  have hbn : hb.get? s.heap.objs.size = none := none_back T.keep g.pH hnew
  cases I with
  | @list a l vs n i _ hn hi hS rd =>
    revert rd; refine RdAll.nextC λv p1 rv rw' =>X13 (λo ho hc hd =>?_) hi
    exact wpAny_pyNext_list_item hi (Rd.isList g.inn hS) p1 λh' hi' hs' =>X13 (λo' ho' hc' hd' =>X02 (λT' st =>letOwned_other ho' hc' hd' (by decide) (hQ v S _ T' st (.list hn hi' hS rw') rv)) (one_change O T hlo (t := s.toks) hn ho hc (by decide) hd hs'.extBut)) hi'
  | @tuple a l vs n i _ hn hi hS rd =>
    revert rd; refine RdAll.nextC λv p1 rv rw' =>X13 (λo ho hc hd =>?_) hi
    exact wpAny_pyNext_tuple_item hi ⟨_, g.inn _ _ hS, rfl, n, rfl⟩ p1 λh' hi' hs' =>X13 (λo' ho' hc' hd' =>X02 (λT' st =>letOwned_other ho' hc' hd' (by decide) (hQ v S _ T' st (.tuple hn hi' hS rw') rv)) (one_change O T hlo (t := s.toks) hn ho hc (by decide) hd hs'.extBut)) hi'
  | @range a x left step _ hn hi e =>
    have hl : 0 < left := Int.not_le.mp λh =>by rw [Int.toNat_of_nonpos h] at e; exact lnC e
    refine X11 (λm hm =>?_) (Int.eq_succ_of_zero_lt hl)
    subst hm
    rw [show ((m : Int) + 1).toNat = m + 1 from rfl, List.range_succ_eq_map, List.map_cons, List.map_map] at e
    refine wpAny_pyNext_range_item hi hl λh' hi' hs' =>X02 (λT' st =>?_) (one_change O T hlo (t := s.toks + 1) hn hi rfl (by decide) rfl hs'.extBut)
    refine letOwned_other hi' rfl rfl (by decide) (hQ _ S _ T' st (.range hn hi' ((List.cons.inj e).2.trans ?_)) ((List.cons.inj e).1 ▸ ?_))
    · rw [show ((m : Int) + 1 - 1).toNat = m from congrArg Int.toNat (Int.add_sub_cancel (m : Int) 1)]
      refine List.map_congr_left λi _ =>congrArg PyData.int ?_
      show x + step * ((i : Int) + 1) = x + step + step * (i : Int)
      rw [Int.mul_add, Int.mul_one, Int.add_assoc, Int.add_comm step]
    · rw [show x + step * ((0 : Nat) : Int) = x from (congrArg (x + ·) (Int.mul_zero step)).trans (Int.add_zero x)]; exact .int _ _
  | @zip z TI TO i1 i2 l1 l2 k1 k2 vs ws n1 n2 xs ys a b D hz hTI hTO h1 h2 iz iTI iTO ii1 ii2 sTO sl1 sl2 r1 r2 _ eds =>
    refine zipD_cons eds λx xs' y ys' ex ey ed er =>?_
    subst ex; subst ey
    revert r1; refine RdAll.nextC λv p1 rv rvs =>?_
    revert r2; refine RdAll.nextC λu q1 ru rus =>?_
    refine X31 (λes kk pp et =>?_) (ht rfl)
    rw [et]
    refine wpAny_pyNext_zip_item D iz iTI iTO ii1 ii2 (Rd.isList g.inn sl1) (Rd.isList g.inn sl2) p1 q1 λh' jz jTO j1 j2 jn jsz jk =>wpAny_letOwnedTupleGo_zip jz λh'' kz ks =>?_
    have hnz : s.heap.objs.size ≠ z := λq =>nos ((q ▸ hnew).symm.trans iz)
    have hTOn : TO ≠ s.heap.objs.size := λq =>nos (hnew.symm.trans (q ▸ iTO))
    have kk' : ∀ c o, ¬ (c = z ∨ c = TO ∨ c = i1 ∨ c = i2) → s.heap.get? c = some o → h''.get? c = some o := λc o nc e =>or4 nc λn1 n2 n3 n4 =>(ks.2 c n1).trans (jk c o n1 n2 n3 n4 e)
    refine X02 (λT1 st1 =>?_) (it_change O T hlo (t := s.toks) kk' (zipTurn g hz hTO h1 h2 iz iTO ii1 ii2 sTO))
    refine X02 (λT2 st2 =>?_) (put_it T1 st1 hnew ((ks.2 _ hnz).trans jn) g.fresh hbn)
    have hle := st2.le
    exact hQ _ _ _ T2 st2 (.zip D hz hTI hTO h1 h2 kz (kk' TI _ (fun q => q.elim D.TIz fun q => q.elim D.TITO fun q => q.elim D.TIi1 D.TIi2) iTI) ((ks.2 _ D.TOz).trans jTO) (j1.extBut ks.extBut D.i1z) (j2.extBut ks.extBut D.i2z) ((if_neg hTOn).trans sTO) (hle _ _ sl1) (hle _ _ sl2) (rvs.le hle) (rus.le hle) er)
      (ed ▸ .tuple (vs := #[v, u]) (n := 0) Store.put_self (.cons (rv.le hle) (.cons (ru.le hle) .nil)))
  | @enum e i l vs n k old xs hks hei he hi ie ii sl rd _ eds =>
    refine enumD_cons eds λx xs' ex ed er =>?_
    subst ex
    revert rd; refine RdAll.nextC λv p1 rv rvs =>?_
    refine X31 (λes kk pp et =>?_) (ht rfl)
    rw [et]
    have sl' := g.inn _ _ sl
    have hle' : e ≠ l := fun q => absurd (congrArg Obj.cls (uq ie (q ▸ sl'))) (show ¬ (Value.type "enumerate" = Value.type "tuple") by decide)
    have hli : l ≠ i := λq =>X13 (λo ho hc hd =>fldSeq (hd.symm.trans (congrArg Obj.data (uq ho (q ▸ sl'))))) ii
    refine wpAny_pyNext_enum_itemD (drawsTuple (A := A.in1) hh i l hli vs) ie ⟨ii, ⟨_, sl', rfl, n, rfl⟩⟩ (getLt p1) hei (λq =>(List.mem_cons.mp q).elim hei λq =>hle' (List.mem_singleton.mp q)) λy h' tk hy je jst jn jsz jk =>wpAny_letOwnedTupleGo_enum je λh'' ke ks =>?_
    have hyv := uq p1 hy
    subst hyv
    have hne : s.heap.objs.size ≠ e := λq =>nos ((q ▸ hnew).symm.trans ie)
    refine X02 (λT1 st1 =>?_) (it_change O T hlo (t := tk + 1) (λc o nc q =>or2 nc λn1 n2 =>(ks.2 c n1).trans (jk c o n1 n2 q)) (enumTurn g he hi ie ii))
    refine X02 (λT2 st2 =>?_) (put_it T1 st1 hnew ((ks.2 _ hne).trans jn) g.fresh hbn)
    have hle := st2.le
    exact hQ _ _ _ T2 st2 (.enum (getLt p1) hei he hi ke (jst.1.extBut ks.extBut (Ne.symm hei)) (hle _ _ sl) (rvs.le hle) er) (ed ▸ .tuple (vs := #[.int k tk, v]) (n := 0) Store.put_self (.cons (.int _ _) (.cons (rv.le hle) .nil)))
theorem zipD_nil {xs ys : List PyData} (h : [] = zipD xs ys) : xs = [] ∨ ys = [] :=by
  cases xs with
  | nil =>exact .inl rfl
  | cons x xs' =>
    cases ys with
    | nil =>exact .inr rfl
    | cons y ys' =>exact nlC (show [] = _ :: _ from h)
theorem drop_nil {α : Type} {l : List α} {i : Nat} (h : l.drop i = []) : l[i]? = none := List.getElem?_eq_none_iff.mpr (List.drop_eq_nil_iff.mp h)
theorem nextEnd (O : CxOk X) {k : Nat} (R : Room A k) {lo : Heap} (T : At X hb Sb Γ env σ S s) (hlo : ∀ a, lo.get? a = none → hb.get? a = none) {it : Value} {tup : Bool} (I : ItAt lo S s.heap it tup [])
    {N : Shared → Prop} {K : Value → Shared → Prop} (hQ : ∀ s', At X hb Sb Γ env σ S s' → ItStep lo S s S s' → N s') :
    wpAny X.M A (pyNext it) (λx s₁ =>match x with | none =>N s₁ | some v =>K v s₁) E s :=by
  have g := T.gd
  cases I with
  | @list a l vs n i _ hn hi hS rd =>
    refine X13 (λo ho hc hd =>?_) hi
    exact wpAny_pyNext_list_end R.handled hi (Rd.isList g.inn hS) (Array.getElem?_eq_none rd.lastLe) λh' hk =>X02 (λT' st =>hQ _ T' st) (one_change O T hlo (t := s.toks) hn ho hc (by decide) hd hk)
  | @tuple a l vs n i _ hn hi hS rd =>
    refine X13 (λo ho hc hd =>?_) hi
    exact wpAny_pyNext_tuple_end R.handled hi ⟨_, g.inn _ _ hS, rfl, n, rfl⟩ (Array.getElem?_eq_none rd.lastLe) λh' hk =>X02 (λT' st =>hQ _ T' st) (one_change O T hlo (t := s.toks) hn ho hc (by decide) hd hk)
  | @range a x left step _ hn hi e =>
    have hl : left ≤ 0 := Int.not_lt.mp λh =>by
      refine X11 (λm hm =>?_) (Int.eq_succ_of_zero_lt h)
      subst hm
      rw [show ((m : Int) + 1).toNat = m + 1 from rfl, List.range_succ_eq_map] at e; exact nlC e
    exact wpAny_pyNext_range_end R.handled hi hl λh' hk =>X02 (λT' st =>hQ _ T' st) (one_change O T hlo (t := s.toks) hn hi rfl (by decide) rfl hk)
  | @zip z TI TO i1 i2 l1 l2 k1 k2 vs ws n1 n2 xs ys a b D hz hTI hTO h1 h2 iz iTI iTO ii1 ii2 sTO sl1 sl2 r1 r2 _ eds =>
    refine wpAny_pyNext_zip_end R.handled D iz iTI iTO ii1 ii2 (Rd.isList g.inn sl1) (Rd.isList g.inn sl2) ?_ λh' jk =>?_
    · exact (zipD_nil eds).elim (λq =>.inl (Array.getElem?_eq_none (RdAll.lastLe (q ▸ r1)))) λq =>.inr (Array.getElem?_eq_none (RdAll.lastLe (q ▸ r2)))
    · exact X02 (λT' st =>hQ _ T' st) (it_change O T hlo (t := s.toks) (λc o nc e =>or4 nc λn1 n2 n3 n4 =>jk c o n1 n2 n3 n4 e) (zipTurn g hz hTO h1 h2 iz iTO ii1 ii2 sTO))
  | @enum e i l vs n k old xs hks hei he hi ie ii sl rd _ eds =>
    have sl' := g.inn _ _ sl
    have hli : l ≠ i := λq =>X13 (λo ho hc hd =>fldSeq (hd.symm.trans (congrArg Obj.data (uq ho (q ▸ sl'))))) ii
    have hk' : k = vs.size := Nat.le_antisymm hks (RdAll.lastLe (enumD_nil eds ▸ rd))
    subst hk'
    exact X13 (λoi hoi hci hdi =>wpAny_pyNext_enum_endD (drawsTuple (A := A.in1) R.handled i l hli vs) ie ⟨ii, ⟨_, sl', rfl, n, rfl⟩⟩ λh' hk =>X02 (λT' st =>hQ _ T' st) (one_change O T hlo (t := s.toks) hi hoi hci (by decide) hdi hk)) ii
end
end Mine
end
section
namespace Mine
open PySem PySem.Spec PyProof.Rows PySem.W
noncomputable def EvOk (X : Cx) (k : Nat) (Γ : Sc) (e : Expr) (ρ : Loc) (d : PyData) : Prop :=
  ∀ {hb : Heap} {Sb : Store} {env : Env} {ω : Option (Str × List PyData)} {S : Store} {s : Shared} {A : Around} {Q : Value → Shared → Prop} {E : Value → Shared → Prop},
    Room A k → At X hb Sb Γ env ⟨ρ, ω⟩ S s → (∀ v S' s', Step X S s S' s' → Rd S' v d → Q v s') → wpAny X.M A (eval e env) Q E s
noncomputable def TsOk (X : Cx) (k : Nat) (Γ : Sc) (e : Expr) (ρ : Loc) (t : Bool) : Prop :=
  ∀ {hb : Heap} {Sb : Store} {env : Env} {ω : Option (Str × List PyData)} {S : Store} {s : Shared} {A : Around} {Q : Bool → Shared → Prop} {E : Value → Shared → Prop},
    Room A k → At X hb Sb Γ env ⟨ρ, ω⟩ S s → (∀ S' s', Step X S s S' s' → Q t s') → wpAny X.M A (isTrue e env (eval e env)) Q E s
structure VOk (X : Cx) (k : Nat) (V : EvT) : Prop where
  ev : ∀ {Γ e ρ d}, V.ev Γ e ρ = some d → EvOk X k Γ e ρ d
  ts : ∀ {Γ e ρ t}, V.ts Γ e ρ = some t → TsOk X k Γ e ρ t
noncomputable def CallOk (X : Cx) (k : Nat) (f : Str) (ds : List PyData) (d : PyData) : Prop :=
  ∃ fv, GlobIs X f fv ∧ Plain X fv ∧ ∀ {S : Store} {s : Shared} {vs : List Value} {A : Around} {Q : Value → Shared → Prop} {E : Value → Shared → Prop},
    Room A k → Gd X S s → RdAll S vs ds → (∀ v S' s', Step X S s S' s' → Rd S' v d → Q v s') → wpAny X.M A (call fv vs) Q E s
noncomputable def MethOk (X : Cx) (k : Nat) (self : PyData) (m : Str) (ds : List PyData) (d : PyData) : Prop :=
  ∃ id, (∀ {S : Store} {s : Shared} {v : Value} {pl : Sem Bool} {A : Around} {Q : Value × List Value → Shared → Prop} {E : Value → Shared → Prop}, Gd X S s → Rd S v self → Q (.builtin id, [v]) s → wpAny X.M A (getMethod v m pl) Q E s) ∧
    ∀ {S : Store} {s : Shared} {v : Value} {vs : List Value} {A : Around} {Q : Value → Shared → Prop} {E : Value → Shared → Prop},
      Room A k → Gd X S s → Rd S v self → RdAll S vs ds → (∀ v S' s', Step X S s S' s' → Rd S' v d → Q v s') → wpAny X.M A (call (.builtin id) (v :: vs)) Q E s
structure GlOk (X : Cx) (k : Nat) (G : Gl) : Prop where
  glob : ∀ {x d}, G.glob x = some d → ∃ fv, GlobIs X x fv ∧ Rd X.S₀ fv d
  call : ∀ {f ds d}, G.call f ds = some d → CallOk X k f ds d
  meth : ∀ {self m ds d}, G.meth self m ds = some d → MethOk X k self m ds d
  range : GlobIs X (Str.ofString "range") (.type "range")
  zip : GlobIs X (Str.ofString "zip") (.type "zip")
  enum : GlobIs X (Str.ofString "enumerate") (.type "enumerate")
  isinst : GlobIs X (Str.ofString "isinstance") (.builtin "isinstance")
  bool : GlobIs X (Str.ofString "bool") (.type "bool")
  plat : ∃ a o fd, GlobIs X (Str.ofString "_platform") (.ref a) ∧ X.h₁.get? a = some o ∧ a ≠ X.P ∧ o.data = .func fd
section
variable {X : Cx} {k : Nat} {V : EvT} {G : Gl} {hb : Heap} {Sb S S' S'' : Store} {Γ : Sc} {env : Env} {ω : Option (Str × List PyData)} {ρ : Loc} {σ : St} {s s' s'' : Shared} {A : Around} {E : Value → Shared → Prop} {Q : Value → Shared → Prop}
theorem starEach_plain {e : Expr} {rest : List Expr} {env : Env} (h : isStar e = false) : starEach (e :: rest) env = (false, eval e env) :: starEach rest env :=by
  cases e with
  | Starred a p =>exact tnf h
  | _ =>rfl
theorem evListC {ev : Expr → Option PyData} {e : Expr} {r : List Expr} {ds : List PyData} {G : Prop} (k : isStar e = false → ∀ d ds', ev e = some d → evList ev r = some ds' → ds = d :: ds' → G) (h : evList ev (e :: r) = some ds) : G :=by
  revert h; exact ifnC λhs =>bsC λd h1 =>bsC λds' h2 h =>k (Bool.eq_false_iff.mpr hs) d ds' h1 h2 (Option.some.inj h).symm
theorem evList_cons {ev : Expr → Option PyData} {e : Expr} {r : List Expr} {ds : List PyData} (h : evList ev (e :: r) = some ds) : isStar e = false ∧ ∃ d ds', ev e = some d ∧ evList ev r = some ds' ∧ ds = d :: ds' := evListC (λa d ds' h1 h2 h3 =>⟨a, d, ds', h1, h2, h3⟩) h
theorem listOk (VO : VOk X k V) {pos : Pos} {es : List Expr} : ∀ {ds : List PyData}, evList (fun e => V.ev Γ e ρ) es = some ds → ∀ {S : Store} {s : Shared} {A : Around} {Q : List Value → Shared → Prop} {E : Value → Shared → Prop},
    Room A k → At X hb Sb Γ env ⟨ρ, ω⟩ S s → (∀ vs S' s', Step X S s S' s' → RdAll S' vs ds → Q vs s') → wpAny X.M A (spliced (backTo pos (starEach es env))) Q E s :=by
  induction es with
  | nil =>exact λh _ _ _ _ _ R T hQ =>args_nil (hQ _ _ _ (.refl T.gd) (Option.some.inj h ▸ .nil))
  | cons e r ih =>
    exact λh _ _ _ _ _ R T hQ =>evListC (λhne d ds' h1 h2 e =>args_cons (VO.ev h1 R T λv S₁ s₁ a rv =>ih h2 R (T.step a) λvs S₂ s₂ b rs =>hQ _ _ _ (a.trans b) (by rw [e]; exact .cons (rv.le b.le) rs)) (starEach_plain hne)) h
theorem not_set_folded {e : Expr} (h : Nat.beq e.ctorIdx 7 = false) (env : Env) (x : Value) : foldedSetIterable e env x = pure x :=by
  cases e with
  | Set a b c =>exact tnf h
  | _ =>rfl
theorem Room.low (R : Room A k) : Room A 0 := ⟨R.handled, R.guards, R.frames, Nat.le_trans (Nat.add_le_add_left (Nat.zero_le k) _) R.depth, Nat.le_trans (Nat.add_le_add_left (Nat.zero_le _) _) R.units⟩
theorem plainArgs {ev : Expr → Option PyData} {pos : Pos} {es : List Expr} : ∀ {ds : List PyData}, evList ev es = some ds → ((backTo pos (starEach es env)).any λx =>x.1) = false :=by
  induction es with
  | nil =>exact λ_ =>rfl
  | cons e r ih =>exact λh =>evListC (λhne d ds' h1 h2 _ =>by rw [starEach_plain hne]; exact ih h2) h
theorem callGlob (O : CxOk X) (VO : VOk X k V) {f : Str} {p pos : Pos} {fv : Value} {args : List Expr} (R : Room A k) (T : At X hb Sb Γ env ⟨ρ, ω⟩ S s) (hk : Γ.names.lookup f = some .globalImplicit) (hg : GlobIs X f fv) (hp : Plain X fv)
    (hd : f ≠ Str.ofString "__debug__") (hne : args ≠ []) {ds : List PyData} (h1 : evList (fun e => V.ev Γ e ρ) args = some ds)
    (h : ∀ vs S' s', Step X S s S' s' → RdAll S' vs ds → wpAny X.M A (call fv vs) Q E s') : wpAny X.M A (eval (.Call (.Name f p) args [] pos) env) Q E s :=by
  refine Call_ (evalGlob O T hk hg (by simpa using hd) ?_) rfl
  cases args with
  | nil =>exact absurd rfl hne
  | cons e rest =>
    refine evListC (λhs _ _ _ h2 _ =>?_) h1
    have he := starEach_plain (rest := rest) (env := env) hs
    exact hp.elim (X11 λid q =>q ▸ callWith_builtin1 (listOk VO h1 R T λvs S' s' st r =>q ▸ h vs S' s' st r) he (plainArgs h2)) λhp =>hp.elim (X11 λT' q =>q ▸ callWith_type1 (listOk VO h1 R T λvs S' s' st r =>q ▸ h vs S' s' st r) he (plainArgs h2)) (X34 λa o fd q ho hP hfd =>q ▸ callWith_def hfd (listOk VO h1 R T λvs S' s' st r =>⟨st.gd.base a o hP ho, q ▸ h vs S' s' st r⟩) he)
theorem fitsL {i : Int} (h : -10000 ≤ i) (h' : i ≤ 10000) : Builtin.Range.rangeFitsLong i = true := Bool.and_eq_true_iff.mpr ⟨decide_eq_true (Int.le_trans (by decide) h), decide_eq_true (Int.lt_of_le_of_lt h' (by decide))⟩
theorem rangeSmall {a b c : Int} (hc : 0 < c ∧ a ≤ 1000 ∧ -1000 ≤ a ∧ b ≤ 1000 ∧ -1000 ≤ b ∧ c ≤ 1000) : Builtin.Range.small a b c = true :=by
  refine X06 (λc0 a1 a0 b1 b0 c1 =>?_) hc
  have hsz : Builtin.Range.rangeSize a b c = if a < b then (b - a - 1) / c + 1 else 0 := if_pos c0
  have h0 : 0 ≤ Builtin.Range.rangeSize a b c ∧ Builtin.Range.rangeSize a b c ≤ 2001 :=by
    rw [hsz]
    by_cases hab : a < b
    · have hp : 0 ≤ b - a - 1 := by omega
      rw [if_pos hab]
      exact ⟨Int.add_nonneg (Int.ediv_nonneg hp (Int.le_of_lt c0)) (by decide), Int.add_le_add_right (Int.le_trans (Int.ediv_le_self c hp) (show b - a - 1 ≤ 2000 by omega)) 1⟩
    · rw [if_neg hab]; decide
  unfold Builtin.Range.small
  rw [if_pos c0, fitsL (Int.le_trans (by decide) a0) (Int.le_trans a1 (by decide)), fitsL (Int.le_trans (by decide) b0) (Int.le_trans b1 (by decide)), fitsL (Int.le_trans (by decide) (Int.le_of_lt c0)) (Int.le_trans c1 (by decide)), fitsL (Int.le_trans (by decide) h0.1) (Int.le_trans h0.2 (by decide)),
    fitsL (i := b + (c - 1)) (Int.le_trans (by decide) (Int.add_le_add b0 (Int.sub_nonneg_of_le c0))) (Int.le_trans (Int.add_le_add b1 (Int.sub_le_self c (by decide))) (Int.le_trans (Int.add_le_add_left c1 _) (by decide))), Bool.or_true]
  rfl
theorem dGlobC {e : Expr} {c : Str × List Expr} {H : Prop} (k : ∀ p pos, e = .Call (.Name c.1 p) c.2 [] pos → Γ.names.lookup c.1 = some .globalImplicit → H) (h : dGlob Γ e = some c) : H :=by
  revert h; refine bsC λc' h1 =>bsC λf h2 =>ifsC λhl h =>?_
  rw [← Option.some.inj h] at k
  exact X11 (λp e2 =>k p c'.2.2 ((dCall_eq h1).trans (congrArg (Expr.Call · c'.2.1 [] c'.2.2) e2)) hl) (dName_eq h2)
theorem itemsIter (O : CxOk X) {v : Value} {d : PyData} {ds : List PyData} (a : Step X S s S' s') (rv : Rd S' v d) (h : itemsD d = some ds) (hQ : ∀ it S' s', Step X S s S' s' → ItAt s.heap S' s'.heap it false ds → Q it s') : wpAny X.M A (pyIter v) Q E s' :=by
  have hnew : s.heap.get? s'.heap.objs.size = none := none_back a.ext a.gd.pH (get?_size _)
  revert h; refine ifDC (λxs h1 h =>rv.asL h1 λl vs n hl rl =>?_) λ_ h =>rv.asT h λl vs n hl rl =>?_
  · exact wpAny_pyIter_list (Rd.isList a.gd.inn hl) (hQ _ _ _ (a.trans (Step.push O a.gd _ s'.toks)) (.list hnew ⟨_, Heap.get?_push_size _ rfl, rfl, rfl⟩ hl (Option.some.inj h ▸ rl)))
  · exact wpAny_pyIter_tuple ⟨_, a.gd.inn _ _ hl, rfl, n, rfl⟩ (hQ _ _ _ (a.trans (Step.push O a.gd _ s'.toks)) (.tuple hnew ⟨_, Heap.get?_push_size _ rfl, rfl, rfl⟩ hl rl))
theorem rangeIter (O : CxOk X) {a b c : Int} {t u v : Tok} {ds : List PyData} {r : Addr} (st : Step X S s S' s') (hr : IsRange s'.heap r a b c t u v) (h : rangeD a b c = some ds) (hQ : ∀ it S' s', Step X S s S' s' → ItAt s.heap S' s'.heap it false ds → Q it s') :
    wpAny X.M A (pyIter (.ref r)) Q E s' :=by
  revert h; refine ifsC λhc h =>?_
  refine wpAny_pyIter_range hr (rangeSmall hc) (hQ _ _ _ (st.trans (Step.push O st.gd _ s'.toks)) (.range (none_back st.ext st.gd.pH (get?_size _)) (Heap.get?_push_size _ rfl) ?_))
  rw [← Option.some.inj h, show Builtin.Range.rangeSize a b c = if a < b then (b - a - 1) / c + 1 else 0 from if_pos hc.1]
  exact congrArg (λn =>(List.range n).map λ(i : Nat) =>PyData.int (a + c * (i : Int))) (apply_ite Int.toNat (a < b) _ 0).symm
theorem zipApart {z l1 l2 : Nat} (h1 : l1 < z) (h2 : l2 < z) : ZipApart (z + 4) (z + 2) (z + 3) z (z + 1) l1 l2 :=by
  have k : ∀ {i j : Nat}, i ≠ j → z + i ≠ z + j := λn h =>n (Nat.add_left_cancel h)
  have l : ∀ {a : Nat} (i : Nat), a < z → a ≠ z + i := λi h =>Nat.ne_of_lt (Nat.lt_add_right i h)
  exact ⟨k (by decide), k (by decide), k (i := 0) (by decide), k (by decide), k (by decide), k (j := 0) (by decide), k (by decide), k (j := 0) (by decide), k (by decide), k (i := 0) (by decide), l 4 h1, l 3 h1, l 0 h1, l 1 h1, l 4 h2, l 3 h2, l 0 h2, l 1 h2⟩
theorem zipIter (O : CxOk X) {vs : List Value} {as ds : List PyData} (st : Step X S s S' s') (r : RdAll S' vs as) (h : zipA as = some ds) (hQ : ∀ it S' s', Step X S s S' s' → ItAt s.heap S' s'.heap it true ds → Q it s') : wpAny X.M A (call (.type "zip") vs) (fun x s₁ => wpAny X.M A (pyIter x) Q E s₁) E s' := by
  revert h; refine bsC λt h0 =>bsC λxs h1 =>bsC λys h2 h =>?_
  rw [d2_eq h0] at r
  revert r; refine RdAll.consC λv ws e1 rv =>RdAll.consC λv2 ws2 e2 rv2 r =>?_
  rw [e1, e2, r.nil_inv]
  refine rv.asL h1 λl1 vs1 n1 hl1 rl1 =>rv2.asL h2 λl2 vs2 n2 hl2 rl2 =>call_zip_2 (Rd.isList st.gd.inn hl1) (Rd.isList st.gd.inn hl2) λh' iz iTI iTO ii1 ii2 hsz hk' =>wpAny_pyIter_zip iz ?_
  have nn : ∀ k, s'.heap.get? (s'.heap.objs.size + k) = none := λk =>by
    cases q : s'.heap.get? (s'.heap.objs.size + k) with
    | none =>rfl
    | some o =>exact absurd (Heap.lt_size q) (Nat.not_lt.mpr (Nat.le_add_right _ _))
  have ns : ∀ k, s.heap.get? (s'.heap.objs.size + k) = none := λk =>none_back st.ext st.gd.pH (nn k)
  have g' : Gd X S' { s' with heap := h', toks := s'.toks } := st.gd.change O.tabOk (fp := λ_ =>False) (λa o _ e =>hk' a o e) (λa q =>q.elim)
  have st' : Step X S' s' S' { s' with heap := h' } := ⟨g', .refl _, .of λa o _ e =>hk' a o e, λ_ _ e =>.inl e⟩
  refine hQ _ _ _ (st.trans st') (.zip (lo := s.heap) (zipApart (Heap.lt_size (st.gd.inn _ _ hl1)) (Heap.lt_size (st.gd.inn _ _ hl2))) (ns 4) (ns 2) (ns 3) (ns 0) (ns 1) iz iTI iTO ii1 ii2 ?_ hl1 hl2 rl1 rl2 (Option.some.inj h).symm)
  cases q : S' (s'.heap.objs.size + 3) with
  | none =>rfl
  | some o =>exact nos ((nn 3).symm.trans (st.gd.inn _ o q))
theorem enumIter (O : CxOk X) {vs : List Value} {as ds : List PyData} (st : Step X S s S' s') (r : RdAll S' vs as) (h : enumA as = some ds) (hQ : ∀ it S' s', Step X S s S' s' → ItAt s.heap S' s'.heap it true ds → Q it s') : wpAny X.M A (call (.type "enumerate") vs) (fun x s₁ => wpAny X.M A (pyIter x) Q E s₁) E s' := by
  revert h; refine bsC λt h0 =>bsC λxs h1 h =>?_
  rw [d1_eq h0] at r
  revert r; refine RdAll.consC λv ws e1 rv r =>?_
  rw [e1, r.nil_inv]
  refine rv.asT h1 λl vs1 n1 hl rl =>call_enumerate_tuple (st.gd.inn _ _ hl) ?_
  have st1 := Step.push O st.gd { cls := .type "tuple_iterator", data := .fields #[.ref l, .int 0 0] } s'.toks
  have st2 := st1.trans (Step.push O st1.gd { cls := .type "enumerate", data := .fields #[.none, .bool false, .ref s'.heap.objs.size, rawInt 0, .none, .none] } s'.toks)
  have hz : (s'.heap.push { cls := .type "tuple_iterator", data := .fields #[.ref l, .int 0 0] }).objs.size = s'.heap.objs.size + 1 := Heap.size_push ..
  have he := Heap.get?_push_size (s'.heap.push { cls := .type "tuple_iterator", data := .fields #[.ref l, .int 0 0] })
    (o := { cls := .type "enumerate", data := .fields #[.none, .bool false, .ref s'.heap.objs.size, rawInt 0, .none, .none] }) rfl
  have n1 : s.heap.get? _ = none := none_back (st.trans st1).ext st1.gd.pH (get?_size _)
  rw [hz] at he n1
  exact wpAny_pyIter_enum he (hQ _ _ _ (st.trans st2) (.enum (Nat.zero_le _) (Nat.succ_ne_self _) n1 (none_back st.ext st.gd.pH (get?_size _)) he ⟨_, Heap.get?_push_of_some _ (Heap.get?_push_size _ rfl), rfl, rfl⟩ hl rl (Option.some.inj h).symm))
theorem rangeAIter (O : CxOk X) {vs : List Value} {as ds : List PyData} (st : Step X S s S' s') (r : RdAll S' vs as) (h : rangeA as = some ds) (hQ : ∀ it S' s', Step X S s S' s' → ItAt s.heap S' s'.heap it false ds → Q it s') : wpAny X.M A (call (.type "range") vs) (fun x s₁ => wpAny X.M A (pyIter x) Q E s₁) E s' := by
  revert h; refine ifDC (λb h0 =>bsC λi h1 h =>?_) λ_ =>bsC λt h0 =>bsC λa h1 =>bsC λb h2 =>bsC λc h3 h =>?_
  · rw [d1_eq h0] at r
    revert r; refine RdAll.consC λv ws e1 rv r =>?_
    rw [e1, r.nil_inv]
    exact rv.asI h1 λt =>call_range_1 (rangeIter O (st.trans (Step.push O st.gd _ _)) (Heap.get?_push_size _ rfl) h hQ)
  · rw [d3_eq h0] at r
    revert r; refine RdAll.consC λv ws e1 rv =>RdAll.consC λv2 ws2 e2 rv2 =>RdAll.consC λv3 ws3 e3 rv3 r =>?_
    rw [e1, e2, e3, r.nil_inv]
    refine rv.asI h1 λt =>rv2.asI h2 λt2 =>rv3.asI h3 λt3 =>?_
    have hc : 0 < c ∧ c ≤ 1000 := ifsC (λz _ =>⟨z.1, z.2.2.2.2.2⟩) h
    exact call_range_3 (Int.ne_of_gt hc.1) (rangeIter O (st.trans (Step.push O st.gd _ s'.toks)) (Heap.get?_push_size _ rfl) h hQ) (.inl (PyProof.noPylong_small (by omega)))
theorem iterOk (O : CxOk X) (GO : GlOk X k G) (VO : VOk X k V) {e : Expr} {ds : List PyData} (h : iterE V Γ e ρ = some ds) (R : Room A k) (T : At X hb Sb Γ env ⟨ρ, ω⟩ S s)
    (hQ : ∀ it S' s', Step X S s S' s' → ItAt s.heap S' s'.heap it (iterTup Γ e) ds → Q it s') :
    (∀ x, foldedSetIterable e env x = pure x) ∧ wpAny X.M A (eval e env) (λx s₁ =>wpAny X.M A (pyIter x) Q E s₁) E s :=by
  have plain : iterTup Γ e = false → plainI V Γ e ρ = some ds → (∀ x, foldedSetIterable e env x = pure x) ∧ wpAny X.M A (eval e env) (λx s₁ =>wpAny X.M A (pyIter x) Q E s₁) E s := λht =>by
    rw [ht] at hQ
    exact ifnC λhs =>bsC λd h1 h2 =>⟨not_set_folded (Bool.eq_false_iff.mpr hs) env, VO.ev h1 R T λv S₁ s₁ a rv =>itemsIter O a rv h2 hQ⟩
  revert h; refine ifDC (λc hc =>?_) λhc h =>plain (by unfold iterTup; rw [hc]; rfl) h
  have ht : iterTup Γ e = decide (c.1 = Str.ofString "zip" ∨ c.1 = Str.ofString "enumerate") := congrArg (ifD · (fun c : Str × List Expr => decide (c.1 = Str.ofString "zip" ∨ c.1 = Str.ofString "enumerate")) false) hc
  rw [ht] at hQ plain
  have glob : ∀ {T' : String} {A' : List PyData → Option (List PyData)}, GlobIs X c.1 (.type T') → c.1 ≠ Str.ofString "__debug__" → A' [] = none → (evList (fun e => V.ev Γ e ρ) c.2).bind A' = some ds →
      (∀ {vs as S₁ s₁}, Step X S s S₁ s₁ → RdAll S₁ vs as → A' as = some ds → wpAny X.M A (call (.type T') vs) (λx s₁ =>wpAny X.M A (pyIter x) Q E s₁) E s₁) →
      (∀ x, foldedSetIterable e env x = pure x) ∧ wpAny X.M A (eval e env) (λx s₁ =>wpAny X.M A (pyIter x) Q E s₁) E s := λhg hd hA h hc' =>by
    revert h; refine bsC λas h1 h2 =>dGlobC (λp pos ee hk =>?_) hc
    rw [ee]
    exact ⟨λ_ =>rfl, callGlob O VO R T hk hg (.inr (.inl ⟨_, rfl⟩)) hd (λq =>by rw [q] at h1; rw [← Option.some.inj h1, hA] at h2; exact nos h2) h1 λvs S₁ s₁ st r =>hc' st r h2⟩
  refine iteC (λhf h =>?_) λhf =>iteC (λhz h =>?_) λhz =>iteC (λhe h =>?_) λhe h =>plain (decide_eq_false λq =>q.elim hz he) h
  · rw [hf] at hQ glob
    exact glob GO.range (by decide) rfl h λst r h =>rangeAIter O st r h hQ
  · rw [hz] at hQ glob
    exact glob GO.zip (by decide) rfl h λst r h =>zipIter O st r h hQ
  · rw [he] at hQ glob
    exact glob GO.enum (by decide) rfl h λst r h =>enumIter O st r h hQ
end
end Mine
end
section
namespace Mine
open PySem PySem.Spec PyProof.Rows PySem.W
inductive Names (Γ : Sc) : List Expr → List PyData → St → St → Prop
  | nil {σ} : Names Γ [] [] σ σ
  | cons {x p ts d ds σ σ₁ σ'} : Γ.mayStore x = true → Sets σ x d σ₁ → Names Γ ts ds σ₁ σ' → Names Γ (.Name x p :: ts) (d :: ds) σ σ'
section
variable {X : Cx} {k : Nat} {V : EvT} {G : Gl} {hb : Heap} {Sb S S' S'' : Store} {Γ : Sc} {env : Env} {ω : Option (Str × List PyData)} {ρ : Loc} {σ σ' : St} {s s' s'' : Shared} {A : Around} {E : Value → Shared → Prop}
theorem Names.length {ts : List Expr} {ds : List PyData} (h : Names Γ ts ds σ σ') : ts.length = ds.length :=by
  induction h with
  | nil =>rfl
  | cons _ _ _ ih =>simp [ih]
theorem Names.noStar {ts : List Expr} {ds : List PyData} (h : Names Γ ts ds σ σ') : (assignEach ts env).findIdx? (·.1) = none ∧ (assignEach ts env).length = ts.length :=by
  induction h with
  | nil =>exact ⟨rfl, rfl⟩
  | @cons x p ts d ds _ _ _ _ _ _ ih =>
    have e : assignEach (.Name x p :: ts) env = (false, assign (.Name x p) env) :: assignEach ts env := rfl
    rw [e]
    exact ⟨by rw [List.findIdx?_cons]; simp [ih.1], by simp [ih.2]⟩
theorem assignsOk (O : CxOk X) {ts : List Expr} {ds : List PyData} (N : Names Γ ts ds σ σ') : ∀ {s : Shared} {vs : List Value} {Q : Unit → Shared → Prop}, At X hb Sb Γ env σ S s → RdAll S vs ds →
    (∀ s', At X hb Sb Γ env σ' S s' → Nk s s' → Q () s') → wpAny X.M A (assignInOrder ((assignEach ts env).map (·.2)) vs) Q E s :=by
  induction N with
  | nil =>
    intro s vs Q T r h
    cases r
    exact wpAny_pure (h s T .refl)
  | @cons x p ts d ds σ σ₁ σ' hx hs _ ih =>
    intro s vs Q T r h
    obtain ⟨v, ws, rfl, rv, rw⟩ := r.cons_inv
    show wpAny X.M A (do holding ws (assign (.Name x p) env v); assignInOrder ((assignEach ts env).map (·.2)) ws) Q E s
    refine wpAny_bind (wpAny_holding (PySem.wpAny_assign_Name (storeVar O.tabOk T hx rv hs λs₁ T₁ n₁ =>?_)))
    exact ih T₁ rw λs' T' n' =>h s' T' (n₁.trans n')
theorem Step.fresh (O : CxOk X) (g : Gd X S s) {h' : Heap} {t : Nat} (hk : Heap.ExtBut s.heap.objs.size s.heap h') (ht : 0 < s.toks → 0 < t :=by first | exact id | exact λ_ =>Nat.succ_pos _ | exact λh =>Nat.lt_of_lt_of_le h (by omega)) : Step X S s S { s with heap := h', toks := t } :=by
  have hk' : ∀ a o, s.heap.get? a = some o → h'.get? a = some o := λa o e =>hk a o (λq =>by subst q; rw [get?_size] at e; exact nos e) e
  exact ⟨g.change O.tabOk (fp := λ_ =>False) (λa o _ e =>hk' a o e) (λ_ q =>q.elim) ht, .refl _, .of λa o _ e =>hk' a o e, λ_ _ e =>.inl e⟩
theorem Nk.sstep (n : Nk s s') : SStep X S s S s' := ⟨.refl _, n.fk, λ_ _ e =>.inl e, n.live⟩
theorem assignTupOk (O : CxOk X) (hh : A.handled = none) {ts : List Expr} {c : Nat} {p : Pos} {ds : List PyData} (N : Names Γ ts ds σ σ') (T : At X hb Sb Γ env σ S s) {v : Value} (r : Rd S v (.tuple ds)) {Q : Unit → Shared → Prop}
    (h : ∀ s₁ s', Step X S s S s₁ → Nk s₁ s' → At X hb Sb Γ env σ' S s' → Q () s') : wpAny X.M A (assign (.Tuple ts c p) env v) Q E s :=by
  obtain ⟨a, vs, n, rfl, hS, rs⟩ := r.tuple_inv
  rw [PyProof.Rows.assign_Tuple]
  refine wpAny_bind (wpAny_standAt (wpAny_unpack_tuple hh ⟨_, T.gd.inn _ _ hS, rfl, n, rfl⟩ ?_ N.noStar.1 λh' hk =>?_))
  · have e1 := rs.length
    simp only [Array.length_toList] at e1
    rw [N.noStar.2, N.length, e1]
  · have st := Step.fresh O T.gd (t := s.toks) hk
    exact assignsOk O N (T.step st) rs λs' T' nk =>h _ s' st nk T'
end
end Mine
end
section
namespace Mine
open PySem PySem.Spec PyProof.Rows PySem.W
noncomputable def clFrom (env : Env) : List (Str × NameKind) → List (Str × Addr) → List (Str × Addr)
  | [], acc =>acc
  | (n, k) :: r, acc =>clFrom env r (if k = .free then (n, (env.cells.lookup n).getD 0) :: acc else acc)
theorem closureFor_eq (scope : Scope) (env : Env) (h : ∀ p ∈ scope.names, p.2 = .free → (env.cells.lookup p.1).isSome = true) : closureFor scope env = pure (clFrom env scope.names []) :=by
  unfold closureFor
  have key : ∀ (names : List (Str × NameKind)) (acc : List (Str × Addr)), (∀ p ∈ names, p.2 = .free → (env.cells.lookup p.1).isSome = true) →
      (forIn names acc (λ(x : Str × NameKind) (cs : List (Str × Addr)) =>(if (x.2 == NameKind.free) = true then (do let c ← cellOf env x.1; pure (ForInStep.yield ((x.1, c) :: cs))) else pure (ForInStep.yield cs) : Sem (ForInStep (List (Str × Addr)))))) = (pure (clFrom env names acc) : Sem _) :=by
    intro names
    induction names with
    | nil =>intro acc _; rfl
    | cons p r ih =>
      intro acc hh
      obtain ⟨n, kd⟩ := p
      rw [List.forIn_cons]
      have hr := λq hq =>hh q (List.mem_cons_of_mem _ hq)
      by_cases hk : kd = .free
      · subst hk
        refine X11 (λc hc =>?_) (Option.isSome_iff_exists.mp (hh (n, .free) List.mem_cons_self rfl))
        have e1 : cellOf env n = pure c :=by unfold cellOf; rw [hc]
        simp only [beq_self_eq_true, if_true, e1, pure_bind]
        rw [ih _ hr]
        simp only [clFrom, if_true, hc, Option.getD_some]
      · have hk' : (kd == NameKind.free) = false := by simpa using hk
        simp only [hk', Bool.false_eq_true, if_false, pure_bind]
        rw [ih _ hr]
        simp only [clFrom, hk, if_false]
  first
    | exact key _ _ h
    | (rw [key _ _ h]; rfl)
    | (have := key scope.names [] h; simpa using this)
theorem clFrom_append (env : Env) : ∀ (names : List (Str × NameKind)) (acc : List (Str × Addr)), clFrom env names acc = clFrom env names [] ++ acc
  | [], acc =>rfl
  | (n, k) :: r, acc =>by
    unfold clFrom
    rw [clFrom_append env r (if k = .free then _ else acc), clFrom_append env r (if k = .free then _ else [])]
    split <;> simp
theorem cellsFrom_append : ∀ (names : List (Str × NameKind)) (n : Nat) (acc : List (Str × Addr)), cellsFrom n names acc = cellsFrom n names [] ++ acc
  | [], n, acc =>rfl
  | (nm, k) :: r, n, acc =>by
    unfold cellsFrom
    split
    · rw [cellsFrom_append r (n + 1) ((nm, n) :: acc), cellsFrom_append r (n + 1) [(nm, n)]]; simp
    · exact cellsFrom_append r n acc
theorem clFrom_mem {env : Env} : ∀ {names : List (Str × NameKind)} {x : Str} {c : Addr}, (x, c) ∈ clFrom env names [] → (x, NameKind.free) ∈ names ∧ c = (env.cells.lookup x).getD 0
  | (n, k) :: r, x, c, h =>by
    unfold clFrom at h
    rw [clFrom_append] at h
    rcases List.mem_append.mp h with h | h
    · refine X02 (fun a b => ?_) (clFrom_mem h)
      exact ⟨List.mem_cons_of_mem _ a, b⟩
    · by_cases hk : k = .free
      · subst hk
        rw [if_pos rfl] at h
        simp only [List.mem_singleton, Prod.mk.injEq] at h
        obtain ⟨rfl, rfl⟩ := h
        exact ⟨List.mem_cons_self, rfl⟩
      · rw [if_neg hk] at h; simp at h
theorem clFrom_has {env : Env} : ∀ {names : List (Str × NameKind)} {x : Str}, (x, NameKind.free) ∈ names → (x, (env.cells.lookup x).getD 0) ∈ clFrom env names []
  | (n, k) :: r, x, h =>by
    unfold clFrom
    rw [clFrom_append]
    rcases List.mem_cons.mp h with e | h
    · cases e
      exact List.mem_append_right _ (by simp)
    · exact List.mem_append_left _ (clFrom_has h)
theorem cellsFrom_has : ∀ {names : List (Str × NameKind)} {x : Str} {n : Nat}, (x, NameKind.cell) ∈ names → ∃ c, (x, c) ∈ cellsFrom n names []
  | (nm, k) :: r, x, n, h =>by
    unfold cellsFrom
    rcases List.mem_cons.mp h with e | h
    · cases e
      refine ⟨n, ?_⟩
      rw [if_pos (by rfl), cellsFrom_append]
      exact List.mem_append_right _ (by simp)
    · split
      · refine X11 (fun c hc => ?_) (cellsFrom_has (n := n + 1) h)
        refine ⟨c, ?_⟩
        rw [cellsFrom_append]
        exact List.mem_append_left _ hc
      · exact cellsFrom_has h
theorem cellsFrom_mem : ∀ {names : List (Str × NameKind)} {x : Str} {n : Nat} {c : Addr}, (x, c) ∈ cellsFrom n names [] → (x, NameKind.cell) ∈ names
  | (nm, k) :: r, x, n, c, h =>by
    unfold cellsFrom at h
    split at h
    · rename_i hk
      have hk : k = .cell :=by simpa using hk
      subst hk
      rw [cellsFrom_append] at h
      rcases List.mem_append.mp h with h | h
      · exact List.mem_cons_of_mem _ (cellsFrom_mem h)
      · simp only [List.mem_singleton, Prod.mk.injEq] at h
        obtain ⟨rfl, rfl⟩ := h
        exact List.mem_cons_self
    · exact List.mem_cons_of_mem _ (cellsFrom_mem h)
noncomputable def compCells (env : Env) (scope : Scope) (n : Nat) : List (Str × Addr) := cellsFrom n scope.names (clFrom env scope.names [])
section
variable {M : Model} {A : Around} {E : Value → Shared → Prop} {s : Shared}
theorem newCompEnv {scope : Scope} {cl : List (Str × Addr)} {env : Env} {Q : Env → Shared → Prop}
    (hQ : Q { scope := scope, locals := s.heap.objs.size, globals := env.globals, cells := cellsFrom (s.heap.objs.size + 1) scope.names cl, qual := env.qual, func := none, code := env.code, frame := env.frame, builtins := env.builtins }
      { s with heap := pushCells (s.heap.push { cls := .type "dict", data := .dict #[] }) scope.names }) :
    wpAny M A (newFunctionEnv scope env.globals cl [] env.qual none .none (some env)) Q E s :=by
  simp only [newFunctionEnv, Option.isSome_some, if_true]
  refine wpAny_bind (wpAny_alloc ?_)
  refine wpAny_bind (wpAny_layCells _ (λname kind cells =>by cases hkc : kind == NameKind.cell <;> simp [hkc]) _ _ _ _ ?_)
  rw [show ({ s with heap := s.heap.push { cls := .type "dict", data := .dict #[] } } : Shared).heap.objs.size = s.heap.objs.size + 1 from Heap.size_push ..]
  exact wpAny_bind (wpAny_pure (wpAny_pure hQ))
end
end Mine
end
section
namespace Mine
open PySem PySem.Spec PyProof.Rows PySem.W
theorem lookup_of_mem {α : Type} : ∀ {l : List (Str × α)} {x : Str} {k : α}, (l.map (·.1)).Nodup → (x, k) ∈ l → l.lookup x = some k
  | (n, v) :: r, x, k, hN, h =>by
    simp only [List.map_cons, List.nodup_cons] at hN
    rcases List.mem_cons.mp h with e | h'
    · cases e; simp [List.lookup_cons]
    · have : x ≠ n := fun q => hN.1 (List.mem_map.mpr ⟨(x, k), h', q⟩)
      simp only [List.lookup_cons, beq_eq_false_iff_ne.mpr this]
      exact lookup_of_mem hN.2 h'
theorem lookup_relabelled (C : Str → NameKind → Bool) : ∀ (l : List (Str × NameKind)) (x : Str), (l.map fun p => if C p.1 p.2 then (p.1, NameKind.cell) else p).lookup x = (l.lookup x).map fun k => if C x k then .cell else k
  | [], x =>rfl
  | (n, v) :: r, x =>by
    have ih := lookup_relabelled C r x
    simp only [List.map_cons]
    by_cases q : x = n
    · subst q
      cases hc : C x v <;> simp [List.lookup_cons, hc]
    · cases hc : C n v <;> simp only [Bool.false_eq_true, if_false, if_true, List.lookup_cons, beq_eq_false_iff_ne.mpr q] <;> exact ih
theorem lookup_append_or {α : Type} (l l' : List (Str × α)) (x : Str) : (l ++ l').lookup x = (l.lookup x).or (l'.lookup x) :=by
  induction l with
  | nil =>simp
  | cons p r ih =>
    obtain ⟨n, v⟩ := p
    simp only [List.cons_append, List.lookup_cons]
    cases x == n <;> simp [ih]
theorem lookup_none_of {α : Type} : ∀ {l : List (Str × α)} {x : Str}, (∀ k, (x, k) ∉ l) → l.lookup x = none
  | [], _, _ =>rfl
  | (n, v) :: r, x, h =>by
    have : x ≠ n := λq =>h v (by subst q; exact List.mem_cons_self)
    simp only [List.lookup_cons, beq_eq_false_iff_ne.mpr this]
    exact lookup_none_of λk hk =>h k (List.mem_cons_of_mem _ hk)
theorem lookup_filter_some {p : Str × PyData → Bool} : ∀ {l : Loc} {x : Str} {d : PyData}, (∀ a b c, p (a, b) = p (a, c)) → (l.filter p).lookup x = some d → l.lookup x = some d ∧ p (x, d) = true
  | (n, v) :: r, x, d, hp, h =>by
    rw [List.filter_cons] at h
    by_cases q : x = n
    · subst q
      cases hc : p (x, v) with
      | true =>
        rw [hc] at h
        simp only [if_true, List.lookup_cons, beq_self_eq_true] at h
        replace h := Option.some.inj h; subst h
        exact ⟨by simp [List.lookup_cons], hc⟩
      | false =>
        rw [hc] at h
        simp only [Bool.false_eq_true, if_false] at h
        have := (lookup_filter_some hp h).2
        rw [hp x d v, hc] at this; exact fnt this
    · have hb : (x == n) = false := beq_eq_false_iff_ne.mpr q
      have : (r.filter p).lookup x = some d :=by
        cases hc : p (n, v) with
        | true =>rw [hc] at h; simpa only [if_true, List.lookup_cons, hb] using h
        | false =>rw [hc] at h; simpa only [Bool.false_eq_true, if_false] using h
      refine X02 (λa b =>?_) (lookup_filter_some hp this)
      exact ⟨by simpa only [List.lookup_cons, hb] using a, b⟩
noncomputable def compEnv (scope : Scope) (env : Env) (C : Addr) : Env :=
  { scope := relabel scope env, locals := C, globals := env.globals, cells := compCells env scope (C + 1), qual := env.qual, func := none, code := env.code, frame := env.frame, builtins := env.builtins }
section
variable {X : Cx} {k : Nat} {V : EvT} {G : Gl} {hb : Heap} {Sb S S' S'' S₀ : Store} {Γ : Sc} {env : Env} {ω : Option (Str × List PyData)} {ρ : Loc} {σ σ' : St} {s s' s'' s₀ : Shared} {A : Around} {E : Value → Shared → Prop}
structure ScopeFacts (Γ : Sc) (scope : Scope) : Prop where
  kind : scope.kind = .function
  nd : (scope.names.map (·.1)).Nodup
  kinds : ∀ x kd, (x, kd) ∈ scope.names → kd = .local ∨ kd = .cell ∨ (kd = .free ∧ Γ.names.lookup x = some .cell) ∨ kd = .globalImplicit
theorem scopeFacts {scope : Scope} (h : scopeOk Γ scope = true) : ScopeFacts Γ scope :=by
  unfold scopeOk at h
  simp only [Bool.and_eq_true, decide_eq_true_eq, List.all_eq_true, Bool.or_eq_true] at h
  refine ⟨h.1.1, h.2, λx kd hm =>?_⟩
  rcases h.1.2 _ hm with ((a | a) | a) | a
  · exact .inl a.1
  · exact .inr (.inl a.1)
  · exact .inr (.inr (.inl ⟨a.1.1, a.2⟩))
  · exact .inr (.inr (.inr a.1))
theorem At.hbOf (T : At X hb Sb Γ env σ S s) : ∀ a, s.heap.get? a = none → X.h₁.get? a = none := λ_ h =>none_back (.of T.gd.base) T.gd.pH h
theorem Gd.back (g : Gd X S s) : ∀ a, s.heap.get? a = none → X.h₁.get? a = none := λ_ h =>none_back (.of g.base) g.pH h
theorem compAt (O : CxOk X) (T : At X hb Sb Γ env ⟨ρ, ω⟩ S s) (g₀ : Gd X S₀ s₀) (st : Step X S₀ s₀ S s) {scope : Scope} (F : ScopeFacts Γ scope) :
    closureFor scope env = pure (clFrom env scope.names []) ∧
    At X s₀.heap S₀ (Γ.inner scope) (compEnv scope env s.heap.objs.size) ⟨innerLoc Γ scope ρ, none⟩ S { s with heap := pushCells (s.heap.push { cls := .type "dict", data := .dict #[] }) scope.names } := by
  have hfree : ∀ p ∈ scope.names, p.2 = .free → ∃ c, env.cells.lookup p.1 = some c := λp hp hk =>by
    obtain ⟨x, kd⟩ := p
    simp only at hk; subst hk
    rcases F.kinds x .free hp with a | a | a | a
    · cases a
    · cases a
    · exact T.envOk.has x a.2
    · cases a
  refine ⟨closureFor_eq scope env λp hp hk =>by refine X11 (λc hc =>?_) (hfree p hp hk); rw [hc]; rfl, ?_⟩
  generalize hh' : pushCells (s.heap.push { cls := .type "dict", data := .dict #[] }) scope.names = h'
  have hk' : ∀ a o, s.heap.get? a = some o → h'.get? a = some o := λa o e =>by rw [← hh']; exact pushCells_keeps _ _ a o (Heap.get?_push_of_some _ e)
  have ok := cellsFrom_ok scope.names (s.heap.push { cls := .type "dict", data := .dict #[] }) (s.heap.objs.size + 1) [] ⟨fun _ _ hm => (nomatch hm), List.Pairwise.nil⟩ (by rw [Heap.size_push]; exact Nat.le_refl _)
  rw [Heap.size_push, hh'] at ok
  have hnew : ∀ c, s.heap.objs.size ≤ c → s.heap.get? c = none := λc hc =>by
    cases q : s.heap.get? c with
    | none =>rfl
    | some o =>exact absurd (Heap.lt_size q) (Nat.not_lt.mpr hc)
  have hnew₀ : ∀ c, s.heap.objs.size ≤ c → s₀.heap.get? c = none := λc hc =>none_back st.ext st.gd.pH (hnew c hc)
  have cellOf : ∀ n c, (compCells env scope (s.heap.objs.size + 1)).lookup n = some c → ((n, c) ∈ cellsFrom (s.heap.objs.size + 1) scope.names [] ∧ (n, NameKind.cell) ∈ scope.names) ∨ (env.cells.lookup n = some c ∧ (n, NameKind.free) ∈ scope.names) := λn c h =>by
    unfold compCells at h
    rw [cellsFrom_append, lookup_append_or] at h
    cases q : (cellsFrom (s.heap.objs.size + 1) scope.names []).lookup n with
    | some c' =>
      rw [q] at h; replace h := Option.some.inj h; subst h
      exact .inl ⟨mem_of_lookup q, cellsFrom_mem (mem_of_lookup q)⟩
    | none =>
      rw [q] at h
      have hm := mem_of_lookup (show (clFrom env scope.names []).lookup n = some c from h)
      refine X02 (λa b =>?_) (clFrom_mem hm)
      refine X11 (λc' hc' =>?_) (hfree _ a rfl)
      have hc'' : List.lookup n env.cells = some c' := hc'
      rw [hc''] at b
      exact .inr ⟨by rw [hc'', b]; rfl, a⟩
  have ofFree : ∀ n c, (n, NameKind.free) ∈ scope.names → env.cells.lookup n = some c → (compCells env scope (s.heap.objs.size + 1)).lookup n = some c := λn c hm hc =>by
    unfold compCells
    rw [cellsFrom_append, lookup_append_or]
    have h1 : (cellsFrom (s.heap.objs.size + 1) scope.names []).lookup n = none :=by
      refine lookup_none_of λc' hm' =>?_
      have e1 := lookup_of_mem F.nd (cellsFrom_mem hm')
      rw [lookup_of_mem F.nd hm] at e1; cases e1
    rw [h1]
    cases q : (clFrom env scope.names []).lookup n with
    | none =>
      have := clFrom_has (env := env) hm
      exact absurd this (λhz =>by
        have : ∀ {l : List (Str × Addr)} {x c}, (x, c) ∈ l → l.lookup x ≠ none :=by
          intro l
          induction l with
          | nil =>intro x c h; cases h
          | cons p r ih =>
            intro x c h hn
            obtain ⟨a, b⟩ := p
            simp only [List.lookup_cons] at hn
            by_cases e : x = a
            · subst e; simp at hn
            · rw [beq_eq_false_iff_ne.mpr e] at hn
              rcases List.mem_cons.mp h with z | z
              · cases z; exact e rfl
              · exact ih z hn
        exact this hz q)
    | some c' =>
      refine X02 (λu1 b =>?_) (clFrom_mem (mem_of_lookup q))
      rw [hc] at b
      rw [b]; rfl
  have namesEq : (relabel scope env).names = (Γ.inner scope).names :=by
    unfold relabel Sc.inner
    simp only
    refine List.map_congr_left λp hp =>?_
    obtain ⟨n, kd⟩ := p
    have e1 : env.scope.kind = .function := T.envOk.kind
    simp only [e1, T.kindOf]
    cases kd <;> simp
  have lk : ∀ x, (Γ.inner scope).names.lookup x = (scope.names.lookup x).map λkd =>if kd = .free ∧ Γ.names.lookup x = some .cell then .cell else kd := λx =>by
    have := lookup_relabelled (λn kd =>decide (kd = .free ∧ Γ.names.lookup n = some .cell)) scope.names x
    unfold Sc.inner
    simp only [decide_eq_true_eq] at this
    exact this
  have T1 : Gd X S { s with heap := h' } := T.gd.change O.tabOk (fp := λ_ =>False) (t := s.toks) (λa o _ e =>hk' a o e) (λ_ q =>q.elim)
  refine ⟨T1, st.ext.on λa o _ o' e' =>hk' a o' e', st.new, st.le, g₀.back, ⟨F.kind, namesEq, T.envOk.glob, T.envOk.bi, ⟨λ_ =>none, ?_⟩, hnew₀ _ (Nat.le_refl _), λn c h =>?_, λn c h =>?_, λn c h ho =>?_, λn n' c h h2 =>?_, λx hx =>?_⟩, λx d hx =>?_, nofun, nofun⟩
  · have := Heap.Ns.new s.heap (.type "dict")
    exact this.keeps λb o e =>by rw [← hh']; exact pushCells_keeps _ _ b o e
  · rcases cellOf n c h with ⟨hm, _⟩ | ⟨hc, _⟩
    · exact ⟨none, (ok.empty n c hm).1⟩
    · refine X11 (fun v hv => ?_) (T.envOk.cell n c hc)
      exact ⟨v, hv.keeps hk'⟩
  · rcases cellOf n c h with ⟨hm, _⟩ | ⟨hc, _⟩
    · exact T.gd.back _ (hnew _ (Nat.le_of_succ_le (ok.empty n c hm).2))
    · exact T.envOk.cBase n c hc
  · rcases cellOf n c h with ⟨hm, _⟩ | ⟨hc, hf⟩
    · exact hnew₀ _ (Nat.le_of_succ_le (ok.empty n c hm).2)
    · exfalso
      have : (Γ.inner scope).outer.contains n = true :=by
        unfold Sc.inner
        simp only [List.contains_iff_mem, List.mem_map, List.mem_filter, decide_eq_true_eq]
        exact ⟨(n, .free), ⟨hf, rfl⟩, rfl⟩
      rw [this] at ho; exact tnf ho
  · rcases cellOf n c h with ⟨hm, _⟩ | ⟨hc, _⟩ <;> rcases cellOf n' c h2 with ⟨hm2, _⟩ | ⟨hc2, _⟩
    · exact name_of_addr ok.apart hm hm2
    · refine X22 (fun v o ho u2 => ?_) (T.envOk.cell n' c hc2)
      rw [hnew _ (Nat.le_of_succ_le (ok.empty n c hm).2)] at ho; exact nos ho
    · refine X22 (fun v o ho u3 => ?_) (T.envOk.cell n c hc)
      rw [hnew _ (Nat.le_of_succ_le (ok.empty n' c hm2).2)] at ho; exact nos ho
    · exact T.envOk.inj n n' c hc hc2
  · rw [lk] at hx
    cases q : scope.names.lookup x with
    | none =>rw [q] at hx; exact nos hx
    | some kd =>
      rw [q] at hx
      have hm := mem_of_lookup q
      simp only [Option.map_some, Option.some.injEq] at hx
      by_cases hf : kd = .free ∧ Γ.names.lookup x = some .cell
      · refine X11 (fun c hc => ?_) (T.envOk.has x hf.2)
        exact ⟨c, ofFree x c (hf.1 ▸ hm) hc⟩
      · rw [if_neg hf] at hx
        subst hx
        refine X11 (λc hc =>?_) (cellsFrom_has (n := s.heap.objs.size + 1) hm)
        show ∃ c, (compCells env scope (s.heap.objs.size + 1)).lookup x = some c
        unfold compCells
        rw [cellsFrom_append, lookup_append_or]
        cases q2 : (cellsFrom (s.heap.objs.size + 1) scope.names []).lookup x with
        | some c' =>exact ⟨c', rfl⟩
        | none =>
          exfalso
          have : ∀ {l : List (Str × Addr)} {x c}, (x, c) ∈ l → l.lookup x ≠ none :=by
            intro l
            induction l with
            | nil =>intro x c h; cases h
            | cons p r ih =>
              intro x c h hn
              obtain ⟨a, b⟩ := p
              simp only [List.lookup_cons] at hn
              by_cases e : x = a
              · subst e; simp at hn
              · rw [beq_eq_false_iff_ne.mpr e] at hn
                rcases List.mem_cons.mp h with z | z
                · cases z; exact e rfl
                · exact ih z hn
          exact this hc q2
  · unfold innerLoc at hx
    refine X02 (λh1 h2 =>?_) (lookup_filter_some (λa b c =>rfl) hx)
    simp only [decide_eq_true_eq] at h2
    refine X12 (λv V r =>?_) (T.vars x d h1)
    refine ⟨v, .inr ⟨?_, ?_⟩, r⟩
    · show List.lookup x (relabel scope env).names = _
      rw [namesEq, lk, h2.1]
      simp [h2.2]
    · rcases V with ⟨kd, _⟩ | ⟨kd, c, hc, hv⟩
      · rw [T.kindOf, h2.2] at kd; cases kd
      · exact ⟨c, ofFree x c (mem_of_lookup h2.1) hc, hv.keeps hk'⟩
end
end Mine
end
section
namespace Mine
open PySem PySem.Spec PyProof.Rows PySem.W
noncomputable def compInner (e elt : Expr) (gens : List Comprehension) (depth : Nat) (acc : Value) (env : Env) (k : Sem Fin) : Sem Fin :=
  match gens[depth + 1]? with
  | some g' => do
    let x ← eval g'.iter env
    standAt g'.iter.pos
    let x ← foldedSetIterable g'.iter env x
    let it ← holding [x] (pyIter x)
    let _ ← runOwn (.compStart e (depth + 1) it acc env) env
    k
  | none => do
    (do let v ← eval elt env; let _ ← call (.builtin "list.append") [acc, v] : Sem Unit)
    k
noncomputable def compTests' (ifs : List Expr) (env : Env) : Sem Bool :=
  forIn ifs true λc r =>if r = true then do let ok ← isTrue c env (eval c env); pure (ForInStep.yield ok) else pure (ForInStep.yield r)
theorem compTurn_eq {elt : Expr} {gens : List Comprehension} {scope : Scope} {pos : Pos} {depth : Nat} {it acc : Value} {env : Env} {g : Comprehension} (hg : gens[depth]? = some g) (ha : g.is_async = 0)
    (ha' : ∀ g', gens[depth + 1]? = some g' → g'.is_async = 0) :
    compTurn (.ListComp elt gens scope pos) depth it acc env = (do
      standAt g.iter.pos
      match ← pyNext it with
      | none =>pure (.done .next)
      | some v => do
        letOwnedTupleGo g.target it v
        assign g.target env v
        let ok ← compTests' g.ifs env
        if ok then compInner (.ListComp elt gens scope pos) elt gens depth acc env (again (.compLoop (.ListComp elt gens scope pos) depth it acc env))
        else again (.compLoop (.ListComp elt gens scope pos) depth it acc env)) :=by
  unfold compTurn
  simp only [hg, ha]
  refine congrArg (Sem.bind _) (funext λ_ =>?_)
  refine congrArg (Sem.bind _) (funext λr =>?_)
  cases r with
  | none =>rfl
  | some v =>
    refine congrArg (Sem.bind _) (funext λ_ =>?_)
    refine congrArg (Sem.bind _) (funext λ_ =>?_)
    refine congrArg (Sem.bind _) (funext λok =>?_)
    cases ok with
    | false =>rfl
    | true =>
      simp only [if_true]
      unfold compInner
      cases hd : gens[depth + 1]? with
      | none =>rfl
      | some g' =>
        have := ha' g' hd
        simp only [this]
        rfl
end Mine
end
section
namespace Mine
open PySem PySem.Spec PyProof.Rows PySem.W
structure AccAt (hb : Heap) (S : Store) (s : Shared) (D : Addr) (xs : List PyData) : Prop where
  obj : ∃ vs n, s.heap.get? D = some (listO vs n) ∧ RdAll S vs.toList xs
  sD : S D = none
  new : hb.get? D = none
section
variable {X : Cx} {k : Nat} {V : EvT} {G : Gl} {hb : Heap} {Sb S S' S'' S₀ : Store} {Γ : Sc} {env : Env} {ω : Option (Str × List PyData)} {ρ : Loc} {σ σ' : St} {s s' s'' s₀ : Shared} {A : Around} {E : Value → Shared → Prop}
theorem AccAt.step {D : Addr} {xs : List PyData} (a : AccAt hb S s D xs) (hP : D ≠ X.P) (st : Step X S s S' s') : AccAt hb S' s' D xs :=by
  refine X22 (λvs n h1 h2 =>?_) a.obj
  refine ⟨⟨vs, n, st.ext.get hP h1 nofun, h2.le st.le⟩, ?_, a.new⟩
  cases q : S' D with
  | none =>rfl
  | some o =>
    rcases st.new D o q with e | e
    · rw [a.sD] at e; exact nos e
    · rw [h1] at e; exact son e
theorem AccAt.nk {D : Addr} {xs : List PyData} (a : AccAt hb S s D xs) (st : Nk s s') : AccAt hb S s' D xs :=by
  refine X22 (λvs n h1 h2 =>?_) a.obj
  exact ⟨⟨vs, n, st.keep D _ nofun nofun h1, h2⟩, a.sD, a.new⟩
theorem AccAt.it {lo : Heap} {D : Addr} {xs : List PyData} (a : AccAt hb S s D xs) (st : ItStep lo S s S' s') : AccAt hb S' s' D xs :=by
  refine X22 (λvs n h1 h2 =>?_) a.obj
  refine ⟨⟨vs, n, st.lists D _ rfl h1, h2.le st.le⟩, ?_, a.new⟩
  cases q : S' D with
  | none =>rfl
  | some o =>
    rcases st.new D o q with e | e
    · rw [a.sD] at e; exact nos e
    · rw [h1] at e; exact son e
theorem appendOk (O : CxOk X) (T : At X hb Sb Γ env ⟨ρ, none⟩ S s) {D : Addr} {xs : List PyData} {d : PyData} {v : Value} (a : AccAt hb S s D xs) (r : Rd S v d) (hl : xs.length ≤ 100000) {Q : Value → Shared → Prop}
    (h : ∀ s', At X hb Sb Γ env ⟨ρ, none⟩ S s' → AccAt hb S s' D (xs ++ [d]) → SStep X S s S s' → Q .none s') : wpAny X.M A (call (.builtin "list.append") [.ref D, v]) Q E s := by
  refine X22 (λvs n h1 h2 =>?_) a.obj
  have hsz : vs.size ≤ sizeLine :=by
    have := h2.length
    simp only [Array.length_toList] at this
    rw [this]; exact Nat.le_trans hl (by decide)
  refine call_meets F.slot_list_append ⟨_, h1, rfl⟩ F.entry_list_append (F.args_list_append_2 _ _) (list_append D vs n v hsz) ⟨h1, ?_⟩
  have hu : IsL (s.heap.update D (Obj.mapSeq λx_1 =>x_1.push v)) D (vs.push v) _ := IsL.update (h := s.heap) (l := D) (items := vs) (n := n) h1 (λx_1 =>x_1.push v)
  have hs : Heap.SameBut D s.heap (s.heap.update D (Obj.mapSeq λx_1 =>x_1.push v)) := Heap.SameBut.update ..
  have T' : At X hb Sb Γ env ⟨ρ, none⟩ S { s with heap := s.heap.update D (Obj.mapSeq λx_1 =>x_1.push v), toks := s.toks } :=
    T.changeG O.tabOk (fp := λb =>b = D) (λb o n e =>(hs.2 b n).trans e) (λb q =>by
      subst q
      refine ⟨a.new, a.sD, λo e =>?_⟩
      rw [h1] at e; replace e := Option.some.inj e; subst e
      exact ⟨nofun, nofun, λc =>by obtain ⟨⟨_, e⟩, _⟩ := c; cases e⟩) (λ_ _ _ e =>nomatch e)
  refine h _ T' ⟨⟨_, _, hu, ?_⟩, a.sD, a.new⟩ ⟨.refl _, λb o _ e d =>?_, λ_ _ e =>.inl e, λb o e =>?_⟩
  · rw [Array.toList_push]; exact h2.append (.cons r .nil)
  · have : b ≠ D := fun q => by subst q; rw [h1] at e; replace e := Option.some.inj e; subst e; exact d.2.2 rfl
    exact (hs.2 b this).trans e
  · by_cases q : b = D
    · subst q; exact ⟨_, hu⟩
    · exact ⟨o, (hs.2 b q).trans e⟩
theorem testsOk (VO : VOk X k V) : ∀ {ifs : List Expr} {ok : Bool}, allIfs (fun c => V.ts Γ c ρ) ifs = some ok → ∀ {S : Store} {s : Shared} {Q : Bool → Shared → Prop}, Room A k → At X hb Sb Γ env ⟨ρ, ω⟩ S s →
    (∀ S' s', Step X S s S' s' → Q ok s') → wpAny X.M A (compTests' ifs env) Q E s
  | [], ok, h, S, s, Q, R, T, hQ =>by
    replace h := Option.some.inj h; subst h
    exact wpAny_pure (hQ _ _ (.refl T.gd))
  | c :: r, ok, h, S, s, Q, R, T, hQ =>by
    simp only [allIfs] at h
    revert h; refine bsC λt h1 h2 =>?_
    unfold compTests'
    rw [List.forIn_cons]
    simp only [if_true]
    refine wpAny_bind (wpAny_bind (VO.ts h1 R T λS₁ s₁ a =>wpAny_pure ?_))
    cases t with
    | true =>
      exact testsOk VO (by simpa using h2) R (T.step a) λS₂ s₂ b =>hQ _ _ (a.trans b)
    | false =>
      have h2' : ok = false :=by simpa using h2.symm
      subst h2'
      have skip : ∀ (r : List Expr), (forIn r false λc r =>if r = true then do let ok ← isTrue c env (eval c env); pure (ForInStep.yield ok) else pure (ForInStep.yield r) : Sem Bool) = pure false :=by
        intro r
        induction r with
        | nil =>rfl
        | cons c r ih =>rw [List.forIn_cons]; simp only [Bool.false_eq_true, if_false, pure_bind]; exact ih
      show wpAny X.M A (forIn r false _) Q E s₁
      rw [skip]
      exact wpAny_pure (hQ _ _ a)
end
end Mine
end
section
namespace Mine
open PySem PySem.Spec PyProof.Rows PySem.W
section
variable {X : Cx} {k : Nat} {V : EvT} {G : Gl} {hb : Heap} {Sb S S' S'' S₀ : Store} {Γ : Sc} {env : Env} {ω : Option (Str × List PyData)} {ρ ρ₁ : Loc} {σ σ' : St} {s s' s'' s₀ : Shared} {A : Around} {E : Value → Shared → Prop}
theorem sets_cons {x : Str} {d : PyData} : Sets ⟨ρ, none⟩ x d ⟨(x, d) :: ρ, none⟩ :=
  ⟨λy =>if h : y = x then (by rw [h, if_pos rfl]; exact look_self) else (look_ne h).trans (if_neg h).symm, rfl⟩
theorem isNone_back {x y : Str} {d c : PyData} (h : (ρ.lookup x).isNone = true) (e : ρ.lookup y = some d) : ((x, c) :: ρ).lookup y = some d := (look_ne λq =>by rw [← q, e] at h; exact fnt h).trans e
theorem bindTs_names {ts : List Expr} : ∀ {ds : List PyData} {ρ ρ₁ : Loc}, bindTs Γ ts ds ρ = some ρ₁ → Names Γ ts ds ⟨ρ, none⟩ ⟨ρ₁, none⟩ ∧ ∀ y e, ρ.lookup y = some e → ρ₁.lookup y = some e :=by
  induction ts with
  | nil =>
    intro ds ρ ρ₁ h
    cases ds with
    | nil =>exact Option.some.inj h ▸ ⟨.nil, λ_ _ e =>e⟩
    | cons _ _ =>exact nos h
  | cons t ts ih =>
    intro ds ρ ρ₁
    cases ds with
    | nil =>exact nos
    | cons d ds =>exact bsC λx h1 =>ifsC λhc h =>(dName_eq h1).elim λp e =>X02 (λn k =>⟨e ▸ .cons hc.1 sets_cons n, λy e he =>k y e (isNone_back hc.2 he)⟩) (ih h)
theorem bindOk (O : CxOk X) (hh : A.handled = none) {target : Expr} {d : PyData} (h : bindC target d Γ ρ = some ρ₁) (T : At X hb Sb Γ env ⟨ρ, none⟩ S s) {v : Value} (r : Rd S v d) :
    (∀ {Q : Unit → Shared → Prop} {E : Value → Shared → Prop}, (∀ s₁ s', Step X S s S s₁ → Nk s₁ s' → At X hb Sb Γ env ⟨ρ₁, none⟩ S s' → Q () s') → wpAny X.M A (assign target env v) Q E s) ∧ (∀ y e, ρ.lookup y = some e → ρ₁.lookup y = some e) :=by
  revert h; refine ifDC (λx h1 =>ifsC λhc h =>?_) λ_ =>bsC λts h1 =>bsC λds h2 h =>?_
  · rw [← Option.some.inj h]
    exact ⟨λhQ =>(dName_eq h1).elim λp e =>e ▸ PySem.wpAny_assign_Name (storeVar O.tabOk T hc.1 r sets_cons λs' T' n =>hQ s s' (.refl T.gd) n T'), λy e he =>isNone_back hc.2 he⟩
  · rw [dTupV_eq h2] at r
    exact X02 (λn k =>⟨λhQ =>(dTup_eq h1).elim λc e =>e.elim λp e =>e ▸ assignTupOk O hh n T r hQ, k⟩) (bindTs_names h)
theorem pyIterOf {lo : Heap} {it : Value} {ds : List PyData} (I : ItAt lo S s.heap it false ds) {Q : Value → Shared → Prop} (h : Q it s) : wpAny X.M A (pyIter it) Q E s :=by
  cases I with
  | list hn hi hS r =>exact wpAny_pyIter_listiter hi h
  | tuple hn hi hS r =>exact wpAny_pyIter_tupleiter hi h
  | range hn hi e =>exact wpAny_pyIter_rangeiter hi h
theorem compStartOk {elt : Expr} {gens : List Comprehension} {scope : Scope} {pos : Pos} {depth : Nat} {lo : Heap} {it acc : Value} {ds : List PyData} {R : Result → Shared → Prop} {g : Comprehension} (hg : gens[depth]? = some g) (ha : g.is_async = 0)
    (I : ItAt lo S s.heap it false ds) (h : codeAny X.M A (.compLoop (.ListComp elt gens scope pos) depth it acc env) R s) : codeAny X.M A (.compStart (.ListComp elt gens scope pos) depth it acc env) R s :=by
  refine codeAny_of_tree ?_
  show wpAny _ _ ((compStart (.ListComp elt gens scope pos) depth it acc env).onRaise (λx =>do noteFrame x env; standAt theWindowsPlace)) _ _ s
  refine wpAny_notedAt ?_
  unfold compStart
  have hcl : (clausesOf (.ListComp elt gens scope pos))[depth]? = some g := hg
  rw [hcl]
  simp only [Option.elim, ha]
  refine wpAny_bind (wpAny_askSetting (wpAny_ite ?_))
  split
  · first
      | exact wpAny_bind (wpAny_pure (wpAny_pure (And.intro rfl h)))
      | exact wpAny_pure (And.intro rfl h)
  · first
      | exact wpAny_bind (wpAny_rule (wpAny_bind (wpAny_standAt (wpAny_bind (pyIterOf I (wpAny_pure (And.intro rfl h)))))))
      | (refine wpAny_bind (wpAny_rule ?_); exact wpAny_bind (wpAny_standAt (wpAny_bind (pyIterOf I (wpAny_pure (And.intro rfl h))))))
theorem compLOk (O : CxOk X) (VO : VOk X k V) {elt : Expr} {gens : List Comprehension} {scope : Scope} {pos : Pos} {D : Addr} {depth : Nat} {g : Comprehension} (hg : gens[depth]? = some g) (ha : g.is_async = 0)
    (ha' : ∀ g', gens[depth + 1]? = some g' → g'.is_async = 0) (Rm : Room A k) {inner : Loc → Option (List PyData)}
    (hin : ∀ {ρ₁ zs}, inner ρ₁ = some zs → ∀ {S s xs} {K : Sem Fin} {Q : Fin → Shared → Prop} {E : Value → Shared → Prop}, At X hb Sb Γ env ⟨ρ₁, none⟩ S s → AccAt hb S s D xs → xs.length + zs.length ≤ 100000 →
      (∀ S' s', At X hb Sb Γ env ⟨ρ₁, none⟩ S' s' → SStep X S s S' s' → AccAt hb S' s' D (xs ++ zs) → wpAny X.M A K Q E s') → wpAny X.M A (compInner (.ListComp elt gens scope pos) elt gens depth (.ref D) env K) Q E s) :
    ∀ (ds : List PyData) {ys xs : List PyData} {S : Store} {s : Shared} {it : Value} {Sr : Store} {sr : Shared} {R : Result → Shared → Prop},
      compL (λd =>bindC g.target d Γ ρ) (λρ₁ =>allIfs (λc =>V.ts Γ c ρ₁) g.ifs) inner ds = some ys → SStep X Sr sr S s → At X hb Sb Γ env ⟨ρ, none⟩ S s → (∀ a, sr.heap.get? a = none → hb.get? a = none) →
      ItAt sr.heap S s.heap it false ds → AccAt hb S s D xs → xs.length + ys.length ≤ 100000 →
      (∀ S' s', At X hb Sb Γ env ⟨ρ, none⟩ S' s' → SStep X Sr sr S' s' → AccAt hb S' s' D (xs ++ ys) → R (.ok .next) s') →
      codeAny X.M A (.compLoop (.ListComp elt gens scope pos) depth it (.ref D) env) R s :=by
  intro ds
  induction ds with
  | nil =>
    intro ys xs S s it Sr sr R h j T hlo I a hl hR
    refine codeAny_of_tree ?_
    show wpAny _ A ((compTurn (.ListComp elt gens scope pos) depth it (.ref D) env).onRaise (λx =>do noteFrame x env; theTreesLotGoes x)) _ _ s
    refine wpAny_noted ?_
    rw [compTurn_eq hg ha ha']
    refine wpAny_bind (wpAny_standAt (wpAny_bind (wpAny_mono (nextEnd (N := λs' =>R (.ok .next) s') (K := λ_ _ =>False) O Rm T hlo I λs' T' st =>hR S s' T' (j.it st) (by rw [← Option.some.inj h, List.append_nil]; exact a.it st)) (λr s₁ h₁ =>?_) (λ_ _ e =>e))))
    cases r with
    | none =>exact wpAny_pure h₁
    | some v =>exact h₁.elim
  | cons d r ih =>
    intro ys xs S s it Sr sr R h j T hlo I a hl hR
    revert h; refine bsC λρ₁ h1 =>bsC λok h2 =>bsC λzs h3 =>bsC λws h4 h =>?_
    rw [← Option.some.inj h] at hR hl
    rw [List.length_append, ← Nat.add_assoc] at hl
    refine codeAny_of_tree ?_
    show wpAny _ A ((compTurn (.ListComp elt gens scope pos) depth it (.ref D) env).onRaise (λx =>do noteFrame x env; theTreesLotGoes x)) _ _ s
    refine wpAny_noted ?_
    rw [compTurn_eq hg ha ha']
    refine wpAny_bind (wpAny_standAt (wpAny_bind ?_))
    have again' : ∀ {S₁ : Store} {s₁ : Shared}, At X hb Sb Γ env ⟨ρ₁, none⟩ S₁ s₁ → SStep X Sr sr S₁ s₁ → ItAt sr.heap S₁ s₁.heap it false r → AccAt hb S₁ s₁ D (xs ++ zs) → (∀ y e, ρ.lookup y = some e → ρ₁.lookup y = some e) →
        codeAny X.M A (.compLoop (.ListComp elt gens scope pos) depth it (.ref D) env) R s₁ := λT₁ j₁ I₁ a₁ hback =>
      ih h4 j₁ (T₁.weaken hback rfl) hlo I₁ a₁ (by rw [List.length_append]; exact hl) λS' s' T' j' a' =>hR S' s' T' j' (by rw [← List.append_assoc]; exact a')
    refine wpAny_mono (nextItem (N := fun _ => False) O Rm.handled T hlo I (target := g.target) (fun e => nomatch e) (E' := notedBy X.M A env fun e s' => R (.error e) s')
      (K := fun v s₂ => wpAny X.M A (do
        assign g.target env v
        let ok ← compTests' g.ifs env
        if ok then compInner (.ListComp elt gens scope pos) elt gens depth (.ref D) env (again (.compLoop (.ListComp elt gens scope pos) depth it (.ref D) env))
        else again (.compLoop (.ListComp elt gens scope pos) depth it (.ref D) env))
        (λfin s' =>match fin with | .done f =>R (.ok f) s' | .again c' =>c'.quiet = true ∧ codeAny X.M A c' R s') (notedBy X.M A env λe s' =>R (.error e) s') s₂)
      λv S₁ s₁ T₁ st I₁ rv =>?_) (λr s₁ h₁ =>?_) (λ_ _ e =>e)
    · have np : D ≠ X.P := T.notP a.new
      have hb1 : ∀ a, sr.heap.get? a = none → X.h₁.get? a = none := λa h =>T.hb1 a (hlo a h)
      refine X02 (λB1 B2 =>wpAny_bind (B1 λs₂ s₃ st₂ nk T₃ =>?_)) (bindOk O Rm.handled h1 T₁ rv)
      have ss₃ : SStep X S₁ s₁ S₁ s₃ := st₂.sstep.trans nk.sstep
      have I₃ : ItAt sr.heap S₁ s₃.heap it false r := I₁.step T₁.gd T₃.gd hb1 ss₃
      refine wpAny_bind (testsOk VO h2 Rm T₃ λS₄ s₄ st₄ =>?_)
      have T₄ := T₃.step st₄
      have a₄ := (((a.it st).step np st₂).nk nk).step np st₄
      have j₄ : SStep X Sr sr S₄ s₄ := ((j.it st).trans ss₃).trans st₄.sstep
      have I₄ : ItAt sr.heap S₄ s₄.heap it false r := I₃.step T₃.gd T₄.gd hb1 st₄.sstep
      cases ok with
      | true =>exact hin h3 T₄ a₄ (Nat.le_trans (Nat.le_add_right _ _) hl) λS₅ s₅ T₅ ss₅ a₅ =>wpAny_pure ⟨rfl, again' T₅ (j₄.trans ss₅) (I₄.step T₄.gd T₅.gd hb1 ss₅) a₅ B2⟩
      | false =>exact wpAny_pure ⟨rfl, again' T₄ j₄ I₄ (by rw [← Option.some.inj h3, List.append_nil]; exact a₄) B2⟩
    · cases r with
      | none =>exact h₁.elim
      | some v =>exact wpAny_bind h₁
end
end Mine
end
section
namespace Mine
open PySem PySem.Spec PyProof.Rows PySem.W
section
variable {X : Cx} {k : Nat} {V : EvT} {G : Gl} {hb : Heap} {Sb S S' S'' S₀ : Store} {Γ : Sc} {env : Env} {ω : Option (Str × List PyData)} {ρ ρ₁ : Loc} {σ σ' : St} {s s' s'' s₀ : Shared} {A : Around} {E : Value → Shared → Prop}
theorem At.lo (T : At X hb Sb Γ env σ S s) : ∀ a, s.heap.get? a = none → hb.get? a = none := λ_ h =>none_back T.keep T.gd.pH h
theorem drop_succ {α : Type} {l : List α} {n : Nat} {x : α} {r : List α} (h : l.drop n = x :: r) : l[n]? = some x ∧ l.drop (n + 1) = r := drop_cons h
theorem compTOk (O : CxOk X) (GO : GlOk X k G) (VO : VOk X k V) {elt : Expr} {gens : List Comprehension} {scope : Scope} {pos : Pos} {D : Addr} (ha : ∀ g ∈ gens, g.is_async = 0) (Rm : Room A k) :
    ∀ (gs : List Comprehension) {g : Comprehension} {depth : Nat}, gens.drop depth = g :: gs → ∀ {ds ys xs : List PyData} {ρ : Loc} {S : Store} {s : Shared} {it : Value} {Sr : Store} {sr : Shared} {R : Result → Shared → Prop},
      compT V Γ elt (g :: gs) ds ρ = some ys → SStep X Sr sr S s → At X hb Sb Γ env ⟨ρ, none⟩ S s → (∀ a, sr.heap.get? a = none → hb.get? a = none) →
      ItAt sr.heap S s.heap it false ds → AccAt hb S s D xs → xs.length + ys.length ≤ 100000 →
      (∀ S' s', At X hb Sb Γ env ⟨ρ, none⟩ S' s' → SStep X Sr sr S' s' → AccAt hb S' s' D (xs ++ ys) → R (.ok .next) s') →
      codeAny X.M A (.compLoop (.ListComp elt gens scope pos) depth it (.ref D) env) R s :=by
  intro gs
  induction gs with
  | nil =>
    intro g depth hd ds ys xs ρ S s it Sr sr R h j T hlo I a hl hR
    refine X02 (λhg hd' =>?_) (drop_cons hd)
    have hn : gens[depth + 1]? = none := drop_nil hd'
    have hga : g.is_async = 0 := ha g (List.mem_of_getElem? hg)
    unfold compT at h
    revert h; refine iteC (λ_ h =>?_) λ_ h =>?_
    · exact nos h
    · refine compLOk O VO hg hga (fun g' e => by rw [hn] at e; exact nos e) Rm (fun {ρ₁ zs} hz {S s xs K Q E} T₁ a₁ hl₁ hK => ?_) ds h j T hlo I a hl hR
      revert hz; refine bsC λd h1 h2 =>?_
      replace h2 := Option.some.inj h2; subst h2
      unfold compInner
      rw [hn]
      refine wpAny_bind (wpAny_bind (VO.ev h1 Rm T₁ λv S₂ s₂ st rv =>wpAny_bind ?_))
      refine appendOk O (T₁.step st) (a₁.step (T₁.notP a₁.new) st) rv (by simp only [List.length_singleton] at hl₁; omega) λs₃ T₃ a₃ ss =>wpAny_pure ?_
      exact hK _ _ T₃ (st.sstep.trans ss) a₃
  | cons g' gs ih =>
    intro g depth hd ds ys xs ρ S s it Sr sr R h j T hlo I a hl hR
    refine X02 (λhg hd' =>?_) (drop_cons hd)
    refine X02 (λhg' u1 =>?_) (drop_cons hd')
    have hga : g.is_async = 0 := ha g (List.mem_of_getElem? hg)
    have hga' : g'.is_async = 0 := ha g' (List.mem_of_getElem? hg')
    unfold compT at h
    revert h; refine iteC (λ_ h =>?_) λ_ h =>?_
    · exact nos h
    · refine compLOk O VO hg hga (fun g'' e => by rw [hg'] at e; replace e := Option.some.inj e; subst e; exact hga') Rm (fun {ρ₁ zs} hz {S s xs K Q E} T₁ a₁ hl₁ hK => ?_) ds h j T hlo I a hl hR
      revert hz; refine bsC λds' h1 h2 =>?_
      have hit : iterTup Γ g'.iter = false :=by
        unfold compT at h2
        revert h2; refine iteC (λ_ h2 =>?_) λ_ h2 =>?_
        · exact nos h2
        · rename_i c; simp only [not_or] at c; simpa using c.2
      unfold compInner
      rw [hg']
      have key : (∀ x, foldedSetIterable g'.iter env x = pure x) ∧ _ := iterOk (E := E) (Q := λit s₂ =>wpAny X.M A (do let _ ← runOwn (.compStart (.ListComp elt gens scope pos) (depth + 1) it (.ref D) env) env; K) Q E s₂) O GO VO h1 Rm T₁ λit S₂ s₂ st I₂ =>by
        rw [hit] at I₂
        refine wpAny_bind (wpAny_runOwn (compStartOk hg' hga' I₂ ?_))
        exact ih hd' h2 st.sstep (T₁.step st) T₁.lo I₂ (a₁.step (T₁.notP a₁.new) st) hl₁ λS₃ s₃ T₃ ss a₃ =>hK S₃ s₃ T₃ ss a₃
      refine wpAny_bind (wpAny_mono key.2 (λx s₁ h₁ =>?_) λ_ _ e =>e)
      refine wpAny_bind (wpAny_standAt (wpAny_bind (wpAny_of_eq (key.1 x) ?_)))
      exact wpAny_bind (wpAny_holding h₁)
theorem Step.letGo (O : CxOk X) (g : Gd X S s) (st : Step X S s S' s') {C : Addr} {h' : Heap} (hC : s.heap.get? C = none) (hn : ∃ m, s'.heap.Ns C m) (hs : Heap.SameBut C s'.heap h') : Step X S s S' { s' with heap := h' } :=by
  revert hn; refine X43 λm o es ep ho hd u2 =>?_
  have hS : S' C = none := st.gd.none_of ho (λvs n e =>by rw [hd] at e; cases e)
  refine ⟨st.gd.same O.tabOk hs (g.back _ hC) hS ho (λc =>by obtain ⟨⟨vs, e⟩, _⟩ := c; rw [hd] at e; cases e), st.le, st.ext.on λa o' e o₂ e' =>?_, st.new⟩
  have : a ≠ C := λq =>by subst q; rw [hC] at e; exact nos e
  exact (hs.2 a this).trans e'
theorem compCore (O : CxOk X) (GO : GlOk X k G) (VO : VOk X k V) {elt : Expr} {gens : List Comprehension} {scope : Scope} {pos : Pos} {xs : List PyData} (h : compE V Γ elt gens scope ρ = some xs) (R : Room A k) (T : At X hb Sb Γ env ⟨ρ, ω⟩ S s)
    {RR : Value → Addr → Result → Shared → Prop}
    (hR : ∀ D C S' s', Step X S s S' s' → Rd S' (.ref D) (.list xs) → s.heap.get? C = none → (∃ m, s'.heap.Ns C m) → RR (.ref D) C (.ok .next) s') :
    ∃ g gs, gens = g :: gs ∧ (∀ x, foldedSetIterable g.iter env x = pure x) ∧ g.is_async = 0 ∧ ScopeFacts Γ scope ∧ closureFor scope env = pure (clFrom env scope.names []) ∧
      wpAny X.M A (eval g.iter env) (fun x s₁ => wpAny X.M A (pyIter x) (fun it s₂ => wpAny X.M A (newList []) (fun acc s₃ =>
        wpAny X.M A (newFunctionEnv scope env.globals (clFrom env scope.names []) [] env.qual none .none (some env)) (fun cenv s₄ =>
          codeAny X.M A (.compStart (.ListComp elt gens scope pos) 0 it acc { cenv with scope := relabel scope env }) (RR acc cenv.locals) s₄) E s₃) E s₂) E s₁) E s :=by
  cases gens with
  | nil =>exact nos h
  | cons g gs =>
    simp only [compE] at h
    revert h; refine iteC (λ_ h =>?_) λ_ h =>?_
    · rename_i hc
      revert hc; refine X03 λhsc hit hasy =>?_
      have F := scopeFacts hsc
      have ha : ∀ g' ∈ g :: gs, g'.is_async = 0 := λg' hm =>by
        have := List.all_eq_true.mp hasy g' hm
        simpa using this
      revert h; refine bsC λds h1 h =>?_
      revert h; refine bsC λys h2 h =>?_
      revert h; refine iteC (λ_ h =>?_) λ_ h =>?_
      · rename_i hlen; replace h := Option.some.inj h; subst h
        refine ⟨g, gs, rfl, ?_⟩
        have hcl := (compAt O T T.gd (.refl T.gd) F).1
        have key := iterOk (E := E) (Q := fun it s₂ => wpAny X.M A (newList []) (fun acc s₃ =>
          wpAny X.M A (newFunctionEnv scope env.globals (clFrom env scope.names []) [] env.qual none .none (some env)) (fun cenv s₄ =>
            codeAny X.M A (.compStart (.ListComp elt (g :: gs) scope pos) 0 it acc { cenv with scope := relabel scope env }) (RR acc cenv.locals) s₄) E s₃) E s₂) O GO VO h1 R T λit S₂ s₂ st I₂ =>by
          rw [hit] at I₂
          refine wpAny_newObj_type ?_ (by show (0 : Nat) ≤ sizeLine; exact Nat.zero_le _)
          have st3 := st.trans (Step.push O st.gd (listO #[] 0) s₂.toks)
          have I₃ := I₂.step st.gd st3.gd T.gd.back (Step.push O st.gd (listO #[] 0) s₂.toks).sstep
          refine newCompEnv ?_
          have T4 := (compAt O (T.step st3) T.gd st3 F).2
          generalize hs4 : ({ s₂ with heap := pushCells ((s₂.heap.push (listO #[] 0)).push { cls := .type "dict", data := .dict #[] }) scope.names } : Shared) = s₄ at T4
          have hD : s₄.heap.get? s₂.heap.objs.size = some (listO #[] 0) :=by
            rw [← hs4]
            exact pushCells_keeps _ _ _ _ (Heap.get?_push_of_some _ (Heap.get?_push_size _ rfl))
          have nD : s.heap.get? s₂.heap.objs.size = none := none_back st.ext st.gd.pH (get?_size _)
          have acc : AccAt s.heap S₂ s₄ s₂.heap.objs.size [] := ⟨⟨#[], 0, hD, .nil⟩, st.gd.fresh, nD⟩
          have ss4 : SStep X S s S₂ s₄ :=by
            refine st3.sstep.trans ⟨.refl _, λa o _ e _ =>?_, λ_ _ e =>.inl e, λa o e =>⟨o, ?_⟩⟩ <;>
            · rw [← hs4]; exact pushCells_keeps _ _ _ _ (Heap.get?_push_of_some _ e)
          have ss34 : SStep X S₂ { s₂ with heap := s₂.heap.push (listO #[] 0), toks := s₂.toks } S₂ s₄ :=by
            refine ⟨.refl _, λa o _ e _ =>?_, λ_ _ e =>.inl e, λa o e =>⟨o, ?_⟩⟩ <;>
            · rw [← hs4]; exact pushCells_keeps _ _ _ _ (Heap.get?_push_of_some _ e)
          have I₄ := I₃.step st3.gd T4.gd T.gd.back ss34
          show codeAny X.M A (.compStart (.ListComp elt (g :: gs) scope pos) 0 it (.ref s₂.heap.objs.size) (compEnv scope env (s₂.heap.push (listO #[] 0)).objs.size)) (RR (.ref s₂.heap.objs.size) (s₂.heap.push (listO #[] 0)).objs.size) s₄
          refine compStartOk rfl (ha g List.mem_cons_self) I₄ ?_
          refine compTOk O GO VO ha R gs (g := g) (depth := 0) rfl h2 ss4 T4 (λa h =>h) I₄ acc (by simpa using hlen) λS₅ s₅ T₅ ss₅ a₅ =>?_
          refine X22 (λvs n e5 r5 =>?_) a₅.obj
          have st5 : Step X S s S₅ s₅ := T₅.done rfl
          have hle : S₅.Le (S₅.put s₂.heap.objs.size (listO vs n)) := Store.put_le a₅.sD
          have nP : s₂.heap.objs.size ≠ X.P := T.gd.notP' nD
          refine hR _ _ (S₅.put s₂.heap.objs.size (listO vs n)) s₅ ⟨st5.gd.put e5 rfl a₅.sD nP, st5.le.trans hle, st5.ext, λa o e =>?_⟩ (.list Store.put_self (by rw [List.nil_append] at r5; exact r5.le hle)) ?_ T₅.envOk.ns
          · unfold Store.put at e
            revert e; refine iteC (λ_ e =>?_) λ_ e =>?_
            · rename_i q; subst q; exact .inr nD
            · exact st5.new a o e
          · exact T₅.envOk.lNew
        exact ⟨key.1, ha g List.mem_cons_self, F, hcl, key.2⟩
      · exact nos h
    · exact nos h
theorem scopeNames {scope : Scope} (F : ScopeFacts Γ scope) : ∀ x ∈ scope.names, x.2 = .local → scope.names.lookup x.1 = some .local := λx hx hl =>by
  obtain ⟨n, kd⟩ := x
  simp only at hl; subst hl
  exact lookup_of_mem F.nd hx
theorem listCompOk (O : CxOk X) (GO : GlOk X k G) (VO : VOk X k V) {elt : Expr} {gens : List Comprehension} {scope : Scope} {pos : Pos} {xs : List PyData} (h : compE V Γ elt gens scope ρ = some xs) : EvOk X k Γ (.ListComp elt gens scope pos) ρ (.list xs) :=by
  intro hb Sb env ω S s A Q E R T hQ
  obtain ⟨g, gs, rfl, hs, ha, F, hcl, hw⟩ := compCore (pos := pos) (E := E) O GO VO h R T (RR := λacc C =>compPost X.M A E none Q acc C) λD C S' s' st r hC hn =>by
    revert hn; refine X11 λm hm =>?_
    exact ⟨m, hm, λh' hs' =>hQ _ _ _ (st.letGo O T.gd hC ⟨m, hm⟩ hs') r⟩
  rw [eval_ListComp]
  have e1 : firstAsync (g :: gs) = false :=by
    obtain ⟨a, b, c, d⟩ := g
    simp only at ha; subst ha; rfl
  rw [e1]
  have e2 : firstIter (g :: gs) env = eval g.iter env :=by obtain ⟨a, b, c, d⟩ := g; rfl
  rw [e2]
  exact wpAny_comprehension_free (use := none) rfl hs hcl F.kind (scopeNames F) hw
theorem listCompUse (O : CxOk X) (GO : GlOk X k G) (VO : VOk X k V) {elt : Expr} {gens : List Comprehension} {scope : Scope} {pos p : Pos} {x : Str} {xs : List PyData} (h : compE V Γ elt gens scope ρ = some xs) (R : Room A k)
    (T : At X hb Sb Γ env ⟨ρ, ω⟩ S s) (hx : Γ.mayStore x = true) {σ' : St} (hσ : Sets ⟨ρ, ω⟩ x (.list xs) σ') {Q : Unit → Shared → Prop}
    (hQ : ∀ S' s', At X hb Sb Γ env σ' S' s' → SStep X S s S' s' → Q () s') : wpAny X.M A (evalThenUse (.ListComp elt gens scope pos) env (assign (.Name x p) env)) Q E s :=by
  obtain ⟨g, gs, rfl, hs, ha, F, hcl, hw⟩ := compCore (pos := pos) (E := E) O GO VO h R T (RR := λacc C =>compPost X.M A E (some (assign (.Name x p) env)) (λ_ s' =>wpAny X.M A (pure ()) Q E s') acc C) λD C S' s' st r hC hn =>by
    refine PySem.wpAny_assign_Name (storeVar1 O.tabOk (T.step st) hx r hσ λs₁ T₁ nk one =>?_)
    revert one; refine X12 λa hsame hwhere =>?_
    have hCa : C ≠ a := λq =>by
      subst q
      rcases hwhere with q | ⟨n, q⟩
      · refine X42 (fun m o u3 u4 ho u5 => ?_) T.envOk.ns
        rw [← q, hC] at ho; exact nos ho
      · refine X22 (fun v o ho u6 => ?_) (T.envOk.cell n _ q)
        rw [hC] at ho; exact nos ho
    revert hn; refine X11 λm hm =>?_
    have hm1 : s₁.heap.Ns C m := hm.sameBut hsame hCa
    refine ⟨m, hm1, λh' hs' =>?_⟩
    refine X33 (λo es ep ho hd u7 =>?_) (id hm1)
    have nB : hb.get? C = none := T.lo _ hC
    have hcl : env.locals ≠ C := λq =>by
      refine X42 (λm o u8 u9 ho u10 =>?_) T.envOk.ns
      rw [q, hC] at ho; exact nos ho
    have hcc : ∀ n c, env.cells.lookup n = some c → c ≠ C := λn c hc q =>by
      refine X22 (λv o ho u11 =>?_) (T.envOk.cell n c hc)
      rw [q, hC] at ho; exact nos ho
    have hk : Heap.ExtBut C s₁.heap h' := hs'.extBut
    have hS : S' C = none := T₁.gd.none_of ho (λvs n e =>by rw [hd] at e; cases e)
    have vK : ∀ y v, VarIs env s₁.heap y v → VarIs env h' y v := λy v V =>by
      rcases V with ⟨kd, m', hn', hv⟩ | ⟨kd, c, hc, ⟨oc, hoc, hdc⟩⟩
      · exact .inl ⟨kd, m', hn'.extBut hk hcl, hv⟩
      · exact .inr ⟨kd, c, hc, oc, hk c oc (hcc y c hc) hoc, hdc⟩
    have T2 : At X hb Sb Γ env σ' S' { s₁ with heap := h' } :=by
      refine ⟨T₁.gd.same O.tabOk hs' (T.hb1 _ nB) hS ho (fun c => by obtain ⟨⟨vs, e⟩, _⟩ := c; rw [hd] at e; cases e), T₁.keep.on fun b o' e o₂ e' => hk b o₂ (fun q => by subst q; rw [nB] at e; exact nos e) e', T₁.newS, T₁.leS, T₁.hb1,
        ⟨T₁.envOk.kind, T₁.envOk.names, T₁.envOk.glob, T₁.envOk.bi, let ⟨m, hm⟩ := T₁.envOk.ns; ⟨m, hm.extBut hk hcl⟩, T₁.envOk.lNew, λn c hc =>let ⟨v, oc, hoc, hdc⟩ := T₁.envOk.cell n c hc; ⟨v, oc, hk c oc (hcc n c hc) hoc, hdc⟩, T₁.envOk.cBase, T₁.envOk.cNew, T₁.envOk.inj, T₁.envOk.has⟩,
        λy d hy =>let ⟨v, V, r⟩ := T₁.vars y d hy; ⟨v, vK y v V, r⟩, T₁.mask, λy ys hy =>?_⟩
      obtain ⟨r', vs, n, hv, hg, hSr, hr, hall⟩ := T₁.own y ys hy
      exact ⟨r', vs, n, vK _ _ hv, hk r' _ (λq =>by subst q; rw [hg] at ho; replace ho := Option.some.inj ho; subst ho; cases hd) hg, hSr, hr, hall⟩
    have ss : SStep X S s S' s₁ := st.sstep.trans nk.sstep
    have nC : ∀ b o', s.heap.get? b = some o' → b ≠ C := λb o' e q =>by subst q; rw [hC] at e; exact nos e
    exact wpAny_pure (hQ S' _ T2 ⟨ss.le, λb o' n e d =>hk b o' (nC b o' e) (ss.fk b o' n e d), ss.new, λb o' e =>let ⟨o2, h2⟩ := ss.live b o' e; ⟨o2, hk b o2 (nC b o' e) h2⟩⟩)
  have e1 : firstAsync (g :: gs) = false :=by
    obtain ⟨a, b, c, d⟩ := g
    simp only at ha; subst ha; rfl
  have e2 : firstIter (g :: gs) env = eval g.iter env :=by obtain ⟨a, b, c, d⟩ := g; rfl
  show wpAny X.M A (do let _ ← comprehension (.ListComp elt (g :: gs) scope pos) scope env (firstIterPos (g :: gs) pos) (newList []) (firstAsync (g :: gs)) (firstIter (g :: gs) env) (some (assign (.Name x p) env))) Q E s
  rw [e1, e2]
  refine wpAny_bind (wpAny_comprehension_free (use := some (assign (.Name x p) env)) rfl hs hcl F.kind (scopeNames F) hw)
end
end Mine
end
section
namespace Mine
open PySem PySem.Spec PyProof.Rows PySem.W
section
variable {X : Cx} {k : Nat} {V : EvT} {G : Gl} {Γ : Sc} {ρ : Loc}
theorem constOk {c : Const} {n : Nat} {p : Pos} {d : PyData} (h : constD c = some d) : EvOk X k Γ (.Constant c n p) ρ d :=by
  intro hb Sb env ω S s A Q E R T hQ
  cases c with
  | none =>exact PySem.wpAny_Constant_none (hQ _ _ _ (.refl T.gd) (.of h .none))
  | bool b =>exact PySem.wpAny_Constant_bool (hQ _ _ _ (.refl T.gd) (.of h (.bool _)))
  | int i =>exact PySem.wpAny_Constant_int (hQ _ _ _ (.mono T.gd) (.of h (.int _ _)))
  | str x =>exact PySem.wpAny_Constant_str (hQ _ _ _ (.mono T.gd) (.of h (.str _ _)))
  | _ =>exact nos h
theorem negOk (VO : VOk X k V) {x : Expr} {p : Pos} {a : PyData} {i : Int} (h : V.ev Γ x ρ = some a) (hi : uI a = some i) : EvOk X k Γ (.UnaryOp .USub x p) ρ (.int (-i)) :=
  λR T hQ =>UnaryOp_ (VO.ev h R T λ_ _ _ st r =>r.asI hi λ_ =>P.neg_int (hQ _ _ _ (st.toks _) (.int _ _)))
theorem binEOk (O : CxOk X) (VO : VOk X k V) {l r : Expr} {op : Operator} {p : Pos} {a b d : PyData} (ha : V.ev Γ l ρ = some a) (hb : V.ev Γ r ρ = some b) (hd : binD op a b = some d) : EvOk X k Γ (.BinOp l op r p) ρ d :=
  λR T hQ =>PySem.wpAny_BinOp (VO.ev ha R T λ_ _ _ st₁ r₁ =>VO.ev hb R (T.step st₁) λ_ _ _ st₂ r₂ =>binOk O st₂.gd (r₁.le st₂.le) r₂ hd λ_ _ _ st r =>hQ _ _ _ ((st₁.trans st₂).trans st) r)
theorem mulL_const {c : Const} {b d : PyData} (h : mulL c b = some d) : ∃ da, constD c = some da :=by
  revert h; exact ifDC (λi h1 _ =>⟨_, by rw [cI_eq h1]; rfl⟩) λ_ =>bsC λx h1 _ =>⟨_, by rw [cS_eq h1]; rfl⟩
theorem mulEOk (VO : VOk X k V) {c : Const} {n : Nat} {q p : Pos} {r : Expr} {b d : PyData} (hb : V.ev Γ r ρ = some b) (hd : mulL c b = some d) : EvOk X k Γ (.BinOp (.Constant c n q) .Mult r p) ρ d :=
  λR T hQ =>(mulL_const hd).elim λ_ hc =>PySem.wpAny_BinOp (constOk (k := k) (Γ := Γ) (ρ := ρ) hc R T λ_ _ _ st₁ r₁ =>VO.ev hb R (T.step st₁) λ_ _ _ st₂ r₂ =>mulLOk st₂.gd hc (r₁.le st₂.le) r₂ hd λ_ _ _ st r =>hQ _ _ _ ((st₁.trans st₂).trans st) r)
theorem boolVOk (VO : VOk X k V) {op : BoolOp} {p : Pos} : ∀ (vs : List Expr) {d : PyData}, boolV V Γ op ρ vs = some d → EvOk X k Γ (.BoolOp op vs p) ρ d :=by
  intro vs
  induction vs with
  | nil =>exact nos
  | cons x r ih =>
    intro d h hb Sb env ω S s A Q E R T hQ
    cases r with
    | nil =>exact BoolOp_one (VO.ev h R T hQ)
    | cons y r =>
      revert h; refine bsC λv h1 =>bsC λt h2 h =>?_
      cases op with
      | And =>
        refine BoolOp_and (VO.ev h1 R T λw S₁ s₁ st r =>truthyOk st.gd r h2 λs₂ st₂ =>?_)
        cases t with
        | true =>exact ih h R ((T.step st).step st₂) λw S' s' st' r' =>hQ _ _ _ ((st.trans st₂).trans st') r'
        | false =>exact hQ _ _ _ (st.trans st₂) (.of h r)
      | Or =>
        refine BoolOp_or (VO.ev h1 R T λw S₁ s₁ st r =>truthyOk st.gd r h2 λs₂ st₂ =>?_)
        cases t with
        | false =>exact ih h R ((T.step st).step st₂) λw S' s' st' r' =>hQ _ _ _ ((st.trans st₂).trans st') r'
        | true =>exact hQ _ _ _ (st.trans st₂) (.of h r)
theorem allTOk (VO : VOk X k V) {op : BoolOp} {vs0 : List Expr} {p : Pos} {t : Bool} (h : allT (λe =>V.ts Γ e ρ) op vs0 = some t) : TsOk X k Γ (.BoolOp op vs0 p) ρ t :=by
  intro hb Sb env ω S s A Q E R T hQ
  have key : ∀ (vs : List Expr) {S : Store} {s : Shared} {whole : Sem Value} {Q : Bool → Shared → Prop}, allT (λe =>V.ts Γ e ρ) op vs = some t → At X hb Sb Γ env ⟨ρ, ω⟩ S s → (∀ S' s', Step X S s S' s' → Q t s') → wpAny X.M A (isTrue (.BoolOp op vs p) env whole) Q E s :=by
    intro vs
    induction vs with
    | nil =>
      intro S s whole Q h T hQ
      cases op with
      | And =>exact isTrue_and_nil ((show true = t from Option.some.inj h) ▸ hQ _ _ (.refl T.gd))
      | Or =>exact isTrue_or_nil ((show false = t from Option.some.inj h) ▸ hQ _ _ (.refl T.gd))
    | cons x r ih =>
      intro S s whole Q h T hQ
      revert h; refine bsC λc h1 h =>?_
      cases op with
      | And =>
        refine isTrue_and (VO.ts h1 R T λS₁ s₁ st =>?_)
        cases c with
        | true =>exact ih h (T.step st) λS' s' st' =>hQ _ _ (st.trans st')
        | false =>exact show Q false s₁ from (show false = t from Option.some.inj h) ▸ hQ _ _ st
      | Or =>
        refine isTrue_or (VO.ts h1 R T λS₁ s₁ st =>?_)
        cases c with
        | false =>exact ih h (T.step st) λS' s' st' =>hQ _ _ (st.trans st')
        | true =>exact show Q true s₁ from (show true = t from Option.some.inj h) ▸ hQ _ _ st
  exact key vs0 h T hQ
theorem ifExpOk (VO : VOk X k V) {t b o : Expr} {p : Pos} {c : Bool} {d : PyData} (hc : V.ts Γ t ρ = some c) (hd : (if c then V.ev Γ b ρ else V.ev Γ o ρ) = some d) : EvOk X k Γ (.IfExp t b o p) ρ d :=by
  intro hb Sb env ω S s A Q E R T hQ
  refine IfExp_ (VO.ts hc R T λS₁ s₁ st =>?_)
  cases c with
  | true =>exact VO.ev hd R (T.step st) λv S' s' st' r =>hQ _ _ _ (st.trans st') r
  | false =>exact VO.ev hd R (T.step st) λv S' s' st' r =>hQ _ _ _ (st.trans st') r
theorem ifExpTOk (VO : VOk X k V) {t b o : Expr} {p : Pos} {c d : Bool} (hc : V.ts Γ t ρ = some c) (hd : (if c then V.ts Γ b ρ else V.ts Γ o ρ) = some d) : TsOk X k Γ (.IfExp t b o p) ρ d :=by
  intro hb Sb env ω S s A Q E R T hQ
  refine isTrue_IfExp (VO.ts hc R T λS₁ s₁ st =>?_)
  cases c with
  | true =>exact VO.ts hd R (T.step st) λS' s' st' =>hQ _ _ (st.trans st')
  | false =>exact VO.ts hd R (T.step st) λS' s' st' =>hQ _ _ (st.trans st')
theorem cmpEOk (VO : VOk X k V) {l r : Expr} {op : CmpOp} {p : Pos} {a b : PyData} {t : Bool} (hm : behindInMarks op r = false) (ha : V.ev Γ l ρ = some a) (hb : V.ev Γ r ρ = some b) (ht : cmpD op a b = some t) : EvOk X k Γ (.Compare l [op] [r] p) ρ (.bool t) :=
  λR T hQ =>PySem.wpAny_Compare1 (VO.ev ha R T λ_ _ _ st₁ r₁ =>VO.ev hb R (T.step st₁) λ_ _ _ st₂ r₂ =>cmpOk R.low st₂.gd (r₁.le st₂.le) r₂ ht (hQ _ _ _ (st₁.trans st₂) (.bool _))) hm
theorem cmpTOk (VO : VOk X k V) {l r : Expr} {op : CmpOp} {p : Pos} {a b : PyData} {t : Bool} (hm : behindInMarks op r = false) (ha : V.ev Γ l ρ = some a) (hb : V.ev Γ r ρ = some b) (ht : cmpD op a b = some t) : TsOk X k Γ (.Compare l [op] [r] p) ρ t :=
  λR T hQ =>PySem.wpAny_isTrue_Compare1 (VO.ev ha R T λ_ _ _ st₁ r₁ =>VO.ev hb R (T.step st₁) λ_ _ _ st₂ r₂ =>cmpOk R.low st₂.gd (r₁.le st₂.le) r₂ ht (PySem.wpAny_truthy_bool (hQ _ _ (st₁.trans st₂)))) hm
theorem idxEOk (VO : VOk X k V) {v i : Expr} {p : Pos} {a b d : PyData} (hs : dSlice i = none) (ha : V.ev Γ v ρ = some a) (hb : V.ev Γ i ρ = some b) (hd : idxD a b = some d) : EvOk X k Γ (.Subscript v i p) ρ d :=
  λR T hQ =>Subscript_ (VO.ev ha R T λ_ _ _ st₁ r₁ =>VO.ev hb R (T.step st₁) λ_ _ _ st₂ r₂ =>idxOk st₂.gd (r₁.le st₂.le) r₂ hd hs λ_ _ _ st r =>hQ _ _ _ ((st₁.trans st₂).trans st) r)
theorem evList_length {ev : Expr → Option PyData} {es : List Expr} : ∀ {ds : List PyData}, evList ev es = some ds → es.length = ds.length :=by
  induction es with
  | nil =>exact λh =>Option.some.inj h ▸ rfl
  | cons e r ih =>exact evListC λ_ _ _ _ h2 q =>q ▸ congrArg (· + 1) (ih h2)
theorem listEOk (O : CxOk X) (VO : VOk X k V) {es : List Expr} {p : Pos} {ds : List PyData} (hl : es.length ≤ 1000) (h : evList (λe =>V.ev Γ e ρ) es = some ds) : EvOk X k Γ (.List es p) ρ (.list ds) :=by
  intro hb Sb env ω S s A Q E R T hQ
  refine List_ (listOk VO h R T λvs S₁ s₁ st r =>newListOk O st.gd r ?_ λv S' s' st' r' =>hQ _ _ _ (st.trans st') r')
  rw [r.length, ← evList_length h]; exact Nat.le_trans hl (by decide)
theorem tupleEOk (O : CxOk X) (VO : VOk X k V) {es : List Expr} {c : Nat} {p : Pos} {ds : List PyData} (hl : es.length ≤ 1000) (h : evList (λe =>V.ev Γ e ρ) es = some ds) : EvOk X k Γ (.Tuple es c p) ρ (.tuple ds) :=by
  intro hb Sb env ω S s A Q E R T hQ
  refine Tuple_ (listOk VO h R T λvs S₁ s₁ st r =>newTupleOk O st.gd r ?_ λv S' s' st' r' =>hQ _ _ _ (st.trans st') r')
  rw [r.length, ← evList_length h]; exact Nat.le_trans hl (by decide)
theorem nameOk (O : CxOk X) (GO : GlOk X k G) {x : Str} {p : Pos} {d : PyData} (h : nameD G Γ x ρ = some d) : EvOk X k Γ (.Name x p) ρ d :=by
  intro hb Sb env ω S s A Q E R T hQ
  revert h; refine ifnC λhd =>bsC λkd hk =>iteC (λ_ h =>?_) λ_ =>ifsC λhg h =>?_
  · exact evalVar T h (beq_eq_false_iff_ne.mpr hd) λv r =>hQ _ _ _ (.refl T.gd) r
  · exact X12 (λfv hf r =>evalGlob O T (hk.trans (congrArg some hg)) hf (beq_eq_false_iff_ne.mpr hd) (hQ _ _ _ (.refl T.gd) (r.le T.gd.s0))) (GO.glob h)
theorem callNOk (O : CxOk X) (GO : GlOk X k G) (VO : VOk X k V) {f : Str} {p pos : Pos} {args : List Expr} {ds : List PyData} {d : PyData} (hn : args ≠ []) (hf : f ≠ Str.ofString "__debug__") (hk : Γ.names.lookup f = some .globalImplicit) (h1 : evList (fun e => V.ev Γ e ρ) args = some ds)
    (h : G.call f ds = some d) : EvOk X k Γ (.Call (.Name f p) args [] pos) ρ d :=
  λR T hQ =>X13 (λ_ hg hp hc =>callGlob O VO R T hk hg hp hf hn h1 λ_ _ _ st r =>hc R st.gd r λ_ _ _ st' r' =>hQ _ _ _ (st.trans st') r') (GO.call h)
theorem attributeBase_plain {o : Expr} {m : Str} {env : Env} {whole : Sem Value} (h : superCall o = false) : attributeBase o m env whole = whole :=by
  cases o with
  | Call f as ks p =>exact tnf h
  | _ =>rfl
theorem method_eq {o : Expr} {m : Str} {apos pos : Pos} {args : List Expr} {env : Env} (hs : superCall o = false) (hp : ((backTo pos (starEach args env)).any fun x => x.1) = false) (hl : args.length ≤ 20) (he : apos.endLine = pos.line) :
    eval (.Call (.Attribute o m apos) args [] pos) env = (do
      let ov ← eval o env
      standAt apos.atName
      let (f, first) ← holding [ov] (getMethod ov m (do return (← importBound o env).getD true))
      callWith pos f first (backTo pos (starEach args env)) []) :=by
  rw [arm_eval_Call, attributeBase_plain hs]
  have hall : ((backTo pos (starEach args env)).all λx =>!x.1) = true :=
    List.all_eq_true.mpr λx hx =>(Bool.not_eq_true' _).mpr (Bool.eq_false_iff.mpr (List.any_eq_false.mp hp x hx))
  have hform : methodCallForm (args.length + ([] : List Keyword).length) (backTo pos (starEach args env)) (backToKw pos (keywordEach [] env)) = true :=by
    unfold methodCallForm
    rw [hall, show backToKw pos (keywordEach [] env) = [] from rfl]
    exact Bool.and_eq_true_iff.mpr ⟨rfl, decide_eq_true (show args.length + 0 + 0 < 30 from Nat.lt_of_le_of_lt hl (by decide))⟩
  unfold methodCall
  rw [hform, show methodCallPos true o env apos pos = pure pos from if_pos (by rw [he, beq_self_eq_true]; rfl)]
  simp only [pure_bind]
  rfl
theorem methOk (GO : GlOk X k G) (VO : VOk X k V) {o : Expr} {m : Str} {ap pos : Pos} {args : List Expr} {self d : PyData} {ds : List PyData} (hs : superCall o = false) (he : ap.endLine = pos.line) (hl : args.length ≤ 20) (h0 : V.ev Γ o ρ = some self)
    (h1 : evList (λe =>V.ev Γ e ρ) args = some ds) (h : G.meth self m ds = some d) : EvOk X k Γ (.Call (.Attribute o m ap) args [] pos) ρ d :=by
  intro hb Sb env ω S s A Q E R T hQ
  refine X12 (λid hm hc =>MethodCall_ (VO.ev h0 R T λv S₁ s₁ st₁ r₁ =>hm st₁.gd r₁ ?_) (method_eq hs (plainArgs h1) hl he)) (GO.meth h)
  cases args with
  | nil =>exact callWith_method0 (hc (vs := []) R st₁.gd r₁ (Option.some.inj h1 ▸ .nil) λv S' s' st r =>hQ _ _ _ (st₁.trans st) r)
  | cons e rest =>exact evListC (λhne _ _ _ e2 _ =>callWith_method1 (listOk VO h1 R (T.step st₁) λvs S₂ s₂ st₂ r₂ =>hc R st₂.gd (r₁.le st₂.le) r₂ λv S' s' st r =>hQ _ _ _ ((st₁.trans st₂).trans st) r) (starEach_plain hne) (plainArgs e2)) h1
theorem instOk (O : CxOk X) (GO : GlOk X k G) (VO : VOk X k V) {a : Expr} {p q pos : Pos} {da d : PyData} (hk : Γ.names.lookup (Str.ofString "isinstance") = some .globalImplicit) (hk2 : Γ.names.lookup (Str.ofString "bool") = some .globalImplicit) (hne : isStar a = false) (h1 : V.ev Γ a ρ = some da)
    (h : instD da = some d) : EvOk X k Γ (.Call (.Name (Str.ofString "isinstance") p) [a, .Name (Str.ofString "bool") q] [] pos) ρ d := by
  intro hb Sb env ω S s A Q E R T hQ
  refine Call_ (evalGlob O T hk GO.isinst (by decide) (PyProof.Rows.callWith_builtin1 (args_cons (VO.ev h1 R T λv S₁ s₁ st r =>args_cons (evalGlob O (T.step st) hk2 GO.bool (by decide) (args_nil ?_)) rfl) (starEach_plain hne)) (starEach_plain hne) rfl)) rfl
  revert h
  exact ifDC (fun b h1 h => r.asB h1 (call_isinstance (isinstance_true (Tx := "bool") rfl rfl) ⟨rfl, hQ _ _ _ st (.of h (.bool _))⟩)) fun _ => ifDC (fun i h1 h => r.asI h1 fun u => call_isinstance (isinstance_false_int (by decide) rfl rfl) (hQ _ _ _ (st.toks _) (.of h (.bool _))))
    λ_ =>bsC λx h1 h =>r.asS h1 λu =>call_isinstance (isinstance_false_str (by decide) rfl rfl) (hQ _ _ _ (st.toks _) (.of h (.bool _)))
end
end Mine
end
section
namespace Mine
open PySem PySem.Spec PyProof.Rows PySem.W
section
variable {X : Cx} {k : Nat} {V : EvT} {G : Gl} {Γ : Sc} {ρ : Loc} {hb : Heap} {Sb S : Store} {env : Env} {ω : Option (Str × List PyData)} {s : Shared} {A : Around} {E : Value → Shared → Prop}
noncomputable def PartRd (S : Store) (v : Value) : Option PyData → Prop
  | none =>v = .none
  | some d =>Rd S v d
theorem partOk (VO : VOk X k V) {x : Option Expr} {dd : Option PyData} (h : sliceE V Γ ρ x = some dd) (R : Room A k) (T : At X hb Sb Γ env ⟨ρ, ω⟩ S s) {Q : Value → Shared → Prop}
    (hQ : ∀ v S' s', Step X S s S' s' → PartRd S' v dd → Q v s') : wpAny X.M A (evalPart x env) Q E s :=by
  cases x with
  | none =>exact evalPart_none_step (hQ _ _ _ (.refl T.gd) (Option.some.inj h ▸ rfl))
  | some e =>revert h; exact bsC λd h1 h2 =>evalPart_some_step (VO.ev h1 R T λv S' s' st r =>hQ _ _ _ st (Option.some.inj h2 ▸ r))
theorem PartRd.le {S S' : Store} {v : Value} {dd : Option PyData} (h : PartRd S v dd) (l : S.Le S') : PartRd S' v dd :=by
  cases dd with
  | none =>exact h
  | some d =>exact Rd.le l h
theorem PartRd.no {S : Store} {v : Value} {dd : Option PyData} (h : PartRd S v dd) (e : dd = none) : v = .none :=by rw [e] at h; exact h
theorem PartRd.isInt {S : Store} {v : Value} {dd : Option PyData} {d : PyData} {i : Int} (h : PartRd S v dd) (e : dd = some d) (hi : uI d = some i) : ∃ t, v = .int i t :=by
  rw [e] at h; exact Rd.asI h hi λt =>⟨t, rfl⟩
theorem PartRd.part {S : Store} {v : Value} {dd : Option PyData} {d : PyData} {i : Int} (h : PartRd S v dd) (e : dd = some d) (hi : uI d = some i) : IsPart v (some i) := (h.isInt e hi).elim λt e =>e ▸ .int i t
theorem PartRd.noPart {S : Store} {v : Value} {dd : Option PyData} (h : PartRd S v dd) (e : dd = none) : IsPart v none := h.no e ▸ .none
theorem slice_take (items : Array Value) {j : Int} (h : 0 ≤ j) : slicePick items none (some j) none = (items.toList.take j.toNat).toArray :=by
  have := PySem.slicePick_upto' items j.toNat
  rwa [Int.toNat_of_nonneg h] at this
theorem slice_drop (items : Array Value) {j : Int} (h : 0 ≤ j) : slicePick items (some j) none none = (items.toList.drop j.toNat).toArray :=by
  have := PySem.slicePick_from' items j.toNat
  rwa [Int.toNat_of_nonneg h] at this
theorem run_eq {α : Type} (l : List α) {a b : Nat} (hab : a ≤ b) : (l.drop (min a l.length)).take (min b l.length - min a l.length) = (l.take b).drop a :=by
  rcases Nat.le_total b l.length with h | h
  · rw [Nat.min_eq_left h, Nat.min_eq_left (Nat.le_trans hab h), List.drop_take]
  · rw [Nat.min_eq_right h, List.take_of_length_le (l := l) h, List.take_of_length_le (by rw [List.length_drop]; exact Nat.le_refl _)]
    rcases Nat.le_total a l.length with h2 | h2
    · rw [Nat.min_eq_left h2]
    · rw [Nat.min_eq_right h2, List.drop_eq_nil_of_le (Nat.le_refl _), List.drop_eq_nil_of_le h2]
theorem slice_run (items : Array Value) {i j : Int} (h : 0 ≤ i) (hj : i ≤ j) : slicePick items (some i) (some j) none = ((items.toList.take j.toNat).drop i.toNat).toArray :=by
  have e := PySem.slicePick_plain items (some (i.toNat : Int)) (some (j.toNat : Int))
  rw [Int.toNat_of_nonneg h, Int.toNat_of_nonneg (Int.le_trans h hj)] at e
  rw [e, ← run_eq _ (Int.toNat_le_toNat hj)]
  show _ = ((items.toList.drop (min i.toNat items.size)).take (min j.toNat items.size - min i.toNat items.size)).toArray
  rw [← clipAt_nat, ← clipAt_nat, Int.toNat_of_nonneg h, Int.toNat_of_nonneg (Int.le_trans h hj)]
  rfl
theorem takeS_eq (x : Str) {k : Int} (h : 0 ≤ k) : (⟨(x.cps.toList.take k.toNat).toArray⟩ : Str) = Txt.slice x none (some k) :=by
  rw [eq_of_beq (slice_to_min_closes (x := x) h rfl)]
  refine congrArg (λl : List Nat =>(⟨l.toArray⟩ : Str)) ?_
  rw [Int.sub_zero]
  show _ = List.take _ x.cps.toList
  by_cases hlt : (x.length : Int) < k
  · rw [if_pos hlt, List.take_of_length_le (i := k.toNat) (Nat.le_of_lt (Int.lt_toNat.mpr hlt))]; exact (List.take_of_length_le (Nat.le_refl _)).symm
  · rw [if_neg hlt]
theorem butLast_eq (x : Str) (hp : 0 < x.length) : (⟨(x.cps.toList.take (x.length - 1)).toArray⟩ : Str) = Txt.slice x none (some (-1)) :=by
  refine (takeS_eq x (k := ((x.length - 1 : Nat) : Int)) (Int.natCast_nonneg _)).trans ?_
  have e : ((x.length - 1 : Nat) : Int) = -1 + (x.length : Int) := (Int.ofNat_sub hp).trans ((Int.sub_eq_add_neg ..).trans (Int.add_comm _ _))
  have : Builtin.Str.strSliceIndices none (some (-1)) 1 x.length = Builtin.Str.strSliceIndices none (some ((x.length - 1 : Nat) : Int)) 1 x.length :=by
    unfold Builtin.Str.strSliceIndices
    dsimp only
    rw [if_neg (Int.not_lt.mpr (Int.natCast_nonneg (x.length - 1))), e]
    rfl
  unfold Txt.slice
  rw [this]
theorem sliceListOk (O : CxOk X) (g : Gd X S s) {v : Expr} {lo hi : Option Expr} {p : Pos} {l a : Addr} {vs : Array Value} {n : Nat} {xs ys : List PyData} {va vb : Value} {lo' hi' : Option Int} (hl : S l = some (listO vs n)) (hr : RdAll S vs.toList xs) (hlen : xs.length ≤ 100000)
    (isl : s.heap.IsSliceOf a va vb .none) (ia : IsPart va lo') (ib : IsPart vb hi') (hy : RdAll S (slicePick vs lo' hi' none).toList ys) {r : PyData} (e : some (PyData.list ys) = some r) {Q : Value → Shared → Prop} (hQ : ∀ v S' s', Step X S s S' s' → Rd S' v r → Q v s') :
    wpAny X.M A (subscriptTail v (.Slice lo hi none p) (.ref l) (.ref a)) Q E s :=by
  have hl' := Rd.isList g.inn hl
  exact PyProof.Rows.tail_any hl'.typeIs slot_list_getitem.lookup (PySem.wpAny_getItem_list_slice hl' isl ia ib .none nofun (hQ _ _ _ (Step.alloc O g (o := listO (slicePick vs lo' hi' none) 0) rfl rfl s.toks) (.of e (.list Store.put_self (hy.le (Store.put_le g.fresh)))))
    (by rw [hr.size]; exact Nat.le_trans hlen (by decide))) rfl
theorem sliceStrOk (g : Gd X S s) {v : Expr} {lo hi : Option Expr} {p : Pos} {a : Addr} {x : Str} {k : Int} {t u : Tok} (isl : s.heap.IsSlice a none (some (k, u)) none) {r : PyData} (e : takeS x k = some r) {Q : Value → Shared → Prop} (hQ : ∀ v S' s', Step X S s S' s' → Rd S' v r → Q v s') :
    wpAny X.M A (subscriptTail v (.Slice lo hi none p) (.str x t) (.ref a)) Q E s :=by
  have h : Txt.slice x none (some k) = Txt.slice x none (some k) ∧ x.length ≤ 100000 ∧ some (PyData.str (Txt.slice x none (some k))) = some r :=by
    revert e; exact iteC (λhc e =>⟨rfl, hc.2, takeS_eq x hc.1 ▸ e⟩) λ_ =>ifsC λhc e =>⟨rfl, hc.2.2, hc.1 ▸ butLast_eq x hc.2.1 ▸ e⟩
  exact wpAny_with_toks g.tp (PyProof.Rows.tail_any (typeIs_str _ _ _) PySem.F.slot_str_getitem.lookup (PySem.wpAny_getItem_str_slice (l := none) (u := some (k, u)) (st := none) isl rfl
    (post_val_or_str ⟨Nat.le_trans (Txt.slice_le x none (some k)) (Nat.le_trans h.2.1 (by decide)), λt' k' htk =>hQ _ _ _ (.mono g λ_ =>htk) (.of h.2.2 (.str _ _))⟩)) rfl)
theorem sliceEOk (O : CxOk X) (VO : VOk X k V) {v : Expr} {lo hi : Option Expr} {p q : Pos} {d r : PyData} {a b : Option PyData} (h0 : V.ev Γ v ρ = some d) (h1 : sliceE V Γ ρ lo = some a) (h2 : sliceE V Γ ρ hi = some b) (h3 : sliceD d a b = some r) :
    EvOk X k Γ (.Subscript v (.Slice lo hi none p) q) ρ r :=by
  intro hb Sb env ω S s A Q E R T hQ
  refine Subscript_ (VO.ev h0 R T λo S₁ s₁ st₁ r₁ =>PySem.wpAny_Slice (partOk VO h1 R (T.step st₁) λva S₂ s₂ st₂ p₂ =>partOk VO h2 R ((T.step st₁).step st₂) λvb S₃ s₃ st₃ pb =>evalPart_none_step ?_))
  have st : Step X S s S₃ s₃ := (st₁.trans st₂).trans st₃
  have r₀ : Rd S₃ o d := (r₁.le st₂.le).le st₃.le
  have pa : PartRd S₃ va a := p₂.le st₃.le
  have st4 := Step.push O st.gd { cls := .type "slice", data := .fields #[va, vb, .none] } s₃.toks
  have isl : (s₃.heap.push { cls := .type "slice", data := .fields #[va, vb, .none] }).IsSliceOf s₃.heap.objs.size va vb .none := Heap.IsSliceOf.new ..
  have hQ' : ∀ v S' s', Step X S₃ _ S' s' → Rd S' v r → Q v s' := λv S' s' st' r' =>hQ v S' s' ((st.trans st4).trans st') r'
  clear hQ r₁ p₂ st₁ st₂ st₃ st
  revert h3; refine ifDC (λxs hd =>r₀.asL hd λl vs n hl rl =>?_) λ_ =>iteC (λ_ =>nos) λha =>bsC λx hx =>bsC λk hk =>bsC λk hk2 h =>?_
  · have hva := pa.no (Option.not_isSome_iff_eq_none.mp ha)
    refine (pb.isInt hk hk2).elim λu hu =>r₀.asS hx λt =>?_
    subst hva; subst hu
    exact sliceStrOk st4.gd ⟨_, Heap.get?_push_size _ rfl, rfl, rfl⟩ h hQ'
  · have rl' := rl.le st4.le
    have ok : ∀ {ys : List PyData} {lo' hi' : Option Int}, IsPart va lo' → IsPart vb hi' → xs.length ≤ 100000 → RdAll S₃ (slicePick vs lo' hi' none).toList ys → some (PyData.list ys) = some r → wpAny X.M A (subscriptTail v (.Slice lo hi none p) (.ref l) (.ref s₃.heap.objs.size)) Q E _ :=
      λia ib hz hy h =>sliceListOk O st4.gd (st4.le _ _ hl) rl' hz isl ia ib (hy.le st4.le) h hQ'
    exact ifDC (fun j hj => bsC fun j hj2 => ifDC (fun k hk => bsC fun k hk2 => ifsC fun hc h => ok (pa.part hj hj2) (pb.part hk hk2) hc.2.2 (by rw [slice_run _ hc.1 hc.2.1]; exact (rl.take _).drop _) h) fun hk => ifsC fun hc h => ok (pa.part hj hj2) (pb.noPart hk) hc.2 (by rw [slice_drop _ hc.1]; exact rl.drop _) h)
      λhj =>bsC λk hk =>bsC λk hk2 =>ifsC λhc h =>ok (pa.noPart hj) (pb.part hk hk2) hc.2 (by rw [slice_take _ hc.1]; exact rl.take _) h
theorem dictE_lits {ks : List (Option Expr)} : ∀ {vs : List Expr} {kvs : List (Str × Int)}, dictE ks vs = some kvs →
    litPairs ks vs = some (kvs.map λp =>(PyData.str p.1, PyData.int p.2)) ∧ PyProof.Rows.strKeyed (kvs.map λp =>(PyData.str p.1, PyData.int p.2)) = true ∧ strKeysOf (kvs.map λp =>(PyData.str p.1, PyData.int p.2)) = kvs.map (·.1) ∧ ks.all (·.isSome) = true ∧ ks.length = vs.length ∧ ks.length = kvs.length :=by
  induction ks with
  | nil =>
    intro vs kvs h
    cases vs with
    | nil =>exact Option.some.inj h ▸ ⟨rfl, rfl, rfl, rfl, rfl, rfl⟩
    | cons a b =>exact nos h
  | cons kx ks ih =>
    intro vs kvs h
    cases vs with
    | nil =>exact nos h
    | cons v vs =>
      revert h; refine bsC λx h1 =>bsC λi h2 =>bsC λr h3 h =>?_
      revert h1; refine bsC λe h0 h1 =>X06 (λa b c d l1 l2 =>?_) (ih h3)
      rw [← Option.some.inj h, h0]
      refine (dStrE_eq h1).elim λ_ q =>q.elim λ_ q1 =>(dInt_eq h2).elim λ_ q =>q.elim λ_ q2 =>?_
      rw [q1, q2]
      exact ⟨congrArg (λo =>o.bind λr =>some ((PyData.str x, PyData.int i) :: r)) a, b, congrArg (x :: ·) c, d, congrArg (· + 1) l1, congrArg (· + 1) l2⟩
theorem lookup_map (kvs : List (Str × Int)) (x : Str) : PySem.Spec.lookup (.str x) (kvs.map λp =>(PyData.str p.1, PyData.int p.2)) = (kvs.lookup x).map PyData.int :=by
  induction kvs with
  | nil =>rfl
  | cons p r ih =>
    cases p with
    | mk a b =>
      by_cases h : x = a
      · subst h; rw [List.lookup_cons, beq_self_eq_true]; simp [PySem.Spec.lookup, PyProof.V.same_str]
      · rw [List.lookup_cons, beq_eq_false_iff_ne.mpr h, ← ih]; simp [PySem.Spec.lookup, PyProof.V.same_str, Ne.symm h]
theorem dictGetOk (O : CxOk X) {ks : List (Option Expr)} {vs : List Expr} {dp ap pos pa pb : Pos} {kb : Nat} {a : Str} {kvs : List (Str × Int)} {x : Str} {n : Int} (he : ap.endLine = pos.line) (h0 : dictE ks vs = some kvs) (ha : ρ.lookup a = some (.str x)) (hda : a ≠ Str.ofString "__debug__") (hl : kvs.length ≤ 8) (hn : kvs ≠ []) (hd : (kvs.map (·.1)).Nodup) : EvOk X k Γ (.Call (.Attribute (.Dict ks vs dp) (Str.ofString "get") ap) [.Name a pa, .Constant (.int n) kb pb] [] pos) ρ (.int ((kvs.lookup x).getD n)) := by
  intro hb' Sb env ω S s A Q E R T hQ
  refine X06 (λl1 l2 l3 l4 l5 l6 =>?_) (dictE_lits h0)
  refine MethodCall_ ?_ (method_eq rfl rfl (by simp) he)
  refine wpAny_with_toks T.gd.tp ?_
  refine Dict_lits_str l1 l2 (l3 ▸ hd) l4 l5 (by intro q; rw [q] at l6; cases kvs with | nil =>exact hn rfl | cons _ _ =>simp at l6) (by omega) λd o h₁ tk hsz ho ht hk htk =>?_
  have st : Step X S s S { s with heap := h₁, toks := tk } := ⟨T.gd.change O.tabOk (fp := λ_ =>False) (λa o _ e =>hk a o e) (λ_ q =>q.elim) (λ_ =>htk), .refl _, .of λa o _ e =>hk a o e, λ_ _ e =>.inl e⟩
  have hdS : (d == sysModules) = false := beq_eq_false_iff_ne.mpr λq =>by
    have : ∃ o, s.heap.get? sysModules = some o := if hP : sysModules = X.P then hP ▸ T.gd.pH else O.sm.elim λo ho =>⟨o, T.gd.base _ o hP ho⟩
    rw [← q] at this
    exact this.elim λo ho =>absurd (Heap.lt_size ho) (Nat.not_lt.mpr hsz)
  refine X12 (λkv hkv hfl =>?_) ht
  have tab : ∀ {h' : Heap}, h'.get? d = some o → StrTab PySem.Challenge.pw_mr0260_01 X.w h' d (kvs.map λp =>(PyData.str p.1, PyData.int p.2)) := λe =>TabAt.ofObj hdS e hkv hfl
  refine getMethod_strTab_get (tab ho) ?_
  refine callWith_method1 ?_ rfl rfl
  refine args_cons (evalVar (σ := ⟨ρ, ω⟩) (T.step st) ha (by simpa using hda) λva r₁ =>?_) rfl
  obtain ⟨t, rfl⟩ := r₁.str_inv
  refine args_cons (PySem.wpAny_Constant_int (args_nil ?_)) rfl
  refine call_get2_strTab (tab ho) (PyProof.V.Flat.int _ _) λv fv =>?_
  rw [lookup_map] at fv
  have e : ((kvs.lookup x).map PyData.int).getD (.int n) = .int ((kvs.lookup x).getD n) :=by cases kvs.lookup x <;> rfl
  rw [e] at fv
  obtain ⟨u, rfl⟩ := fv.int_inv
  exact hQ _ _ _ (st.toks _) (.int _ _)
theorem replOk (O : CxOk X) (VO : VOk X k V) {o : Expr} {ap pos p1 p2 : Pos} {n1 n2 : Nat} {a b x : Str} (hs : superCall o = false) (he : ap.endLine = pos.line) (hab : (a == b) = false) (hb : b.length ≤ 14) (h0 : V.ev Γ o ρ = some (.str x)) (hx : x.length ≤ 100000) :
    EvOk X k Γ (.Call (.Attribute o (Str.ofString "replace") ap) [.Constant (.str a) n1 p1, .Constant (.str b) n2 p2] [] pos) ρ (.str (Txt.replace x a b)) := by
  intro hb' Sb env ω S s A Q E R T hQ
  refine MethodCall_ (VO.ev h0 R T λv S₁ s₁ st₁ r₁ =>?_) (method_eq hs rfl (by simp) he)
  obtain ⟨t, rfl⟩ := r₁.str_inv
  refine getMethod_builtin (T := "str") (typeIs_str _ _ _) PySem.F.plainAttrs_str PySem.F.slot_str_replace PySem.F.type_str_replace (fun a e => by cases e) ?_
  refine callWith_method1 ?_ rfl rfl
  refine args_cons (PySem.wpAny_Constant_str (args_cons (PySem.wpAny_Constant_str (args_nil ?_)) rfl)) rfl
  show wpAny X.M A (call (.builtin "str.replace") [.str x t, .str a s₁.toks, .str b (s₁.toks + 1)]) Q E { s₁ with toks := s₁.toks + 1 + 1 }
  have tp := st₁.gd.tp
  refine wpAny_with_toks (n := 1) (Nat.succ_pos _) (SC.replaceW (Nat.ne_of_gt tp) (Nat.succ_ne_zero _) (Nat.ne_of_lt (Nat.lt_succ_self _)) hab (by omega) hb λt' k' htk =>?_)
  exact hQ _ _ _ (st₁.toks k' λ_ =>htk) (.str _ _)
theorem GlobIs.uniq {f : Str} {u v : Value} (a : GlobIs X f u) (b : GlobIs X f v) : u = v :=
  a.elim (λa =>b.elim (uq a) λb =>nos (b.1.symm.trans a)) λa =>b.elim (λb =>nos (a.1.symm.trans b)) λb =>uq a.2 b.2
theorem starOk (O : CxOk X) (GO : GlOk X k G) (VO : VOk X k V) {p q pos : Pos} {e : Expr} {d0 : PyData} {xs : List PyData} {d : PyData} (hk : Γ.names.lookup (Str.ofString "_platform") = some .globalImplicit) (h1 : V.ev Γ e ρ = some d0) (hx : uL d0 = some xs) (hlen : xs.length ≤ 1000)
    (h : G.call (Str.ofString "_platform") xs = some d) : EvOk X k Γ (.Call (.Name (Str.ofString "_platform") p) [.Starred e q] [] pos) ρ d := by
  intro hb Sb env ω S s A Q E R T hQ
  refine X13 (λfv hg hp hc =>?_) (GO.call h)
  refine X34 (λa o fd hg' ho hP hfd =>?_) GO.plat
  have := hg.uniq hg'; subst this
  refine Call_ (evalGlob O T hk hg (by decide) (PySem.Calls.callWith_function (o := o) (fd := fd) (first := []) ?_)) rfl
  show wpAny X.M A (evalArgs (.ref a) true [(true, do let v ← eval e env; standAt pos; pure v)] []) _ E s
  unfold evalArgs
  refine wpAny_bind (wpAny_bind (VO.ev h1 R T λv S₁ s₁ st r =>r.asL hx λl vs n hl rl =>wpAny_bind (wpAny_standAt (wpAny_pure (wpAny_bind (wpAny_pure (wpAny_holding ?_)))))))
  have hL := Rd.isList st.gd.inn hl
  simp only [List.all_nil, if_true]
  refine wpAny_bind (wpAny_pure (wpAny_bind (wpAny_bind ?_)))
  unfold notIterableAtAll
  refine wpAny_bind (wpAny_specialOf hL.typeIs PySem.F.slot_list_iter.lookup (wpAny_pure ?_))
  simp only [Bool.false_eq_true, if_false]
  refine wpAny_holding (PySem.wpAny_collect_seq l (.inl rfl) (st.gd.inn _ _ hl) rfl rfl (λh' hk' =>?_) (by rw [rl.size]; exact Nat.le_trans hlen (by decide)))
  have st2 : Step X S₁ s₁ S₁ { s₁ with heap := h', toks := s₁.toks } := ⟨st.gd.change O.tabOk (fp := λ_ =>False) (λa o _ e =>hk' a o e) (λ_ q =>q.elim), .refl _, .of λa o _ e =>hk' a o e, λ_ _ e =>.inl e⟩
  exact wpAny_pure ⟨⟨(st.trans st2).gd.base a o hP ho, hfd⟩, hc R (st.trans st2).gd rl λv S' s' st' r' =>hQ _ _ _ ((st.trans st2).trans st') r'⟩
end
end Mine
end
section
namespace Mine
open PySem PySem.Spec PyProof.Rows PySem.W
section
variable {X : Cx} {k : Nat} {V : EvT} {G : Gl} {Γ : Sc} {ρ : Loc}
theorem callGenOk (O : CxOk X) (GO : GlOk X k G) (VO : VOk X k V) {f : Str} {args : List Expr} {q p : Pos} {d : PyData} (h : callGen G V Γ f args ρ = some d) : EvOk X k Γ (.Call (.Name f q) args [] p) ρ d :=by
  revert h; exact ifnC λhd =>ifsC λhk =>bsC λds h1 h2 =>callNOk O GO VO (λq =>hd (.inr (by rw [q]; rfl))) (λq =>hd (.inl q)) hk h1 h2
theorem callNameOk (O : CxOk X) (GO : GlOk X k G) (VO : VOk X k V) (ns : ∀ {e d}, V.ev Γ e ρ = some d → isStar e = false) {f : Str} {args : List Expr} {q p : Pos} {d : PyData} (h : callName G V Γ f args ρ = some d) : EvOk X k Γ (.Call (.Name f q) args [] p) ρ d :=by
  revert h
  refine ifDC (λe =>bsC λx h2 h3 =>ifsC λhc =>bsC λa h4 =>bsC λxs h5 =>ifnC λhl h6 =>?_) λ_ =>ifDC (λx h2 =>iteC (λhc =>bsC λa h3 h4 =>?_) λ_ =>callGenOk O GO VO) λ_ =>callGenOk O GO VO
  · refine (dStar_eq h3).elim fun q2 e2 => ?_
    rw [d1_eq h2, e2, hc.1]
    rw [hc.1] at h6
    exact starOk O GO VO (hc.1 ▸ hc.2) h4 h5 (Nat.not_lt.mp hl) h6
  · refine (dTwoName_eq h2).elim fun q2 e2 => ?_
    rw [e2, hc.1, hc.2.1]
    exact instOk O GO VO (hc.1 ▸ hc.2.2.1) (hc.2.1 ▸ hc.2.2.2) (ns h3) h3 h4
theorem callAttrOk (O : CxOk X) (GO : GlOk X k G) (VO : VOk X k V) {o : Expr} {m : Str} {args : List Expr} {ap p : Pos} {d : PyData} (h : callAttr G V Γ o m ap p args ρ = some d) : EvOk X k Γ (.Call (.Attribute o m ap) args [] p) ρ d :=by
  revert h
  refine ifDC (fun x h1 => bsC fun y h2 => ifsC fun hc => bsC fun kvs h3 => bsC fun z => bsC fun dz hx hz => ifsC fun hk h => ?_) fun _ =>
    ifDC (λx h2 =>ifsC λhc =>bsC λself h3 =>bsC λy hy =>ifsC λhx h =>?_) λ_ =>ifnC λhc =>bsC λself h1 =>bsC λds h3 h4 =>?_
  · refine (dDict_eq h1).elim fun q e1 => (dNameInt_eq h2).elim fun q1 e2 => e2.elim fun c e2 => e2.elim fun q2 e2 => ?_
    rw [e1, e2, hc.1, ← Option.some.inj h]
    exact dictGetOk O hc.2.1 h3 (hx.trans (congrArg some (uS_eq hz))) hc.2.2 hk.1 hk.2.1 hk.2.2
  · refine (d2Str_eq h2).elim fun c e2 => e2.elim fun q1 e2 => e2.elim fun c' e2 => e2.elim fun q2 e2 => ?_
    rw [e2, hc.1, ← Option.some.inj h]
    exact replOk O VO hc.2.1 hc.2.2.1 hc.2.2.2.1 hc.2.2.2.2 (h3.trans (congrArg some (uS_eq hy))) hx
  · exact methOk GO VO (Bool.eq_false_iff.mpr λq =>hc (.inl q)) (Decidable.byContradiction λq =>hc (.inr (.inl q))) (Nat.not_lt.mp λq =>hc (.inr (.inr q))) h1 h3 h4
theorem binEOk' (O : CxOk X) (VO : VOk X k V) {l r : Expr} {op : Operator} {p : Pos} {d : PyData} (h : binE V Γ l op r ρ = some d) : EvOk X k Γ (.BinOp l op r p) ρ d :=by
  revert h
  refine ifDC (λc =>ifsC λhm hc =>bsC λb h1 h2 =>?_) λ_ =>bsC λa h1 =>bsC λb h2 h3 =>binEOk O VO h1 h2 h3
  refine (dConst_eq hc).elim λ_ e =>e.elim λ_ e =>?_
  rw [e, of_decide_eq_true hm]
  exact mulEOk VO h1 h2
theorem subEOk (O : CxOk X) (VO : VOk X k V) {v i : Expr} {p : Pos} {d : PyData} (h : subE V Γ v i ρ = some d) : EvOk X k Γ (.Subscript v i p) ρ d :=by
  revert h
  refine ifDC (λs hs =>ifsC λhn =>bsC λa h1 =>bsC λb h2 =>bsC λc h3 h4 =>?_) λhs =>bsC λa h1 =>bsC λb h2 h3 =>idxEOk VO hs h1 h2 h3
  refine (dSlice_eq hs).elim λq e =>?_
  rw [e, Option.isNone_iff_eq_none.mp hn]
  exact sliceEOk O VO h1 h2 h3 h4
theorem callEOk (O : CxOk X) (GO : GlOk X k G) (VO : VOk X k V) (ns : ∀ {e d}, V.ev Γ e ρ = some d → isStar e = false) {f : Expr} {args : List Expr} {ks : List Keyword} {p : Pos} {d : PyData} (h : callE G V Γ f args ks p ρ = some d) : EvOk X k Γ (.Call f args ks p) ρ d :=by
  revert h
  refine ifsC λhk =>?_
  rw [List.isEmpty_iff.mp hk]
  refine ifDC (λg hg h =>(dName_eq hg).elim λq e =>?_) λ_ =>bsC λa ha h =>?_
  · rw [e]; exact callNameOk O GO VO ns h
  · rw [dAttr_eq ha]; exact callAttrOk O GO VO h
theorem cmpVOk (VO : VOk X k V) {l : Expr} {ops : List CmpOp} {rs : List Expr} {p : Pos} {d : PyData} (h : cmpV V Γ l ops rs ρ = some d) : EvOk X k Γ (.Compare l ops rs p) ρ d :=by
  revert h
  refine bsC λop h1 =>bsC λr h2 =>?_
  rw [d1_eq h1, d1_eq h2]
  refine ifnC λhm =>bsC λa h3 =>bsC λb h4 =>bsC λt h5 h =>?_
  rw [← Option.some.inj h]
  exact cmpEOk VO (Bool.eq_false_iff.mpr hm) h3 h4 h5
theorem notStar (hS : ∀ Γ e ρ, isStar e = true → V.ev Γ e ρ = none) {e : Expr} {d : PyData} (h : V.ev Γ e ρ = some d) : isStar e = false := Bool.eq_false_iff.mpr λq =>nos ((hS _ _ _ q).symm.trans h)
theorem stepEOk (O : CxOk X) (GO : GlOk X k G) (VO : VOk X k V) (hS : ∀ Γ e ρ, isStar e = true → V.ev Γ e ρ = none) {e : Expr} {d : PyData} (h : stepE G V Γ e ρ = some d) : EvOk X k Γ e ρ d :=by
  cases e with
  | Constant c kk p =>exact constOk h
  | Name x p =>exact nameOk O GO h
  | BinOp l op r p =>exact binEOk' O VO h
  | UnaryOp op x p =>
    revert h; refine ifsC λho =>bsC λa h1 =>bsC λi h2 h =>?_
    rw [ho, ← Option.some.inj h]
    exact negOk VO h1 h2
  | BoolOp op vs p =>exact boolVOk VO _ h
  | IfExp t b o p =>revert h; exact bsC λc h1 h2 =>ifExpOk VO h1 h2
  | Compare l ops rs p =>exact cmpVOk VO h
  | Subscript v i p =>exact subEOk O VO h
  | List es p =>revert h; exact ifnC λhl =>bsC λds h1 h2 =>Option.some.inj h2 ▸ listEOk O VO (Nat.not_lt.mp hl) h1
  | Tuple es c p =>revert h; exact ifnC λhl =>bsC λds h1 h2 =>Option.some.inj h2 ▸ tupleEOk O VO (Nat.not_lt.mp hl) h1
  | ListComp elt gens scope p =>revert h; exact bsC λxs h1 h2 =>Option.some.inj h2 ▸ listCompOk O GO VO h1
  | Call f args ks p =>exact callEOk O GO VO (notStar hS) h
  | _ =>exact nos h
theorem plainTOk (VO : VOk X k V) {e : Expr} {a : PyData} {t : Bool} (h1 : V.ev Γ e ρ = some a) (h2 : truthyD a = some t)
    (he : ∀ env whole, isTrue e env whole = (do let v ← whole; standAt e.pos; holding [v] (truthy v))) : TsOk X k Γ e ρ t :=
  λR T hQ =>isTrue_plain (VO.ev h1 R T λ_ _ _ st r =>truthyOk st.gd r h2 λ_ st₂ =>hQ _ _ (st.trans st₂)) (he _ _)
theorem plainT (VO : VOk X k V) {e : Expr} {t : Bool} (h : (V.ev Γ e ρ).bind truthyD = some t) (he : ∀ env whole, isTrue e env whole = (do let v ← whole; standAt e.pos; holding [v] (truthy v))) : TsOk X k Γ e ρ t :=by
  revert h; exact bsC λa h1 h2 =>plainTOk VO h1 h2 he
theorem stepTOk (O : CxOk X) (GO : GlOk X k G) (VO : VOk X k V) {e : Expr} {t : Bool} (h : stepT V Γ e ρ = some t) : TsOk X k Γ e ρ t :=by
  cases e with
  | UnaryOp op x p =>exact nos h
  | BoolOp op vs p =>exact allTOk VO h
  | IfExp a b c p =>revert h; exact bsC λv h1 h2 =>ifExpTOk VO h1 h2
  | Compare l ops rs p =>
    revert h
    refine bsC λop h1 =>bsC λr h2 =>?_
    rw [d1_eq h1, d1_eq h2]
    exact ifnC λhm =>bsC λa h3 =>bsC λb h4 h5 =>cmpTOk VO (Bool.eq_false_iff.mpr hm) h3 h4 h5
  | _ =>exact plainT VO h λ_ _ =>rfl
theorem evNOk (O : CxOk X) (GO : GlOk X k G) : ∀ n, VOk X k (evN G n) :=by
  intro n
  induction n with
  | zero =>exact ⟨λh =>nos h, λh =>nos h⟩
  | succ n ih =>
    have hS : ∀ Γ e ρ, isStar e = true → (evN G n).ev Γ e ρ = none := λΓ e ρ h =>by
      cases n with
      | zero =>rfl
      | succ n =>exact Expr.Starred.elim (motive_1 := λe =>stepE G (evN G n) Γ e ρ = none) e (Nat.eq_of_beq_eq_true h) λ_ _ =>rfl
    exact ⟨λh =>stepEOk O GO ih hS h, λh =>stepTOk O GO ih h⟩
end
end Mine
end
section
namespace Mine
open PySem PySem.Spec PyProof.Rows PySem.W
noncomputable def OutPost (Q : Flow → Shared → Prop) (S' : Store) (s' : Shared) : Out → Prop
  | .next =>Q .next s'
  | .brk =>Q .brk s'
  | .cont =>Q .cont s'
  | .ret d =>∀ v, Rd S' v d → Q (.ret v) s'
noncomputable def StOk (X : Cx) (k : Nat) (Γ : Sc) (st : Stmt) (σ : St) (o : Out) (σ' : St) : Prop :=
  ∀ {hb : Heap} {Sb : Store} {env : Env} {S : Store} {s : Shared} {A : Around} {Q : Flow → Shared → Prop} {E : Value → Shared → Prop},
    Room A k → At X hb Sb Γ env σ S s → (∀ S' s', At X hb Sb Γ env σ' S' s' → SStep X S s S' s' → OutPost Q S' s' o) → wpAny X.M A (exec st env) Q E s
noncomputable def StsOk (X : Cx) (k : Nat) (Γ : Sc) (sts : List Stmt) (σ : St) (o : Out) (σ' : St) : Prop :=
  ∀ {hb : Heap} {Sb : Store} {env : Env} {S : Store} {s : Shared} {A : Around} {Q : Flow → Shared → Prop} {E : Value → Shared → Prop},
    Room A k → At X hb Sb Γ env σ S s → (∀ S' s', At X hb Sb Γ env σ' S' s' → SStep X S s S' s' → OutPost Q S' s' o) → wpAny X.M A (PySem.execs sts env) Q E s
section
variable {X : Cx} {k : Nat} {V : EvT} {G : Gl} {hb : Heap} {Sb S S' S'' S₀ : Store} {Γ : Sc} {env : Env} {ω : Option (Str × List PyData)} {ρ ρ₁ : Loc} {σ σ' : St} {s s' s'' s₀ : Shared} {A : Around} {E : Value → Shared → Prop}
theorem OutPost.mono {Q Q' : Flow → Shared → Prop} {o : Out} (h : OutPost Q S s o) (hQ : ∀ f s, Q f s → Q' f s) : OutPost Q' S s o :=by
  cases o with
  | next =>exact hQ _ _ h
  | brk =>exact hQ _ _ h
  | cont =>exact hQ _ _ h
  | ret d =>exact λv r =>hQ _ _ (h v r)
theorem execsOk {ex : Stmt → St → Option (Out × St)} (hex : ∀ {st σ o σ'}, ex st σ = some (o, σ') → StOk X k Γ st σ o σ') : ∀ (sts : List Stmt) {σ : St} {o : Out} {σ' : St}, execs ex sts σ = some (o, σ') → StsOk X k Γ sts σ o σ' :=by
  intro sts
  induction sts with
  | nil =>
    intro σ o σ' h hb Sb env S s A Q E R T hQ
    cases h
    exact wpAny_execs_nil (hQ S s T .refl)
  | cons st r ih =>
    intro σ o σ' h hb Sb env S s A Q E R T hQ
    revert h; refine bsC λp h1 h2 =>?_
    cases p with
    | mk o₁ σ₁ =>
    refine wpAny_execs_cons (hex h1 R T λS₁ s₁ T₁ ss =>?_)
    cases o₁ with
    | next =>exact ih h2 R T₁ λS' s' T' ss' =>hQ S' s' T' (ss.trans ss')
    | brk =>cases h2; exact hQ S₁ s₁ T₁ ss
    | cont =>cases h2; exact hQ S₁ s₁ T₁ ss
    | ret d =>cases h2; exact hQ S₁ s₁ T₁ ss
theorem At.freeze' (T : At X hb Sb Γ env σ S s) : ∃ S', SStep X S s S' s ∧ At X hb Sb Γ env σ.freeze S' s :=
  X13 (λS' l n T' =>⟨S', ⟨l, .refl, λa o e =>(n a o e).elim .inl λh =>.inr (.inr h), λa o e =>⟨o, e⟩⟩, T'⟩) T.freeze
theorem look_if {ρ : Loc} {x y : Str} {d : PyData} : ((x, d) :: ρ).lookup y = if y = x then some d else ρ.lookup y :=
  if h : y = x then (by rw [h, if_pos rfl]; exact look_self) else (look_ne h).trans (if_neg h).symm
theorem putLoc_lookup (x : Str) (d : PyData) (y : Str) : ∀ ρ : Loc, (putLoc x d ρ).lookup y = if y = x then some d else ρ.lookup y :=by
  intro ρ
  induction ρ with
  | nil =>exact look_if
  | cons p r ih =>
    cases p with
    | mk n v =>
    show List.lookup y (if n = x then (x, d) :: r else (n, v) :: putLoc x d r) = _
    by_cases hn : n = x
    · rw [if_pos hn, look_if, look_if, hn]
      by_cases h : y = x
      · rw [if_pos h, if_pos h]
      · rw [if_neg h, if_neg h, if_neg h]
    · rw [if_neg hn, look_if, look_if, ih]
      by_cases h : y = n
      · rw [if_pos h, if_neg λq =>hn (h.symm.trans q), if_pos h]
      · rw [if_neg h, if_neg h]
theorem setLoc_lookup (x : Str) (d : PyData) (ρ : Loc) (y : Str) : (setLoc x d ρ).lookup y = if y = x then some d else ρ.lookup y :=by
  unfold setLoc
  cases hasLoc x ρ with
  | true =>exact putLoc_lookup x d y ρ
  | false =>exact look_if
theorem hasLoc_false {x : Str} {ρ : Loc} : hasLoc x ρ = false → ρ.lookup x = none :=by
  induction ρ with
  | nil =>exact λ_ =>rfl
  | cons p r ih =>
    cases p with
    | mk n v =>exact iteC (λ_ h =>tnf h) λhn h =>(look_ne λq =>hn q.symm).trans (ih h)
theorem assignD_inv {t : Expr} {d : PyData} (h : assignD Γ t d σ = some σ') : ∃ x p, t = .Name x p ∧ Γ.mayStore x = true ∧ Sets σ x d σ' :=by
  revert h; exact bsC λx h1 =>ifsC λhm h =>(dName_eq h1).elim λp e =>⟨x, p, e, hm, Option.some.inj h ▸ ⟨λy =>setLoc_lookup _ _ _ y, rfl⟩⟩
theorem assignsD_names {ts : List Expr} : ∀ {ds : List PyData} {σ σ' : St}, assignsD Γ ts ds σ = some σ' → Names Γ ts ds σ σ' :=by
  induction ts with
  | nil =>
    intro ds σ σ' h
    cases ds with
    | nil =>exact Option.some.inj h ▸ .nil
    | cons _ _ =>exact nos h
  | cons t ts ih =>
    intro ds σ σ'
    cases ds with
    | nil =>exact nos
    | cons d ds =>exact bsC λσ₁ h1 h2 =>(assignD_inv h1).elim λx h =>h.elim λp h =>h.1 ▸ .cons h.2.1 h.2.2 (ih h2)
theorem targetOk (O : CxOk X) (hh : A.handled = none) {t : Expr} {d : PyData} (h : targetD Γ t d σ = some σ') (T : At X hb Sb Γ env σ S s) {v : Value} (r : Rd S v d) {Q : Unit → Shared → Prop}
    (hQ : ∀ s', At X hb Sb Γ env σ' S s' → SStep X S s S s' → Q () s') : wpAny X.M A (assign t env v) Q E s :=by
  revert h
  refine ifDC (λ_ _ h =>(assignD_inv h).elim λx h =>h.elim λp h =>?_) λ_ =>bsC λts h1 =>bsC λds h2 =>?_
  · rw [h.1]; exact PySem.wpAny_assign_Name (storeVar O.tabOk T h.2.1 r h.2.2 λs' T' n =>hQ s' T' n.sstep)
  · refine (dTup_eq h1).elim fun c3 e => e.elim fun p3 e => ?_
    rw [dTupV_eq h2] at r
    rw [e]
    refine ifDC (λx h3 =>bsC λy h4 =>bsC λa h5 =>bsC λb h6 =>bsC λσ₁ h7 h8 =>?_) λ_ h =>assignTupOk O hh (assignsD_names h) T r λs₁ s' st nk T' =>hQ s' T' (st.sstep.trans nk.sstep)
    refine (twoTups_eq h3).elim λc1 e0 =>e0.elim λp1 e0 =>e0.elim λc2 e0 =>e0.elim λp2 e0 =>?_
    rw [e0, PyProof.Rows.assign_Tuple]
    rw [d2_eq h4] at r
    refine X33 (λad vs n ev hS rs =>?_) r.tuple_inv
    have e1 := rs.size
    refine X23 (λv1 ws hvs rv1 rws =>X23 (λv2 ws2 hws rv2 rws2 =>?_) rws.cons_inv) rs.cons_inv
    rw [hws, rws2.nil_inv] at hvs
    rw [ev]
    refine wpAny_bind (wpAny_standAt (wpAny_unpack_tuple hh ⟨_, T.gd.inn _ _ hS, rfl, n, rfl⟩ e1.symm rfl λh' hk =>?_))
    have st := Step.fresh O T.gd (t := s.toks) hk
    rw [hvs]
    rw [dTupV_eq h5] at rv1
    rw [dTupV_eq h6] at rv2
    show wpAny X.M A (do holding [v2] (assign (.Tuple x.1 c1 p1) env v1); assignInOrder [assign (.Tuple x.2 c2 p2) env] [v2]) Q E _
    refine wpAny_bind (wpAny_holding (assignTupOk O hh (assignsD_names h7) (T.step st) rv1 λs₁ s₂ st₁ nk T₂ =>?_))
    show wpAny X.M A (do holding [] (assign (.Tuple x.2 c2 p2) env v2); assignInOrder [] []) Q E _
    exact wpAny_bind (wpAny_holding (assignTupOk O hh (assignsD_names h8) T₂ rv2 λs₃ s₄ st₃ nk₃ T₄ =>wpAny_pure (hQ _ T₄ (((st.sstep.trans st₁.sstep).trans nk.sstep).trans (st₃.sstep.trans nk₃.sstep)))))
end
end Mine
end
section
namespace Mine
open PySem PySem.Spec PyProof.Rows PySem.W
section
variable {X : Cx} {k : Nat} {G : Gl} {hb : Heap} {Sb S S' S'' S₀ : Store} {Γ : Sc} {env : Env} {ω : Option (Str × List PyData)} {ρ ρ₁ : Loc} {σ σ' : St} {s s' s'' s₀ : Shared} {A : Around} {E : Value → Shared → Prop}
theorem evN_comp {n : Nat} {elt : Expr} {gens : List Comprehension} {scope : Scope} {pos : Pos} {d : PyData} (h : (evN G n).ev Γ (.ListComp elt gens scope pos) ρ = some d) : ∃ m xs, compE (evN G m) Γ elt gens scope ρ = some xs ∧ d = .list xs :=by
  cases n with
  | zero =>exact nos h
  | succ m =>revert h; exact bsC λxs h1 h2 =>⟨m, xs, h1, (Option.some.inj h2).symm⟩
theorem assignNameOk (O : CxOk X) (GO : GlOk X k G) {n : Nat} {x : Str} {p q : Pos} {e : Expr} {d : PyData} (h1 : (evN G n).ev Γ e σ.ρ = some d) (hm : Γ.mayStore x = true) (hs : Sets σ x d σ') : StOk X k Γ (.Assign [.Name x p] e q) σ .next σ' :=by
  intro hb Sb env S s A Q E R T hQ
  have VO := evNOk O GO n
  have plain : swapsWith e (some (.Name x p)) q.line env = pure false → wpAny X.M A (exec (.Assign [.Name x p] e q) env) Q E s := fun hsw =>
    PySem.wpAny_Assign_Name (VO.ev h1 R T λv S₁ s₁ st r =>storeVar O.tabOk (T.step st) hm r hs λs' T' nk =>hQ _ _ T' (st.sstep.trans nk.sstep)) hsw
  cases e with
  | ListComp elt gens scope pos =>
    obtain ⟨m, xs, hc, rfl⟩ := evN_comp h1
    have hsw : swapsWith (.ListComp elt gens scope pos) (some (.Name x p)) q.line env = pure (env.blockKind == .function && env.kindOf x == some .local && p.line == pos.line && !(scope.names.any λ(n, k) =>n == x && (k == .local || k == .cell))) := rfl
    cases hbv : (env.blockKind == .function && env.kindOf x == some .local && p.line == pos.line && !(scope.names.any λ(n, k) =>n == x && (k == .local || k == .cell))) with
    | false =>rw [hbv] at hsw; exact plain hsw
    | true =>
      rw [hbv] at hsw
      rw [exec_Assign_Name_used _ _ _ _ hsw]
      refine wpAny_bind (wpAny_standAt (wpAny_bind ?_))
      exact listCompUse O GO (evNOk O GO m) hc R T hm hs λS' s' T' ss =>wpAny_pure (hQ S' s' T' ss)
  | SetComp a b c d =>cases n with | zero =>exact nos h1 | succ m =>exact nos h1
  | DictComp a b c d f =>cases n with | zero =>exact nos h1 | succ m =>exact nos h1
  | _ =>exact plain rfl
theorem unown_comm (x y : Str) (o : Option (Str × List PyData)) : unown x (unown y o) = unown y (unown x o) :=by
  cases o with
  | none =>rfl
  | some p =>
    show Option.bind (if p.1 = y then none else some p) _ = Option.bind (if p.1 = x then none else some p) _
    by_cases h1 : p.1 = x <;> by_cases h2 : p.1 = y
    · rw [if_pos h1, if_pos h2]; rfl
    · rw [if_pos h1, if_neg h2]; exact if_pos h1
    · rw [if_neg h1, if_pos h2]; exact (if_pos h2).symm
    · rw [if_neg h1, if_neg h2]; exact (if_neg h1).trans (if_neg h2).symm
theorem At.same (T : At X hb Sb Γ env σ S s) (h : ∀ x, σ'.ρ.lookup x = σ.ρ.lookup x) (hω : σ'.ω = σ.ω) : At X hb Sb Γ env σ' S s := T.weaken (λx d e =>(h x).symm.trans e) hω
theorem sets_of (σ : St) (x : Str) (d : PyData) : Sets σ x d ⟨setLoc x d σ.ρ, unown x σ.ω⟩ := ⟨λy =>setLoc_lookup _ _ _ y, rfl⟩
theorem bindOk2 (O : CxOk X) {x y : Str} {a b : PyData} {v u : Value} (T : At X hb Sb Γ env σ S s) (hx : Γ.mayStore x = true) (hy : Γ.mayStore y = true) (rv : Rd S v a) (ru : Rd S u b) {Q : Unit → Shared → Prop}
    (hQ : ∀ s' σ'', Sets ⟨setLoc y b σ.ρ, unown y σ.ω⟩ x a σ'' → At X hb Sb Γ env σ'' S s' → SStep X S s S s' → Q () s') :
    wpAny X.M A (assignInOrder [λv =>bindName env y v, λv =>bindName env x v] [u, v]) Q E s :=by
  show wpAny X.M A (do holding [v] (bindName env y u); assignInOrder [λv =>bindName env x v] [v]) Q E s
  refine wpAny_bind (wpAny_holding (bindName_ (storeVar O.tabOk T hy ru (sets_of σ y b) λs₁ T₁ n₁ =>?_)))
  show wpAny X.M A (do holding [] (bindName env x v); assignInOrder [] []) Q E _
  refine wpAny_bind (wpAny_holding (bindName_ (storeVar O.tabOk T₁ hx rv (sets_of _ x a) λs₂ T₂ n₂ =>wpAny_pure (hQ _ _ (sets_of _ x a) T₂ (n₁.sstep.trans n₂.sstep)))))
theorem bindOk3 (O : CxOk X) {x y z : Str} {a b c : PyData} {v u w : Value} (T : At X hb Sb Γ env σ S s) (hx : Γ.mayStore x = true) (hy : Γ.mayStore y = true) (hz : Γ.mayStore z = true) (rv : Rd S v a) (ru : Rd S u b) (rw' : Rd S w c) {Q : Unit → Shared → Prop}
    (hQ : ∀ s' σ₁ σ₂ σ₃, Sets σ z c σ₁ → Sets σ₁ y b σ₂ → Sets σ₂ x a σ₃ → At X hb Sb Γ env σ₃ S s' → SStep X S s S s' → Q () s') :
    wpAny X.M A (assignInOrder [λv =>bindName env z v, λv =>bindName env y v, λv =>bindName env x v] [w, u, v]) Q E s :=by
  show wpAny X.M A (do holding [u, v] (bindName env z w); assignInOrder [λv =>bindName env y v, λv =>bindName env x v] [u, v]) Q E s
  refine wpAny_bind (wpAny_holding (bindName_ (storeVar O.tabOk T hz rw' (sets_of σ z c) λs₁ T₁ n₁ =>?_)))
  exact bindOk2 O T₁ hx hy rv ru λs₂ σ₃ hs T₂ ss =>hQ _ _ _ _ (sets_of σ z c) (sets_of _ y b) hs T₂ (n₁.sstep.trans ss)
noncomputable def nameAt (env : Env) (line : Nat) : Expr → Option Str
  | .Name id pos =>if env.kindOf id == some .local && pos.line == line then some id else none
  | _ =>none
theorem swapped_cases {ts vs : List Expr} {c c2 : Nat} {p p2 : Pos} (hc : vs.all (constantsAlone 8) = false) :
    swappedStores [.Tuple ts c p] (.Tuple vs c2 p2) env = pure none ∨
    ∃ names, swappedStores [.Tuple ts c p] (.Tuple vs c2 p2) env = pure (some names) ∧ (ts.length = 2 ∨ ts.length = 3) ∧ names.length = ts.length ∧ names.eraseDups.length = names.length ∧
      names = ts.filterMap (nameAt env ((ts.head?.map (·.pos.line)).getD 0)) :=by
  unfold swappedStores
  dsimp only
  split
  · exact .inl rfl
  · rename_i h1
    split
    · exact .inl rfl
    · split
      · exact .inl rfl
      · rename_i h2
        split
        · exact .inl rfl
        · rw [hc]
          simp only [Bool.false_eq_true, if_false]
          refine .inr ⟨_, rfl, ?_, ?_, ?_, by congr 1⟩
          · simp only [Bool.or_eq_true, Bool.not_eq_true', not_or] at h1
            have := h1.1.1
            rcases Decidable.em (ts.length = 2) with q | q
            · exact .inl q
            · have h3 : ¬ts.length = 2 → ts.length = 3 := by simpa using this
              exact .inr (h3 q)
          · simp only [Bool.or_eq_true, not_or] at h2
            have := h2.1
            rw [bne_iff_ne, Classical.not_not] at this
            exact this
          · simp only [Bool.or_eq_true, not_or] at h2
            have := h2.2
            rw [bne_iff_ne, Classical.not_not] at this
            exact this
end
end Mine
end
section
namespace Mine
open PySem PySem.Spec PyProof.Rows PySem.W
section
variable {X : Cx} {k : Nat} {V : EvT} {G : Gl} {hb : Heap} {Sb S S' S'' S₀ : Store} {Γ : Sc} {env : Env} {ω : Option (Str × List PyData)} {ρ ρ₁ : Loc} {σ σ' : St} {s s' s'' s₀ : Shared} {A : Around} {E : Value → Shared → Prop}
theorem dup2 {x y : Str} (h : ([x, y].eraseDups).length = [x, y].length) : x ≠ y :=by
  intro q; subst q
  simp [List.eraseDups_cons] at h
theorem dup3 {x y z : Str} (h : ([x, y, z].eraseDups).length = [x, y, z].length) : x ≠ y ∧ x ≠ z ∧ y ≠ z :=by
  refine ⟨λq =>?_, λq =>?_, λq =>?_⟩ <;> subst q
  · by_cases hz : z = x
    · subst hz; simp [List.eraseDups_cons] at h
    · simp [List.eraseDups_cons, hz] at h
  · by_cases hy : y = x
    · subst hy; simp [List.eraseDups_cons] at h
    · simp [List.eraseDups_cons, hy] at h
  · by_cases hy : y = x
    · subst hy; simp [List.eraseDups_cons] at h
    · simp [List.eraseDups_cons, hy] at h
theorem fm_name {env : Env} {line : Nat} {x b : Str} {p : Pos} (h : nameAt env line (.Name x p) = some b) : b = x :=by
  revert h; exact ifsC λ_ h =>(Option.some.inj h).symm
theorem filterMap_full {α β : Type} {f : α → Option β} {l : List α} : (l.filterMap f).length = l.length → ∀ a ∈ l, ∃ b, f a = some b :=by
  induction l with
  | nil =>exact λ_ a h =>nomatch h
  | cons x r ih =>
    intro h a ha
    rw [List.filterMap_cons] at h
    cases q : f x with
    | none =>
      rw [q] at h
      exact absurd (List.length_filterMap_le f r) (Nat.not_le.mpr (h ▸ Nat.lt_succ_self _))
    | some b =>
      rw [q] at h
      exact (List.mem_cons.mp ha).elim (λe =>e ▸ ⟨b, q⟩) (ih (Nat.succ.inj h) a)
theorem len2 {α : Type} {l : List α} (h : l.length = 2) : ∃ a b, l = [a, b] :=by
  match l, h with
  | [a, b], _ =>exact ⟨a, b, rfl⟩
theorem len3 {α : Type} {l : List α} (h : l.length = 3) : ∃ a b c, l = [a, b, c] :=by
  match l, h with
  | [a, b, c], _ =>exact ⟨a, b, c, rfl⟩
theorem assignsC {t : Expr} {ts : List Expr} {ds : List PyData} {H : Prop} (h : assignsD Γ (t :: ts) ds σ = some σ') (k : ∀ x p d ds' σ₁, t = .Name x p → ds = d :: ds' → Γ.mayStore x = true → Sets σ x d σ₁ → assignsD Γ ts ds' σ₁ = some σ' → H) : H :=by
  cases ds with
  | nil =>exact nos h
  | cons d ds =>revert h; exact bsC λσ₁ h1 h2 =>(assignD_inv h1).elim λx h =>h.elim λp h =>k x p d ds σ₁ h.1 rfl h.2.1 h.2.2 h2
theorem assigns0 {ds : List PyData} {H : Prop} (h : assignsD Γ [] ds σ = some σ') (k : ds = [] → σ = σ' → H) : H :=by
  cases ds with
  | nil =>exact k rfl (Option.some.inj h)
  | cons d ds =>exact nos h
theorem if_swap {α : Type _} {i x y : Str} {a b c : α} (h : x ≠ y) : (if i = x then a else if i = y then b else c) = if i = y then b else if i = x then a else c :=by
  by_cases q : i = x
  · rw [if_pos q, if_neg λq2 =>h (q.symm.trans q2), if_pos q]
  · rw [if_neg q, if_neg q]
theorem targetNames {ts : List Expr} {c : Nat} {p : Pos} {d : PyData} (hn : ∀ t ∈ ts, (dName t).isSome = true) (h : targetD Γ (.Tuple ts c p) d σ = some σ') : ∃ ds, dTupV d = some ds ∧ assignsD Γ ts ds σ = some σ' :=by
  have key : ∀ ds, tupTarget Γ ts ds σ = some σ' → assignsD Γ ts ds σ = some σ' := λds =>ifDC (λx h3 =>(twoTups_eq h3).elim λc1 e =>e.elim λp1 e =>e.elim λc2 e =>e.elim λp2 e =>fnt (show false = true from hn (.Tuple x.1 c1 p1) (by rw [e]; exact List.mem_cons_self))) λ_ h =>h
  exact bsC (f := λds =>tupTarget Γ ts ds σ) (λds h0 h =>⟨ds, h0, key ds h⟩) h
theorem swapAssign (O : CxOk X) (VO : VOk X k V) {ts vs : List Expr} {c c2 : Nat} {p p2 q : Pos} {d : PyData} (hc : vs.all (constantsAlone 8) = false) (h1 : V.ev Γ (.Tuple vs c2 p2) σ.ρ = some d) (h2 : targetD Γ (.Tuple ts c p) d σ = some σ') :
    StOk X k Γ (.Assign [.Tuple ts c p] (.Tuple vs c2 p2) q) σ .next σ' :=by
  intro hb Sb env S s A Q E R T hQ
  refine (swapped_cases (env := env) (ts := ts) (vs := vs) (c := c) (c2 := c2) (p := p) (p2 := p2) hc).elim (λhw =>Assign_Tuple (VO.ev h1 R T λv S₁ s₁ st r =>targetOk O R.handled h2 (T.step st) r λs' T' ss =>hQ _ _ T' (st.sstep.trans ss)) rfl hw) (X15 λnames hw hl hn hd hfm =>?_)
  refine Assign_Tuple_swapped (names := names) (VO.ev h1 R T λv S₁ s₁ st r =>?_) rfl hw
  have full := filterMap_full (hfm ▸ hn)
  refine X12 (λds hds hA =>?_) (targetNames (λt ht =>(full t ht).elim λb hb =>by
    cases t with
    | Name _ _ =>rfl
    | _ =>exact nos hb) h2)
  rw [dTupV_eq hds] at r
  refine X33 (λa ws n ev hS rs =>?_) r.tuple_inv
  rw [ev]
  have st2 : ∀ {h'}, Heap.ExtBut s₁.heap.objs.size s₁.heap h' → Step X S₁ s₁ S₁ { s₁ with heap := h', toks := s₁.toks } := λhk =>Step.fresh O st.gd (t := s₁.toks) hk
  refine hl.elim (λh =>(len2 h).elim λt1 e =>e.elim λt2 e =>?_) λh =>(len3 h).elim λt1 e =>e.elim λt2 e =>e.elim λt3 e =>?_
  · subst e
    refine assignsC hA λx px dx ds1 σ₁ et1 ed1 hx sx hA =>assignsC hA λy py dy ds2 σ₂ et2 ed2 hy sy hA =>assigns0 hA λed3 es =>?_
    rw [et1, et2] at full hfm
    rw [ed1, ed2, ed3] at rs
    refine (full _ List.mem_cons_self).elim λbx hbx =>(full _ (List.mem_cons_of_mem _ List.mem_cons_self)).elim λby' hby =>?_
    have hnm : names = [x, y] := hfm.trans (by rw [List.filterMap_cons, hbx, List.filterMap_cons, hby, fm_name hbx, fm_name hby]; rfl)
    revert rs; refine RdAll.consC λv vs1 hv1 rv =>RdAll.consC λu vs2 hv2 ru r3 =>?_
    have hws : ws.toList = [v, u] :=by rw [hv1, hv2, r3.nil_inv]
    rw [show names.length = ws.size by rw [hnm]; exact (congrArg List.length hws).symm]
    refine wpAny_unpackItems_tuple R.handled ⟨_, st.gd.inn _ _ hS, rfl, n, rfl⟩ λh' hk =>?_
    rw [hws, hnm]
    rw [hnm] at hd
    refine bindOk2 O ((T.step st).step (st2 hk)) hx hy rv ru λs' σ'' hs T' ss =>hQ _ _ (T'.same (λz =>?_) ?_) ((st.trans (st2 hk)).sstep.trans ss)
    · rw [← es, sy.look, sx.look, hs.look, setLoc_lookup]; exact if_swap (Ne.symm (dup2 hd))
    · rw [← es, sy.own, sx.own, hs.own]; exact unown_comm _ _ _
  · subst e
    refine assignsC hA λx px dx ds1 σ₁ et1 ed1 hx sx hA =>assignsC hA λy py dy ds2 σ₂ et2 ed2 hy sy hA =>assignsC hA λz pz dz ds3 σ₃ et3 ed3 hz sz hA =>assigns0 hA λed4 es =>?_
    rw [et1, et2, et3] at full hfm
    rw [ed1, ed2, ed3, ed4] at rs
    refine (full _ List.mem_cons_self).elim λbx hbx =>(full _ (List.mem_cons_of_mem _ List.mem_cons_self)).elim λby' hby =>(full _ (List.mem_cons_of_mem _ (List.mem_cons_of_mem _ List.mem_cons_self))).elim λbz hbz =>?_
    have hnm : names = [x, y, z] := hfm.trans (by rw [List.filterMap_cons, hbx, List.filterMap_cons, hby, List.filterMap_cons, hbz, fm_name hbx, fm_name hby, fm_name hbz]; rfl)
    revert rs; refine RdAll.consC λv vs1 hv1 rv =>RdAll.consC λu vs2 hv2 ru =>RdAll.consC λw vs3 hv3 rw' r4 =>?_
    have hws : ws.toList = [v, u, w] :=by rw [hv1, hv2, hv3, r4.nil_inv]
    rw [show names.length = ws.size by rw [hnm]; exact (congrArg List.length hws).symm]
    refine wpAny_unpackItems_tuple R.handled ⟨_, st.gd.inn _ _ hS, rfl, n, rfl⟩ λh' hk =>?_
    rw [hws, hnm]
    rw [hnm] at hd
    refine X03 (λn1 n2 n3 =>?_) (dup3 hd)
    refine bindOk3 O ((T.step st).step (st2 hk)) hx hy hz rv ru rw' λs' τ₁ τ₂ τ₃ t1 t2 t3 T' ss =>hQ _ _ (T'.same (λi =>?_) ?_) ((st.trans (st2 hk)).sstep.trans ss)
    · rw [← es, sz.look, sy.look, sx.look, t3.look, t2.look, t1.look, if_swap (x := y) (y := x) (Ne.symm n1), if_swap (x := z) (y := x) (Ne.symm n2), if_swap (x := z) (y := y) (Ne.symm n3)]
    · rw [← es, sz.own, sy.own, sx.own, t3.own, t2.own, t1.own, unown_comm z y, unown_comm z x, unown_comm y x]
end
end Mine
end
section
namespace Mine
open PySem PySem.Spec PyProof.Rows PySem.W
section
variable {X : Cx} {k : Nat} {V : EvT} {G : Gl} {hb : Heap} {Sb S S' S'' S₀ : Store} {Γ : Sc} {env : Env} {ω : Option (Str × List PyData)} {ρ ρ₁ : Loc} {σ σ' : St} {s s' s'' s₀ : Shared} {A : Around} {E : Value → Shared → Prop}
theorem At.disown (T : At X hb Sb Γ env ⟨ρ, ω⟩ S s) : At X hb Sb Γ env ⟨ρ, none⟩ S s :=
  ⟨T.gd, T.keep, T.newS, T.leS, T.hb1, T.envOk, T.vars, nofun, nofun⟩
theorem lstStill {vs : Array Value} {n : Nat} : (∀ es m, (listO vs n).data ≠ .dict es m) ∧ (∀ c, (listO vs n).data ≠ .cell c) ∧ ¬ Codey (listO vs n) := ⟨λ_ _ =>lstDict, λ_ =>lstCell, λc =>c.1.elim λ_ e =>by cases e⟩
theorem ownUpdate (O : CxOk X) (T : At X hb Sb Γ env σ S s) {x : Str} {xs ys : List PyData} (hω : σ.ω = some (x, xs)) {r : Addr} {vs : Array Value} {n : Nat} (hv : VarIs env s.heap x (.ref r)) (hg : s.heap.get? r = some (listO vs n)) (hS : S r = none) (hr : hb.get? r = none)
    {f : Array Value → Array Value} {t : Nat} (ht : 0 < s.toks → 0 < t) (hy : RdAll S (f vs).toList ys) :
    At X hb Sb Γ env (σ.setOwn x ys) S { s with heap := s.heap.update r (Obj.mapSeq f), toks := t } ∧ SStep X S s S { s with heap := s.heap.update r (Obj.mapSeq f), toks := t } :=by
  have hu : IsL (s.heap.update r (Obj.mapSeq f)) r (f vs) _ := IsL.update (h := s.heap) (l := r) (items := vs) (n := n) hg f
  have hs : Heap.SameBut r s.heap (s.heap.update r (Obj.mapSeq f)) := Heap.SameBut.update ..
  have T' : At X hb Sb Γ env ⟨σ.ρ, none⟩ S { s with heap := s.heap.update r (Obj.mapSeq f), toks := t } :=
    At.changeG O.tabOk (At.disown (ρ := σ.ρ) (ω := σ.ω) T) (fp := λb =>b = r) (λb o n e =>(hs.2 b n).trans e) (λb q =>q ▸ ⟨hr, hS, λo e =>uq hg e ▸ lstStill⟩) (λ_ _ _ e =>nos e) ht
  have hv' : VarIs env (s.heap.update r (Obj.mapSeq f)) x (.ref r) :=
    hv.elim (λh =>.inl ⟨h.1, h.2.elim λm h =>⟨m, h.1.sameBut hs λq =>X33 (λo es ep ho hd _ =>lstDict ((congrArg Obj.data (uq hg (q ▸ ho))).trans hd)) h.1, h.2⟩⟩) λh =>.inr ⟨h.1, h.2.elim λc h =>⟨c, h.1, h.2.sameBut hs λq =>X12 (λo ho hd =>lstCell ((congrArg Obj.data (uq hg (q ▸ ho))).trans hd)) h.2⟩⟩
  refine ⟨⟨T'.gd, T'.keep, T'.newS, T'.leS, T'.hb1, T'.envOk, T'.vars, λy zs e =>(Prod.mk.inj (Option.some.inj e)).1 ▸ T.mask x xs hω, λy zs e =>by cases Option.some.inj e; exact ⟨r, _, _, hv', hu, hS, hr, hy⟩⟩, .refl _, λb o _ e d =>?_, λ_ _ e =>.inl e, λb o e =>?_⟩
  · exact (hs.2 b λq =>d.2.2 (congrArg Obj.cls (uq hg (q ▸ e))).symm).trans e
  · exact if q : b = r then (by subst q; exact ⟨_, hu⟩) else ⟨o, (hs.2 b q).trans e⟩
theorem interactiveFalse (T : At X hb Sb Γ env σ S s) : interactive env = false :=by unfold interactive; rw [T.envOk.kind]; rfl
theorem ownCall (O : CxOk X) (VO : VOk X k V) {x : Str} {m : Str} {id : String} {p ap pos q : Pos} {e : Expr} {xs ys : List PyData} {d : PyData} (he : ap.endLine = pos.line) (hx : x ≠ Str.ofString "__debug__") (hω : σ.ω = some (x, xs)) (h1 : V.ev Γ e σ.ρ = some d)
    (ns : isStar e = false) (slot : Slot "list" m id) (hty : typeOf (.builtin id) = pure (.type "method_descriptor")) (f : Value → Store → Array Value → Array Value → Prop)
    (hcall : ∀ {S : Store} {s : Shared} {A : Around} {r : Addr} {vs : Array Value} {n : Nat} {v : Value} {Q : Value → Shared → Prop} {E : Value → Shared → Prop}, Gd X S s → s.heap.get? r = some (listO vs n) → RdAll S vs.toList xs → Rd S v d →
      (∀ g t, (0 < s.toks → 0 < t) → RdAll S (g vs).toList ys → Q .none { s with heap := s.heap.update r (Obj.mapSeq g), toks := t }) → wpAny X.M A (call (.builtin id) [.ref r, v]) Q E s) :
    StOk X k Γ (.Expr (.Call (.Attribute (.Name x p) m ap) [e] [] pos) q) σ .next (σ.setOwn x ys) :=by
  intro hb Sb env S s A Q E R T hQ
  rw [PySem.exec_Expr _ _ _ (interactiveFalse T) rfl]
  refine wpAny_bind (wpAny_standAt (wpAny_bind ?_))
  refine X35 (λr vs n hv hg hS hr hall =>?_) (T.own x xs hω)
  have pl : ((backTo pos (starEach [e] env)).any λx =>x.1) = false :=by
    rw [starEach_plain ns]; rfl
  refine MethodCall_ (PySem.wpAny_Name (loadVar T hv ?_) (beq_eq_false_iff_ne.mpr hx)) (method_eq rfl pl (show (1 : Nat) ≤ 20 by decide) he)
  refine getMethod_list_of slot hty ⟨_, hg, rfl, n, rfl⟩ ⟨_, hg, rfl⟩ (callWith_method1 (args_cons (VO.ev h1 R T λv S₁ s₁ st rv =>args_nil ?_) (starEach_plain ns)) (starEach_plain ns) rfl)
  have hg₁ := st.ext.get (T.notP hr) hg nofun
  have hS₁ : S₁ r = none :=by
    cases q : S₁ r with
    | none =>rfl
    | some o =>exact (st.new r o q).elim (λe =>nos (hS.symm.trans e)) λe =>nos (e.symm.trans hg)
  have hv₁ : VarIs env s₁.heap x (.ref r) := hv.ext st.ext T.localsNotP λc hc =>T.gd.notP (T.envOk.cBase x c hc)
  show wpAny X.M A (call (.builtin id) [.ref r, v]) _ E s₁
  refine hcall st.gd hg₁ (hall.le st.le) rv λg t ht hy =>?_
  rw [dropValue_plain (v := .none) nofun]
  exact X02 (λT₂ ss =>wpAny_pure (hQ _ _ T₂ (st.sstep.trans ss))) (ownUpdate O (T.step st) hω hv₁ hg₁ hS₁ hr (t := t) ht hy)
theorem appendStOk (O : CxOk X) (VO : VOk X k V) {x : Str} {p ap pos q : Pos} {e : Expr} {xs : List PyData} {d : PyData} (he : ap.endLine = pos.line) (hx : x ≠ Str.ofString "__debug__") (hω : σ.ω = some (x, xs)) (h1 : V.ev Γ e σ.ρ = some d)
    (ns : isStar e = false) (hl : xs.length ≤ 100000) : StOk X k Γ (.Expr (.Call (.Attribute (.Name x p) (Str.ofString "append") ap) [e] [] pos) q) σ .next (σ.setOwn x (xs ++ [d])) := by
  refine ownCall O VO he hx hω h1 ns PySem.F.slot_list_append PySem.F.type_list_append (λ_ _ _ _ =>True) λ{S s A r vs n v Q E} g hg hall rv hQ =>?_
  exact call_meets PySem.F.slot_list_append ⟨_, hg, rfl⟩ PySem.F.entry_list_append (PySem.F.args_list_append_2 _ _) (list_append r vs n v (by rw [hall.size]; exact Nat.le_trans hl (by decide))) ⟨hg, hQ (λx =>x.push v) _ id (by rw [Array.toList_push]; exact hall.append (.cons rv .nil))⟩
theorem extendStOk (O : CxOk X) (VO : VOk X k V) {x : Str} {p ap pos q : Pos} {e : Expr} {xs ds : List PyData} {dd : PyData} (he : ap.endLine = pos.line) (hx : x ≠ Str.ofString "__debug__") (hω : σ.ω = some (x, xs)) (h1 : V.ev Γ e σ.ρ = some dd) (h2 : dTupV dd = some ds)
    (ns : isStar e = false) (hl : xs.length + ds.length ≤ 100000) : StOk X k Γ (.Expr (.Call (.Attribute (.Name x p) (Str.ofString "extend") ap) [e] [] pos) q) σ .next (σ.setOwn x (xs ++ ds)) := by
  refine ownCall O VO he hx hω h1 ns PySem.F.slot_list_extend PySem.F.type_list_extend (λ_ _ _ _ =>True) λ{S s A r vs n v Q E} g hg hall rv hQ =>rv.asT h2 λb ws n2 hb hws =>?_
  have hl' : vs.size + ws.size ≤ 100000 :=by rw [hall.size, hws.size]; exact hl
  refine call_meets PySem.F.slot_list_extend ⟨_, hg, rfl⟩ PySem.F.entry_list_extend (PySem.F.args_list_extend_2 _ _) (AutoSeq1.list_extend_list_tuple_0 r vs n b ws n2 ?_ (Nat.le_trans (Nat.le_trans (Nat.le_add_right _ _) hl') (by decide)) (Nat.le_trans hl' (by decide))) ⟨hg, g.inn _ _ hb, hQ (λx =>x ++ ws) _ id (by rw [Array.toList_append]; exact hall.append hws)⟩
  rw [show Builtin.List.listTooLong (vs.size + ws.size) = false from decide_eq_false (Nat.not_lt.mpr (Nat.le_trans hl' (by decide)))]; simp
theorem returnOk (VO : VOk X k V) {e : Expr} {p : Pos} {d : PyData} (h : V.ev Γ e σ.freeze.ρ = some d) : StOk X k Γ (.Return (some e) p) σ (.ret d) σ.freeze :=by
  intro hb Sb env S s A Q E R T hQ
  refine X12 (λS' ss T' =>?_) T.freeze'
  refine PySem.wpAny_Return_some (VO.ev h R T' λv S₁ s₁ st r =>?_)
  exact hQ S₁ s₁ (T'.step st) (ss.trans st.sstep) v r
theorem augOk (O : CxOk X) (VO : VOk X k V) {x : Str} {p q : Pos} {e : Expr} {a b : PyData} {u v : Str} (h0 : σ.ρ.lookup x = some a) (hu : uS a = some u) (h1 : V.ev Γ e σ.ρ = some b) (hv : uS b = some v) (hl : u.length + v.length ≤ 100000) (hm : Γ.mayStore x = true) (hs : Sets σ x (.str (u ++ v)) σ') :
    StOk X k Γ (.AugAssign (.Name x p) .Add e q) σ .next σ' :=
  fun R T hQ => X12 (fun _ hva ra => PySem.wpAny_AugAssign_Name (loadVar T hva (VO.ev h1 R T fun _ _ _ st rb => ra.asS hu fun _ => rb.asS hv fun _ => wpAny_with_toks st.gd.tp (PyProof.Rows.iadd_str (fun _ tk htk =>
    storeVar O.tabOk (T.step (st.toks tk λ_ =>htk)) hm (.str _ _) hs λ_ T' nk =>hQ _ _ T' ((st.toks tk λ_ =>htk).sstep.trans nk.sstep)) (Nat.le_trans hl (by decide)))))) (T.vars x _ h0)
theorem ifOk (VO : VOk X k V) {t : Expr} {b o : List Stmt} {p : Pos} {c : Bool} {out : Out} (h : V.ts Γ t σ.ρ = some c) (hb : c = true → StsOk X k Γ b σ out σ') (ho : c = false → StsOk X k Γ o σ out σ') : StOk X k Γ (.If t b o p) σ out σ' :=by
  intro hb' Sb env S s A Q E R T hQ
  refine PySem.wpAny_If (VO.ts h R T λS₁ s₁ st =>?_)
  cases c with
  | true =>exact hb rfl R (T.step st) λS' s' T' ss =>hQ S' s' T' (st.sstep.trans ss)
  | false =>exact ho rfl R (T.step st) λS' s' T' ss =>hQ S' s' T' (st.sstep.trans ss)
theorem newOwnOk (O : CxOk X) {x : Str} {p q r : Pos} (hm : Γ.mayStore x = true) (hω : σ.ω = none) (hl : σ.ρ.lookup x = none) : StOk X k Γ (.Assign [.Name x p] (.List [] q) r) σ .next (σ.setOwn x []) :=by
  intro hb Sb env S s A Q E R T hQ
  refine PySem.wpAny_Assign_Name (List_ (args_nil (wpAny_newObj_type ?_ (Nat.zero_le _)))) rfl
  have st := Step.push O T.gd (listO #[] 0) s.toks
  refine storeOwn O.tabOk (T.step st) hm hω hl (Heap.get?_push_size _ rfl) T.gd.fresh (T.lo _ (get?_size _)) .nil λs' T' nk =>hQ _ _ T' (st.sstep.trans nk.sstep)
theorem cut_look {n : List Str} {x : Str} {d : PyData} (h : (σ.cut n).ρ.lookup x = some d) : σ.ρ.lookup x = some d := (lookup_filter_some (λ_ _ _ =>rfl) h).1
theorem isTuple_eq {t : Expr} (h : isTuple t = true) : ∃ es k p, t = .Tuple es k p := Expr.Tuple.elim (motive_1 := λt =>∃ es k p, t = .Tuple es k p) t (Nat.eq_of_beq_eq_true h) λes k p =>⟨es, k, p, rfl⟩
theorem post_of {o o₁ : Out} {σ₁ σ' : St} {Q : Flow → Shared → Prop} (h : some (o₁, σ₁) = some (o, σ')) (hQ : ∀ S' s', At X hb Sb Γ env σ' S' s' → SStep X S s S' s' → OutPost Q S' s' o) : ∀ S' s', At X hb Sb Γ env σ₁ S' s' → SStep X S s S' s' → OutPost Q S' s' o₁ :=by
  cases Option.some.inj h; exact hQ
theorem StOk.of {o o₁ : Out} {σ₁ σ' : St} {st : Stmt} (h : some (o₁, σ₁) = some (o, σ')) (k' : StOk X k Γ st σ o₁ σ₁) : StOk X k Γ st σ o σ' :=by
  cases Option.some.inj h; exact k'
theorem forStOk (O : CxOk X) (GO : GlOk X k G) (VO : VOk X k V) {t it : Expr} {body orelse : List Stmt} {p : Pos} {ds : List PyData} {n : List Str} {exB exE : St → Option (Out × St)} {o : Out} (htup : iterTup Γ it = true → isTuple t = true) (h1 : iterE V Γ it σ.ρ = some ds)
    (hB : ∀ {σ o σ'}, exB σ = some (o, σ') → StsOk X k Γ body σ o σ') (hE : ∀ {σ o σ'}, exE σ = some (o, σ') → StsOk X k Γ orelse σ o σ') (h2 : forD (targetD Γ t) exB exE n ds σ = some (o, σ')) : StOk X k Γ (.For t it body orelse p) σ o σ' :=by
  intro hb Sb env S s A Q E R T hQ
  cases σ with
  | mk ρ ω =>
  have key := iterOk (E := E) (Q := λit s₂ =>codeAny X.M A (.forLoop t it body orelse env) (λr s' =>match r with | .ok f =>Q f s' | .error e =>cameBackBy X.M A env E e s') s₂) O GO VO h1 R T λit' S₂ s₂ st I₂ =>by
    refine codeAny_forLoop_any (λm s₁ =>∃ ds σ S₁, m = ds.length ∧ forD (targetD Γ t) exB exE n ds σ = some (o, σ') ∧ At X hb Sb Γ env σ S₁ s₁ ∧ SStep X S s S₁ s₁ ∧ ItAt s.heap S₁ s₁.heap it' (iterTup Γ it) ds) ?_ ds.length ⟨ds, ⟨ρ, ω⟩, S₂, rfl, h2, T.step st, st.sstep, I₂⟩
    rintro m s₁ ⟨ds, σ, S₁, rfl, hf, T₁, j, I⟩
    cases ds with
    | nil =>
      refine wpAny_mono (nextEnd (N := λs' =>wpAny X.M A (PySem.execs orelse env) (λf s₃ =>(λr s' =>match r with | .ok f =>Q f s' | .error e =>cameBackBy X.M A env E e s' : Result → Shared → Prop) (.ok f) s₃) (notedBy X.M A env λe s' =>cameBackBy X.M A env E e s') s') (K := λ_ _ =>False) O R T₁ T.lo I λs' T' its =>?_) (λr s₂ h₂ =>?_) (λ_ _ e =>e)
      · exact hE hf R T' λS₃ s₃ T₃ ss =>hQ S₃ s₃ T₃ ((j.it its).trans ss)
      · cases r with
        | none =>exact h₂
        | some v =>exact h₂.elim
    | cons d r =>
      revert hf; refine bsC λσ₁ hf1 =>bsC λp hf2 hf =>?_
      cases p with
      | mk o₁ σ₂ =>
      refine wpAny_mono (nextItem (N := fun _ => False) O R.handled T₁ T.lo I (fun q => isTuple_eq (htup q)) (E' := notedBy X.M A env fun e s' => cameBackBy X.M A env E e s')
        (K := fun v s₁' => wpAny X.M A (assign t env v) (fun _ s₂ => wpAny X.M A (PySem.execs body env) (fun f s₃ => match f with
            | .next | .cont =>∃ m, m < (d :: r).length ∧ ∃ ds σ S₁, m = ds.length ∧ forD (targetD Γ t) exB exE n ds σ = some (o, σ') ∧ At X hb Sb Γ env σ S₁ s₃ ∧ SStep X S s S₁ s₃ ∧ ItAt s.heap S₁ s₃.heap it' (iterTup Γ it) ds
            | .brk =>Q .next s₃
            | .ret v =>Q (.ret v) s₃) (notedBy X.M A env λe s' =>cameBackBy X.M A env E e s') s₂) (notedBy X.M A env λe s' =>cameBackBy X.M A env E e s') s₁')
        λv S₂ s₂ T₂ its I₂ rv =>?_) (λx s₂ h₂ =>?_) (λ_ _ e =>e)
      · have j₂ := j.it its
        refine targetOk O R.handled hf1 T₂ rv λs₃ T₃ ss₃ =>?_
        refine hB hf2 R T₃ λS₄ s₄ T₄ ss₄ =>?_
        have j₄ : SStep X S s S₄ s₄ := (j₂.trans ss₃).trans ss₄
        have I₄ : ItAt s.heap S₄ s₄.heap it' (iterTup Γ it) r := I₂.step T₂.gd T₄.gd T.gd.back (ss₃.trans ss₄)
        cases o₁ with
        | next =>exact ⟨r.length, Nat.lt_succ_self _, r, σ₂.cut n, S₄, rfl, hf, T₄.weaken (λx d e =>cut_look e) rfl, j₄, I₄⟩
        | cont =>exact ⟨r.length, Nat.lt_succ_self _, r, σ₂.cut n, S₄, rfl, hf, T₄.weaken (λx d e =>cut_look e) rfl, j₄, I₄⟩
        | brk =>exact post_of hf hQ S₄ s₄ (T₄.weaken (λx d e =>cut_look e) rfl) j₄
        | ret dd =>exact post_of hf hQ S₄ s₄ T₄ j₄
      · cases x with
        | none =>exact h₂.elim
        | some v =>exact h₂
  exact PySem.wpAny_For key.2 key.1
theorem whileStOk (VO : VOk X k V) {t : Expr} {body : List Stmt} {p : Pos} {n : List Str} {exB : St → Option (Out × St)} {o : Out} {K : Nat} (hB : ∀ {σ o σ'}, exB σ = some (o, σ') → StsOk X k Γ body σ o σ')
    (h2 : whileD (λσ =>V.ts Γ t σ.ρ) exB n K σ = some (o, σ')) : StOk X k Γ (.While t body [] p) σ o σ' :=by
  intro hb Sb env S s A Q E R T hQ
  refine PySem.wpAny_While (codeAny_whileLoop (λm s₁ =>∃ σ S₁, whileD (λσ =>V.ts Γ t σ.ρ) exB n m σ = some (o, σ') ∧ At X hb Sb Γ env σ S₁ s₁ ∧ SStep X S s S₁ s₁) ?_ K ⟨σ, S, h2, T, .refl⟩)
  rintro m s₁ ⟨σ, S₁, hf, T₁, j⟩
  cases m with
  | zero =>exact nos hf
  | succ m =>
    revert hf; refine bsC λc hc hf =>?_
    refine VO.ts hc R T₁ λS₂ s₂ st =>?_
    cases c with
    | false =>exact wpAny_execs_nil (post_of hf hQ S₂ s₂ (T₁.step st) (j.trans st.sstep))
    | true =>
      revert hf; refine bsC λp hf2 hf =>?_
      cases p with
      | mk o₁ σ₂ =>
      refine hB hf2 R (T₁.step st) λS₄ s₄ T₄ ss₄ =>?_
      have j₄ : SStep X S s S₄ s₄ := (j.trans st.sstep).trans ss₄
      cases o₁ with
      | next =>exact ⟨m, Nat.lt_succ_self _, σ₂.cut n, S₄, hf, T₄.weaken (λx d e =>cut_look e) rfl, j₄⟩
      | cont =>exact ⟨m, Nat.lt_succ_self _, σ₂.cut n, S₄, hf, T₄.weaken (λx d e =>cut_look e) rfl, j₄⟩
      | brk =>exact post_of hf hQ S₄ s₄ (T₄.weaken (λx d e =>cut_look e) rfl) j₄
      | ret dd =>exact post_of hf hQ S₄ s₄ T₄ j₄
end
end Mine
end
section
namespace Mine
open PySem PySem.Spec PyProof.Rows PySem.W
section
variable {X : Cx} {k : Nat} {G : Gl} {Γ : Sc} {σ σ' : St}
theorem evN_star {n : Nat} {e : Expr} {ρ : Loc} {d : PyData} (h : (evN G n).ev Γ e ρ = some d) : isStar e = false :=by
  refine Bool.eq_false_iff.mpr λq =>?_
  cases n with
  | zero =>exact nos h
  | succ n =>exact nos ((Expr.Starred.elim (motive_1 := λe =>stepE G (evN G n) Γ e ρ = none) e (Nat.eq_of_beq_eq_true q) λ_ _ =>rfl).symm.trans h)
theorem passOk {p : Pos} : StOk X k Γ (.Pass p) σ .next σ :=by
  intro hb Sb env S s A Q E R T hQ
  show wpAny X.M A (exec (.Pass p) env) Q E s
  rw [show exec (.Pass p) env = (do standAt p; pure .next) from rfl]
  exact wpAny_bind (wpAny_standAt (wpAny_pure (hQ S s T .refl)))
theorem breakOk {p : Pos} : StOk X k Γ (.Break p) σ .brk σ :=by
  intro hb Sb env S s A Q E R T hQ
  rw [show exec (.Break p) env = (do standAt p; pure .brk) from rfl]
  exact wpAny_bind (wpAny_standAt (wpAny_pure (hQ S s T .refl)))
theorem contOk {p : Pos} : StOk X k Γ (.Continue p) σ .cont σ :=by
  intro hb Sb env S s A Q E R T hQ
  rw [show exec (.Continue p) env = (do standAt p; pure .cont) from rfl]
  exact wpAny_bind (wpAny_standAt (wpAny_pure (hQ S s T .refl)))
theorem notTuple {e : Expr} {env : Env} {ts : List Expr} {c : Nat} {pt : Pos} (hd : dTup e = none) : swappedStores [.Tuple ts c pt] e env = pure none :=by
  cases e with
  | Tuple vs c2 p2 =>exact son hd
  | _ =>rfl
theorem tupUsed {e : Expr} {env : Env} {ts : List Expr} {c : Nat} {pt : Pos} {l : Nat} : swapsWithSole [.Tuple ts c pt] e l env = pure false :=by cases e <;> rfl
theorem asgGenOk {C : Ctx} (O : CxOk X) (GO : GlOk X k C.G) {nE : Nat} {t e : Expr} {p : Pos} {o : Out} (hsw : dName t = none → ∀ vs, dTup e = some vs → vs.all (constantsAlone 8) = false) (h : asgGen C (evN C.G nE) t e σ = some (o, σ')) : StOk X k C.Γ (.Assign [t] e p) σ o σ' :=by
  revert h; refine bsC λd h1 =>bsC λσ₁ h3 h4 =>StOk.of h4 ?_
  cases hn : dName t with
  | some x =>
    revert h3; refine ifDC (λx hx h3 =>(assignD_inv h3).elim λx' h =>h.elim λp' h =>?_) λq =>nos (q.symm.trans hn)
    rw [h.1]
    exact assignNameOk O GO h1 h.2.1 h.2.2
  | none =>
    have h3' := h3
    revert h3'; refine ifDC (λx q =>nos (hn.symm.trans q)) λ_ =>bsC λts h5 _ =>(dTup_eq h5).elim λc e' =>e'.elim λpt e' =>?_
    rw [e'] at h3 ⊢
    cases hd : dTup e with
    | some vs =>
      refine (dTup_eq hd).elim λc2 e2 =>e2.elim λp2 e2 =>?_
      rw [e2] at h1 ⊢
      exact swapAssign O (evNOk O GO nE) (hsw hn _ hd) h1 h3
    | none =>exact λR T hQ =>Assign_Tuple ((evNOk O GO nE).ev h1 R T λv S₁ s₁ st r =>targetOk O R.handled h3 (T.step st) r λs' T' ss =>hQ _ _ T' (st.sstep.trans ss)) tupUsed (notTuple hd)
theorem newDOk {C : Ctx} (O : CxOk X) (GO : GlOk X k C.G) {x : Str} {px q p : Pos} {o : Out} (h : newD C x σ = some (o, σ')) : StOk X k C.Γ (.Assign [.Name x px] (.List [] q) p) σ o σ' :=by
  revert h; refine ifsC λhm =>iteC (λ_ =>?_) λ_ =>bsC λσ₁ h1 h2 =>StOk.of h2 ((assignD_inv h1).elim λx' h =>h.elim λp' h =>?_)
  · cases hω : σ.ω with
    | none =>exact ifnC λhl h =>StOk.of h (newOwnOk O hm hω (hasLoc_false (Bool.eq_false_iff.mpr hl)))
    | some _ =>exact nos
  · obtain ⟨e, hm', hs⟩ := h
    cases e
    exact assignNameOk O GO (n := 1) (show (evN C.G 1).ev C.Γ (.List [] q) σ.ρ = some (.list []) from rfl) hm hs
theorem asgOk {C : Ctx} (O : CxOk X) (GO : GlOk X k C.G) {nE : Nat} {t e : Expr} {p : Pos} {o : Out} (h : asgD C (evN C.G nE) t e σ = some (o, σ')) : StOk X k C.Γ (.Assign [t] e p) σ o σ' :=by
  revert h; refine ifDC (λx hd =>iteC (λhn h =>?_) λ_ h =>asgGenOk O GO (λq =>nos (q.symm.trans hd)) h) λ_ =>ifDC (λvs he =>ifnC λhc h =>asgGenOk O GO (λ_ vs' q =>uq he q ▸ Bool.eq_false_iff.mpr hc) h) λhe h =>asgGenOk O GO (λ_ vs' q =>nos (he.symm.trans q)) h
  refine (isNilE_eq hn).elim λq e1 =>(dName_eq hd).elim λpx e2 =>?_
  rw [e1, e2]
  exact newDOk O GO h
theorem augSOk {C : Ctx} (O : CxOk X) (GO : GlOk X k C.G) {nE : Nat} {t e : Expr} {op : Operator} {p : Pos} {o : Out} (h : (if isAdd op then (dName t).bind λx =>(σ.ρ.lookup x).bind λa =>((evN C.G nE).ev C.Γ e σ.ρ).bind λb =>augD C x a b σ else none) = some (o, σ')) : StOk X k C.Γ (.AugAssign t op e p) σ o σ' :=by
  revert h; refine ifsC λha =>bsC λx h1 =>bsC λa h0 =>bsC λb h2 =>bsC λu hu =>bsC λv hv =>ifsC λhl =>bsC λσ₁ h3 h4 =>StOk.of h4 ((assignD_inv h3).elim λx' h =>h.elim λp' h =>?_)
  refine (dName_eq h1).elim λq e0 =>?_
  obtain ⟨e, hm, hs⟩ := h
  cases e
  rw [e0, of_decide_eq_true ha]
  exact augOk O (evNOk O GO nE) h0 hu h2 hv hl hm hs
theorem exprSOk {C : Ctx} (O : CxOk X) (GO : GlOk X k C.G) {nE : Nat} {e : Expr} {p : Pos} {o : Out} (h : ((dOwn e).bind fun c => if c.ap.endLine ≠ c.p.line ∨ c.x = Str.ofString "__debug__" then none else ownD C (evN C.G nE) c.x c.m c.e σ) = some (o, σ')) : StOk X k C.Γ (.Expr e p) σ o σ' := by
  revert h; refine bsC λc h1 =>ifnC λhc =>ifDC (λw hω =>ifsC λhy =>iteC (λhm =>bsC λd h2 =>ifsC λhl h =>StOk.of h ?_) λ_ =>ifsC λhm =>bsC λd h2 =>bsC λds h3 =>ifsC λhl h =>StOk.of h ?_) λ_ =>nos
  all_goals
    refine (dOwn_eq h1).elim λq e0 =>?_
    have hω' : σ.ω = some (c.x, w.2) := hy ▸ hω
    have ha : c.ap.endLine = c.p.line := Decidable.byContradiction λq =>hc (.inl q)
    rw [e0, hm]
  · exact appendStOk O (evNOk O GO nE) ha (λq =>hc (.inr q)) hω' h2 (evN_star h2) hl
  · exact extendStOk O (evNOk O GO nE) ha (λq =>hc (.inr q)) hω' h2 h3 (evN_star h2) hl
theorem stepSOk {C : Ctx} (O : CxOk X) (GO : GlOk X k C.G) {nE : Nat} {ex : Stmt → St → Option (Out × St)} (hex : ∀ {st σ o σ'}, ex st σ = some (o, σ') → StOk X k C.Γ st σ o σ') {st : Stmt} {o : Out} (h : stepS C (evN C.G nE) ex st σ = some (o, σ')) : StOk X k C.Γ st σ o σ' :=by
  cases st with
  | Pass p =>exact StOk.of h passOk
  | Break p =>exact StOk.of h breakOk
  | Continue p =>exact StOk.of h contOk
  | Return r p =>revert h; exact bsC λe h1 =>bsC λd h2 h8 =>h1 ▸ StOk.of h8 (returnOk (evNOk O GO nE) h2)
  | If t b oe p =>revert h; exact bsC λc h1 h2 =>ifOk (evNOk O GO nE) h1 (λq =>execsOk (λh =>hex h) b (by rw [q] at h2; exact h2)) λq =>execsOk (λh =>hex h) oe (by rw [q] at h2; exact h2)
  | Assign ts e p =>revert h; exact bsC λt h1 h =>d1_eq h1 ▸ asgOk O GO h
  | AugAssign t op e p =>exact augSOk O GO h
  | Expr e p =>exact exprSOk O GO h
  | While t body oe p =>revert h; exact ifsC λhe h =>(List.isEmpty_iff.mp he) ▸ whileStOk (evNOk O GO nE) (λh =>execsOk (λh =>hex h) body h) h
  | For t it body orelse p =>
    revert h; exact ifnC λhc =>bsC λds h1 h2 =>forStOk O GO (evNOk O GO nE) (λq =>Decidable.byContradiction λq2 =>hc ⟨q, Bool.eq_false_iff.mpr q2⟩) h1 (λh =>execsOk (λh =>hex h) body h) (λh =>execsOk (λh =>hex h) orelse h) h2
  | _ =>exact nos h
theorem exNOk {C : Ctx} (O : CxOk X) (GO : GlOk X k C.G) {nE : Nat} (hprim : ∀ {st f σ o σ'}, C.prim st = some f → f σ = some (o, σ') → StOk X k C.Γ st σ o σ') : ∀ n {st : Stmt} {σ : St} {o : Out} {σ' : St}, exN C (evN C.G nE) n st σ = some (o, σ') → StOk X k C.Γ st σ o σ' :=by
  intro n
  induction n with
  | zero =>exact λh =>nos h
  | succ n ih =>
    intro st σ o σ' h hb Sb env S s A Q E R T hQ
    have main : ∀ {τ : St} {S : Store} {s : Shared}, τ = (if C.frz.contains (stmtLine st) then σ.freeze else σ) → At X hb Sb C.Γ env τ S s → (∀ S' s', At X hb Sb C.Γ env σ' S' s' → SStep X S s S' s' → OutPost Q S' s' o) → wpAny X.M A (exec st env) Q E s :=by
      intro τ S s e T hQ
      revert h
      refine ifDC (λf hf h =>?_) λ_ h =>?_
      · rw [← e] at h; exact hprim hf h R T hQ
      · rw [← e] at h; exact stepSOk O GO (λh =>ih h) h R T hQ
    by_cases hc : C.frz.contains (stmtLine st) = true
    · exact X12 (λS' ss T' =>main (if_pos hc).symm T' λS₁ s₁ T₁ ss₁ =>hQ S₁ s₁ T₁ (ss.trans ss₁)) T.freeze'
    · exact main (if_neg hc).symm T hQ
end
end Mine
end
section
namespace Mine
open PySem PySem.Spec PyProof.Rows PySem.W
theorem bindL_other {kf : Str → Option NameKind} {x : Str} : ∀ {l : List (Str × Value)} {m : Str → Option Value}, x ∉ l.map (·.1) → bindL kf l m x = m x
  | [], m, _ =>rfl
  | (n, v) :: r, m, h =>by
    simp only [List.map_cons, List.mem_cons, not_or] at h
    unfold bindL
    rw [bindL_other h.2]
    split
    · exact if_neg h.1
    · rfl
theorem bindC_other {kf : Str → Option NameKind} {x : Str} : ∀ {l : List (Str × Value)} {m : Str → Option Value}, x ∉ l.map (·.1) → PySem.bindC kf l m x = m x
  | [], m, _ =>rfl
  | (n, v) :: r, m, h =>by
    simp only [List.map_cons, List.mem_cons, not_or] at h
    unfold PySem.bindC
    rw [bindC_other h.2]
    split
    · rfl
    · exact if_neg h.1
theorem bindL_hit {kf : Str → Option NameKind} {x : Str} {v : Value} (hk : kf x = some .local) : ∀ {l : List (Str × Value)} {m : Str → Option Value}, (l.map (·.1)).Nodup → l.lookup x = some v → bindL kf l m x = some v
  | [], m, _, h =>by exact nos h
  | (n, u) :: r, m, hN, h =>by
    simp only [List.map_cons, List.nodup_cons] at hN
    unfold bindL
    by_cases q : x = n
    · subst q
      simp only [List.lookup_cons, beq_self_eq_true] at h
      replace h := Option.some.inj h; subst h
      rw [bindL_other hN.1, if_pos hk]; exact if_pos rfl
    · simp only [List.lookup_cons, beq_eq_false_iff_ne.mpr q] at h
      exact bindL_hit hk hN.2 h
theorem bindC_hit {kf : Str → Option NameKind} {x : Str} {v : Value} (hk : kf x ≠ some .local) : ∀ {l : List (Str × Value)} {m : Str → Option Value}, (l.map (·.1)).Nodup → l.lookup x = some v → PySem.bindC kf l m x = some v
  | [], m, _, h =>by exact nos h
  | (n, u) :: r, m, hN, h =>by
    simp only [List.map_cons, List.nodup_cons] at hN
    unfold PySem.bindC
    by_cases q : x = n
    · subst q
      simp only [List.lookup_cons, beq_self_eq_true] at h
      replace h := Option.some.inj h; subst h
      rw [bindC_other hN.1, if_neg hk]; exact if_pos rfl
    · simp only [List.lookup_cons, beq_eq_false_iff_ne.mpr q] at h
      exact bindC_hit hk hN.2 h
theorem mem_lookup {α : Type} : ∀ {l : List (Str × α)} {x : Str} {c : α}, (x, c) ∈ l → ∃ c', l.lookup x = some c'
  | (n, v) :: r, x, c, h =>by
    simp only [List.lookup_cons]
    by_cases e : x = n
    · subst e; exact ⟨v, by simp⟩
    · rw [beq_eq_false_iff_ne.mpr e]
      rcases List.mem_cons.mp h with z | z
      · cases z; exact absurd rfl e
      · exact mem_lookup z
theorem zip_look {S : Store} {x : Str} {d : PyData} : ∀ {ps : List Str} {vs : List Value} {ds : List PyData}, RdAll S vs ds → (ps.zip ds).lookup x = some d → ∃ v, (ps.zip vs).lookup x = some v ∧ Rd S v d
  | [], vs, ds, _, h =>by simp at h
  | p :: ps, [], ds, r, h =>by cases r; simp at h
  | p :: ps, v :: vs, ds, r, h =>by
    cases r with
    | cons rv rs =>
      simp only [List.zip_cons_cons, List.lookup_cons] at h ⊢
      by_cases q : x = p
      · subst q
        simp only [beq_self_eq_true] at h ⊢
        replace h := Option.some.inj h; subst h
        exact ⟨v, rfl, rv⟩
      · rw [beq_eq_false_iff_ne.mpr q] at h ⊢
        exact zip_look rs h
section
variable {X : Cx} {k : Nat} {G : Gl} {hb : Heap} {Sb S S' : Store} {Γ : Sc} {env : Env} {σ σ' : St} {s s' : Shared} {A : Around} {E : Value → Shared → Prop}
theorem Room.deeper (R : Room A (k + 1)) (env : Env) : Room (A.deeper env) k :=by
  refine X11 (λl hl =>?_) R.frames
  refine ⟨R.handled, R.guards, ⟨env :: l, ?_⟩, ?_, ?_⟩
  · show A.frames.map (env :: ·) = _
    rw [hl]; rfl
  · have := R.depth
    show A.depth + 1 + k ≤ 900; omega
  · have := R.units
    show A.units + 3 + 200 * k ≤ 9000; omega
theorem enterAt (O : CxOk X) (g : Gd X S s) {fd : FuncData} {a : Addr} {ps : List Str} {vs : List Value} {ds : List PyData} (hg : fd.globals = mainGlobals) (hbi : fd.builtins = builtinsNs) (hk : fd.scope.kind = .function) (hl : vs.length = ps.length) (hnd : ps.Nodup)
    (hkinds : ∀ x ∈ ps, fd.scope.names.lookup x = some .local ∨ fd.scope.names.lookup x = some .cell) (r : RdAll S vs ds) {s₁ : Shared} (htk : 0 < s₁.toks)
    (x : InCallC s (callEnvC fd s.heap.objs.size a).locals (bindL (callEnvC fd s.heap.objs.size a).kindOf (ps.zip vs) λ_ =>none) (callEnvC fd s.heap.objs.size a).cells (PySem.bindC (callEnvC fd s.heap.objs.size a).kindOf (ps.zip vs) λ_ =>none) s₁) :
    At X s.heap S ⟨fd.scope.names, []⟩ (callEnvC fd s.heap.objs.size a) ⟨ps.zip ds, none⟩ S s₁ :=by
  obtain ⟨h', tk, rfl⟩ := x.toInCall.same
  have hkeep := x.toInCall.keep
  have g' : Gd X S { s with heap := h', toks := tk } := g.change O.tabOk (fp := λ_ =>False) (λa o _ e =>hkeep a o e) (λ_ q =>q.elim) (λ_ =>htk)
  have hnew : ∀ c, s.heap.objs.size ≤ c → s.heap.get? c = none := λc hc =>by
    cases q : s.heap.get? c with
    | none =>rfl
    | some o =>exact absurd (Heap.lt_size q) (Nat.not_lt.mpr hc)
  have cNew : ∀ n c, (callEnvC fd s.heap.objs.size a).cells.lookup n = some c → s.heap.get? c = none := λn c h =>hnew c (Nat.le_of_lt (x.above n c (mem_of_lookup h)))
  have hzip : (ps.zip vs).map (·.1) = ps :=by
    rw [List.map_fst_zip]; omega
  refine ⟨g', .of fun b o _ e => hkeep b o e, fun _ _ e => .inl e, .refl _, g.back, ⟨hk, rfl, hg, hbi, ⟨_, x.toInCall.ns⟩, get?_size _, fun n c h => ⟨_, x.cell n c h⟩, fun n c h => g.back _ (cNew n c h), fun n c h _ => cNew n c h,
    λn n' c h1 h2 =>name_of_addr x.apart (mem_of_lookup h1) (mem_of_lookup h2), λy hy =>?_⟩, λy d hy =>?_, nofun, nofun⟩
  · refine X11 (fun c hc => ?_) (cellsFrom_has (n := s.heap.objs.size + 1) (mem_of_lookup hy))
    exact mem_lookup hc
  · refine X12 (fun v hv rv => ?_) (zip_look r hy)
    refine ⟨v, ?_, rv⟩
    have hm : y ∈ ps :=by
      have := PySem.mem_of_lookup hy
      exact (List.of_mem_zip this).1
    have kf : (callEnvC fd s.heap.objs.size a).kindOf y = fd.scope.names.lookup y := rfl
    rcases hkinds y hm with hy' | hy'
    · exact .inl ⟨kf.trans hy', _, x.toInCall.ns, bindL_hit (kf.trans hy') (by rw [hzip]; exact hnd) hv⟩
    · refine X11 (fun c hc => ?_) (cellsFrom_has (n := s.heap.objs.size + 1) (mem_of_lookup hy'))
      refine X11 (λc' hc' =>?_) (mem_lookup hc)
      refine .inr ⟨kf.trans hy', c', hc', ?_⟩
      have := x.cell y c' hc'
      rw [bindC_hit (by rw [kf, hy']; decide) (by rw [hzip]; exact hnd) hv] at this
      exact this
structure DefAt (X : Cx) (f : Str) (ps : List Str) (body : List Stmt) (names : List (Str × NameKind)) : Prop where
  ex : ∃ a o fd, GlobIs X f (.ref a) ∧ X.h₁.get? a = some o ∧ a ≠ X.P ∧ o.data = .func fd ∧ X.h₁.CodeRec fd.code fd.qualname ∧ (∀ c, fd.code = .ref c → c ≠ X.P) ∧ fd.body = .stmts body ∧ fd.closure = [] ∧ fd.globals = mainGlobals ∧ fd.builtins = builtinsNs ∧
    fd.scope.kind = .function ∧ fd.scope.names = names ∧ fd.scope.isCoroutine = false ∧ fd.scope.isGenerator = false ∧ (∀ {S : Store} {s : Shared} {A : Around} {Q : List (Str × Value) → Shared → Prop} {E : Value → Shared → Prop} (vals : List Value), Gd X S s → vals.length = ps.length → Q (ps.zip vals) s → wpAny X.M A (bindArgs fd ⟨vals, []⟩) Q E s)
theorem defOk (O : CxOk X) {f : Str} {ps : List Str} {body : List Stmt} {names : List (Str × NameKind)} (D : DefAt X f ps body names) (hnd : ps.Nodup) (hkinds : ∀ x ∈ ps, names.lookup x = some .local ∨ names.lookup x = some .cell)
    {ds : List PyData} {d : PyData} (hl : ds.length = ps.length) (hex : StsOk X k ⟨names, []⟩ body ⟨ps.zip ds, none⟩ (.ret d) σ') : CallOk X (k + 1) f ds d :=by
  obtain ⟨a, o, fd, hf, ho, haP, hd, hcd, hcP, hbody, hclo, hg, hbi, hk, hn, hco, hgen, hbind⟩ := D.ex
  subst hn
  refine ⟨.ref a, hf, .inr (.inr ⟨a, o, fd, rfl, ho, haP, hd⟩), λ{S s vs A Q E} R g r hQ =>wpAny_call ?_⟩
  have hlv : vs.length = ps.length :=by rw [r.length, hl]
  have hcd' : s.heap.CodeRec fd.code fd.qualname :=by
    obtain ⟨c, oc, vc, t, h1, h2, h3, h4⟩ := hcd
    exact ⟨c, oc, vc, t, h1, g.base c oc (hcP c h1) h2, h3, h4⟩
  have hkb : ∀ x ∈ ps.zip vs, fd.scope.names.lookup x.1 = some .local ∨ (fd.scope.names.lookup x.1 = some .cell ∧ ((cellsFrom (s.heap.objs.size + 1) fd.scope.names []).lookup x.1).isSome = true) := λx hx =>by
    obtain ⟨n, v⟩ := x
    rcases hkinds n (List.of_mem_zip hx).1 with h | h
    · exact .inl h
    · refine X11 (fun c hc => ?_) (cellsFrom_has (n := s.heap.objs.size + 1) (mem_of_lookup h))
      refine X11 (λc' hc' =>?_) (mem_lookup hc)
      exact .inr ⟨h, by rw [hc']; rfl⟩
  have := R.depth
  refine codeAny_call_function (by show A.depth < 1000; omega) (g.base a o haP ho) hd hco hgen hbody hcd' ?_
  rw [hclo]
  refine hbind vs g hlv (wpAny_with_toks g.tp (wpAny_newFunctionEnv_cells hk hkb λenv he s₁ x htk =>?_))
  subst he
  refine ⟨(g.lim O).keeps x.toInCall.keep, codeAny_func ?_⟩
  have T := enterAt (a := a) O g hg hbi hk hlv hnd hkinds r htk x
  exact hex (R.deeper _) T λS' s' T' _ v rv =>hQ v S' s' (T'.done rfl) rv
end
end Mine
end
section
namespace Mine
open PySem PySem.Spec PySem.Sre
noncomputable def reCode : Array Nat := #[14, 4, 0, 1, 4294967295, 17, 0, 7, 14, 24, 10, 1, 4294967295, 13, 5, 22, 48, 57, 0, 1, 15, 17, 15, 13, 11, 9, 0, 26624, 2147483648, 0, 0, 0, 0, 0, 0, 15, 2, 0, 17, 1, 1]
theorem acceptsDig (c : Nat) (seen : Seen) : ∃ s', accepts reCode 13 c seen = .ok (isDig c, s') :=by
  have h1 : accepts reCode 13 c seen = if (48 ≤ c && c ≤ 57) = true then .ok (true, seen.add 22) else .ok (false, (seen.add 22).add 0) := rfl
  rw [h1]
  unfold isDig
  cases (48 ≤ c && c ≤ 57 : Bool)
  · exact ⟨_, rfl⟩
  · exact ⟨_, rfl⟩
theorem acceptsSep (c : Nat) (seen : Seen) : ∃ s', accepts reCode 23 c seen = .ok (isSep c, s') :=by
  have h1 : accepts reCode 23 c seen = if (c < 256 && (reCode.getD (25 + (1 + c / 32)) 0).testBit (c % 32)) = true then .ok (true, seen.add 9) else .ok (false, (seen.add 9).add 0) := rfl
  rw [h1]
  have h2 : (c < 256 && (reCode.getD (25 + (1 + c / 32)) 0).testBit (c % 32) : Bool) = isSep c :=by
    by_cases hc : c < 256
    · have : ∀ c : Fin 256, (c.1 < 256 && (reCode.getD (25 + (1 + c.1 / 32)) 0).testBit (c.1 % 32) : Bool) = isSep c.1 := by decide +kernel
      exact this ⟨c, hc⟩
    · have e1 : (decide (c < 256)) = false := by simpa using hc
      rw [e1]
      unfold isSep
      have a1 : (c == 46) = false :=by simp; omega
      have a2 : (c == 95) = false :=by simp; omega
      have a3 : (c == 43) = false :=by simp; omega
      have a4 : (c == 45) = false :=by simp; omega
      simp [a1, a2, a3, a4]
  rw [h2]
  cases isSep c
  · exact ⟨_, rfl⟩
  · exact ⟨_, rfl⟩
noncomputable def digRun (text : Array Nat) : Nat → Nat → Nat
  | 0, _ =>0
  | n + 1, p =>if isDig (text.getD p 0) then digRun text n (p + 1) + 1 else 0
theorem runDig (text : Array Nat) : ∀ (n p found : Nat) (seen : Seen), ∃ s', Sre.run reCode text 13 n p found seen = .ok (found + digRun text n p, s')
  | 0, p, found, seen =>⟨seen, rfl⟩
  | n + 1, p, found, seen =>by
    refine X11 (λs1 h1 =>?_) (acceptsDig (text.getD p 0) seen)
    unfold Sre.run digRun
    rw [h1]
    show ∃ s', (if isDig (text.getD p 0) = true then Sre.run reCode text 13 n (p + 1) (found + 1) s1 else pure (found, s1)) = _
    cases isDig (text.getD p 0) with
    | false =>exact ⟨s1, rfl⟩
    | true =>
      refine X11 (λs2 h2 =>?_) (runDig text n (p + 1) (found + 1) s1)
      refine ⟨s2, ?_⟩
      simp only [if_true]
      rw [h2]
      congr 2
      omega
theorem runFor_stop {m : M} (h : m.outcome.isSome = true) : ∀ n, M.runFor n m = m
  | 0 =>rfl
  | n + 1 =>by unfold M.runFor; rw [if_pos h]
theorem runFor_add (m : M) : ∀ a b, M.runFor (a + b) m = M.runFor b (M.runFor a m)
  | 0, b =>by rw [Nat.zero_add]; rfl
  | a + 1, b =>by
    rw [Nat.succ_add]
    show (if m.outcome.isSome then m else M.runFor (a + b) m.step) = M.runFor b (if m.outcome.isSome then m else M.runFor a m.step)
    by_cases h : m.outcome.isSome = true
    · rw [if_pos h, if_pos h, runFor_stop h]
    · rw [if_neg h, if_neg h, runFor_add]
theorem runFor_succ {m : M} {n : Nat} (h : m.outcome = none) : M.runFor (n + 1) m = M.runFor n m.step :=by
  show (if m.outcome.isSome then m else M.runFor n m.step) = _
  rw [h]; rfl
noncomputable def mAt (text : Array Nat) (lim s : Nat) (first : Bool) (a b : Option Nat) (seen : Seen) : M :=
  { code := reCode, text, lim, start := s, lastStart := lim, pc := 5, pos := s, handed := s, outermost := first, marks := #[a, b], frames := [{ wait := .nextStart, pc := 5, pos := s, outermost := first }], weight := 1, seen }
noncomputable def k0 : Sre.Kept := { lastmark := 0, lastindex := -1, whole := false, marks := #[] }
noncomputable def nsF (s : Nat) (first : Bool) : Sre.Frame := { wait := .nextStart, pc := 5, pos := s, outermost := first }
noncomputable def nbF (s : Nat) (first : Bool) (pc : Nat) : Sre.Frame := { wait := .nextBranch, pc, pos := s, outermost := first, kept := k0 }
noncomputable def mIn (text : Array Nat) (lim s : Nat) (first : Bool) (b : Option Nat) (seen : Seen) (pc : Nat) (frames : List Sre.Frame) (weight : Nat) (answer : Option Bool) : M :=
  { code := reCode, text, lim, start := s, lastStart := lim, pc, pos := s, handed := s, outermost := first, marks := #[some s, b], lastmark := 0, frames, weight, answer, seen }
section
variable (text : Array Nat) (lim s : Nat) (first : Bool) (a b : Option Nat) (seen : Seen)
theorem step_mark : ∃ seen', (mAt text lim s first a b seen).step = mIn text lim s first b seen' 7 [nsF s first] 1 none := ⟨_, rfl⟩
theorem step_branch : ∃ seen', (mIn text lim s first b seen 7 [nsF s first] 1 none).step = mIn text lim s first b seen' 9 [nbF s first 8, nsF s first] 2 none := ⟨_, rfl⟩
noncomputable def repK (m : M) (r : Except String (Nat × Seen)) : M := match r with
  | .error why =>m.stick why
  | .ok (n, seen) =>
    let m := { m with seen }
    if n < 1 then m.say false else
    let m := { m with pos := m.pos + n }
    m.afterRun .giveBack n (m.keep m.inner.isSome)
theorem step_rep : ∃ s1, (mIn text lim s first b seen 9 [nbF s first 8, nsF s first] 2 none).step =
    if (1 : Int) > (lim : Int) - s then mIn text lim s first b s1 9 [nbF s first 8, nsF s first] 2 (some false)
    else repK (mIn text lim s first b s1 9 [nbF s first 8, nsF s first] 2 none) (Sre.run reCode text 13 (min 4294967295 ((lim : Int) - s).toNat) s 0 (s1.add 13)) := ⟨_, rfl⟩
theorem step_rep_none (h : lim ≤ s) : ∃ s1, (mIn text lim s first b seen 9 [nbF s first 8, nsF s first] 2 none).step = mIn text lim s first b s1 9 [nbF s first 8, nsF s first] 2 (some false) :=by
  refine X11 (λs1 h1 =>?_) (step_rep text lim s first b seen)
  exact ⟨s1, h1.trans (if_pos (by omega))⟩
theorem digRun_zero {text : Array Nat} {n p : Nat} (h : isDig (text.getD p 0) = false) : digRun text n p = 0 :=by
  cases n with
  | zero =>rfl
  | succ n =>unfold digRun; rw [h]; rfl
theorem step_rep_no (hs : s < lim) (hd : isDig (text.getD s 0) = false) : ∃ s1, (mIn text lim s first b seen 9 [nbF s first 8, nsF s first] 2 none).step = mIn text lim s first b s1 9 [nbF s first 8, nsF s first] 2 (some false) :=by
  refine X11 (λs1 h1 =>?_) (step_rep text lim s first b seen)
  refine X11 (λs2 h2 =>?_) (runDig text (min 4294967295 ((lim : Int) - s).toNat) s 0 (s1.add 13))
  rw [h1, if_neg (by omega), h2, digRun_zero hd]
  exact ⟨s2, rfl⟩
noncomputable def mEnd (text : Array Nat) (lim s e : Nat) (first : Bool) (b : Option Nat) (seen : Seen) (pc handed : Nat) (frames : List Sre.Frame) (weight : Nat) : M :=
  { code := reCode, text, lim, start := s, lastStart := lim, pc, pos := e, handed, outermost := first, marks := #[some s, b], lastmark := 0, frames, weight, seen }
noncomputable def gbF (s n : Nat) (first : Bool) : Sre.Frame := { wait := .giveBack, pc := 9, pos := s + n, outermost := first, count := n, kept := k0 }
theorem step_rep_yes (hs : s < lim) {n : Nat} (hn : digRun text (min 4294967295 ((lim : Int) - s).toNat) s = n + 1) :
    ∃ s1, (mIn text lim s first b seen 9 [nbF s first 8, nsF s first] 2 none).step = mEnd text lim s (s + (n + 1)) first b s1 20 (s + (n + 1)) [gbF s (n + 1) first, nbF s first 8, nsF s first] 3 :=by
  refine X11 (λs1 h1 =>?_) (step_rep text lim s first b seen)
  refine X11 (λs2 h2 =>?_) (runDig text (min 4294967295 ((lim : Int) - s).toNat) s 0 (s1.add 13))
  rw [h1, if_neg (by omega), h2, hn, Nat.zero_add]
  refine ⟨s2, ?_⟩
  unfold repK
  dsimp only
  rw [if_neg (by omega)]
  rfl
structure Found (m : M) (s e : Nat) : Prop where
  out : m.outcome = some .matched
  marks : m.marks = #[some s, some e]
  lm : m.lastmark = 1
  start : m.start = s
  handed : m.handed = e
noncomputable def mF (text : Array Nat) (lim s e : Nat) (pc pos handed : Nat) (outer : Bool) (seen : Seen) (frames : List Sre.Frame) (weight : Nat) (answer : Option Bool) (outcome : Option Sre.Outcome) : M :=
  { code := reCode, text, lim, start := s, lastStart := lim, pc, pos, handed, outermost := outer, marks := #[some s, some e], lastmark := 1, lastindex := 1, frames, weight, answer, seen, outcome }
theorem e_jump20 (e h : Nat) (fr : List Sre.Frame) (w : Nat) : ∃ s1, (mEnd text lim s e first b seen 20 h fr w).step = mEnd text lim s e first b s1 38 h fr w := ⟨_, rfl⟩
theorem e_jump35 (e h : Nat) (fr : List Sre.Frame) (w : Nat) : ∃ s1, (mEnd text lim s e first b seen 35 h fr w).step = mEnd text lim s e first b s1 38 h fr w := ⟨_, rfl⟩
theorem e_mark (e h : Nat) (fr : List Sre.Frame) (w : Nat) : ∃ s1, (mEnd text lim s e first b seen 38 h fr w).step = mF text lim s e 40 e h first s1 fr w none none :=by
  refine ⟨seen.add 17, ?_⟩
  have h1 : (mEnd text lim s e first b seen 38 h fr w).step = M.mark { mEnd text lim s e first b seen 38 h fr w with seen := seen.add 17 } 1 := rfl
  rw [h1]
  unfold M.mark mEnd mF
  simp
  decide
theorem e_succ (e h : Nat) (fr : List Sre.Frame) (w : Nat) : ∃ s1, (mF text lim s e 40 e h first seen fr w none none).step = mF text lim s e 40 e e first s1 fr w (some true) none :=by
  cases first
  · exact ⟨_, rfl⟩
  · exact ⟨_, rfl⟩
theorem e_gb (e pc pos n : Nat) (o : Bool) (fr : List Sre.Frame) (w : Nat) : (mF text lim s e pc pos e o seen (gbF s n first :: fr) w (some true) none).step = mF text lim s e 9 (s + n) e first seen fr (w - 1) (some true) none := rfl
theorem e_nb (e pc pos q : Nat) (o : Bool) (fr : List Sre.Frame) (w : Nat) : (mF text lim s e pc pos e o seen (nbF s first q :: fr) w (some true) none).step = mF text lim s e q s e first seen fr (w - 1) (some true) none := rfl
theorem e_ns (e pc pos : Nat) (o : Bool) (fr : List Sre.Frame) (w : Nat) : (mF text lim s e pc pos e o seen (nsF s first :: fr) w (some true) none).step = mF text lim s e 5 s e first seen fr (w - 1) (some true) none := rfl
theorem e_out (e pc pos w : Nat) (o : Bool) : (mF text lim s e pc pos e o seen [] w (some true) none).step = mF text lim s e pc pos e o seen [] w (some true) (some .matched) := rfl
theorem end_rep (e n : Nat) (h : Nat) : ∃ m', M.runFor 7 (mEnd text lim s e first b seen 20 h [gbF s n first, nbF s first 8, nsF s first] 3) = m' ∧ Found m' s e :=by
  refine X11 (λs1 h1 =>?_) (e_jump20 text lim s first b seen e h [gbF s n first, nbF s first 8, nsF s first] 3)
  refine X11 (λs2 h2 =>?_) (e_mark text lim s first b s1 e h [gbF s n first, nbF s first 8, nsF s first] 3)
  refine X11 (λs3 h3 =>?_) (e_succ text lim s first s2 e h [gbF s n first, nbF s first 8, nsF s first] 3)
  refine ⟨_, rfl, ?_⟩
  rw [runFor_succ rfl, h1, runFor_succ rfl, h2, runFor_succ rfl, h3, runFor_succ rfl, e_gb, runFor_succ rfl, e_nb, runFor_succ rfl, e_ns, runFor_succ rfl, e_out]
  exact ⟨rfl, rfl, rfl, rfl, rfl⟩
theorem end_sep (e h : Nat) : ∃ m', M.runFor 6 (mEnd text lim s e first b seen 35 h [nbF s first 22, nsF s first] 2) = m' ∧ Found m' s e :=by
  refine X11 (λs1 h1 =>?_) (e_jump35 text lim s first b seen e h [nbF s first 22, nsF s first] 2)
  refine X11 (λs2 h2 =>?_) (e_mark text lim s first b s1 e h [nbF s first 22, nsF s first] 2)
  refine X11 (λs3 h3 =>?_) (e_succ text lim s first s2 e h [nbF s first 22, nsF s first] 2)
  refine ⟨_, rfl, ?_⟩
  rw [runFor_succ rfl, h1, runFor_succ rfl, h2, runFor_succ rfl, h3, runFor_succ rfl, e_nb, runFor_succ rfl, e_ns, runFor_succ rfl, e_out]
  exact ⟨rfl, rfl, rfl, rfl, rfl⟩
theorem step_alt2 : (mIn text lim s first b seen 9 [nbF s first 8, nsF s first] 2 (some false)).step = mIn text lim s first b seen 23 [nbF s first 22, nsF s first] 2 none := rfl
noncomputable def inK (m : M) (r : Except String (Bool × Seen)) : M := match r with
  | .error why =>m.stick why
  | .ok (false, seen) =>{ m with seen }.say false
  | .ok (true, seen) =>{ m with seen, pc := m.pc + itemWidth m.code m.pc, pos := m.pos + 1 }
theorem step_in : ∃ s1, (mIn text lim s first b seen 23 [nbF s first 22, nsF s first] 2 none).step =
    if s ≥ lim then mIn text lim s first b s1 23 [nbF s first 22, nsF s first] 2 (some false)
    else inK (mIn text lim s first b s1 23 [nbF s first 22, nsF s first] 2 none) (accepts reCode 23 (text.getD s 0) s1) := ⟨_, rfl⟩
theorem step_in_no (h : lim ≤ s ∨ isSep (text.getD s 0) = false) : ∃ s1, (mIn text lim s first b seen 23 [nbF s first 22, nsF s first] 2 none).step = mIn text lim s first b s1 23 [nbF s first 22, nsF s first] 2 (some false) :=by
  refine X11 (λs1 h1 =>?_) (step_in text lim s first b seen)
  by_cases hl : s ≥ lim
  · exact ⟨s1, h1.trans (if_pos hl)⟩
  · rcases h with h | h
    · exact absurd h hl
    · refine X11 (fun s2 h2 => ?_) (acceptsSep (text.getD s 0) s1)
      rw [h1, if_neg hl, h2, h]
      exact ⟨s2, rfl⟩
theorem step_in_yes (hs : s < lim) (h : isSep (text.getD s 0) = true) : ∃ s1, (mIn text lim s first b seen 23 [nbF s first 22, nsF s first] 2 none).step = mEnd text lim s (s + 1) first b s1 35 s [nbF s first 22, nsF s first] 2 :=by
  refine X11 (λs1 h1 =>?_) (step_in text lim s first b seen)
  refine X11 (λs2 h2 =>?_) (acceptsSep (text.getD s 0) s1)
  rw [h1, if_neg (by exact Nat.not_le.mpr ‹_›), h2, h]
  exact ⟨s2, rfl⟩
theorem next_start (hs : s < lim) : ∃ s1 a' b', M.runFor 2 (mIn text lim s first b seen 23 [nbF s first 22, nsF s first] 2 (some false)) = mAt text lim (s + 1) false a' b' s1 :=by
  have e1 : (mIn text lim s first b seen 23 [nbF s first 22, nsF s first] 2 (some false)).step = mIn text lim s first b seen 22 [nsF s first] 1 (some false) := rfl
  have e2 : (mIn text lim s first b seen 22 [nsF s first] 1 (some false)).step = if s < lim then mAt text lim (s + 1) false (some s) b seen else mIn text lim s first b seen 5 [] 0 (some false) := rfl
  refine ⟨seen, some s, b, ?_⟩
  rw [runFor_succ rfl, e1, runFor_succ rfl, e2, if_pos hs]
  rfl
theorem no_start (hs : lim ≤ s) : ∃ m', M.runFor 3 (mIn text lim s first b seen 23 [nbF s first 22, nsF s first] 2 (some false)) = m' ∧ m'.outcome = some .failed :=by
  have e1 : (mIn text lim s first b seen 23 [nbF s first 22, nsF s first] 2 (some false)).step = mIn text lim s first b seen 22 [nsF s first] 1 (some false) := rfl
  have e2 : (mIn text lim s first b seen 22 [nsF s first] 1 (some false)).step = if s < lim then mAt text lim (s + 1) false (some s) b seen else mIn text lim s first b seen 5 [] 0 (some false) := rfl
  refine ⟨_, rfl, ?_⟩
  rw [runFor_succ rfl, e1, runFor_succ rfl, e2, if_neg (by exact Nat.not_lt.mpr ‹_›)]
  rfl
end
noncomputable def findAt (text : Array Nat) (lim : Nat) : Nat → Nat → Option (Nat × Nat)
  | 0, _ =>none
  | n + 1, s => if lim ≤ s then none else
    if isDig (text.getD s 0) then some (s, s + digRun text (min 4294967295 ((lim : Int) - s).toNat) s)
    else if isSep (text.getD s 0) then some (s, s + 1) else findAt text lim n (s + 1)
theorem past (text : Array Nat) (lim s : Nat) (first : Bool) (a b : Option Nat) (seen : Seen) (hl : lim ≤ s) : ∃ m', M.runFor 8 (mAt text lim s first a b seen) = m' ∧ m'.outcome = some .failed :=by
  refine X11 (λs1 h1 =>?_) (step_mark text lim s first a b seen)
  refine X11 (λs2 h2 =>?_) (step_branch text lim s first b s1)
  refine X11 (λs3 h3 =>?_) (step_rep_none text lim s first b s2 hl)
  refine X11 (λs4 h4 =>?_) (step_in_no text lim s first b s3 (.inl hl))
  refine X12 (λm' h5 h6 =>?_) (no_start text lim s first b s4 hl)
  refine ⟨m', ?_, h6⟩
  rw [runFor_succ rfl, h1, runFor_succ rfl, h2, runFor_succ rfl, h3, runFor_succ rfl, step_alt2, runFor_succ rfl, h4, h5]
theorem search (text : Array Nat) (lim : Nat) : ∀ (n s : Nat) (first : Bool) (a b : Option Nat) (seen : Seen), lim < s + n →
    ∃ N m', N ≤ 16 * (n + 1) ∧ M.runFor N (mAt text lim s first a b seen) = m' ∧ (match findAt text lim n s with | some (x, y) =>Found m' x y | none =>m'.outcome = some .failed)
  | 0, s, first, a, b, seen, h =>by
    refine X12 (λm' h1 h2 =>?_) (past text lim s first a b seen (by exact Nat.le_of_lt ‹_›))
    exact ⟨8, m', by decide, h1, h2⟩
  | n + 1, s, first, a, b, seen, h =>by
    refine X11 (λs1 h1 =>?_) (step_mark text lim s first a b seen)
    refine X11 (λs2 h2 =>?_) (step_branch text lim s first b s1)
    unfold findAt
    by_cases hl : lim ≤ s
    · rw [if_pos hl]
      refine X12 (λm' h1 h2 =>?_) (past text lim s first a b seen hl)
      exact ⟨8, m', by exact Nat.le_add_left _ _, h1, h2⟩
    · rw [if_neg hl]
      have hs : s < lim := Nat.lt_of_not_le hl
      cases hd : isDig (text.getD s 0) with
      | true =>
        simp only [if_true]
        have hr : ∃ k, digRun text (min 4294967295 ((lim : Int) - s).toNat) s = k + 1 :=by
          have : ∃ q, min 4294967295 ((lim : Int) - s).toNat = q + 1 := ⟨min 4294967295 ((lim : Int) - s).toNat - 1, by omega⟩
          revert this; refine X11 λq hq =>?_
          rw [hq]
          unfold digRun
          rw [hd]
          exact ⟨_, rfl⟩
        revert hr; refine X11 λq hq =>?_
        refine X11 (λs3 h3 =>?_) (step_rep_yes text lim s first b s2 hs hq)
        refine X12 (λm' h5 h6 =>?_) (end_rep text lim s first b s3 (s + (q + 1)) (q + 1) (s + (q + 1)))
        refine ⟨10, m', by exact Nat.le_add_left _ _, ?_, by rw [hq]; exact h6⟩
        rw [runFor_succ rfl, h1, runFor_succ rfl, h2, runFor_succ rfl, h3, h5]
      | false =>
        simp only [Bool.false_eq_true, if_false]
        refine X11 (λs3 h3 =>?_) (step_rep_no text lim s first b s2 hs hd)
        cases hsep : isSep (text.getD s 0) with
        | true =>
          simp only [if_true]
          refine X11 (λs4 h4 =>?_) (step_in_yes text lim s first b s3 hs hsep)
          refine X12 (λm' h5 h6 =>?_) (end_sep text lim s first b s4 (s + 1) s)
          refine ⟨11, m', by exact Nat.le_add_left _ _, ?_, h6⟩
          rw [runFor_succ rfl, h1, runFor_succ rfl, h2, runFor_succ rfl, h3, runFor_succ rfl, step_alt2, runFor_succ rfl, h4, h5]
        | false =>
          simp only [Bool.false_eq_true, if_false]
          refine X11 (λs4 h4 =>?_) (step_in_no text lim s first b s3 (.inr hsep))
          refine X31 (λs5 a' b' h5 =>?_) (next_start text lim s first b s4 hs)
          refine X23 (λN m' hN h6 h7 =>?_) (search text lim n (s + 1) false a' b' s5 (by omega))
          refine ⟨7 + N, m', by omega, ?_, h7⟩
          rw [runFor_add]
          have : M.runFor 7 (mAt text lim s first a b seen) = mAt text lim (s + 1) false a' b' s5 :=by
            rw [runFor_succ rfl, h1, runFor_succ rfl, h2, runFor_succ rfl, h3, runFor_succ rfl, step_alt2, runFor_succ rfl, h4, h5]
          rw [this, h6]
end Mine
end
section
namespace Mine
open PySem PySem.Spec PySem.Builtin PySem.Builtin.Re
theorem slot_pat_split : Slot "re.Pattern" "split" "re.Pattern.split" :=
  .of (owner := "re.Pattern") (n := "split") (by rw [typeLookup_type, builtinLookup_eq_fast]; kernel_rfl) (by decide +kernel) (by decide +kernel) (by decide +kernel)
    (by first | exact .inl (by decide +kernel) | exact .inr (by decide +kernel)) (by rw [isSubtype_type]; kernel_rfl)
theorem type_pat_split : typeOf (.builtin "re.Pattern.split") = pure (.type "method_descriptor") := by show builtinType _ = _; rw [builtinType_eq_fast]; kernel_rfl
theorem entry_pat_split : entryFor table "re.Pattern.split" = some Builtin.«re.Pattern.split» := entryFor_of_tree (by kernel_rfl)
theorem args_pat_split_2 (a b : Value) : argsOk "re.Pattern.split" ⟨[a, b], []⟩ := by
  unfold argsOk; kernel_rfl
theorem plainAttrs_pat : PlainAttrs "re.Pattern" := ⟨⟨_, (by rw [typeLookup_type, builtinLookup_eq_fast]; kernel_rfl : typeLookup (.type "re.Pattern") "__getattribute__" = pure (some (.builtin "object.__getattribute__"))), by decide +kernel⟩, by rw [typeLookup_type, builtinLookup_eq_fast]; kernel_rfl⟩
section
variable {M : Model} {A : Around} {E : Value → Shared → Prop} {s : Shared}
theorem wpAny_forIn {α β : Type} (f : α → β → Sem (ForInStep β)) (I : Nat → β → Shared → Prop) (hstep : ∀ n x b s, I (n + 1) b s → wpAny M A (f x b) (fun r s' => match r with | .yield b' => I n b' s' | .done _ => False) E s) {Q : β → Shared → Prop}
    (hQ : ∀ b s, I 0 b s → Q b s) : ∀ (l : List α) (b : β) (s : Shared), I l.length b s → wpAny M A (forIn l b f) Q E s
  | [], b, s, h =>by rw [List.forIn_nil]; exact wpAny_pure (hQ b s h)
  | x :: r, b, s, h =>by
    rw [List.forIn_cons]
    refine wpAny_bind (wpAny_mono (hstep _ x b s h) (λst s' h' =>?_) λ_ _ e =>e)
    cases st with
    | yield b' =>exact wpAny_forIn f I hstep hQ r b' s' h'
    | done b' =>exact h'.elim
theorem drive : ∀ (turns : Nat) {m m' : Sre.M} {N : Nat}, Sre.M.runFor N m = m' → m'.outcome.isSome = true → N ≤ 4 * turns → ∀ {s : Shared} {Q : Sre.M → Shared → Prop}, Q m' s → turns ≠ 0 → wpAny M A (reDrive turns m) Q E s
  | 0, m, m', N, _, _, _, s, Q, _, h =>absurd rfl h
  | t + 1, m, m', N, h1, h2, h3, s, Q, hQ, _ =>by
    unfold reDrive
    dsimp only
    by_cases hs : (Sre.M.runFor reTurnSteps m).outcome.isSome = true
    · rw [if_pos hs]
      have : Sre.M.runFor reTurnSteps m = m' :=by
        rcases Nat.le_total N reTurnSteps with q | q
        · refine X11 (fun d hd => ?_) (Nat.exists_eq_add_of_le q)
          rw [hd, runFor_add, h1, runFor_stop h2]
        · refine X11 (fun d hd => ?_) (Nat.exists_eq_add_of_le q)
          rw [hd, runFor_add, runFor_stop hs] at h1
          exact h1
      rw [this]
      exact wpAny_pure hQ
    · rw [if_neg hs]
      have hN : reTurnSteps ≤ N :=by
        rcases Nat.le_total N reTurnSteps with q | q
        · refine X11 (fun d hd => ?_) (Nat.exists_eq_add_of_le q)
          rw [hd, runFor_add, h1, runFor_stop h2] at hs
          exact absurd h2 hs
        · exact q
      refine X11 (λd hd =>?_) (Nat.exists_eq_add_of_le hN)
      rw [hd, runFor_add] at h1
      have h4 : reTurnSteps = 4 := rfl
      refine wpAny_bind (wpAny_rule (drive t h1 h2 (by omega) hQ ?_))
      intro q; subst q
      rw [show d = 0 by omega] at h1
      have : Sre.M.runFor 0 (Sre.M.runFor reTurnSteps m) = Sre.M.runFor reTurnSteps m := rfl
      rw [this] at h1
      rw [h1] at hs
      exact hs h2
theorem runEnd {m m' : Sre.M} {N : Nat} (h1 : Sre.M.runFor N m = m') (h3 : N ≤ 4 * 2 ^ 64) {Q : Option Sre.M → Shared → Prop}
    (h : (m'.outcome = some .matched ∧ Q (some m') s) ∨ (m'.outcome = some .failed ∧ Q none s)) : wpAny M A (reRunToEnd m) Q E s :=by
  unfold reRunToEnd
  have h2 : m'.outcome.isSome = true :=by rcases h with h | h <;> rw [h.1] <;> rfl
  refine wpAny_bind (drive (2 ^ 64) h1 h2 h3 ?_ (by decide))
  refine wpAny_bind (wpAny_forIn _ (λ_ _ s' =>s' = s) (λn x b s₁ hs =>?_) (λb s₁ hs =>?_) _ _ s rfl)
  · subst hs
    split
    · exact wpAny_bind (wpAny_rule (wpAny_pure rfl))
    · exact wpAny_pure rfl
  · subst hs
    rcases h with ⟨ho, hq⟩ | ⟨ho, hq⟩
    · rw [ho]; exact wpAny_pure hq
    · rw [ho]; exact wpAny_pure hq
theorem nextFound {t : ReTarget} (hc : t.code = reCode) (hg : t.groups = 1) (hl : t.lim ≤ 1000000) {start : Nat} {Q : Option Sre.M → Shared → Prop}
    (h : match findAt t.text t.lim (t.lim + 1) start with | some (x, y) =>∀ m, Found m x y → Q (some m) s | none =>Q none s) : wpAny M A (reNextFound t start false) Q E s :=by
  unfold reNextFound
  rw [hc, hg]
  have e : ∃ seen m0, Sre.forSearch reCode t.text 1 start t.lim false = (if (decide (start > t.lim) || decide (t.lim - start < 1)) = true then m0 else mAt t.text t.lim start true none none seen) ∧ (Sre.M.runFor 1 m0).outcome = some .failed := ⟨_, _, rfl, rfl⟩
  revert e; refine X22 λseen m0 e e0 =>?_
  rw [e]
  by_cases hs : t.lim ≤ start
  · have hcnd : (decide (start > t.lim) || decide (t.lim - start < 1)) = true := by simp; omega
    rw [if_pos hcnd]
    have hf : findAt t.text t.lim (t.lim + 1) start = none :=by unfold findAt; rw [if_pos hs]
    rw [hf] at h
    exact runEnd (N := 1) (m' := Sre.M.runFor 1 m0) rfl (by decide) (.inr ⟨e0, h⟩)
  · have hcnd : ¬ (decide (start > t.lim) || decide (t.lim - start < 1)) = true := by simp; omega
    rw [if_neg hcnd]
    obtain ⟨N, m', hN, h1, h2⟩ := search t.text t.lim (t.lim + 1) start true none none seen (by exact Nat.le_add_left _ _)
    have hN' : N ≤ 4 * 2 ^ 64 := Nat.le_trans hN (Nat.le_trans (Nat.mul_le_mul_left 16 (show t.lim + 1 + 1 ≤ 1000002 by omega)) (by decide +kernel))
    have hor : (m'.outcome = some .matched ∧ Q (some m') s) ∨ (m'.outcome = some .failed ∧ Q none s) :=by
      cases hf : findAt t.text t.lim (t.lim + 1) start with
      | none =>rw [hf] at h h2; exact .inr ⟨h2, h⟩
      | some p =>
        obtain ⟨x, y⟩ := p
        rw [hf] at h h2
        exact .inl ⟨h2.out, h m' h2⟩
    generalize mAt t.text t.lim start true none none seen = m0 at h1 ⊢
    exact runEnd h1 hN' hor
end
end Mine
end
section
namespace Mine
open PySem PySem.Spec PySem.Builtin PySem.Builtin.Re
noncomputable def piecesAt (text : Array Nat) (lim : Nat) : Nat → Nat → List (Array Nat)
  | 0, last =>[text.extract last lim]
  | n + 1, last => match findAt text lim (lim + 1) last with
    | none =>[text.extract last lim]
    | some (x, y) =>text.extract last x :: text.extract x y :: piecesAt text lim n y
theorem findAt_mono {text : Array Nat} {lim : Nat} : ∀ {n s x y : Nat}, findAt text lim n s = some (x, y) → s ≤ x ∧ x < y ∧ x < lim
  | 0, s, x, y, h =>by exact nos h
  | n + 1, s, x, y, h =>by
    unfold findAt at h
    revert h; refine iteC (λ_ h =>?_) λ_ h =>?_
    · exact nos h
    · rename_i hl
      revert h; refine iteC (λ_ h =>?_) λ_ h =>?_
      · rename_i hd
        cases h
        have hs : s < lim := Nat.lt_of_not_le hl
        have : ∃ q, min 4294967295 ((lim : Int) - s).toNat = q + 1 := ⟨min 4294967295 ((lim : Int) - s).toNat - 1, by omega⟩
        revert this; refine X11 λq hq =>?_
        rw [hq]
        unfold digRun
        rw [hd]
        simp only [if_true]
        omega
      · revert h; refine iteC (fun _ h => ?_) fun _ h => ?_
        · cases h; omega
        · have := findAt_mono h
          omega
noncomputable def StrsOf : List Value → List (Array Nat) → Prop
  | [], [] =>True
  | v :: vs, p :: ps =>(∃ t, v = .str ⟨p⟩ t) ∧ StrsOf vs ps
  | _, _ =>False
theorem StrsOf.append : ∀ {vs ws : List Value} {ps qs : List (Array Nat)}, StrsOf vs ps → StrsOf ws qs → StrsOf (vs ++ ws) (ps ++ qs)
  | [], _, [], _, _, h =>h
  | _ :: _, _, _ :: _, _, h, h' =>⟨h.1, StrsOf.append h.2 h'⟩
  | [], _, _ :: _, _, h, _ =>h.elim
  | _ :: _, _, [], _, h, _ =>h.elim
theorem StrsOf.rd {S : Store} : ∀ {vs : List Value} {ps : List (Array Nat)}, StrsOf vs ps → RdAll S vs (ps.map fun p => .str ⟨p⟩)
  | [], [], _ =>.nil
  | _ :: _, _ :: _, h =>by
    obtain ⟨⟨t, rfl⟩, h⟩ := h
    exact .cons (.str _ _) h.rd
  | [], _ :: _, h =>h.elim
  | _ :: _, [], h =>h.elim
section
variable {M : Model} {A : Around} {E : Value → Shared → Prop} {s : Shared}
theorem sliceOk {text : Array Nat} (hl : text.size ≤ 100000) {b e : Nat} {Q : Value → Shared → Prop} (h : Q (.str ⟨text.extract b e⟩ s.toks) { s with toks := s.toks + 1 }) : wpAny M A (reSlice text 0 b e) Q E s :=by
  show wpAny M A (mkStr ⟨text.extract b e⟩) Q E s
  refine wpAny_mkStr h ?_
  show (text.extract b e).size ≤ sizeLine
  refine Nat.le_trans ?_ (Nat.le_trans hl (by decide))
  simp only [Array.size_extract]
  omega
theorem groupOk {t : ReTarget} (hk : t.kind = 0) (hl : t.text.size ≤ 100000) {m : Sre.M} {x y : Nat} (F : Found m x y) (hxy : x < y) {d : Sem Value} {Q : Value → Shared → Prop} (h : Q (.str ⟨t.text.extract x y⟩ s.toks) { s with toks := s.toks + 1 }) : wpAny M A (reMachineGroup t m 1 d) Q E s :=by
  unfold reMachineGroup
  rw [F.lm, F.marks, hk]
  show wpAny M A (if (y < x) then reWrongSpan else reSlice t.text 0 x y) Q E s
  rw [if_neg (by exact Nat.not_lt.mpr (Nat.le_of_lt ‹_›))]
  exact sliceOk hl h
theorem splitBody {pa ca : Addr} {o oc : Obj} {fs items : Array Value} {nn : Nat} {x : Str} {tk : Tok} {Qv : Value → Shared → Prop} (ho : s.heap.get? pa = some o) (hd : o.data = .fields fs) (h6 : reRawNat (fs.getD 6 .none) = 0) (h2 : reRawNat (fs.getD 2 .none) = 1)
    (h5 : fs.getD 5 .none = .ref ca) (hc : s.heap.get? ca = some oc) (hcd : oc.data = .seq items nn) (hcode : (items.map reRawOf).map (·.toNat) = reCode) (hx : x.cps.size ≤ 100000)
    (h : ∀ (vs : List Value) tk, s.toks ≤ tk → StrsOf vs (piecesAt x.cps x.cps.size (x.cps.size + 1) 0) → wpAny M A (newList vs) Qv E { s with toks := tk }) :
    wpAny M A (Builtin.«re.Pattern.split» ⟨[.ref pa, .str x tk], []⟩) (λfin s' =>∃ v, fin = .done (.ret v) ∧ Qv v s') E s :=by
  unfold Builtin.«re.Pattern.split»
  dsimp only
  have hn : reNamed "re.Pattern.split" "split" ["string", "maxsplit"] 1 [.str x tk] [] = pure [some (.str x tk), none] := rfl
  rw [hn]
  refine wpAny_bind (wpAny_pure ?_)
  dsimp only
  refine wpAny_bind (wpAny_pure ?_)
  unfold reWholeTarget
  refine wpAny_bind (wpAny_bind (wpAny_fieldsOf ho hd ?_))
  have ht : reTextOf (.str x tk) = pure (x.cps, 0) := rfl
  rw [ht]
  refine wpAny_bind (wpAny_pure ?_)
  dsimp only
  rw [h6, h5, h2]
  rw [if_neg (by decide), if_neg (by decide)]
  refine wpAny_bind ?_
  have hnc : reNoCollectionInside (.str x tk) 0 = pure () := rfl
  rw [hnc]
  refine wpAny_pure (wpAny_bind ?_)
  unfold reRawItems
  refine wpAny_bind (wpAny_seqItems hc hcd (wpAny_pure (wpAny_pure ?_)))
  rw [show ((some items).getD #[]).map reRawOf = items.map reRawOf from rfl, hcode]
  generalize htgt : piecesAt x.cps x.cps.size (x.cps.size + 1) 0 = target at h
  refine wpAny_bind (wpAny_forIn _ (fun n (st : Array Value × Nat × Nat × Bool × Int × Bool) s' => (∃ k, s.toks ≤ k ∧ s' = { s with toks := k }) ∧ st.2.1 = st.2.2.1 ∧ st.2.2.2.1 = false ∧ ∃ done, StrsOf st.1.toList done ∧
    ((st.2.2.2.2.2 = true ∧ done ++ [x.cps.extract st.2.2.1 x.cps.size] = target) ∨ (st.2.2.2.2.2 = false ∧ ∃ f, x.cps.size - st.2.2.1 < f ∧ done ++ piecesAt x.cps x.cps.size f st.2.2.1 = target ∧ x.cps.size - st.2.2.1 < n)))
    (λn g st s' hI =>?_) (λst s' hI =>?_) _ _ s ⟨⟨s.toks, Nat.le_refl _, rfl⟩, rfl, rfl, [], trivial, .inr ⟨rfl, x.cps.size + 1, by show x.cps.size - 0 < _; exact Nat.le_refl _, by rw [← htgt]; rfl, ?_⟩⟩)
  · obtain ⟨out, start, last, must, cnt, over⟩ := st
    obtain ⟨⟨k, hk, rfl⟩, e1, e2, done, hs, hI⟩ := hI
    simp only at e1 e2 hs hI
    subst e1; subst e2
    rcases hI with ⟨rfl, hI⟩ | ⟨rfl, f, hf, hI, hn⟩
    · simp only [Bool.not_true, Bool.false_eq_true, if_false]
      exact wpAny_pure ⟨⟨k, hk, rfl⟩, rfl, rfl, done, hs, .inl ⟨rfl, hI⟩⟩
    · simp only [Bool.not_false, if_true]
      refine wpAny_bind ?_
      have h00 : ∀ c : Bool, ((0 : Int) != 0 && c) = false := λc =>rfl
      simp only [h00, Bool.false_eq_true, if_false]
      refine nextFound rfl rfl (show x.cps.size ≤ 1000000 by exact Nat.le_trans ‹_› (by decide)) ?_
      obtain ⟨f, rfl⟩ : ∃ f', f = f' + 1 := ⟨f - 1, by omega⟩
      unfold piecesAt at hI
      cases hfi : findAt x.cps x.cps.size (x.cps.size + 1) start with
      | none =>
        rw [hfi] at hI
        simp only at hI ⊢
        exact wpAny_pure ⟨⟨k, hk, rfl⟩, rfl, rfl, done, hs, .inl ⟨rfl, hI⟩⟩
      | some p =>
        obtain ⟨a, b⟩ := p
        rw [hfi] at hI
        simp only at hI ⊢
        intro m F
        refine X03 (λm1 m2 m3 =>?_) (findAt_mono hfi)
        refine wpAny_bind ?_
        rw [F.start]
        refine sliceOk hx ?_
        refine wpAny_bind ?_
        rw [show List.range 1 = [0] from rfl, List.forIn_cons]
        refine wpAny_bind (wpAny_bind (groupOk rfl hx F m2 (wpAny_pure ?_)))
        simp only [List.forIn_nil]
        refine wpAny_pure (wpAny_pure ?_)
        rw [F.handed]
        refine ⟨⟨_, by show s.toks ≤ k + 1 + 1; omega, rfl⟩, rfl, beq_eq_false_iff_ne.mpr (by exact Nat.ne_of_gt ‹_›), done ++ [x.cps.extract start a, x.cps.extract a b], ?_, .inr ⟨rfl, f, by show x.cps.size - b < f; omega, ?_, by show x.cps.size - b < n; omega⟩⟩
        · simp only [Array.toList_push, List.append_assoc]
          exact hs.append ⟨⟨_, rfl⟩, ⟨_, rfl⟩, trivial⟩
        · rw [List.append_assoc]; exact hI
  · obtain ⟨out, start, last, must, cnt, over⟩ := st
    obtain ⟨⟨k, hk, rfl⟩, e1, e2, done, hs, hI⟩ := hI
    simp only at e1 e2 hs hI
    rcases hI with ⟨rfl, hI⟩ | ⟨rfl, f, hf, hI, hn⟩
    · simp only [Bool.not_true, Bool.false_eq_true, if_false]
      refine wpAny_bind (sliceOk hx ?_)
      refine wpAny_bind (wpAny_mono (h _ _ (by show s.toks ≤ k + 1; exact Nat.le_succ_of_le ‹_›) ?_) (λv s' hv =>wpAny_pure ⟨v, rfl, hv⟩) λ_ _ e =>e)
      rw [← hI, Array.toList_push]
      exact hs.append ⟨⟨_, rfl⟩, trivial⟩
    · exact absurd ‹_› (Nat.not_lt_zero _)
  · show x.cps.size - 0 < (List.range (2 * x.cps.size + 3)).length
    rw [List.length_range]; omega
end
end Mine
end
section
namespace Mine
open PySem PySem.Spec
theorem drop_getD {t : Array Nat} {s c : Nat} {cs : List Nat} (h : t.toList.drop s = c :: cs) : t.getD s 0 = c ∧ s < t.size ∧ t.toList.drop (s + 1) = cs :=by
  refine X02 (λh1 h2 =>?_) (drop_cons h)
  have hlt : s < t.size :=by
    have := (List.getElem?_eq_some_iff.mp h1).1
    simpa using this
  refine ⟨?_, hlt, h2⟩
  have : t[s]? = some c :=by simpa using h1
  simp [Array.getD_eq_getD_getElem?, this]
theorem drop_nil_size {t : Array Nat} {s : Nat} (h : t.toList.drop s = []) : t.size ≤ s :=by
  have := List.drop_eq_nil_iff.mp h
  simpa using this
theorem digRun_drop {t : Array Nat} : ∀ (cs : List Nat) (n p : Nat), t.toList.drop p = cs → t.size ≤ p + n → digRun t n p = (cs.takeWhile isDig).length
  | [], n, p, h, hn =>by
    have := drop_nil_size h
    cases n with
    | zero =>rfl
    | succ n =>
      unfold digRun
      have e : t.getD p 0 = 0 :=by simp [Array.getD_eq_getD_getElem?, this]
      rw [e]; rfl
  | c :: cs, n, p, h, hn =>by
    refine X03 (λe hlt h2 =>?_) (drop_getD h)
    cases n with
    | zero =>omega
    | succ n =>
      unfold digRun
      rw [e]
      cases hd : isDig c with
      | false =>simp [List.takeWhile_cons, hd]
      | true =>
        simp only [if_true, List.takeWhile_cons, hd, List.length_cons]
        rw [digRun_drop cs n (p + 1) h2 (by omega)]
theorem reGo_nil (txt : List Nat) : reGo txt [] [] = [txt] :=by rw [reGo]
theorem reGo_nilr (txt : List Nat) (r : Nat) (rs : List Nat) : reGo txt (r :: rs) [] = [txt, r :: rs, []] :=by rw [reGo]
theorem reGo_c (txt : List Nat) (c : Nat) (cs : List Nat) : reGo txt [] (c :: cs) = if isDig c then reGo txt [c] cs else if isSep c then txt :: [c] :: reGo [] [] cs else reGo (txt ++ [c]) [] cs :=by rw [reGo]
theorem reGo_cr (txt : List Nat) (r : Nat) (rs : List Nat) (c : Nat) (cs : List Nat) : reGo txt (r :: rs) (c :: cs) = if isDig c then reGo txt (r :: rs ++ [c]) cs else txt :: (r :: rs) :: (if isSep c then [] :: [c] :: reGo [] [] cs else reGo [c] [] cs) :=by rw [reGo]
theorem reGo_run (txt : List Nat) : ∀ (cs : List Nat) (r : Nat) (rs : List Nat), reGo txt (r :: rs) cs = txt :: ((r :: rs) ++ cs.takeWhile isDig) :: reGo [] [] (cs.drop (cs.takeWhile isDig).length)
  | [], r, rs =>by rw [reGo_nilr]; simp [reGo_nil]
  | c :: cs, r, rs =>by
    rw [reGo_cr]
    cases hd : isDig c with
    | true =>
      simp only [if_true, List.takeWhile_cons, hd, List.length_cons, List.drop_succ_cons]
      have := reGo_run txt cs r (rs ++ [c])
      rw [show (r :: rs ++ [c]) = r :: (rs ++ [c]) from rfl, this]
      simp
    | false =>
      simp only [Bool.false_eq_true, if_false, List.takeWhile_cons, hd, List.append_nil, List.length_nil, List.drop_zero]
      rw [reGo_c, hd]
      simp only [Bool.false_eq_true, if_false, List.nil_append]
theorem extract_snoc {t : Array Nat} {last s c : Nat} {cs : List Nat} (hl : last ≤ s) (h : t.toList.drop s = c :: cs) : (t.extract last s).toList ++ [c] = (t.extract last (s + 1)).toList :=by
  refine X02 (λh1 h2 =>?_) (drop_cons h)
  simp only [Array.toList_extract, List.extract_eq_take_drop]
  rw [show s + 1 - last = (s - last) + 1 by omega, List.take_add_one]
  congr 1
  rw [List.getElem?_drop, show last + (s - last) = s by exact Nat.add_sub_cancel' ‹_›, h1]
  rfl
theorem reGo_find {t : Array Nat} {last : Nat} (hsz : t.size ≤ 1000000) : ∀ (cs : List Nat) (n s : Nat), last ≤ s → s ≤ t.size → t.toList.drop s = cs → t.size < s + n →
    reGo (t.extract last s).toList [] cs = match findAt t t.size n s with
      | none =>[(t.extract last t.size).toList]
      | some (x, y) =>(t.extract last x).toList :: (t.extract x y).toList :: reGo [] [] (t.toList.drop y)
  | [], n, s, hl, hs, h, hn =>by
    have hs' : t.size = s := Nat.le_antisymm (drop_nil_size h) hs
    cases n with
    | zero =>omega
    | succ n =>
      unfold findAt
      rw [reGo_nil, if_pos (by omega), hs']
  | c :: cs, n, s, hl, hs, h, hn =>by
    refine X03 (λe hlt h2 =>?_) (drop_getD h)
    cases n with
    | zero =>omega
    | succ n =>
      unfold findAt
      rw [if_neg (by exact Nat.not_le.mpr ‹_›), e, reGo_c]
      cases hd : isDig c with
      | true =>
        simp only [if_true]
        rw [reGo_run]
        have hk : digRun t (min 4294967295 ((t.size : Int) - s).toNat) s = (cs.takeWhile isDig).length + 1 :=by
          rw [digRun_drop (c :: cs) _ s h (by omega), List.takeWhile_cons, hd]
          rfl
        rw [hk]
        have e1 : t.toList.drop (s + ((cs.takeWhile isDig).length + 1)) = cs.drop (cs.takeWhile isDig).length :=by
          rw [← h2, List.drop_drop]; congr 1; omega
        rw [e1]
        congr 2
        simp only [Array.toList_extract, List.extract_eq_take_drop, h]
        rw [show s + ((cs.takeWhile isDig).length + 1) - s = (cs.takeWhile isDig).length + 1 by omega, List.take_succ_cons]
        congr 1
        show c :: List.takeWhile isDig cs = c :: List.take (List.takeWhile isDig cs).length cs
        exact congrArg (c :: ·) (List.prefix_iff_eq_take.mp (List.takeWhile_prefix isDig))
      | false =>
        simp only [Bool.false_eq_true, if_false]
        cases hp : isSep c with
        | true =>
          simp only [if_true]
          rw [h2]
          congr 2
          simp only [Array.toList_extract, List.extract_eq_take_drop, h]
          rw [show s + 1 - s = 1 by omega]
          rfl
        | false =>
          simp only [Bool.false_eq_true, if_false]
          rw [extract_snoc hl h]
          exact reGo_find hsz cs n (s + 1) (Nat.le_succ_of_le hl) hlt h2 (by omega)
theorem digRun_le {t : Array Nat} : ∀ n p, digRun t n p ≤ n
  | 0, _ =>Nat.le_refl _
  | n + 1, p =>by
    unfold digRun
    split
    · have := digRun_le (t := t) n (p + 1); exact Nat.lt_succ_of_le ‹_›
    · exact Nat.le_add_left _ _
theorem findAt_le {t : Array Nat} {lim : Nat} : ∀ {n s x y : Nat}, findAt t lim n s = some (x, y) → y ≤ lim
  | 0, s, x, y, h =>by exact nos h
  | n + 1, s, x, y, h =>by
    unfold findAt at h
    revert h; refine iteC (λ_ h =>?_) λ_ h =>?_
    · exact nos h
    · rename_i hl
      revert h; refine iteC (λ_ h =>?_) λ_ h =>?_
      · cases h
        have := digRun_le (t := t) (min 4294967295 ((lim : Int) - s).toNat) s
        omega
      · revert h; refine iteC (fun _ h => ?_) fun _ h => ?_
        · cases h; exact Nat.not_le.mp ‹_›
        · exact findAt_le h
theorem pieces_reGo {t : Array Nat} (hsz : t.size ≤ 1000000) : ∀ (f last : Nat), last ≤ t.size → t.size - last < f → (piecesAt t t.size f last).map (·.toList) = reGo [] [] (t.toList.drop last)
  | 0, last, hl, hf =>by exact absurd ‹_› (Nat.not_lt_zero _)
  | f + 1, last, hl, hf =>by
    have h := reGo_find (t := t) (last := last) hsz (t.toList.drop last) (t.size + 1) last (Nat.le_refl _) hl rfl (by exact Nat.le_add_left _ _)
    have e0 : (t.extract last last).toList = [] :=by simp
    rw [e0] at h
    rw [h]
    unfold piecesAt
    cases hf2 : findAt t t.size (t.size + 1) last with
    | none =>rfl
    | some p =>
      obtain ⟨x, y⟩ := p
      refine X03 (λm1 m2 m3 =>?_) (findAt_mono hf2)
      have m4 := findAt_le hf2
      simp only [List.map_cons]
      rw [pieces_reGo hsz f y m4 (by omega)]
end Mine
end
section
namespace Mine
open PySem PySem.Spec PySem.Builtin PySem.Builtin.Re PyProof.Rows
structure PatAt (X : Cx) (a : Addr) : Prop where
  ex : ∃ o oc fs ca items nn, X.h₁.get? a = some o ∧ a ≠ X.P ∧ o.cls = .type "re.Pattern" ∧ o.dict = none ∧ o.data = .fields fs ∧ reRawNat (fs.getD 6 .none) = 0 ∧ reRawNat (fs.getD 2 .none) = 1 ∧ fs.getD 5 .none = .ref ca ∧ X.h₁.get? ca = some oc ∧ ca ≠ X.P ∧ oc.data = .seq items nn ∧ (items.map reRawOf).map (·.toNat) = reCode
theorem reGo_len : ∀ (cs txt run : List Nat), (reGo txt run cs).length ≤ 4 * cs.length + 3
  | [], txt, [] =>by rw [reGo_nil]; simp
  | [], txt, r :: rs =>by rw [reGo_nilr]; simp
  | c :: cs, txt, [] =>by
    rw [reGo_c]
    split
    · have := reGo_len cs txt [c]; simp only [List.length_cons]; omega
    · split
      · have := reGo_len cs [] []; simp only [List.length_cons]; omega
      · have := reGo_len cs (txt ++ [c]) []; simp only [List.length_cons]; omega
  | c :: cs, txt, r :: rs =>by
    rw [reGo_cr]
    split
    · have := reGo_len cs txt (r :: rs ++ [c]); simp only [List.length_cons]; omega
    · split
      · have := reGo_len cs [] []; simp only [List.length_cons]; omega
      · have := reGo_len cs [c] []; simp only [List.length_cons]; omega
section
variable {X : Cx} {k : Nat}
theorem patSplitOk (O : CxOk X) {a : Nat} (PA : PatAt X a) {x : Str} (hx : x.cps.size ≤ 100000) : MethOk X k (.dict [(.int a, .none)]) (Str.ofString "split") [.str x] (.list ((reGo [] [] x.cps.toList).map S!)) := by
  obtain ⟨o, oc, fs, ca, items, nn, ho, haP, hcls, hdict, hd, h6, h2, h5, hc, hcP, hcd, hcode⟩ := PA.ex
  have inv : ∀ {S : Store} {v : Value}, Rd S v (.dict [(.int a, .none)]) → v = .ref a := λr =>by
    cases r; rfl
  refine ⟨"re.Pattern.split", fun {S s v pl A Q E} g r h => ?_, fun {S s v vs A Q E} R g r rs hQ => ?_⟩
  · cases inv r
    have ho' := g.base a o haP ho
    exact getMethod_builtin (T := "re.Pattern") ⟨o, ho', hcls⟩ plainAttrs_pat slot_pat_split type_pat_split (fun b e => by cases e; exact ⟨o, ho', hdict⟩) h
  · cases inv r
    obtain ⟨v, ws, rfl, rv, rw'⟩ := rs.cons_inv
    have := rw'.nil_inv; subst this
    obtain ⟨t, rfl⟩ := rv.str_inv
    have ho' := g.base a o haP ho
    have hc' := g.base ca oc hcP hc
    refine wpAny_call (codeAny_call_builtin slot_pat_split.plain entry_pat_split (slot_pat_split.check _ _ _ _ _ _ _ _ (show s.TypeIs (.ref a) "re.Pattern" from ⟨o, ho', hcls⟩) (args_pat_split_2 _ _) ?_))
    refine wpAny_mono (splitBody (Qv := Q) ho' hd h6 h2 h5 hc' hcd hcode hx λvs tk htk hs =>?_) (λfin s' hf =>by obtain ⟨v, rfl, hv⟩ := hf; exact hv) λ_ _ e =>e
    have e := pieces_reGo (t := x.cps) (by exact Nat.le_trans ‹_› (by decide)) (x.cps.size + 1) 0 (Nat.zero_le _) (by exact Nat.le_refl _)
    rw [List.drop_zero] at e
    have rd := hs.rd (S := S)
    have e2 : (piecesAt x.cps x.cps.size (x.cps.size + 1) 0).map (λp =>PyData.str ⟨p⟩) = (reGo [] [] x.cps.toList).map S! :=by
      rw [← e, List.map_map]
      refine List.map_congr_left λp _ =>?_
      show PyData.str ⟨p⟩ = .str ⟨p.toList.toArray⟩
      simp
    rw [e2] at rd
    have st := Step.mono (t := tk) g λh =>Nat.lt_of_lt_of_le h htk
    refine newListOk O st.gd rd ?_ λv S' s' st' r' =>hQ v S' s' (st.trans st') r'
    have := rd.length
    rw [this, List.length_map]
    refine Nat.le_trans (reGo_len _ _ _) ?_
    have : x.cps.toList.length = x.cps.size := Array.length_toList
    have sl : (1000000 : Nat) ≤ sizeLine :=by decide
    omega
end
end Mine
end
section
namespace Mine
open PySem PySem.Spec PyProof.Rows PySem.W
noncomputable def intsD : List PyData → Option (List Int)
  | [] =>some []
  | .int i :: r =>(intsD r).bind λis =>some (i :: is)
  | _ =>none
section
variable {X : Cx} {k : Nat} {S : Store} {s : Shared} {A : Around} {E : Value → Shared → Prop}
theorem globBuiltin (O : CxOk X) {f : Str} {v : Value} (h1 : X.mg f = none) (hn : f ≠ "__name__") (h2 : bootBuiltins f = some v) : GlobIs X f v := .inr ⟨h1, (O.bi f hn).trans h2⟩
theorem lenOk {f : Str} (hf : GlobIs X f (.builtin "len")) {xs : List PyData} (hl : xs.length ≤ 100000) : CallOk X k f [.list xs] (.int xs.length) := by
  refine ⟨_, hf, .inl ⟨_, rfl⟩, λ{S s vs A Q E} R g r hQ =>?_⟩
  obtain ⟨v, ws, rfl, rv, rw'⟩ := r.cons_inv
  have := rw'.nil_inv; subst this
  obtain ⟨l, vs, n, rfl, hl', rl⟩ := rv.list_inv
  have e1 := rl.length
  simp only [Array.length_toList] at e1
  refine PyProof.Rows.len_list (Rd.isList g.inn hl') (by omega) ?_
  rw [e1]
  exact hQ _ _ _ (.mono g) (.int _ _)
theorem strOk {f : Str} (hf : GlobIs X f (.type "str")) {i : Int} (hi : i.natAbs.log2 < 1920) : CallOk X k f [.int i] (.str (Str.ofString (toString i))) := by
  refine ⟨_, hf, .inr (.inl ⟨_, rfl⟩), λ{S s vs A Q E} R g r hQ =>?_⟩
  obtain ⟨v, ws, rfl, rv, rw'⟩ := r.cons_inv
  have := rw'.nil_inv; subst this
  obtain ⟨t, rfl⟩ := rv.int_inv
  exact P.str_of_int hi (hQ _ _ _ (.mono g) (.str _ _))
theorem absOk {f : Str} (hf : GlobIs X f (.builtin "abs")) {i : Int} : CallOk X k f [.int i] (.int (if i < 0 then -i else i)) := by
  refine ⟨_, hf, .inl ⟨_, rfl⟩, λ{S s vs A Q E} R g r hQ =>?_⟩
  obtain ⟨v, ws, rfl, rv, rw'⟩ := r.cons_inv
  have := rw'.nil_inv; subst this
  obtain ⟨t, rfl⟩ := rv.int_inv
  exact wpAny_with_toks g.tp (call_abs_int λu tk htk =>hQ _ _ _ (.mono g λ_ =>htk) (.int _ _))
theorem intsOk : ∀ {vs : List Value} {ds : List PyData} {is : List Int}, RdAll S vs ds → intsD ds = some is → ∀ (j : Nat) (v : Value), vs[j]? = some v → ∃ t, v = Value.int (is.getD j 0) t
  | [], _, _, .nil, _, j, v, hj =>by exact nos hj
  | v :: vs, d :: ds, is, .cons rv rs, h, j, u, hj =>by
    cases d with
    | int i =>
      simp only [intsD] at h
      revert h; refine bsC λis' h1 h2 =>?_
      replace h2 := Option.some.inj h2; subst h2
      cases j with
      | zero =>
        replace hj := Option.some.inj hj; subst hj
        exact rv.int_inv
      | succ j =>
        have := intsOk rs h1 j u (by simpa using hj)
        simpa using this
    | _ =>exact nos h
theorem intsD_len : ∀ {ds : List PyData} {is : List Int}, intsD ds = some is → is.length = ds.length
  | [], is, h =>by replace h := Option.some.inj h; subst h; rfl
  | d :: ds, is, h =>by
    cases d with
    | int i =>
      simp only [intsD] at h
      revert h; refine bsC λis' h1 h2 =>?_
      replace h2 := Option.some.inj h2; subst h2
      simp [intsD_len h1]
    | _ =>exact nos h
theorem preSum_cons (i : Int) (is : List Int) : ∀ n, preSum (fun j => (i :: is).getD j 0) (n + 1) = i + preSum (fun j => is.getD j 0) n
  | 0 =>by simp [preSum]
  | n + 1 =>by
    unfold preSum
    rw [preSum_cons i is n]
    simp
    omega
theorem preSum_sum : ∀ is : List Int, preSum (fun j => is.getD j 0) is.length = is.sum
  | [] =>rfl
  | i :: is =>by rw [List.length_cons, preSum_cons, preSum_sum is, List.sum_cons]
theorem sumOk (O : CxOk X) {f : Str} (hf : GlobIs X f (.builtin "sum")) {xs : List PyData} {is : List Int} (hi : intsD xs = some is) : CallOk X k f [.list xs] (.int is.sum) := by
  refine ⟨_, hf, .inl ⟨_, rfl⟩, λ{S s vs A Q E} R g r hQ =>?_⟩
  obtain ⟨v, ws, rfl, rv, rw'⟩ := r.cons_inv
  have := rw'.nil_inv; subst this
  obtain ⟨l, items, n, rfl, hl, rl⟩ := rv.list_inv
  have ho := g.inn _ _ hl
  have hL := Rd.isList g.inn hl
  have hne : l ≠ s.heap.objs.size := Nat.ne_of_lt (Heap.lt_size ho)
  have W := (Walks.list (prog := PySem.Challenge.pw_mr0260_01) (w := X.w) (A := A.in1) R.handled s.heap.objs.size l hne items).toS
  have hsz : items.size = is.length :=by
    have e1 := rl.length
    simp only [Array.length_toList] at e1
    rw [e1, intsD_len hi]
  refine call_sum_walkAnyS (wpAny_pyIter_list hL ?_)
  refine ⟨s.heap.objs.size, _, _, _, _, _, _, λj =>is.getD j 0, rfl, W, ⟨⟨_, Heap.get?_push_size _ rfl, rfl, rfl⟩, hL.at λo e =>Heap.get?_push_of_some _ e⟩, λb hb =>?_, λi v hP =>?_, λs' t' hm =>?_⟩
  · rcases List.mem_cons.mp hb with rfl | hb
    · exact Heap.lt_size (Heap.get?_push_size _ rfl)
    · obtain rfl := List.mem_singleton.mp hb
      exact Heap.lt_size (Heap.get?_push_of_some _ ho)
  · exact intsOk rl hi i v (by simpa using hP)
  · obtain ⟨h', g', d', tk', os'⟩ := s'
    have e1 : g' = s.gens := hm.gens
    have e2 : d' = s.drawn := hm.drawn
    have e3 : os' = s.os := hm.os
    subst e1 e2 e3
    have hk : ∀ b o, s.heap.get? b = some o → h'.get? b = some o := λb o e =>hm.heap b o (λhb =>absurd (Heap.lt_size e) ((List.mem_singleton.mp hb) ▸ Nat.lt_irrefl _)) (Heap.get?_push_of_some _ e)
    rw [hsz, preSum_sum]
    have st : Step X S s S { s with heap := h', toks := tk' } := ⟨g.change O.tabOk (fp := λ_ =>False) (λa o _ e =>hk a o e) (λ_ q =>q.elim) (λh =>Nat.lt_of_lt_of_le h hm.toks), .refl _, .of λa o _ e =>hk a o e, λ_ _ e =>.inl e⟩
    exact hQ _ _ _ st (.int _ _)
end
end Mine
end
section
namespace Mine
open PySem PySem.Spec PyProof.Rows PySem.W PySem.Builtin PySem.Builtin.Str
section
variable {X : Cx} {k : Nat}
theorem strMeth {m : Str} {id : String} {pl : Sem Bool} (slot : Slot "str" m id) (hty : typeOf (.builtin id) = pure (.type "method_descriptor")) {S : Store} {s : Shared} {v : Value} {x : Str} {A : Around} {Q : Value × List Value → Shared → Prop} {E : Value → Shared → Prop} (r : Rd S v (.str x)) (h : Q (.builtin id, [v]) s) :
    wpAny X.M A (getMethod v m pl) Q E s :=by
  obtain ⟨t, rfl⟩ := r.str_inv
  exact getMethod_builtin (T := "str") (typeIs_str _ _ _) PySem.F.plainAttrs_str slot hty (fun a e => by cases e) h
theorem strsFrom_rd {S : Store} : ∀ (l : List Str) (n : Nat), RdAll S (strsFrom n l) (l.map PyData.str)
  | [], _ =>.nil
  | x :: r, n =>.cons (.str _ _) (strsFrom_rd r (n + 1))
theorem splitOk (O : CxOk X) {x y : Str} (hy : y.length ≠ 0) (hx : x.length ≤ 100000) (hn : (Txt.split x y).length ≤ 100000) : MethOk X k (.str x) (Str.ofString "split") [.str y] (.list ((Txt.split x y).map PyData.str)) := by
  refine ⟨"str.split", fun {S s v pl A Q E} g r h => strMeth PySem.F.slot_str_split PySem.F.type_str_split r h, fun {S s v vs A Q E} R g r rs hQ => ?_⟩
  obtain ⟨t, rfl⟩ := r.str_inv
  obtain ⟨v, ws, rfl, rv, rw'⟩ := rs.cons_inv
  have := rw'.nil_inv; subst this
  obtain ⟨u, rfl⟩ := rv.str_inv
  have hy' : (y.length == 0) = false :=by simpa using hy
  have sl : (100000 : Nat) ≤ sizeLine :=by decide
  have alone : ∀ {Q' : Result → Shared → Prop}, (Txt.split x y) = [x] → (∀ S' s', Step X S s S' s' → Rd S' (.ref s.heap.objs.size) (.list ((Txt.split x y).map PyData.str)) → Q' (.ok (.ret (.ref s.heap.objs.size))) s') → listOfItself x t A Q' s :=by
    intro Q' e h
    refine h _ _ (Step.alloc O g (o := listO [Value.str x t].toArray 0) rfl rfl s.toks) (.list Store.put_self ?_)
    rw [e]
    exact .cons (.str _ _) .nil
  cases h1 : (decide (x.length < y.length) || decide (strKind x < strKind y)) with
  | true =>
    have e : Txt.split x y = [x] :=by unfold Txt.split; rw [if_pos h1]
    exact call_meets PySem.F.slot_str_split (typeIs_str _ _ _) PySem.F.entry_str_split (PySem.F.args_str_split_2 _ _) (meets_str_split_cannot_occur x y t u h1) (alone e λS' s' st r =>hQ _ _ _ st r)
  | false =>
    have n1 : ¬ (decide (x.length < y.length) || decide (strKind x < strKind y)) = true :=by rw [h1]; decide
    cases hf : (occurrences x y 0 x.length (x.length + 1)).isEmpty with
    | true =>
      have e : Txt.split x y = [x] :=by unfold Txt.split; rw [if_neg n1, if_pos hf]
      exact call_meets PySem.F.slot_str_split (typeIs_str _ _ _) PySem.F.entry_str_split (PySem.F.args_str_split_2 _ _) (meets_str_split_not_found x y t u h1 hy' hf) (alone e λS' s' st r =>hQ _ _ _ st r)
    | false =>
      have n2 : ¬ (occurrences x y 0 x.length (x.length + 1)).isEmpty = true :=by rw [hf]; decide
      have e : Txt.split x y = partsBetween x (occurrences x y 0 x.length (x.length + 1)) y.length :=by unfold Txt.split; rw [if_neg n1, if_neg n2]
      refine call_meets PySem.F.slot_str_split (typeIs_str _ _ _) PySem.F.entry_str_split (PySem.F.args_str_split_2 _ _) (meets_str_split_sep x y t u h1 hy' hf (by omega) (by rw [← e]; omega)) ?_
      rw [e] at hQ
      exact hQ _ _ _ (Step.alloc O g (o := listO (strsFrom s.toks (partsBetween x (occurrences x y 0 x.length (x.length + 1)) y.length)).toArray 0) rfl rfl _) (.list Store.put_self (strsFrom_rd _ _))
theorem strsD_vals {S : Store} {ds : List PyData} : ∀ {vs : List Value} {zs : List Str}, RdAll S vs ds → strsD ds = some zs → ∃ l : List (Str × Tok), l.map (·.1) = zs ∧ vs = strValues l :=by
  induction ds with
  | nil =>exact λr h =>⟨[], Option.some.inj h, r.nil_inv⟩
  | cons d ds ih =>
    intro vs zs r
    refine bsC λx h1 =>bsC λxs h2 h =>?_
    revert r; refine RdAll.consC λv ws e rv rs =>X12 (λl e1 e2 =>?_) (ih rs h2)
    rw [e, ← Option.some.inj h]
    exact rv.asS h1 λt =>⟨(x, t) :: l, congrArg (x :: ·) e1, congrArg (Value.str x t :: ·) e2⟩
theorem joinOk {sep : Str} {ds : List PyData} {zs : List Str} (hz : strsD ds = some zs) (hj : JoinOk sep zs = true) (hl : (glued sep zs).length ≤ 100000) : MethOk X k (.str sep) (Str.ofString "join") [.list ds] (.str (glued sep zs)) := by
  refine ⟨"str.join", fun {S s v pl A Q E} g r h => strMeth PySem.F.slot_str_join PySem.F.type_str_join r h, fun {S s v vs A Q E} R g r rs hQ => ?_⟩
  obtain ⟨t, rfl⟩ := r.str_inv
  obtain ⟨v, ws, rfl, rv, rw'⟩ := rs.cons_inv
  have := rw'.nil_inv; subst this
  obtain ⟨a, vs, n, rfl, ha, ra⟩ := rv.list_inv
  refine X12 (λl e1 e2 =>?_) (strsD_vals ra hz)
  have hL := Rd.isList g.inn ha
  have e3 : vs = (strValues l).toArray :=by rw [← e2]
  rw [e3] at hL
  have hl' : tooLong ((l.map (·.1)).toArray.foldl (· + ·.length + sep.length) 0) = false :=by
    rw [e1]; unfold JoinOk at hj; simpa using hj
  refine call_meets PySem.F.slot_str_join (typeIs_str _ _ _) PySem.F.entry_str_join (PySem.F.args_str_join_2 _ _) (meets_str_join_list sep t a l hl') ⟨hL, ?_⟩
  have sl : (100000 : Nat) ≤ sizeLine :=by decide
  unfold joinMade
  split
  · rename_i p
    have : glued sep zs = p.1 :=by
      rw [← e1]; rfl
    rw [this] at hQ
    exact hQ _ _ _ (.refl g) (.str _ _)
  · rw [e1]
    exact ⟨Nat.le_trans hl sl, hQ _ _ _ (.mono g) (.str _ _)⟩
end
end Mine
end
section
namespace Mine
open PySem PySem.Spec PySem.Calls PyProof.Rows PySem.W
theorem python_no {Γ : PySem.Ctx} (h : HasC Γ) (p : Pos) (own : List String) : pythonCodeMadeTheCall own ((((Γ.code, p) :: Γ.below)).map (·.1)) = false :=by
  have e : ((((Γ.code, p) :: Γ.below).map (·.1)).any fun c => match c with | .builtin "claim.caller" _ => true | _ => false) = true := by
    rw [List.map_cons, List.any_cons, Bool.or_eq_true, List.any_map]
    rcases h with h | h
    · exact .inl h
    · exact .inr h
  rw [Bool.eq_false_iff]
  intro hh
  simp only [pythonCodeMadeTheCall, Bool.and_eq_true, Bool.not_eq_true'] at hh
  exact Bool.noConfusion (hh.1.1.symm.trans e)
section
variable {prog : Program} {w : World} {A : Around} {E : Value → Shared → Prop} {s : Shared}
theorem markC {own : List String} {e : Value} {Q : Unit → Shared → Prop} (h : Q () s) : wpC (model prog w) A (markTheRefusal own e) Q E s := λΓ p hΓ hC =>by
  unfold markTheRefusal
  rw [Sem.wp_bind']
  show Sem.wp _ Γ (if pythonCodeMadeTheCall own (((Γ.code, p) :: Γ.below).map (·.1)) then _ else _) _ _ p s
  rw [python_no hC]
  exact h
theorem intRefusedC {v : Value} {x : PySem.Str} {t : Tok} {Q : Value → Shared → Prop} {text : List Nat} (hv : v = .str x t) (hh : A.handled = none) (hx : x.length ≤ 640) (hc : ∀ c ∈ x.cps.toList, c < 128) (hs : (text.takeWhile (· != 0)).length ≤ 640)
    (hr : (int_private% "readNumeral") 0 10 (text.takeWhile (· != 0)) = (int_private% "Numeral.invalid") ∨ (∃ n, (int_private% "readNumeral") 0 10 (text.takeWhile (· != 0)) = (int_private% "Numeral.value") n ∧ ((text.takeWhile (· != 0)).length == text.length) = false))
    (h : ∀ h' tk e, (0 < s.toks → 0 < tk) → Heap.NewExc s.heap h' e "ValueError" → E (.ref e) { s with heap := h', toks := tk }) :
    wpC (model prog w) A ((int_private% "intFromText") v text 10) Q E s := by
  subst hv
  have hlen : (reprText x).length ≤ sizeLine :=by
    refine Nat.le_trans (PySem.StrLaws.reprText_len x λc h =>Nat.lt_of_lt_of_le (hc c h) (by decide)) ?_
    have sl : (100000 : Nat) ≤ sizeLine :=by decide
    omega
  refine wpC_eq (t' := if (text.takeWhile (· != 0)).length ≤ 640 then _ else _) rfl ?_
  rw [if_pos hs]
  refine wpC_bind (wpC_pure ?_)
  dsimp only
  have fin : ∀ {K : Unit → Sem Value}, K () = (do
      rule "int.__new__.invalid-literal"
      let r ← (int_private% "bytesOf?") (.str x t)
      match r with
        | some b => do
          let y ← mkBytes (b.extract 0 200)
          let shown ← pyRepr y
          let z ← mkStr (PySem.Str.ofString (toString "invalid literal for int() with base " ++ toString (10 : Nat) ++ toString ": ") ++ { cps := shown.cps.extract 0 200 })
          let refusal ← newExc (.type "ValueError") [z]
          markTheRefusal ["int.__new__"] refusal
          raiseNew refusal
        | none => do
          let shown ← pyRepr (.str x t)
          let z ← mkStr (PySem.Str.ofString (toString "invalid literal for int() with base " ++ toString (10 : Nat) ++ toString ": ") ++ { cps := shown.cps.extract 0 200 })
          let refusal ← newExc (.type "ValueError") [z]
          markTheRefusal ["int.__new__"] refusal
          raiseNew refusal) → wpC (model prog w) A (K ()) Q E s :=by
    intro K hK
    rw [hK]
    refine wpC_bind (wpC_any (wpAny_rule (wpC_bind (wpC_any (wpAny_of_eq (a := none) rfl ?_)))))
    dsimp only
    refine wpC_bind (wpC_any (wpAny_pyRepr_str (wpC_bind (wpC_any (wpAny_mkStr' ?_ (hx := ?_)))) hlen))
    rotate_left
    · have : (PySem.Str.ofString (toString "invalid literal for int() with base " ++ toString (10 : Nat) ++ toString ": ") ++ (⟨(reprText x).cps.extract 0 200⟩ : PySem.Str)).length ≤ 300 := by
        have e : ∀ a b : PySem.Str, (a ++ b).length = a.length + b.length := λa b =>Array.size_append
        rw [e]
        have e1 : (PySem.Str.ofString (toString "invalid literal for int() with base " ++ toString (10 : Nat) ++ toString ": ")).length ≤ 100 := by decide +kernel
        have e2 : (⟨(reprText x).cps.extract 0 200⟩ : PySem.Str).length ≤ 200 :=by
          show ((reprText x).cps.extract 0 200).size ≤ 200
          rw [Array.size_extract]; omega
        omega
      exact Nat.le_trans this (by decide)
    refine wpC_bind (wpC_any (wpAny_newExc_plain plainExc_ValueError λh' e hm =>?_))
    refine wpC_bind (markC (wpC_any (wpAny_raiseNew_none hh ?_)))
    exact h _ _ _ (by intro _; simp only; omega) hm.newExc
  rcases hr with hr | ⟨n, hr, hl⟩
  · rw [hr]
    dsimp only
    refine wpC_bind (wpC_any (wpAny_of_eq (a := none) rfl ?_))
    exact fin (K := λ_ =>_) rfl
  · rw [hr]
    dsimp only
    rw [hl]
    exact fin (K := λ_ =>_) rfl
end
end Mine
end
section
namespace Mine
open PySem PySem.Spec PySem.Calls PyProof.Rows PySem.W PySem.NumText
section
variable {prog : Program} {w : World} {A : Around} {E : Value → Shared → Prop} {s : Shared} {R : Result → Shared → Prop}
theorem codeC_builtin {id : String} {args : Args} {b : Builtin} (hb : entryFor table id = some b)
    (h : wpC (model prog w) (A.under (.builtin id args)) (b args)
      (λfin s' =>match fin with | .done f =>R (.ok f) s' | .again c' =>c'.quiet = true ∧ codeC (model prog w) A c' R s') (λe s' =>R (.error e) s') s) :
    codeC (model prog w) A (.builtin id args) R s :=by
  refine codeC_of_tree ?_
  show wpC _ _ (match entryFor table id with | some b => b args | none => unsupported ((withoutEnding? id "#data").getD id)) _ _ s
  rw [hb]; exact h
theorem codeC_call_builtin {id : String} {args : Args} {b : Builtin} (hq : plainId id = true) (hb : entryFor table id = some b) (hck : checkBuiltinCall id args = pure ())
    (h : wpC (model prog w) A.in1 (b args)
      (λfin s' =>match fin with | .done f =>R (.ok f) s' | .again c' =>c'.quiet = true ∧ codeC (model prog w) A c' R s') (λe s' =>R (.error e) s') s) : codeC (model prog w) A (.call (.builtin id) args) R s :=by
  refine codeC_of_tree ?_
  show wpC _ A.in1 (do checkBuiltinCall id args; again (.builtin id args)) _ _ s
  rw [hck]
  refine wpC_bind (wpC_pure (wpC_pure ⟨plainId_quiet hq args, codeC_builtin hb ?_⟩))
  rw [Around.under_plainId hq args]; exact h
theorem bind_pure' {α β : Type} (a : α) (f : α → Sem β) : (pure a >>= f) = f a := rfl
theorem intNew1 (x : PySem.Str) (u : Tok) : Builtin.«int.__new__» ⟨[.type "int", .str x u], []⟩ = ((int_private% "intFromText") (.str x u) (numTextOf x) 10 >>= fun v => ret v) := by
  have f1 := F.conv_sub_int
  have f2 := F.madeHere_int
  have f3 := KIN.str_int
  have f4 := KIN.str_idx
  have f5 := KIN.str_trunc
  unfold Builtin.«int.__new__»
  dsimp only
  have hT : isType (.type "int") = pure true := rfl
  rw [hT, bind_pure']
  simp only [Bool.not_true, Bool.false_eq_true, if_false]
  rw [f1, bind_pure']
  simp only [Bool.not_true, Bool.false_eq_true, if_false]
  rw [f2, bind_pure']
  show ((int_private% "intFromObject") (.str x u) >>= fun v => ret v) = _
  congr 1
theorem intNew2 (x : PySem.Str) (u v : Tok) : Builtin.«int.__new__» ⟨[.type "int", .str x u, .int 10 v], []⟩ = ((int_private% "intFromText") (.str x u) (numTextOf x) 10 >>= fun v => ret v) := by
  have f1 := F.conv_sub_int
  have f2 := F.madeHere_int
  unfold Builtin.«int.__new__»
  dsimp only
  have hT : isType (.type "int") = pure true := rfl
  rw [hT, bind_pure']
  simp only [Bool.not_true, Bool.false_eq_true, if_false]
  rw [f1, bind_pure']
  simp only [Bool.not_true, Bool.false_eq_true, if_false]
  rw [f2, bind_pure']
  exact rfl
theorem typeCallInt (a : Value) (as : List Value) (hct : checkTypeCall "int" ⟨a :: as, []⟩ = pure ()) : ∃ K : Value → Sem Fin, Builtin.«type.__call__» ⟨.type "int" :: a :: as, []⟩ = (holding [.builtin "int.__new__"] (call (.builtin "int.__new__") (.type "int" :: a :: as) []) >>= K) := by
  have ft := F.called_int
  have h1 := ft.notType
  have h2 := ft.canCreate
  have h3 := ft.made
  have h4 := F.mro_int
  unfold Builtin.«type.__call__»
  dsimp only
  rw [h1, h2]
  simp only [Bool.false_eq_true, if_false]
  rw [hct, bind_pure', h4, bind_pure', h3, bind_pure']
  exact ⟨_, rfl⟩
theorem callIntRefused {x : PySem.Str} {u : Tok} {as : List Value} {Q : Value → Shared → Prop} (has : as = [] ∨ ∃ v, as = [.int 10 v]) (hh : A.handled = none) (hx : x.length ≤ 640) (hc : ∀ c ∈ x.cps.toList, c < 128) (hn : PySem.intText? x = none)
    (h : ∀ h' tk e, (0 < s.toks → 0 < tk) → Heap.NewExc s.heap h' e "ValueError" → E (.ref e) { s with heap := h', toks := tk }) :
    wpC (model prog w) A (call (.type "int") (.str x u :: as)) Q E s := by
  have hct : checkTypeCall "int" ⟨.str x u :: as, []⟩ = pure () := by
    rcases has with rfl | ⟨v, rfl⟩
    · exact F.typeCall_int_1 _
    · exact (by kernel_rfl)
  have hcn : checkBuiltinCall "int.__new__" ⟨.type "int" :: .str x u :: as, []⟩ = pure () := by
    rcases has with rfl | ⟨v, rfl⟩
    · exact F.newCall_int_1 _
    · exact (by kernel_rfl)
  have hnew : Builtin.«int.__new__» ⟨.type "int" :: .str x u :: as, []⟩ = ((int_private% "intFromText") (.str x u) (numTextOf x) 10 >>= fun v => ret v) := by
    rcases has with rfl | ⟨v, rfl⟩
    · exact intNew1 x u
    · exact intNew2 x u v
  refine wpC_call (codeC_of_tree ?_)
  show wpC _ _ (callAny (.type "int") _) _ _ _
  refine wpC_pure ⟨Code.quiet_builtin _ (by decide +kernel), codeC_builtin F.entry_type_call ?_⟩
  rw [Around.under_plain (weight_type_call_type "int" (.str x u :: as) []) (units_type_call_type "int" (.str x u :: as) [])]
  refine X11 (λK hK =>?_) (typeCallInt (.str x u) as hct)
  rw [hK]
  refine wpC_bind (wpC_holding (wpC_call (codeC_call_builtin F.called_int.plain F.entry_int_new hcn ?_)))
  rw [hnew]
  have hs : (numSeenOf x).length ≤ 640 := Nat.le_trans (seen_length x) hx
  refine wpC_bind (intRefusedC (x := x) (t := u) rfl hh hx hc hs ?_ h)
  rcases read0 x hs with ⟨m, h1, h2, h3⟩ | ⟨_, h1 | ⟨i, h1, h2⟩⟩
  · rw [hn] at h1; exact nos h1
  · exact .inl h1
  · exact .inr ⟨i, h1, by simpa using h2⟩
end
end Mine
end
section
namespace Mine
open PySem PySem.Spec PySem.Calls PyProof.Rows PySem.W
section
variable {prog : Program} {w : World} {A : Around} {E : Value → Shared → Prop} {s : Shared} {R : Result → Shared → Prop} {env : Env}
theorem wpC_keep {α : Type} {vs : List Value} {m : Sem α} {Q : α → Shared → Prop} (h : wpC (model prog w) A m Q E s) : wpC (model prog w) A (m.keep vs) Q E s :=
  λΓ p hΓ hC =>by rw [Sem.wp_keep]; exact h Γ p hΓ hC
theorem wpC_operate {vs : List Value} {m : Sem Value} {Q : Value → Shared → Prop} (h : wpC (model prog w) A m Q E s) : wpC (model prog w) A (operate vs m) Q E s :=
  λΓ p hΓ hC =>by rw [Sem.wp_operate]; exact h Γ p hΓ hC
theorem wpC_point {Q : Unit → Shared → Prop} (h : Q () s) : wpC (model prog w) A point Q E s := wpC_any (wpAny_point h)
theorem wpC_ite {α : Type} {c : Prop} [Decidable c] {a b : Sem α} {Q : α → Shared → Prop} (h1 : c → wpC (model prog w) A a Q E s) (h2 : ¬ c → wpC (model prog w) A b Q E s) : wpC (model prog w) A (if c then a else b) Q E s :=by
  split
  · exact h1 ‹_›
  · exact h2 ‹_›
noncomputable def notedC (M : Model) (A : Around) (env : Env) (E : Value → Shared → Prop) : Value → Shared → Prop := notedBy M A env E
theorem wpC_noted {α : Type} {m : Sem α} {Q : α → Shared → Prop} (h : wpC (model prog w) A m Q (notedBy (model prog w) A env E) s) : wpC (model prog w) A (m.onRaise λx =>do noteFrame x env; theTreesLotGoes x) Q E s :=
  wpC_onRaise (wpC_mono h (λ_ _ q =>q) λ_ _ hx =>wpC_any (wpAny_bind (wpAny_mono hx (λ_ _ e =>wpAny_theTreesLotGoes e) λ_ _ e =>e)))
theorem codeC_func {body : List Stmt}
    (h : wpC (model prog w) (A.deeper env) (PySem.execs body env) (fun f s' => R (.ok (.ret (match f with | .ret v => v | _ => .none))) s')
      (λe s' =>wpAny (model prog w) (A.deeper env) (leaving env e) (λ_ s'' =>R (.error e) s'') (λe' s'' =>R (.error e') s'') s') s) :
    codeC (model prog w) A (.func body env) R s :=by
  refine codeC_of_tree ?_
  show wpC _ (A.deeper env) (do point; match ← (PySem.execs body env).onRaise (leaving env) with | .ret v =>ret v | _ =>ret .none) _ _ s
  refine wpC_bind (wpC_point (wpC_bind (wpC_onRaise (wpC_mono h (λf s' h' =>?_) λ_ _ h' =>wpC_any h'))))
  cases f <;> exact wpC_pure h'
theorem codeC_call_function {a : Addr} {args : Args} {o : Obj} {fd : FuncData} {body : List Stmt} (hroom : A.depth < recursionLimit)
    (ho : s.heap.get? a = some o)
    (hd' : o.data = .func fd) (hco : fd.scope.isCoroutine = false) (hgen : fd.scope.isGenerator = false) (hbody : fd.body = .stmts body) (hcd : s.heap.CodeRec fd.code fd.qualname)
    (h : wpAny (model prog w) A.in1 (bindArgs fd args) (fun binds s₁ =>
      wpAny (model prog w) A.in1 (newFunctionEnv fd.scope fd.globals fd.closure binds (fd.qualname ++ ".<locals>.") (some a) fd.code none fd.builtins)
        (λenv s₂ =>s₂.heap.NoLimit ∧ codeC (model prog w) A (.func body env) R s₂) (λe s' =>R (.error e) s') s₁) (λe s' =>R (.error e) s') s) :
    codeC (model prog w) A (.call (.ref a) args) R s :=by
  refine codeC_of_tree (wpC_any ?_)
  show wpAny _ A.in1 (callAny (.ref a) args) _ _ s
  simp only [callAny]
  refine wpAny_bind (wpAny_load ho ?_)
  obtain ⟨c, oc, vs, tq, hc, hoc, hdc, hq⟩ := hcd
  simp only [hd', callFunction, hco, hgen, hbody, hc]
  rw [hc] at h
  refine wpAny_bind (m := field (.ref c) 1) (wpAny_field hoc hdc hq (wpAny_bind (wpAny_pure ?_)))
  exact wpAny_bind (wpAny_mono h (fun binds s₁ h₁ => wpAny_bind (wpAny_mono h₁ (fun env s₂ h₂ => wpAny_bind (wpAny_enterFrame h₂.1 hroom
    (wpAny_pure (And.intro rfl h₂.2)))) λ_ _ h' =>h')) λ_ _ h' =>h')
theorem codeC_block {stmts : List Stmt}
    (h : wpC (model prog w) A (PySem.execs stmts env) (λf s' =>R (.ok f) s') (notedBy (model prog w) A env λe s' =>R (.error e) s') s) : codeC (model prog w) A (.block stmts env) R s :=by
  refine codeC_of_tree ?_
  show wpC _ _ (do return Fin.done (← (PySem.execs stmts env).onRaise (λx =>do noteFrame x env; theTreesLotGoes x))) _ _ s
  exact wpC_bind (wpC_noted (wpC_mono h (λf s' h' =>wpC_pure h') λ_ _ h' =>h'))
theorem codeC_forLoop {target it body orelse} (I : Nat → Shared → Prop)
    (turn : ∀ n s, I n s → wpAny (model prog w) A (pyNext it) (fun r s₁ => match r with
      | none =>wpC (model prog w) A (PySem.execs orelse env) (λf s₃ =>R (.ok f) s₃) (notedBy (model prog w) A env λe s' =>R (.error e) s') s₁
      | some v => wpAny (model prog w) A (letOwnedTupleGo target it v) (fun _ s₁' =>
          wpAny (model prog w) A (assign target env v) (fun _ s₂ => wpC (model prog w) A (PySem.execs body env) (fun f s₃ => match f with
            | .next | .cont =>∃ m, m < n ∧ I m s₃
            | .brk =>R (.ok .next) s₃
            | .ret v =>R (.ok (.ret v)) s₃) (notedBy (model prog w) A env λe s' =>R (.error e) s') s₂) (notedBy (model prog w) A env λe s' =>R (.error e) s') s₁') (notedBy (model prog w) A env λe s' =>R (.error e) s') s₁) (notedBy (model prog w) A env λe s' =>R (.error e) s') s)
    (n : Nat) (h : I n s) : codeC (model prog w) A (.forLoop target it body orelse env) R s :=by
  refine codeC_loop rfl I (λn s hI =>?_) n h
  show wpC _ A ((forTurn target it body orelse env).onRaise (λx =>do noteFrame x env; theTreesLotGoes x)) _ _ s
  refine wpC_noted ?_
  simp only [forTurn]
  refine wpC_bind (wpC_standAt (wpC_bind (wpC_onRaise (wpC_mono (wpC_any (turn n s hI)) (λr s₁ h₁ =>?_) λ_ _ h' =>wpC_standAt h'))))
  cases r with
  | none =>exact wpC_pure (.inr ⟨rfl, codeC_block h₁⟩)
  | some v =>
    refine wpC_bind (wpC_mono (wpC_any h₁) (λ_ s₁' h₁' =>?_) λ_ _ h' =>h')
    refine wpC_bind (wpC_mono (wpC_any h₁') (λ_ s₂ h₂ =>wpC_bind (wpC_mono h₂ (λf s₃ h₃ =>?_) λ_ _ h' =>h')) λ_ _ h' =>h')
    cases f with
    | next =>exact wpC_pure (.inl ⟨rfl, h₃⟩)
    | cont =>exact wpC_pure (.inl ⟨rfl, h₃⟩)
    | brk =>exact wpC_pure h₃
    | ret v =>exact wpC_pure h₃
theorem wpC_runOwn {c : Code} {h : Option Value} {Q : Flow → Shared → Prop}
    (hc : codeC (model prog w) (A.mark h) c (λr s' =>match r with | .ok f =>Q f s' | .error e =>cameBackBy (model prog w) A env E e s') s) (hnb : h ≠ some byPass :=by intro x; cases x) :
    wpC (model prog w) A (runOwn c env h) Q E s :=by
  unfold runOwn
  exact wpC_onRaise (wpC_mono (wpC_run (E := λe s' =>cameBackBy (model prog w) A env E e s') hc hnb) (λ_ _ q =>q) λ_ _ q =>wpC_any q)
theorem forC {target iter body orelse pos} {Q : Flow → Shared → Prop}
    (h : wpAny (model prog w) A (eval iter env) (fun x s₁ => wpAny (model prog w) A (pyIter x) (fun it s₂ =>
      codeC (model prog w) A (.forLoop target it body orelse env) (λr s' =>match r with | .ok f =>Q f s' | .error e =>cameBackBy (model prog w) A env E e s') s₂) E s₁) E s)
    (hs : ∀ x, foldedSetIterable iter env x = pure x :=by intro _; rfl) :
    wpC (model prog w) A (exec (.For target iter body orelse pos) env) Q E s :=by
  rw [arm_exec_For]
  refine wpC_bind (wpC_standAt (wpC_bind (wpC_mono (wpC_any h) (fun x s₁ h₁ => wpC_bind (wpC_eq (hs x) (wpC_pure (wpC_bind (wpC_standAt (wpC_bind (wpC_holding
    (wpC_mono (wpC_any h₁) (λit s₂ h₂ =>wpC_runOwn h₂) λ_ _ h' =>h')))))))) λ_ _ h' =>h')))
theorem execsC_nil {Q : Flow → Shared → Prop} (h : Q .next s) : wpC (model prog w) A (PySem.execs [] env) Q E s := wpC_any (wpAny_execs_nil h)
theorem execsC_cons {st rest} {Q : Flow → Shared → Prop}
    (h : wpC (model prog w) A (exec st env) (λf s' =>match f with | .next =>wpC (model prog w) A (PySem.execs rest env) Q E s' | f =>Q f s') E s) :
    wpC (model prog w) A (PySem.execs (st :: rest) env) Q E s :=by
  rw [execs_cons]
  refine wpC_bind (wpC_mono h (λf s' h' =>?_) λ_ _ x =>x)
  cases f <;> first | exact h' | exact wpC_pure h'
theorem ifC {test : Expr} {body orelse : List Stmt} {pos : Pos} {Q : Flow → Shared → Prop} (h : wpC (model prog w) A (isTrue test env (eval test env)) (fun b s₁ => if b then wpC (model prog w) A (PySem.execs body env) Q E s₁ else wpC (model prog w) A (PySem.execs orelse env) Q E s₁) E s) :
    wpC (model prog w) A (exec (.If test body orelse pos) env) Q E s :=by
  rw [exec_If]
  refine wpC_bind (wpC_standAt (wpC_bind (wpC_mono h (λb s₁ h₁ =>?_) λ_ _ x =>x)))
  cases b <;> exact h₁
theorem assignNameC {x : Str} {pos' pos : Pos} {value : Expr} {Q : Flow → Shared → Prop}
    (h : wpC (model prog w) A (eval value env) (λv s₁ =>wpC (model prog w) A (storeName env x v) (λ_ =>Q .next) E s₁) E s)
    (hs : swapsWith value (some (.Name x pos')) pos.line env = pure false :=by rfl) :
    wpC (model prog w) A (exec (.Assign [.Name x pos'] value pos) env) Q E s := λΓ p hΓ hC =>by
  simp only [exec_Assign_Name env x pos' value pos hs, Sem.wp_bind', Sem.wp_cmd_standAt, Sem.wp_bindName, Sem.wp_pure']
  exact Sem.wp_mono _ Γ _ (λv _ s₁ h₁ =>h₁ Γ _ hΓ hC) (λ_ _ _ h' =>h') _ _ (h Γ _ hΓ hC)
theorem splicedC_cons {x : Sem Value} {rest : List (Bool × Sem Value)} {Q : List Value → Shared → Prop}
    (h : wpC (model prog w) A x (λv s₁ =>wpC (model prog w) A (spliced rest) (λvs s₂ =>Q (v :: vs) s₂) E s₁) E s) : wpC (model prog w) A (spliced ((false, x) :: rest)) Q E s :=by
  rw [spliced]
  refine wpC_bind (wpC_mono h (λv s₁ h₁ =>?_) λ_ _ x =>x)
  simp only [Bool.false_eq_true, if_false]
  exact wpC_bind (wpC_pure (wpC_bind (wpC_holding (wpC_mono h₁ (λvs s₂ h₂ =>wpC_pure h₂) λ_ _ x =>x))))
theorem argsC_cons {e : Expr} {rest : List Expr} {pos : Pos} {Q : List Value → Shared → Prop}
    (h : wpC (model prog w) A (eval e env) (λv s₁ =>wpC (model prog w) A (spliced (backTo pos (starEach rest env))) (λvs s₂ =>Q (v :: vs) s₂) E s₁) E s)
    (he : starEach (e :: rest) env = (false, eval e env) :: starEach rest env :=by rfl) : wpC (model prog w) A (spliced (backTo pos (starEach (e :: rest) env))) Q E s :=by
  rw [he]; exact splicedC_cons h
theorem evalArgsC {f : Value} {x : Sem Value} {rest : List (Bool × Sem Value)} {Q : Args → Shared → Prop}
    (h : wpC (model prog w) A (spliced ((false, x) :: rest)) (λvs s' =>Q ⟨vs, []⟩ s') E s) : wpC (model prog w) A (evalArgs f true ((false, x) :: rest) []) Q E s :=by
  unfold evalArgs
  show wpC _ A (spliced ((false, x) :: rest) >>= _) Q E s
  refine wpC_bind (wpC_mono h (λvs s' h' =>?_) λ_ _ x =>x)
  refine wpC_holding ?_
  exact wpC_bind (wpC_pure (wpC_bind (wpC_pure (wpC_pure h'))))
theorem callWithC_function {pos : Pos} {a : Addr} {o : Obj} {fd : FuncData} {first : List Value} {args : List (Bool × Sem Value)} {Q : Value → Shared → Prop}
    (h : wpC (model prog w) A (evalArgs (.ref a) true args []) (λx s₁ =>(s₁.heap.get? a = some o ∧ o.data = .func fd) ∧ wpC (model prog w) A (call (.ref a) (first ++ x.pos) x.kw) Q E s₁) E s) :
    wpC (model prog w) A (callWith pos (.ref a) first args []) Q E s :=by
  unfold callWith
  refine wpC_bind (wpC_holding (wpC_mono h (λx s₁ h₁ =>wpC_bind (wpC_standAt ?_)) λ_ _ x =>x))
  have tail : ∀ {t : Sem Value}, wpC (model prog w) A t Q E s₁ → wpC (model prog w) A (t >>= λr =>holding [r] point >>= λ_ =>pure r) Q E s₁ :=
    λht =>wpC_bind (wpC_mono ht (λr s₂ hr =>wpC_bind (wpC_holding (wpC_point (wpC_pure hr)))) λ_ _ x =>x)
  cases hs : args.any (·.1) <;> simp only [List.any_nil, Bool.or_false] <;>
    refine wpC_bind (m := keeperOf (.ref a)) ?_ <;> unfold keeperOf <;>
    refine wpC_bind (wpC_any (wpAny_load h₁.1.1 ?_)) <;> rw [h₁.1.2] <;> refine wpC_pure ?_
  all_goals (try refine wpC_ite (λ_ =>?_) (λ_ =>?_))
  all_goals first
    | exact tail h₁.2
    | (refine tail (t := callMarked _ _ _ _) ?_; unfold callMarked; exact wpC_keep h₁.2)
theorem callWithC_builtin {pos : Pos} {id : String} {first : List Value} {args : List (Bool × Sem Value)} {Q : Value → Shared → Prop} (hplain : args.any (·.1) = false)
    (h : wpC (model prog w) A (evalArgs (.builtin id) true args []) (λa s₁ =>wpC (model prog w) A (call (.builtin id) (first ++ a.pos) a.kw) Q E s₁) E s) :
    wpC (model prog w) A (callWith pos (.builtin id) first args []) Q E s :=by
  unfold callWith
  refine wpC_bind (wpC_holding (wpC_mono h (λa s₁ h₁ =>wpC_bind (wpC_standAt ?_)) λ_ _ x =>x))
  simp only [hplain, List.any_nil, Bool.or_false]
  refine wpC_bind (wpC_pure ?_)
  exact wpC_bind (wpC_mono h₁ (λr s₂ hr =>wpC_bind (wpC_holding (wpC_point (wpC_pure hr)))) λ_ _ x =>x)
theorem callWithC_type {pos : Pos} {T : String} {first : List Value} {args : List (Bool × Sem Value)} {Q : Value → Shared → Prop} (hplain : args.any (·.1) = false)
    (h : wpC (model prog w) A (evalArgs (.type T) true args []) (λa s₁ =>wpC (model prog w) A (call (.type T) (first ++ a.pos) a.kw) Q E s₁) E s) :
    wpC (model prog w) A (callWith pos (.type T) first args []) Q E s :=by
  unfold callWith
  refine wpC_bind (wpC_holding (wpC_mono h (λa s₁ h₁ =>wpC_bind (wpC_standAt ?_)) λ_ _ x =>x))
  simp only [hplain, List.any_nil, Bool.or_false]
  refine wpC_bind (wpC_pure ?_)
  exact wpC_bind (wpC_mono h₁ (λr s₂ hr =>wpC_bind (wpC_holding (wpC_point (wpC_pure hr)))) λ_ _ x =>x)
end
end Mine
end
section
namespace Mine
open PySem PySem.Spec PySem.Calls PyProof.Rows PySem.W
noncomputable def FrOk (X : Cx) (h : Heap) : List Env → Prop
  | [] =>True
  | env :: r =>env.scope.kind ≠ .module ∧ (∃ L o es n, env.frame = some L ∧ X.h₁.get? L = none ∧ h.get? L = some o ∧ o.data = .dict es n) ∧ FrOk X h r
theorem FrOk.ext {X : Cx} {h h' : Heap} (e : Ext X.P h h') (hp : ∃ o, X.h₁.get? X.P = some o) {l : List Env} : FrOk X h l → FrOk X h' l :=by
  induction l with
  | nil =>exact id
  | cons env r ih =>
    exact λf =>⟨f.1, f.2.1.elim λL f =>f.elim λo f =>f.elim λes f =>f.elim λn f =>X13 (λo' g1 g2 _ =>⟨L, o', es, n, f.1, f.2.1, g1, g2.trans f.2.2.2⟩) (e.live (λq =>hp.elim λo ho =>nos ((q ▸ f.2.1).symm.trans ho)) f.2.2.1), ih f.2.2⟩
structure RoomC (X : Cx) (hb : Heap) (env : Env) (A : Around) (k : Nat) : Prop where
  room : Room A k
  own : env.frame = some env.locals
  fr : ∃ outer, A.frames = some (env :: outer) ∧ FrOk X hb outer
theorem RoomC.frames {X : Cx} {hb : Heap} {Sb : Store} {Γ : Sc} {env : Env} {A : Around} {k : Nat} {σ : St} {S : Store} {s : Shared} (R : RoomC X hb env A k) (T : At X hb Sb Γ env σ S s) : ∃ outer, A.frames = some (env :: outer) ∧ FrOk X s.heap (env :: outer) :=by
  obtain ⟨outer, h1, h2⟩ := R.fr
  obtain ⟨m, o, es, ep, ho, hd, _⟩ := T.envOk.ns
  exact ⟨outer, h1, by rw [T.envOk.kind]; decide, ⟨env.locals, o, es, ep, R.own, T.hb1 _ T.envOk.lNew, ho, hd⟩, h2.ext T.keep T.gd.p1⟩
noncomputable def EvOkC (X : Cx) (k : Nat) (Γ : Sc) (e : Expr) (ρ : Loc) (d : PyData) : Prop :=
  ∀ {hb : Heap} {Sb : Store} {env : Env} {ω : Option (Str × List PyData)} {S : Store} {s : Shared} {A : Around} {Q : Value → Shared → Prop} {E : Value → Shared → Prop},
    RoomC X hb env A k → At X hb Sb Γ env ⟨ρ, ω⟩ S s → (∀ v S' s', Step X S s S' s' → Rd S' v d → Q v s') → wpC X.M A (eval e env) Q E s
noncomputable def CallOkC (X : Cx) (k : Nat) (f : Str) (ds : List PyData) (d : PyData) : Prop :=
  ∃ a o fd, GlobIs X f (.ref a) ∧ X.h₁.get? a = some o ∧ a ≠ X.P ∧ o.data = .func fd ∧ ∀ {S : Store} {s : Shared} {vs : List Value} {A : Around} {Q : Value → Shared → Prop} {E : Value → Shared → Prop},
    Room A k → (∃ l, A.frames = some l ∧ FrOk X s.heap l) → Gd X S s → RdAll S vs ds → (∀ v S' s', Step X S s S' s' → Rd S' v d → Q v s') → wpC X.M A (call (.ref a) vs) Q E s
noncomputable def StOkC (X : Cx) (k : Nat) (Γ : Sc) (st : Stmt) (σ : St) (o : Out) (σ' : St) : Prop :=
  ∀ {hb : Heap} {Sb : Store} {env : Env} {S : Store} {s : Shared} {A : Around} {Q : Flow → Shared → Prop} {E : Value → Shared → Prop},
    RoomC X hb env A k → At X hb Sb Γ env σ S s → (∀ S' s', At X hb Sb Γ env σ' S' s' → SStep X S s S' s' → OutPost Q S' s' o) → wpC X.M A (exec st env) Q E s
noncomputable def StsOkC (X : Cx) (k : Nat) (Γ : Sc) (sts : List Stmt) (σ : St) (o : Out) (σ' : St) : Prop :=
  ∀ {hb : Heap} {Sb : Store} {env : Env} {S : Store} {s : Shared} {A : Around} {Q : Flow → Shared → Prop} {E : Value → Shared → Prop},
    RoomC X hb env A k → At X hb Sb Γ env σ S s → (∀ S' s', At X hb Sb Γ env σ' S' s' → SStep X S s S' s' → OutPost Q S' s' o) → wpC X.M A (PySem.execs sts env) Q E s
noncomputable def isC0 (ns : List Str) (e : Expr) : Bool := ifD (dCall e) (λc =>!c.2.1.isEmpty && ifD (dName c.1) (λf =>ns.contains f) false) false
noncomputable def isC (ns : List Str) (e : Expr) : Bool := ifD ((dTup e).bind d2) (λp =>isC0 ns p.2) (isC0 ns e)
noncomputable def evC0 (callC : Str → List PyData → Option PyData) (V : EvT) (Γ : Sc) (ρ : Loc) (e : Expr) : Option PyData := (dCall e).bind fun c => (dName c.1).bind fun f =>
  if c.2.1.isEmpty ∨ f = Str.ofString "__debug__" then none else if Γ.names.lookup f = some .globalImplicit then (evList (fun e => V.ev Γ e ρ) c.2.1).bind fun ds => callC f ds else none
noncomputable def evC (callC : Str → List PyData → Option PyData) (V : EvT) (Γ : Sc) (ρ : Loc) (e : Expr) : Option PyData := ifD ((dTup e).bind d2)
  (λp =>if isStar p.1 then none else (V.ev Γ p.1 ρ).bind λx =>(evC0 callC V Γ ρ p.2).bind λy =>some (.tuple [x, y])) (evC0 callC V Γ ρ e)
structure CtxC where
  C : Ctx
  callC : Str → List PyData → Option PyData
  ns : List Str
  primC : Stmt → Option (St → Option (Out × St))
noncomputable def dCmp (e : Expr) : Option (Expr × List CmpOp × List Expr) := if h : e.ctorIdx = 15 then Expr.Compare.elim e h λl ops rs _ =>some (l, ops, rs) else none
theorem dCmp_eq {e : Expr} {x : (Expr × List CmpOp × List Expr)} (h : dCmp e = some x) : ∃ p, e = Expr.Compare x.1 x.2.1 x.2.2 p := diteE h λhc =>Expr.Compare.elim (motive_1 := λe =>∀ hc, Expr.Compare.elim e hc (λl ops rs _ =>some (l, ops, rs)) = some x → ∃ p, e = Expr.Compare x.1 x.2.1 x.2.2 p) e hc (λ_ _ _ p _ h =>⟨p, congrArg (λx : (Expr × List CmpOp × List Expr) =>Expr.Compare x.1 x.2.1 x.2.2 p) (Option.some.inj h)⟩) hc
noncomputable def ifGen (K : CtxC) (V : EvT) (ex : Stmt → St → Option (Out × St)) (t : Expr) (b o : List Stmt) (σ : St) : Option (Out × St) := (V.ts K.C.Γ t σ.ρ).bind λc =>if c then execs ex b σ else execs ex o σ
noncomputable def ifCD (K : CtxC) (V : EvT) (ex : Stmt → St → Option (Out × St)) (t : Expr) (b o : List Stmt) (σ : St) : Option (Out × St) := ifD (dCmp t)
  (fun x => if isC K.ns x.1 then (d1 x.2.1).bind fun op => (d1 x.2.2).bind fun r => if behindInMarks op r then none else (evC K.callC V K.C.Γ σ.ρ x.1).bind fun x => (V.ev K.C.Γ r σ.ρ).bind fun y => (cmpD op x y).bind fun c => if c then execs ex b σ else execs ex o σ
    else ifGen K V ex t b o σ) (ifGen K V ex t b o σ)
noncomputable def asgC (K : CtxC) (V : EvT) (ts : List Expr) (e : Expr) (q : Pos) (σ : St) : Option (Out × St) := if isC0 K.ns e then ((d1 ts).bind dName).bind fun x => (evC0 K.callC V K.C.Γ σ.ρ e).bind fun d => (assignD K.C.Γ (.Name x default) d σ).bind fun σ' => some (.next, σ')
  else stepS K.C V (λ_ _ =>none) (.Assign ts e q) σ
noncomputable def appC (K : CtxC) (V : EvT) (x : Str) (e : Expr) (σ : St) : Option (Out × St) := ifD σ.ω (λw =>if w.1 = x then (evC0 K.callC V K.C.Γ σ.ρ e).bind λd =>if w.2.length ≤ 100000 then some (.next, σ.setOwn x (w.2 ++ [d])) else none else none) none
noncomputable def exprC (K : CtxC) (V : EvT) (e : Expr) (q : Pos) (σ : St) : Option (Out × St) := ifD (dOwn e)
  (fun c => if isC0 K.ns c.e then (if c.ap.endLine ≠ c.p.line ∨ c.x = Str.ofString "__debug__" ∨ c.m ≠ Str.ofString "append" then none else appC K V c.x c.e σ) else stepS K.C V (fun _ _ => none) (.Expr e q) σ) (stepS K.C V (fun _ _ => none) (.Expr e q) σ)
noncomputable def stepC (K : CtxC) (V : EvT) (ex : Stmt → St → Option (Out × St)) (st : Stmt) (σ : St) : Option (Out × St) := match st with
  | .For t it body orelse _ =>if iterTup K.C.Γ it ∧ isTuple t = false then none else (iterE V K.C.Γ it σ.ρ).bind λds =>forD (targetD K.C.Γ t) (execs ex body) (execs ex orelse) (σ.ρ.map (·.1)) ds σ
  | .If t b o _ =>ifCD K V ex t b o σ
  | .Assign ts e q =>asgC K V ts e q σ
  | .Expr e q =>exprC K V e q σ
  | .While .. =>none
  | st =>stepS K.C V (λ_ _ =>none) st σ
noncomputable def exC (K : CtxC) (V : EvT) : Nat → Stmt → St → Option (Out × St)
  | 0 =>λ_ _ =>none
  | n + 1 =>λst σ =>ifD (K.primC st) (λf =>f (if K.C.frz.contains (stmtLine st) then σ.freeze else σ)) (stepC K V (exC K V n) st (if K.C.frz.contains (stmtLine st) then σ.freeze else σ))
section
variable {X : Cx} {k : Nat} {V : EvT} {G : Gl} {hb : Heap} {Sb S S' : Store} {Γ : Sc} {env : Env} {ω : Option (Str × List PyData)} {ρ : Loc} {σ σ' : St} {s s' : Shared} {A : Around} {E : Value → Shared → Prop}
theorem StOk.c {st : Stmt} {o : Out} (h : StOk X k Γ st σ o σ') : StOkC X k Γ st σ o σ' := λ{_ _ _ _ _ _ _ _} R T hQ =>wpC_any (h R.room T hQ)
theorem StOkC.of {o o₁ : Out} {σ₁ σ' : St} {st : Stmt} (h : some (o₁, σ₁) = some (o, σ')) (k' : StOkC X k Γ st σ o₁ σ₁) : StOkC X k Γ st σ o σ' :=by
  cases Option.some.inj h; exact k'
theorem evC0_call {callC : Str → List PyData → Option PyData} {e : Expr} {d : PyData} (h : evC0 callC V Γ ρ e = some d) : isStar e = false :=by
  revert h; exact bsC λc h1 _ =>by rw [dCall_eq h1]; rfl
theorem evC0Ok (O : CxOk X) (VO : VOk X k V) {callC : Str → List PyData → Option PyData} (GC : ∀ {f ds d}, callC f ds = some d → CallOkC X k f ds d) {e : Expr} {d : PyData} (h : evC0 callC V Γ ρ e = some d) : EvOkC X k Γ e ρ d :=by
  intro hb Sb env ω S s A Q E R T hQ
  revert h; refine bsC λc h1 =>bsC λf h2 =>ifnC λhd =>ifsC λhk =>bsC λds h3 h4 =>?_
  rw [dCall_eq h1]
  refine (dName_eq h2).elim λp e1 =>?_
  rw [e1]
  cases hc : c.2.1 with
  | nil =>exact (hd (.inl (by rw [hc]; rfl))).elim
  | cons a as =>
    rw [hc] at h3
    refine X35 (λad o fd hg ho hP hfd hcall =>evListC (λhne _ _ _ _ _ =>?_) h3) (GC h4)
    have he := starEach_plain (rest := as) (env := env) hne
    refine wpC_eq (t' := do callWith c.2.2 (← eval (.Name f p) env) [] (backTo c.2.2 (starEach (a :: as) env)) (backToKw c.2.2 (keywordEach [] env))) rfl ?_
    refine wpC_bind (wpC_any (evalGlob O T hk hg (beq_eq_false_iff_ne.mpr λq =>hd (.inr q)) (callWithC_function (o := o) (fd := fd) ?_)))
    rw [he]
    refine evalArgsC ?_
    have := listOk (pos := c.2.2) (Q := λvs s₁ =>(s₁.heap.get? ad = some o ∧ o.data = Data.func fd) ∧ wpC X.M A (call (.ref ad) ([] ++ vs) []) Q E s₁) (E := E) VO h3 R.room T λvs S₁ s₁ st r =>⟨⟨st.gd.base ad o hP ho, hfd⟩, hcall R.room ((R.frames (T.step st)).elim λl h =>⟨_, h⟩) st.gd r λv S₂ s₂ st₂ rv =>hQ v S₂ s₂ (st.trans st₂) rv⟩
    rw [he] at this
    exact wpC_any this
theorem evCOk (O : CxOk X) (VO : VOk X k V) {callC : Str → List PyData → Option PyData} (GC : ∀ {f ds d}, callC f ds = some d → CallOkC X k f ds d) {e : Expr} {d : PyData} (h : evC callC V Γ ρ e = some d) : EvOkC X k Γ e ρ d :=by
  intro hb Sb env ω S s A Q E R T hQ
  revert h
  refine ifDC (λq =>bsC λes h1 h2 =>ifnC λhs =>bsC λx h3 =>bsC λy h4 h5 =>(dTup_eq h1).elim λc e' =>e'.elim λp e' =>?_) λ_ h =>evC0Ok O VO GC h R T hQ
  rw [e', d2_eq h2]
  refine wpC_eq (t' := do standAt p; newTuple (← spliced (backTo p (starEach [q.1, q.2] env)))) rfl ?_
  exact wpC_bind (wpC_standAt (wpC_bind (argsC_cons (wpC_any (VO.ev h3 R.room T fun v S₁ s₁ st₁ r₁ => argsC_cons (evC0Ok O VO GC h4 R (T.step st₁) fun u S₂ s₂ st₂ r₂ => wpC_any (args_nil
    (wpC_any (newTupleOk O st₂.gd (.cons (r₁.le st₂.le) (.cons r₂ .nil)) (by show 2 ≤ sizeLine; decide) λv S₃ s₃ st₃ r₃ =>hQ _ _ _ ((st₁.trans st₂).trans st₃) (.of h5 r₃))))) (starEach_plain (evC0_call h4)))) (starEach_plain (Bool.eq_false_iff.mpr hs)))))
theorem execsOkC {ex : Stmt → St → Option (Out × St)} (hex : ∀ {st σ o σ'}, ex st σ = some (o, σ') → StOkC X k Γ st σ o σ') : ∀ (sts : List Stmt) {σ : St} {o : Out} {σ' : St}, execs ex sts σ = some (o, σ') → StsOkC X k Γ sts σ o σ' :=by
  intro sts
  induction sts with
  | nil =>exact λh _ _ _ _ _ _ _ _ _ T hQ =>execsC_nil (post_of h hQ _ _ T .refl)
  | cons st r ih =>
    intro σ o σ' h hb Sb env S s A Q E R T hQ
    revert h; refine bsC λp h1 h2 =>?_
    cases p with
    | mk o₁ σ₁ =>
    refine execsC_cons (hex h1 R T λS₁ s₁ T₁ ss =>?_)
    cases o₁ with
    | next =>exact ih h2 R T₁ λS' s' T' ss' =>hQ S' s' T' (ss.trans ss')
    | brk =>exact post_of h2 hQ S₁ s₁ T₁ ss
    | cont =>exact post_of h2 hQ S₁ s₁ T₁ ss
    | ret d =>exact post_of h2 hQ S₁ s₁ T₁ ss
theorem forStOkC (O : CxOk X) (GO : GlOk X k G) (VO : VOk X k V) {t it : Expr} {body orelse : List Stmt} {p : Pos} {ds : List PyData} {n : List Str} {exB exE : St → Option (Out × St)} {o : Out} (htup : iterTup Γ it = true → isTuple t = true) (h1 : iterE V Γ it σ.ρ = some ds)
    (hB : ∀ {σ o σ'}, exB σ = some (o, σ') → StsOkC X k Γ body σ o σ') (hE : ∀ {σ o σ'}, exE σ = some (o, σ') → StsOkC X k Γ orelse σ o σ') (h2 : forD (targetD Γ t) exB exE n ds σ = some (o, σ')) : StOkC X k Γ (.For t it body orelse p) σ o σ' :=by
  intro hb Sb env S s A Q E R T hQ
  cases σ with
  | mk ρ ω =>
  have key := iterOk (E := E) (Q := λit s₂ =>codeC X.M A (.forLoop t it body orelse env) (λr s' =>match r with | .ok f =>Q f s' | .error e =>cameBackBy X.M A env E e s') s₂) O GO VO h1 R.room T λit' S₂ s₂ st I₂ =>by
    refine codeC_forLoop (λm s₁ =>∃ ds σ S₁, m = ds.length ∧ forD (targetD Γ t) exB exE n ds σ = some (o, σ') ∧ At X hb Sb Γ env σ S₁ s₁ ∧ SStep X S s S₁ s₁ ∧ ItAt s.heap S₁ s₁.heap it' (iterTup Γ it) ds) ?_ ds.length ⟨ds, ⟨ρ, ω⟩, S₂, rfl, h2, T.step st, st.sstep, I₂⟩
    rintro m s₁ ⟨ds, σ, S₁, rfl, hf, T₁, j, I⟩
    cases ds with
    | nil =>
      refine wpAny_mono (nextEnd (N := λs' =>wpC X.M A (PySem.execs orelse env) (λf s₃ =>(λr s' =>match r with | .ok f =>Q f s' | .error e =>cameBackBy X.M A env E e s' : Result → Shared → Prop) (.ok f) s₃) (notedBy X.M A env λe s' =>cameBackBy X.M A env E e s') s') (K := λ_ _ =>False) O R.room T₁ T.lo I λs' T' its =>?_) (λr s₂ h₂ =>?_) (λ_ _ e =>e)
      · exact hE hf R T' λS₃ s₃ T₃ ss =>hQ S₃ s₃ T₃ ((j.it its).trans ss)
      · cases r with
        | none =>exact h₂
        | some v =>exact h₂.elim
    | cons d r =>
      revert hf; refine bsC λσ₁ hf1 =>bsC λp hf2 hf =>?_
      cases p with
      | mk o₁ σ₂ =>
      refine wpAny_mono (nextItem (N := fun _ => False) O R.room.handled T₁ T.lo I (fun q => isTuple_eq (htup q)) (E' := notedBy X.M A env fun e s' => cameBackBy X.M A env E e s')
        (K := fun v s₁' => wpAny X.M A (assign t env v) (fun _ s₂ => wpC X.M A (PySem.execs body env) (fun f s₃ => match f with
            | .next | .cont =>∃ m, m < (d :: r).length ∧ ∃ ds σ S₁, m = ds.length ∧ forD (targetD Γ t) exB exE n ds σ = some (o, σ') ∧ At X hb Sb Γ env σ S₁ s₃ ∧ SStep X S s S₁ s₃ ∧ ItAt s.heap S₁ s₃.heap it' (iterTup Γ it) ds
            | .brk =>Q .next s₃
            | .ret v =>Q (.ret v) s₃) (notedBy X.M A env λe s' =>cameBackBy X.M A env E e s') s₂) (notedBy X.M A env λe s' =>cameBackBy X.M A env E e s') s₁')
        λv S₂ s₂ T₂ its I₂ rv =>?_) (λx s₂ h₂ =>?_) (λ_ _ e =>e)
      · have j₂ := j.it its
        refine targetOk O R.room.handled hf1 T₂ rv λs₃ T₃ ss₃ =>?_
        refine hB hf2 R T₃ λS₄ s₄ T₄ ss₄ =>?_
        have j₄ : SStep X S s S₄ s₄ := (j₂.trans ss₃).trans ss₄
        have I₄ : ItAt s.heap S₄ s₄.heap it' (iterTup Γ it) r := I₂.step T₂.gd T₄.gd T.gd.back (ss₃.trans ss₄)
        cases o₁ with
        | next =>exact ⟨r.length, Nat.lt_succ_self _, r, σ₂.cut n, S₄, rfl, hf, T₄.weaken (λx d e =>cut_look e) rfl, j₄, I₄⟩
        | cont =>exact ⟨r.length, Nat.lt_succ_self _, r, σ₂.cut n, S₄, rfl, hf, T₄.weaken (λx d e =>cut_look e) rfl, j₄, I₄⟩
        | brk =>exact post_of hf hQ S₄ s₄ (T₄.weaken (λx d e =>cut_look e) rfl) j₄
        | ret dd =>exact post_of hf hQ S₄ s₄ T₄ j₄
      · cases x with
        | none =>exact h₂.elim
        | some v =>exact h₂
  exact forC key.2 key.1
end
end Mine
end
section
namespace Mine
open PySem PySem.Spec PySem.Calls PyProof.Rows PySem.W
section
variable {X : Cx} {k : Nat} {V : EvT} {G : Gl} {hb : Heap} {Sb S S' : Store} {Γ : Sc} {env : Env} {ω : Option (Str × List PyData)} {ρ : Loc} {σ σ' : St} {s s' : Shared} {A : Around} {E : Value → Shared → Prop}
theorem appendC (O : CxOk X) {x : Str} {p ap pos q : Pos} {e : Expr} {xs : List PyData} {d : PyData} (he : ap.endLine = pos.line) (hx : x ≠ Str.ofString "__debug__") (hω : σ.ω = some (x, xs)) (h1 : EvOkC X k Γ e σ.ρ d)
    (ns : isStar e = false) (hl : xs.length ≤ 100000) : StOkC X k Γ (.Expr (.Call (.Attribute (.Name x p) (Str.ofString "append") ap) [e] [] pos) q) σ .next (σ.setOwn x (xs ++ [d])) := by
  intro hb Sb env S s A Q E R T hQ
  rw [PySem.exec_Expr _ _ _ (interactiveFalse T) rfl]
  refine wpC_bind (wpC_standAt (wpC_bind ?_))
  refine X35 (λr vs n hv hg hS hr hall =>?_) (T.own x xs hω)
  have pl : ((backTo pos (starEach [e] env)).any λx =>x.1) = false :=by
    rw [starEach_plain ns]; rfl
  refine wpC_eq (method_eq rfl pl (show (1 : Nat) ≤ 20 by decide) he) ?_
  refine wpC_bind (wpC_any (PySem.wpAny_Name (loadVar T hv ?_) (beq_eq_false_iff_ne.mpr hx)))
  refine wpC_bind (wpC_standAt (wpC_bind (wpC_holding (wpC_any ?_))))
  refine getMethod_list_of PySem.F.slot_list_append PySem.F.type_list_append ⟨_, hg, rfl, n, rfl⟩ ⟨_, hg, rfl⟩ ?_
  refine callWithC_builtin pl ?_
  rw [starEach_plain ns]
  refine evalArgsC (splicedC_cons (h1 R T λv S₁ s₁ st rv =>wpC_any (args_nil (env := env) (pos := pos) ?_)))
  have T₁ := T.step st
  have hg₁ := st.ext.get (T.notP hr) hg nofun
  have hS₁ : S₁ r = none :=by
    cases q : S₁ r with
    | none =>rfl
    | some o =>exact (st.new r o q).elim (λe =>nos (hS.symm.trans e)) λe =>nos (e.symm.trans hg)
  have hv₁ : VarIs env s₁.heap x (.ref r) := hv.ext st.ext T.localsNotP λc hc =>T.gd.notP (T.envOk.cBase x c hc)
  have hall₁ := hall.le st.le
  show wpC X.M A (call (.builtin "list.append") [.ref r, v]) _ E s₁
  refine wpC_any (call_meets PySem.F.slot_list_append ⟨_, hg₁, rfl⟩ PySem.F.entry_list_append (PySem.F.args_list_append_2 _ _) (list_append r vs n v (by rw [hall₁.size]; exact Nat.le_trans hl (by decide))) ⟨hg₁, ?_⟩)
  show wpC X.M A (dropValue _ q .none) Q E _
  rw [dropValue_plain (v := .none) nofun]
  exact X02 (λT₂ ss =>wpC_pure (hQ _ _ T₂ (st.sstep.trans ss))) (ownUpdate O T₁ hω hv₁ hg₁ hS₁ hr (f := λx =>x.push v) (t := s₁.toks) id (by rw [Array.toList_push]; exact hall₁.append (.cons rv .nil)))
theorem C0_call {ns : List Str} {e : Expr} (h : isC0 ns e = true) : ∃ f as p, e = .Call f as [] p :=by
  revert h; exact ifDC (λc hc _ =>⟨_, _, _, dCall_eq hc⟩) λ_ h =>fnt h
theorem not_starred_of_C0 {ns : List Str} {e : Expr} (h : isC0 ns e = true) : isStar e = false := (C0_call h).elim λ_ h =>h.elim λ_ h =>h.elim λ_ h =>h ▸ rfl
theorem swaps_of_C0 {ns : List Str} {e : Expr} {t : Option Expr} {l : Nat} (h : isC0 ns e = true) : swapsWith e t l env = pure false := (C0_call h).elim λ_ h =>h.elim λ_ h =>h.elim λ_ h =>h ▸ rfl
theorem ifBranchC {b o : List Stmt} {p : Pos} {t : Expr} {c : Bool} {out : Out} (ht : ∀ {hb : Heap} {Sb : Store} {env : Env} {S : Store} {s : Shared} {A : Around} {Q : Bool → Shared → Prop} {E : Value → Shared → Prop},
      RoomC X hb env A k → At X hb Sb Γ env σ S s → (∀ S' s', Step X S s S' s' → Q c s') → wpC X.M A (isTrue t env (eval t env)) Q E s)
    (hb : c = true → StsOkC X k Γ b σ out σ') (ho : c = false → StsOkC X k Γ o σ out σ') : StOkC X k Γ (.If t b o p) σ out σ' :=by
  intro hb' Sb env S s A Q E R T hQ
  refine ifC (ht R T λS₁ s₁ st =>?_)
  cases c with
  | true =>exact hb rfl R (T.step st) λS' s' T' ss =>hQ S' s' T' (st.sstep.trans ss)
  | false =>exact ho rfl R (T.step st) λS' s' T' ss =>hQ S' s' T' (st.sstep.trans ss)
section
variable {K : CtxC} {nE : Nat} {ex : Stmt → St → Option (Out × St)}
theorem anyC (O : CxOk X) (GO : GlOk X k K.C.G) {st : Stmt} {o : Out} (h : stepS K.C (evN K.C.G nE) (λ_ _ =>none) st σ = some (o, σ')) : StOkC X k K.C.Γ st σ o σ' := StOk.c (stepSOk O GO (λh =>nos h) h)
theorem ifGenC (O : CxOk X) (GO : GlOk X k K.C.G) (hex : ∀ {st σ o σ'}, ex st σ = some (o, σ') → StOkC X k K.C.Γ st σ o σ') {t : Expr} {b oe : List Stmt} {p : Pos} {o : Out} (h : ifGen K (evN K.C.G nE) ex t b oe σ = some (o, σ')) : StOkC X k K.C.Γ (.If t b oe p) σ o σ' :=by
  revert h; exact bsC λc h1 h =>ifBranchC (c := c) (λR T hQ =>wpC_any ((evNOk O GO nE).ts h1 R.room T hQ)) (λq =>execsOkC (λh =>hex h) b (by rw [q] at h; exact h)) λq =>execsOkC (λh =>hex h) oe (by rw [q] at h; exact h)
theorem ifCOk (O : CxOk X) (GO : GlOk X k K.C.G) (GC : ∀ {f ds d}, K.callC f ds = some d → CallOkC X k f ds d) (hex : ∀ {st σ o σ'}, ex st σ = some (o, σ') → StOkC X k K.C.Γ st σ o σ') {t : Expr} {b oe : List Stmt} {p : Pos} {o : Out}
    (h : ifCD K (evN K.C.G nE) ex t b oe σ = some (o, σ')) : StOkC X k K.C.Γ (.If t b oe p) σ o σ' :=by
  revert h
  refine ifDC (λx hd =>iteC (λ_ =>bsC λop e1 =>bsC λr e2 =>ifnC λhm =>bsC λx h1 =>bsC λy h2 =>bsC λc h3 h =>(dCmp_eq hd).elim λp' e3 =>?_) λ_ =>ifGenC O GO hex) λ_ =>ifGenC O GO hex
  rw [e3, d1_eq e1, d1_eq e2]
  refine ifBranchC (c := c) (λR T hQ =>?_) (λq =>execsOkC (λh =>hex h) b (by rw [q] at h; exact h)) λq =>execsOkC (λh =>hex h) oe (by rw [q] at h; exact h)
  rw [isTrue_Compare1]
  refine wpC_bind (evCOk O (evNOk O GO nE) GC h1 R T λv S₁ s₁ st₁ r₁ =>wpC_bind (wpC_holding ?_))
  rw [markedBehindIn_of_false (Bool.eq_false_iff.mpr hm)]
  exact wpC_any ((evNOk O GO nE).ev h2 R.room (T.step st₁) fun u S₂ s₂ st₂ r₂ => wpC_bind (wpC_standAt (wpC_bind (wpC_operate (wpC_any
    (cmpOk R.room.low st₂.gd (r₁.le st₂.le) r₂ h3 (wpC_holding (wpC_any (PySem.wpAny_truthy_bool (hQ _ _ (st₁.trans st₂)))))))))))
theorem asgCOk (O : CxOk X) (GO : GlOk X k K.C.G) (GC : ∀ {f ds d}, K.callC f ds = some d → CallOkC X k f ds d) {ts : List Expr} {e : Expr} {q : Pos} {o : Out} (h : asgC K (evN K.C.G nE) ts e q σ = some (o, σ')) : StOkC X k K.C.Γ (.Assign ts e q) σ o σ' :=by
  revert h
  refine iteC (λhC =>bsC λx =>bsC λt e1 e2 =>bsC λd h1 =>bsC λσ₁ h2 h =>StOkC.of h ((dName_eq e2).elim λp e3 =>(assignD_inv h2).elim λx' h =>h.elim λp' h =>?_)) λ_ =>anyC O GO
  obtain ⟨e', hm, hs⟩ := h
  cases e'
  rw [d1_eq e1, e3]
  exact λR T hQ =>assignNameC (evC0Ok O (evNOk O GO nE) GC h1 R T λv S₁ s₁ st r =>wpC_any (storeVar O.tabOk (T.step st) hm r hs λs' T' nk =>hQ _ _ T' (st.sstep.trans nk.sstep))) (swaps_of_C0 hC)
theorem exprCOk (O : CxOk X) (GO : GlOk X k K.C.G) (GC : ∀ {f ds d}, K.callC f ds = some d → CallOkC X k f ds d) {e : Expr} {q : Pos} {o : Out} (h : exprC K (evN K.C.G nE) e q σ = some (o, σ')) : StOkC X k K.C.Γ (.Expr e q) σ o σ' :=by
  revert h
  refine ifDC (λc hd =>iteC (λhC =>ifnC λhc =>ifDC (λw hω =>ifsC λhy =>bsC λd h1 =>ifsC λhl h =>StOkC.of h ((dOwn_eq hd).elim λq0 e0 =>?_)) λ_ =>nos) λ_ =>anyC O GO) λ_ =>anyC O GO
  have hm : c.m = Str.ofString "append" := Decidable.byContradiction fun q => hc (.inr (.inr q))
  rw [e0, hm]
  exact appendC O (Decidable.byContradiction λq =>hc (.inl q)) (λq =>hc (.inr (.inl q))) (show σ.ω = some (c.x, w.2) from hy ▸ hω) (evC0Ok O (evNOk O GO nE) GC h1) (not_starred_of_C0 hC) hl
theorem stepCOk (O : CxOk X) (GO : GlOk X k K.C.G) (GC : ∀ {f ds d}, K.callC f ds = some d → CallOkC X k f ds d) (hex : ∀ {st σ o σ'}, ex st σ = some (o, σ') → StOkC X k K.C.Γ st σ o σ')
    {st : Stmt} {o : Out} (h : stepC K (evN K.C.G nE) ex st σ = some (o, σ')) : StOkC X k K.C.Γ st σ o σ' :=by
  cases st with
  | For t it body orelse p =>
    revert h; exact ifnC λhc =>bsC λds h1 h2 =>forStOkC O GO (evNOk O GO nE) (λq =>Decidable.byContradiction λq2 =>hc ⟨q, Bool.eq_false_iff.mpr q2⟩) h1 (λh =>execsOkC (λh =>hex h) body h) (λh =>execsOkC (λh =>hex h) orelse h) h2
  | If t b oe p =>exact ifCOk O GO GC hex h
  | Assign ts e q =>exact asgCOk O GO GC h
  | Expr e q =>exact exprCOk O GO GC h
  | While t b oe p =>exact nos h
  | _ =>exact anyC (nE := nE) O GO (by exact h)
end
theorem exCOk {K : CtxC} (O : CxOk X) (GO : GlOk X k K.C.G) (GC : ∀ {f ds d}, K.callC f ds = some d → CallOkC X k f ds d) {nE : Nat} (hprim : ∀ {st f σ o σ'}, K.primC st = some f → f σ = some (o, σ') → StOkC X k K.C.Γ st σ o σ') :
    ∀ n {st : Stmt} {σ : St} {o : Out} {σ' : St}, exC K (evN K.C.G nE) n st σ = some (o, σ') → StOkC X k K.C.Γ st σ o σ' :=by
  intro n
  induction n with
  | zero =>exact λh =>nos h
  | succ n ih =>
    intro st σ o σ' h hb Sb env S s A Q E R T hQ
    have main : ∀ {τ : St} {S : Store} {s : Shared}, τ = (if K.C.frz.contains (stmtLine st) then σ.freeze else σ) → At X hb Sb K.C.Γ env τ S s → (∀ S' s', At X hb Sb K.C.Γ env σ' S' s' → SStep X S s S' s' → OutPost Q S' s' o) → wpC X.M A (exec st env) Q E s :=by
      intro τ S s e T hQ
      revert h
      refine ifDC (λf hf h =>?_) λ_ h =>?_
      · rw [← e] at h; exact hprim hf h R T hQ
      · rw [← e] at h; exact stepCOk O GO GC (λh =>ih h) h R T hQ
    by_cases hc : K.C.frz.contains (stmtLine st) = true
    · exact X12 (λS' ss T' =>main (if_pos hc).symm T' λS₁ s₁ T₁ ss₁ =>hQ S₁ s₁ T₁ (ss.trans ss₁)) T.freeze'
    · exact main (if_neg hc).symm T hQ
theorem defOkC (O : CxOk X) {f : Str} {ps : List Str} {body : List Stmt} {names : List (Str × NameKind)} (D : DefAt X f ps body names) (hnd : ps.Nodup) (hkinds : ∀ x ∈ ps, names.lookup x = some .local ∨ names.lookup x = some .cell)
    {ds : List PyData} {d : PyData} (hl : ds.length = ps.length) (hex : StsOkC X k ⟨names, []⟩ body ⟨ps.zip ds, none⟩ (.ret d) σ') : CallOkC X (k + 1) f ds d :=by
  obtain ⟨a, o, fd, hf, ho, haP, hd, hcd, hcP, hbody, hclo, hg, hbi, hk, hn, hco, hgen, hbind⟩ := D.ex
  subst hn
  refine ⟨a, o, fd, hf, ho, haP, hd, λ{S s vs A Q E} R F g r hQ =>wpC_call ?_⟩
  have hlv : vs.length = ps.length :=by rw [r.length, hl]
  have hcd' : s.heap.CodeRec fd.code fd.qualname :=by
    obtain ⟨c, oc, vc, t, h1, h2, h3, h4⟩ := hcd
    exact ⟨c, oc, vc, t, h1, g.base c oc (hcP c h1) h2, h3, h4⟩
  have hkb : ∀ x ∈ ps.zip vs, fd.scope.names.lookup x.1 = some .local ∨ (fd.scope.names.lookup x.1 = some .cell ∧ ((cellsFrom (s.heap.objs.size + 1) fd.scope.names []).lookup x.1).isSome = true) := λx hx =>by
    obtain ⟨n, v⟩ := x
    rcases hkinds n (List.of_mem_zip hx).1 with h | h
    · exact .inl h
    · obtain ⟨c, hc⟩ := cellsFrom_has (n := s.heap.objs.size + 1) (mem_of_lookup h)
      obtain ⟨c', hc'⟩ := mem_lookup hc
      exact .inr ⟨h, by rw [hc']; rfl⟩
  have := R.depth
  refine codeC_call_function (by show A.depth < 1000; omega) (g.base a o haP ho) hd hco hgen hbody hcd' ?_
  rw [hclo]
  refine hbind vs g hlv (wpAny_with_toks g.tp (wpAny_newFunctionEnv_cells hk hkb λenv he s₁ x htk =>?_))
  subst he
  refine ⟨(g.lim O).keeps x.toInCall.keep, codeC_func ?_⟩
  have T := enterAt (a := a) O g hg hbi hk hlv hnd hkinds r htk x
  obtain ⟨l, hl1, hl2⟩ := F
  exact hex ⟨R.deeper _, rfl, l, by show A.frames.map _ = _; rw [hl1]; rfl, hl2⟩ T λS' s' T' _ v rv =>hQ v S' s' (T'.done rfl) rv
end
end Mine
end
section
namespace Mine
open PySem PySem.Spec PySem.Calls PyProof.Rows PySem.W
noncomputable def Slots (fs : List Addr) (h h' : Heap) : Prop := ∀ b o, h.get? b = some o → ∃ sl, h'.get? b = some { o with slots := sl } ∧ (b ∉ fs → sl = o.slots)
theorem Slots.trans {fs : List Addr} {h h' h'' : Heap} (x : Slots fs h h') (y : Slots fs h' h'') : Slots fs h h'' := λb o e =>by
  refine X12 (λsl e1 k1 =>?_) (x b o e)
  refine X12 (λsl' e2 k2 =>?_) (y b _ e1)
  exact ⟨sl', e2, λhn =>(k2 hn).trans (k1 hn)⟩
theorem Slots.of {fs : List Addr} {h h' : Heap} (k : ∀ b o, h.get? b = some o → h'.get? b = some o) : Slots fs h h' := λb o e =>⟨o.slots, k b o e, λ_ =>rfl⟩
section
variable {X : Cx} {k : Nat} {hb : Heap} {Sb S S' : Store} {Γ : Sc} {env : Env} {σ σ' : St} {s s' : Shared} {A : Around} {E : Value → Shared → Prop}
noncomputable def FsOk (X : Cx) (h : Heap) (fs : List Addr) : Prop := ∀ b ∈ fs, X.h₁.get? b = none ∧ ∀ o, h.get? b = some o → ∃ es n, o.data = .dict es n
theorem FrOk.fs {h : Heap} : ∀ {l : List Env}, FrOk X h l → FsOk X h (l.filterMap (·.frame))
  | [], _, b, hb =>by simp at hb
  | env :: r, ⟨_, ⟨L, o, es, n, h2, h3, h4, h5⟩, h6⟩, b, hb =>by
    rw [List.filterMap_cons, h2] at hb
    rcases List.mem_cons.mp hb with q | q
    · subst q
      exact ⟨h3, λo' e =>by rw [h4] at e; replace e := Option.some.inj e; subst e; exact ⟨es, n, h5⟩⟩
    · exact FrOk.fs h6 b q
theorem FrOk.fun {h h' : Heap} (kp : ∀ b o, h.get? b = some o → h'.get? b = some o) : ∀ {l : List Env}, FrOk X h l → h'.FunFrames X.h₁ l
  | [], _ =>trivial
  | env :: r, ⟨h1, ⟨L, o, es, n, h2, h3, h4, h5⟩, h6⟩ =>⟨h1, ⟨L, o, h2, h3, kp _ _ h4, λvs q =>by rw [h5] at q; cases q⟩, FrOk.fun kp h6⟩
theorem Step.slots (O : CxOk X) (g : Gd X S s) {fs : List Addr} {h' : Heap} {t : Nat} (hf : FsOk X s.heap fs) (kp : Slots fs s.heap h') (ht : 0 < s.toks → 0 < t) : Step X S s S { s with heap := h', toks := t } :=by
  have ex : ∀ a o, s.heap.get? a = some o → (∀ es n, o.data ≠ .dict es n) → h'.get? a = some o := λa o e hn =>by
    refine X12 (λsl e1 k1 =>?_) (kp a o e)
    have : a ∉ fs := λhm =>by
      refine X21 (λes n hd =>?_) ((hf a hm).2 o e)
      exact hn es n hd
    rw [k1 this] at e1
    exact e1
  have ex1 : ∀ a o, X.h₁.get? a = some o → ∀ o', s.heap.get? a = some o' → h'.get? a = some o' := λa o e o' e' =>by
    refine X12 (λsl e1 k1 =>?_) (kp a o' e')
    have : a ∉ fs := λhm =>by rw [(hf a hm).1] at e; exact nos e
    rw [k1 this] at e1
    exact e1
  refine ⟨⟨λa o e =>?_, g.s0, λa o n e =>ex1 a o e o (g.base a o n e), g.isSeq, g.sP, g.p1, ?_, g.bare, ?_, g.os, ht g.tp⟩, .refl _, λa o n e =>?_, λ_ _ e =>.inl e⟩
  · refine X21 (fun vs n d => ?_) (g.isSeq a o e)
    exact ex a o (g.inn a o e) (λes n q =>by rw [d] at q; cases q)
  · refine X11 (fun o ho => ?_) g.pH
    refine X12 (λsl e1 u1 =>?_) (kp _ o ho)
    exact ⟨_, e1⟩
  · refine O.tabOk.keep g.tab fun a o e c => ?_
    rcases c with ⟨o', e'⟩ | ⟨⟨vs, hd⟩, _⟩
    · exact ex1 a o' e' o e
    · exact ex a o e (λes n q =>by rw [hd] at q; cases q)
  · refine X12 (fun sl e1 k1 => ?_) (kp a o e)
    refine ⟨sl, e1, λhn =>k1 λhm =>?_⟩
    refine X21 (λes n hd =>?_) ((hf a hm).2 o e)
    exact hn es n hd
structure Noted (fs : List Addr) (h₀ h : Heap) (e : Addr) (cls : String) : Prop where
  sl : Slots fs h₀ h
  new : h₀.get? e = none
  there : ∃ oe vs tb otb tvs, h.get? e = some oe ∧ oe.cls = .type cls ∧ oe.data = .fields vs ∧ vs[1]? = some (.ref tb) ∧ h₀.get? tb = none ∧ tb ≠ e ∧ h.get? tb = some otb ∧ otb.data = .fields tvs ∧ 3 < tvs.size
theorem noteFresh {outer : List Env} {cls : String} {h₀ : Heap} {e : Addr} {Q : Unit → Shared → Prop} (hfr : A.frames = some (env :: outer)) (hl : FrOk X h₀ (env :: outer)) {L : Addr} (hf : env.frame = some L)
    (hx : Heap.NewExc h₀ s.heap e cls) (h : ∀ h', Noted ((env :: outer).filterMap (·.frame)) h₀ h' e cls → Q () { s with heap := h' }) : wpAny X.M A (noteFrame (.ref e) env) Q E s :=by
  refine X23 (λoe t he hcls hd =>?_) hx.there
  have hfun := hl.fun hx.keeps
  unfold noteFrame
  simp only [hf]
  refine wpAny_bind (wpAny_field (x := .none) he hd rfl ?_)
  rw [if_neg (by decide)]
  refine wpAny_bind (wpAny_frameOf_fun hfr hfun hf λh₁ hs₁ =>?_)
  refine wpAny_bind (wpAny_entryPlaceOf λpl hpl =>?_)
  unfold EntryCells.newEntry newFields
  refine wpAny_bind (wpAny_newObj_type ?_ (hpl.sizeOk5 _ _ _ _ _))
  have hene : e ∉ (env :: outer).filterMap (·.frame) := λhm =>by
    obtain ⟨u2, o, ho, hnf⟩ := hfun.mem hm
    rw [he] at ho; replace ho := Option.some.inj ho; subst ho; exact hnf _ hd
  have he₁ : h₁.get? e = some oe := (hs₁.2.1 e hene).trans he
  have he₂ := Heap.get?_push_of_some (h := h₁) { cls := .type "traceback", dict := none, data := .fields ([Value.none, .ref L, .none, rawInt L, .none] ++ (if pl.isEmpty then List.replicate 6 Value.none else pl)).toArray } he₁
  refine wpAny_setField he₂ hd (by simp) (h _ ?_)
  have hTe : h₁.objs.size ≠ e := Nat.ne_of_gt (Heap.lt_size he₁)
  have hd₃ := Obj.data_mapFields hd (·.setIfInBounds 1 (Value.ref h₁.objs.size))
  have he₃ := Heap.get?_update_self (Obj.mapFields (·.setIfInBounds 1 (Value.ref h₁.objs.size))) he₂ (Obj.isFreed_of_fields hd₃)
  have hT₃ := (Heap.get?_update_other (h₁.push { cls := .type "traceback", dict := none, data := .fields ([Value.none, .ref L, .none, rawInt L, .none] ++ (if pl.isEmpty then List.replicate 6 Value.none else pl)).toArray })
    (Obj.mapFields (·.setIfInBounds 1 (Value.ref h₁.objs.size))) (Ne.symm hTe)).trans (Heap.get?_push_size h₁ rfl)
  refine ⟨λb o ho =>?_, hx.new, ?_⟩
  · have hbe : b ≠ e := fun q => by subst q; rw [hx.new] at ho; exact nos ho
    refine X11 (λsl e1 =>?_) (hs₁.2.2 b o (hx.keeps b o ho))
    refine ⟨sl, ?_, λhn =>?_⟩
    · rw [Heap.get?_update_other _ _ (Ne.symm hbe)]
      exact Heap.get?_push_of_some _ e1
    · have := (hs₁.2.1 b hn).trans (hx.keeps b o ho)
      rw [e1] at this
      injection this with this
      exact congrArg Obj.slots this
  · refine ⟨_, _, h₁.objs.size, _, _, he₃, (Obj.cls_mapFields _ _).trans hcls, hd₃, by simp, ?_, hTe, hT₃, rfl, by simp⟩
    cases q : h₀.get? h₁.objs.size with
    | none =>rfl
    | some o =>
      refine X11 (λsl e1 =>?_) (hs₁.2.2 _ o (hx.keeps _ o q))
      exact absurd (Heap.lt_size e1) (Nat.lt_irrefl _)
theorem landNoted {fs : List Addr} {cls : String} {h₀ : Heap} {e : Addr} {Q : Unit → Shared → Prop} (hx : Noted fs h₀ s.heap e cls) (h : ∀ h', Noted fs h₀ h' e cls → Q () { s with heap := h' }) : wpAny X.M A (setFlight (.ref e) none) Q E s :=by
  obtain ⟨oe, vs, tb, otb, tvs, he, hc, hd, h1, hn, hne, htb, hdt, h3⟩ := hx.there
  refine wpAny_setFlight_none he hd h1 htb hdt h3 (h _ ?_)
  have hdt' := Obj.data_mapFields hdt (·.setIfInBounds 3 Value.none)
  refine ⟨λb o ho =>?_, hx.new, oe, vs, tb, _, _, ?_, hc, hd, h1, hn, hne, Heap.get?_update_self _ htb (Obj.isFreed_of_fields hdt'), hdt', by simpa using h3⟩
  · have : b ≠ tb := fun q => by subst q; rw [hn] at ho; exact nos ho
    refine X12 (λsl e1 k1 =>?_) (hx.sl b o ho)
    exact ⟨sl, (Heap.get?_update_other _ _ (Ne.symm this)).trans e1, k1⟩
  · exact (Heap.get?_update_other _ _ hne).trans he
theorem caughtV (O : CxOk X) (R : RoomC X hb env A k) (T : At X hb Sb Γ env σ S s) {h' : Heap} {tk : Nat} {e : Addr} (hx : Heap.NewExc s.heap h' e "ValueError") (htk : 0 < s.toks → 0 < tk) {p pos : Pos} {b₀ : Stmt} {suite : List Stmt} {Q : Flow → Shared → Prop}
    (hk : Γ.names.lookup (Str.ofString "ValueError") = some .globalImplicit) (hg : GlobIs X (Str.ofString "ValueError") (.type "ValueError"))
    (h : ∀ s', At X hb Sb Γ env σ S s' → SStep X S s S s' → ∀ E', wpAny X.M (A.mark (some (.ref e))) (PySem.execs (b₀ :: suite) env) Q E' s') :
    wpAny X.M A (noteFrame (.ref e) env) (fun _ s₂ => wpAny X.M A (setFlight (.ref e) none) (fun _ s₃ => wpAny X.M A (handleBy (.ref e) env [.ExceptHandler (some (.Name (Str.ofString "ValueError") p)) none (b₀ :: suite) pos]) Q E s₃) E s₂) E { s with heap := h', toks := tk } := by
  refine X12 (λouter hfr hl =>?_) (R.frames T)
  have hfs := hl.fs
  refine noteFresh (s := { s with heap := h', toks := tk }) hfr hl R.own hx λh₁ n₁ =>?_
  refine landNoted (s := { s with heap := h₁, toks := tk }) n₁ λh₂ n₂ =>?_
  have st₂ : Step X S s S { s with heap := h₂, toks := tk } := Step.slots O T.gd hfs n₂.sl htk
  have T₂ := T.step st₂
  refine wpAny_handleBy_builtin (X := "ValueError") (T := "ValueError") (b := true) (by rw [isSubtype_type]; kernel_rfl) (by rw [isSubtype_type]; kernel_rfl) (by rw [isSubtype_type]; kernel_rfl) ?_
  refine evalGlob O T₂ hk hg (by decide) ⟨rfl, ?_, ?_⟩
  · obtain ⟨oe, vs, tb, otb, tvs, he, hc, u3⟩ := n₂.there
    exact ⟨oe, he, hc⟩
  · rw [if_pos rfl]
    refine landNoted (s := { s with heap := h₂, toks := tk }) n₂ λh₃ n₃ =>?_
    have st₃ : Step X S s S { s with heap := h₃, toks := tk } := Step.slots O T.gd hfs n₃.sl htk
    exact h _ (T.step st₃) st₃.sstep _
theorem tryC {body orelse : List Stmt} {h₀ : ExceptHandler} {hs : List ExceptHandler} {pos : Pos} {Q : Flow → Shared → Prop}
    (h : wpC X.M A (PySem.execs body env) (fun f s₁ => match f with | .next => wpC X.M A (PySem.execs orelse env) Q E s₁ | f => Q f s₁)
      (λe s₁ =>wpAny X.M A (noteFrame e env) (λ_ s₂ =>wpAny X.M A (setFlight e none) (λ_ s₃ =>wpAny X.M A (handleBy e env (h₀ :: hs)) Q E s₃) E s₂) E s₁) s) :
    wpC X.M A (exec (.Try body (h₀ :: hs) orelse [] pos) env) Q E s :=by
  rw [arm_exec_Try]
  refine wpC_bind (wpC_standAt ?_)
  unfold tryStmt
  simp only [List.isEmpty_nil, if_true, List.isEmpty_cons, Bool.false_and, Bool.false_eq_true, if_false]
  refine wpC_bind (wpC_attempt (wpC_mono h (λf s₁ h₁ =>?_) λe s₁ h₁ =>?_))
  · cases f <;> first | exact h₁ | exact wpC_pure h₁
  · exact wpC_bind (wpC_mono (wpC_any h₁) (λ_ _ h₂ =>wpC_bind (wpC_mono (wpC_any h₂) (λ_ _ h₃ =>wpC_any h₃) λ_ _ x =>x)) λ_ _ x =>x)
end
end Mine
end
section
namespace Mine
open PySem PySem.Spec PySem.Calls PyProof.Rows PySem.W
section
variable {prog : Program} {w : World} {A : Around} {E : Value → Shared → Prop} {s : Shared} {Q : Value → Shared → Prop}
theorem callInt2 {x : PySem.Str} {t v : Tok} {n : Int} (hn : PySem.intText? x = some n) (hl : x.length ≤ 640) (h : Q (.int n s.toks) { s with toks := s.toks + 1 }) : wpAny (model prog w) A (call (.type "int") [.str x t, .int 10 v]) Q E s := by
  have g : Gives (Builtin.«int.__new__» ⟨[.type "int", .str x t, .int 10 v], []⟩) (.int n) := by
    rw [intNew2, ← intNew1]
    exact KIN.gives_text hl hn
  exact callType_new F.called_int F.newNe_int (by kernel_rfl) (by kernel_rfl) (λobj =>F.args_object_init_3 obj _ _) F.entry_int_new g.meets (show (Made.int n).post _ s from ⟨rfl, h⟩)
end
noncomputable def asciiD (x : Str) : Bool := x.cps.toList.all (λc =>decide (c < 128)) && decide (x.length ≤ 640)
theorem asciiD_c {x : Str} (h : asciiD x = true) : (∀ c ∈ x.cps.toList, c < 128) ∧ x.length ≤ 640 :=by
  simp only [asciiD, Bool.and_eq_true, List.all_eq_true, decide_eq_true_eq] at h
  exact h
structure StagesAt (X : Cx) (D : Addr) (kvs : List (Str × Int)) : Prop where
  ex : ∃ o, X.h₁.get? D = some o ∧ D ≠ X.P ∧ ∀ h : Heap, h.get? D = some o → StrTab PySem.Challenge.pw_mr0260_01 X.w h D (kvs.map λp =>(PyData.str p.1, PyData.int p.2))
section
variable {X : Cx} {k : Nat} {hb : Heap} {Sb S S' : Store} {Γ : Sc} {env : Env} {σ σ' : St} {s s' : Shared} {A : Around} {E : Value → Shared → Prop}
theorem evalIntC {f : Str} {p pos : Pos} {e : Expr} {rest : List Expr} {Q : Value → Shared → Prop} (O : CxOk X) (T : At X hb Sb Γ env σ S s) (hk : Γ.names.lookup f = some .globalImplicit) (hg : GlobIs X f (.type "int")) (hd : f ≠ Str.ofString "__debug__")
    (he : starEach (e :: rest) env = (false, eval e env) :: starEach rest env) (hpl : ((backTo pos (starEach rest env)).any λx =>x.1) = false)
    (h : wpC X.M A (spliced (backTo pos (starEach (e :: rest) env))) (fun vs s₁ => wpC X.M A (call (.type "int") vs) Q E s₁) E s) : wpC X.M A (eval (.Call (.Name f p) (e :: rest) [] pos) env) Q E s := by
  refine wpC_eq (t' := do callWith pos (← eval (.Name f p) env) [] (backTo pos (starEach (e :: rest) env)) (backToKw pos (keywordEach [] env))) rfl ?_
  refine wpC_bind (wpC_any (evalGlob O T hk hg (by simpa using hd) ?_))
  rw [he] at h ⊢
  refine callWithC_type (by show (false || (backTo pos (starEach rest env)).any (·.1)) = false; rw [hpl]; rfl) (evalArgsC ?_)
  exact h
theorem tryIntOk (O : CxOk X) {v t : Str} {D : Addr} {kvs : List (Str × Int)} (hD : StagesAt X D kvs) {st : Str} (hst : GlobIs X st (.ref D)) (hki : Γ.names.lookup (Str.ofString "int") = some .globalImplicit) (hgi : GlobIs X (Str.ofString "int") (.type "int")) (hkv : Γ.names.lookup (Str.ofString "ValueError") = some .globalImplicit)
    (hgv : GlobIs X (Str.ofString "ValueError") (.type "ValueError")) (hks : Γ.names.lookup st = some .globalImplicit) (hvd : v ≠ Str.ofString "__debug__") (hsd : st ≠ Str.ofString "__debug__") (hv : Γ.mayStore v = true) (ht : Γ.mayStore t = true) {x : Str} (hx : σ.ρ.lookup v = some (.str x)) (ha : asciiD x = true)
    {p1 p2 p3 p4 p5 p6 p7 p8 p9 pa pb pc pd pe pf pg ph ap pos : Pos} {c1 c2 c3 : Nat} (hap : ap.endLine = pe.line)
    (h : (match PySem.intText? x with
      | some n =>σ' = ⟨setLoc t (.int 100) (setLoc v (.int n) σ.ρ), unown t (unown v σ.ω)⟩
      | none =>σ' = ⟨setLoc t (.int ((kvs.lookup x).getD 0)) σ.ρ, unown t σ.ω⟩)) :
    StOkC X k Γ (.Try [.Assign [.Name v p1] (.Call (.Name (Str.ofString "int") p2) [.Name v p3, .Constant (.int 10) c1 p4] [] p5) p6, .Assign [.Name t p7] (.Constant (.int 100) c2 p8) p9]
      [.ExceptHandler (some (.Name (Str.ofString "ValueError") pa)) none [.Assign [.Name t pb] (.Call (.Attribute (.Name st pc) (Str.ofString "get") ap) [.Name v pd, .Constant (.int 0) c3 pf] [] pe) pg] pos] [] [] ph) σ .next σ' := by
  intro hb Sb env S s A Q E R T hQ
  refine X02 (λhc hl =>?_) (asciiD_c ha)
  refine tryC ?_
  refine execsC_cons (assignNameC (evalIntC O T hki hgi (by decide) rfl rfl ?_) rfl)
  refine argsC_cons (wpC_any (evalVar T hx (by simpa using hvd) λvv r =>?_)) rfl
  obtain ⟨u, rfl⟩ := r.str_inv
  refine argsC_cons (wpC_any (PySem.wpAny_Constant_int (wpC_any (args_nil ?_)))) rfl
  cases hn : PySem.intText? x with
  | some n =>
    rw [hn] at h
    subst h
    refine wpC_any (callInt2 hn hl (wpC_any ?_))
    have T₁ := T.toks (s.toks + 1 + 1)
    refine storeVar O.tabOk T₁ hv (.int n _) (sets_of σ v (.int n)) λs₁ T₂ nk₁ =>?_
    refine execsC_cons (wpC_any (PySem.wpAny_Assign_Name (PySem.wpAny_Constant_int ?_) rfl))
    have T₃ := T₂.toks (s₁.toks + 1)
    refine storeVar O.tabOk T₃ ht (.int 100 _) (sets_of _ t (.int 100)) λs₂ T₄ nk₂ =>execsC_nil (execsC_nil ?_)
    refine hQ _ _ T₄ ?_
    exact ((Step.mono (t := s.toks + 1 + 1) T.gd).sstep.trans nk₁.sstep).trans ((Step.mono (t := s₁.toks + 1) T₂.gd).sstep.trans nk₂.sstep)
  | none =>
    rw [hn] at h
    subst h
    refine callIntRefused (.inr ⟨_, rfl⟩) R.room.handled hl hc hn λh' tk e htk hx' =>?_
    have T₁ := T.toks (s.toks + 1)
    refine caughtV (s := { s with toks := s.toks + 1 }) O R T₁ hx' htk hkv hgv λs' T' ss E' =>?_
    refine X13 (λo ho hDP htab =>?_) hD.ex
    have tab := htab s'.heap (T'.gd.base D o hDP ho)
    refine wpAny_execs_cons (PySem.wpAny_Assign_Name (MethodCall_ (evalGlob O T' hks hst (by simpa using hsd) ?_) (method_eq rfl rfl (by simp) hap)) rfl)
    refine getMethod_strTab_get tab ?_
    refine callWith_method1 ?_ rfl rfl
    refine args_cons (evalVar T' hx (by simpa using hvd) λva r₁ =>?_) rfl
    obtain ⟨t2, rfl⟩ := r₁.str_inv
    refine args_cons (PySem.wpAny_Constant_int (args_nil ?_)) rfl
    refine call_get2_strTab (htab _ (T'.gd.base D o hDP ho)) (PyProof.V.Flat.int _ _) λv₂ fv =>?_
    rw [lookup_map] at fv
    have e' : ((kvs.lookup x).map PyData.int).getD (.int 0) = .int ((kvs.lookup x).getD 0) :=by cases kvs.lookup x <;> rfl
    rw [e'] at fv
    obtain ⟨u', rfl⟩ := fv.int_inv
    have T₂ := T'.toks (s'.toks + 1 + 1)
    refine storeVar O.tabOk T₂ ht (.int _ _) (sets_of σ t (.int ((kvs.lookup x).getD 0))) λs₂ T₃ nk =>wpAny_execs_nil ?_
    exact hQ _ _ T₃ (((Step.mono (t := s.toks + 1) T.gd).sstep.trans ss).trans ((Step.mono (t := s'.toks + 1 + 1) T'.gd).sstep.trans nk.sstep))
end
end Mine
end
section
namespace Mine
open PySem PySem.Spec PySem.Calls PyProof.Rows PySem.W PySem.Builtin PySem.Builtin.Str
section
variable {X : Cx} {k : Nat} {V : EvT} {G : Gl} {hb : Heap} {Sb S S' : Store} {Γ : Sc} {env : Env} {σ σ' : St} {s s' : Shared} {A : Around} {E : Value → Shared → Prop}
theorem splitMade {x y : Str} {t u : Tok} (g : Gd X S s) (hy : y.length ≠ 0) (hx : x.length ≤ 100000) (hn : (Txt.split x y).length ≤ 100000) {Q : Value → Shared → Prop}
    (h : ∀ vals tk, (0 < s.toks → 0 < tk) → RdAll S vals ((Txt.split x y).map PyData.str) → Q (.ref s.heap.objs.size) { s with heap := s.heap.push (listO vals.toArray 0), toks := tk }) : wpAny X.M A (call (.builtin "str.split") [.str x t, .str y u]) Q E s := by
  have hy' : (y.length == 0) = false :=by simpa using hy
  have sl : (100000 : Nat) ≤ sizeLine :=by decide
  have alone : ∀ {Q' : Result → Shared → Prop}, (Txt.split x y) = [x] → (∀ vals tk, (0 < s.toks → 0 < tk) → RdAll S vals ((Txt.split x y).map PyData.str) → Q' (.ok (.ret (.ref s.heap.objs.size))) { s with heap := s.heap.push (listO vals.toArray 0), toks := tk }) → listOfItself x t A Q' s :=by
    intro Q' e h
    refine h [Value.str x t] s.toks id ?_
    rw [e]
    exact .cons (.str _ _) .nil
  cases h1 : (decide (x.length < y.length) || decide (strKind x < strKind y)) with
  | true =>
    have e : Txt.split x y = [x] :=by unfold Txt.split; rw [if_pos h1]
    exact call_meets PySem.F.slot_str_split (typeIs_str _ _ _) PySem.F.entry_str_split (PySem.F.args_str_split_2 _ _) (meets_str_split_cannot_occur x y t u h1) (alone e λvals tk htk r =>h vals tk htk r)
  | false =>
    have n1 : ¬ (decide (x.length < y.length) || decide (strKind x < strKind y)) = true :=by rw [h1]; decide
    cases hf : (occurrences x y 0 x.length (x.length + 1)).isEmpty with
    | true =>
      have e : Txt.split x y = [x] :=by unfold Txt.split; rw [if_neg n1, if_pos hf]
      exact call_meets PySem.F.slot_str_split (typeIs_str _ _ _) PySem.F.entry_str_split (PySem.F.args_str_split_2 _ _) (meets_str_split_not_found x y t u h1 hy' hf) (alone e λvals tk htk r =>h vals tk htk r)
    | false =>
      have n2 : ¬ (occurrences x y 0 x.length (x.length + 1)).isEmpty = true :=by rw [hf]; decide
      have e : Txt.split x y = partsBetween x (occurrences x y 0 x.length (x.length + 1)) y.length :=by unfold Txt.split; rw [if_neg n1, if_neg n2]
      refine call_meets PySem.F.slot_str_split (typeIs_str _ _ _) PySem.F.entry_str_split (PySem.F.args_str_split_2 _ _) (meets_str_split_sep x y t u h1 hy' hf (by omega) (by rw [← e]; omega)) ?_
      rw [e] at h
      exact h _ _ (λh =>Nat.lt_of_lt_of_le h (Nat.le_add_right _ _)) (strsFrom_rd _ _)
theorem splitOwnOk (O : CxOk X) (VO : VOk X k V) {x m : Str} {o : Expr} {y z : Str} {c : Nat} {p ap pos q pc : Pos} (hs : superCall o = false) (he : ap.endLine = pos.line) (hm : m = Str.ofString "split") (h1 : V.ev Γ o σ.ρ = some (.str z)) (hy : y.length ≠ 0) (hz : z.length ≤ 100000) (hn : (Txt.split z y).length ≤ 100000)
    (hx : Γ.mayStore x = true) (hω : σ.ω = none) (hl : σ.ρ.lookup x = none) :
    StOk X k Γ (.Assign [.Name x p] (.Call (.Attribute o m ap) [.Constant (.str y) c pc] [] pos) q) σ .next (σ.setOwn x ((Txt.split z y).map PyData.str)) :=by
  intro hb Sb env S s A Q E R T hQ
  subst hm
  refine PySem.wpAny_Assign_Name (MethodCall_ (VO.ev h1 R T λv S₁ s₁ st₁ r₁ =>?_) (method_eq hs rfl (by simp) he)) rfl
  refine strMeth PySem.F.slot_str_split PySem.F.type_str_split r₁ ?_
  refine callWith_method1 (args_cons (PySem.wpAny_Constant_str (args_nil ?_)) rfl) rfl rfl
  obtain ⟨t, rfl⟩ := r₁.str_inv
  have st₂ := st₁.toks (s₁.toks + 1)
  refine splitMade (s := { s₁ with toks := s₁.toks + 1 }) st₂.gd hy hz hn λvals tk htk r =>?_
  have st₃ := Step.push O st₂.gd (listO vals.toArray 0) tk htk
  have T₃ := (T.step st₂).step st₃
  refine storeOwn O.tabOk T₃ hx hω hl (Heap.get?_push_size _ rfl) st₂.gd.fresh ((T.step st₂).lo _ (get?_size _)) r λs' T' nk =>hQ _ _ T' ((st₂.trans st₃).sstep.trans nk.sstep)
theorem setItem0 {l : Addr} {vs : Array Value} {n : Nat} {k : Int} {t : Tok} {v : Value} {Q : Unit → Shared → Prop} (ho : s.heap.get? l = some (listO vs n)) (h0 : 0 ≤ k) (hfit : k < 2 ^ 63) (hn : k < vs.size)
    (hQ : Q () { s with heap := s.heap.update l (Obj.mapSeq λa =>a.setIfInBounds k.toNat v) }) : wpAny X.M A (setItem (.ref l) (.int k t) v) Q E s :=by
  have hl : s.heap.IsList l vs := ⟨_, ho, rfl, n, rfl⟩
  unfold setItem
  try with_reducible refine wpAny_holding ?_
  first | refine wpAny_bind (wpAny_pure ?_) | skip
  refine wpAny_bind (wpAny_sequenceKey hl.typeIs (by decide) ?_)
  refine wpAny_bind (wpAny_callSpecial?_slot (name := Str.ofString "__setitem__") hl.typeIs slot_list_setitem
    (wpAny_call_entry slot_list_setitem hl.typeIs entry_list_setitem ?_ (args_list_setitem _ _ _)))
  show wpAny _ _ (Builtin.List.listSubscript? (.int k t) >>= _) _ _ s
  refine wpAny_bind (wpAny_listSubscript_int (fitsIndex_of h0 hfit) ?_)
  clear hfit
  obtain ⟨j, rfl⟩ := Int.eq_ofNat_of_zero_le h0
  have hj : j < vs.size :=by omega
  have hx' : vs[j]? = some vs[j] := Array.getElem?_eq_getElem hj
  show wpAny _ _ ((seqItemAt l j >>= λr =>pure (r.map (j, ·))) >>= _) _ _ s
  refine wpAny_bind (wpAny_bind (wpAny_seqItemAt ho rfl (wpAny_pure ?_)))
  rw [hx']
  show wpAny _ _ (setSeqItemAt l j v >>= _) _ _ s
  refine wpAny_bind (wpAny_setSeqItemAt ho rfl ?_)
  first
    | exact wpAny_bind (wpAny_pure (wpAny_pure ⟨.none, rfl, wpAny_pure hQ⟩))
    | exact wpAny_pure ⟨.none, rfl, wpAny_pure hQ⟩
theorem mayStore_look {x : Str} (h : Γ.mayStore x = true) : Γ.names.lookup x = some .local ∨ Γ.names.lookup x = some .cell := mayStoreC .inl (λh _ =>.inr h) h
theorem evName {n : Nat} {x : Str} {p : Pos} {ρ : Loc} (h : Γ.mayStore x = true) (hd : x ≠ Str.ofString "__debug__") : (evN G (n + 1)).ev Γ (.Name x p) ρ = ρ.lookup x := by
  show (if x = Str.ofString "__debug__" then none else (Γ.names.lookup x).bind fun k => if k = .local ∨ k = .cell then ρ.lookup x else if k = .globalImplicit then G.glob x else none) = _
  rw [if_neg hd]
  exact (mayStore_look h).elim (λe =>by rw [e]; rfl) λe =>by rw [e]; rfl
theorem aliasOk (O : CxOk X) (GO : GlOk X k G) {l mj rl : Str} (hki : Γ.names.lookup (Str.ofString "int") = some .globalImplicit) (hgi : GlobIs X (Str.ofString "int") (.type "int")) (hkv : Γ.names.lookup (Str.ofString "ValueError") = some .globalImplicit)
    (hgv : GlobIs X (Str.ofString "ValueError") (.type "ValueError")) (hks : Γ.names.lookup (Str.ofString "str") = some .globalImplicit) (hgs : GlobIs X (Str.ofString "str") (.type "str"))
    (hld : l ≠ Str.ofString "__debug__") (hmd : mj ≠ Str.ofString "__debug__") (hm : Γ.mayStore mj = true) (hr : Γ.mayStore rl = true) (hlm : l ≠ mj) (hlr : l ≠ rl)
    {x : Str} {rest : List PyData} (hω : σ.ω = some (l, .str x :: rest)) (hlen : rest.length ≤ 100000) (ha : asciiD x = true)
    {p1 p2 p3 p4 p5 p6 p7 p8 p9 pa pb pc pd pe pf pg ph pi pj pk pl pm pn po pp pq pr ps pt ap pos : Pos} {c1 c2 c3 : Nat} {nE : Nat}
    (h : (match PySem.intText? x with
      | some n => (n - 3).natAbs.log2 < 1920 ∧ ∃ d σ₂, (evN G nE).ev Γ (.Call (.Attribute (.Constant (.str (Str.ofString ".")) c3 p1) (Str.ofString "join") ap) [.Name l p2] [] p3) ((l, .list (.str (Str.ofString (toString (n - 3))) :: rest)) :: setLoc mj (.int (n - 3)) (setLoc mj (.int n) σ.ρ)) = some d ∧
          σ₂ = ⟨setLoc rl d ((l, .list (.str (Str.ofString (toString (n - 3))) :: rest)) :: setLoc mj (.int (n - 3)) (setLoc mj (.int n) σ.ρ)), none⟩ ∧ σ' = σ₂
      | none =>σ' = σ)) :
    StOkC X k Γ (.If (.Name l p4) [.Try [.Assign [.Name mj p5] (.Call (.Name (Str.ofString "int") p6) [.Subscript (.Name l p7) (.Constant (.int 0) c1 p8) p9] [] pa) pb]
      [.ExceptHandler (some (.Name (Str.ofString "ValueError") pc)) none [.Pass pd] pe]
      [.Assign [.Name mj pf] (.BinOp (.Name mj pg) .Sub (.Constant (.int 3) c2 ph) pi) pj, .Assign [.Subscript (.Name l pk) (.Constant (.int 0) c1 pl) pm] (.Call (.Name (Str.ofString "str") pn) [.Name mj po] [] pp) pq,
        .Assign [.Name rl pr] (.Call (.Attribute (.Constant (.str (Str.ofString ".")) c3 p1) (Str.ofString "join") ap) [.Name l p2] [] p3) ps] [] pt] [] pos) σ .next σ' := by
  intro hb Sb env S s A Q E R T hQ
  refine X02 (λhc hl =>?_) (asciiD_c ha)
  obtain ⟨r, vs, n, hv, hg, hS, hr', hall⟩ := T.own l _ hω
  have e1 := hall.length
  simp only [Array.length_toList, List.length_cons] at e1
  have isL : ∀ {s' : Shared}, s'.heap.get? r = some (listO vs n) → s'.heap.IsList r vs := λe =>⟨_, e, rfl, n, rfl⟩
  have hfit : ∀ j : Nat, j ≤ 100001 → ((j : Int) < 2 ^ 63) := λj hj =>by omega
  refine ifC (wpC_any (isTrue_plain (PySem.wpAny_Name (loadVar T hv ?_) (by simpa using hld)) rfl))
  refine wpAny_truthy_list (isL hg) (hfit _ (by omega)) ?_
  have hne : (!vs.isEmpty) = true :=by
    cases q : vs.isEmpty with
    | false =>rfl
    | true =>rw [Array.isEmpty_iff] at q; rw [q] at e1; simp at e1
  rw [hne, if_pos rfl]
  have T₁ := T.toks (s.toks + 1 + 1)
  refine execsC_cons (tryC ?_)
  refine execsC_cons (assignNameC (evalIntC O T₁ hki hgi (by decide) rfl rfl ?_) rfl)
  refine X23 (λv0 vr hvs rv0 rvr =>?_) hall.cons_inv
  obtain ⟨u, rfl⟩ := rv0.str_inv
  have hget0 : vs[0]? = some (.str x u) :=by
    have : vs.toList[0]? = some (.str x u) :=by rw [hvs]; rfl
    simpa using this
  refine argsC_cons (wpC_any (Subscript_ (PySem.wpAny_Name (loadVar T₁ hv (PySem.wpAny_Constant_int ?_)) (by simpa using hld)))) rfl
  refine PyProof.Rows.tail_any (isL hg).typeIs slot_list_getitem.lookup (wpAny_getItem_list (isL hg) (by decide) (by decide) (by simpa using hget0) ?_) rfl
  refine wpC_any (args_nil ?_)
  cases hn : PySem.intText? x with
  | none =>
    rw [hn] at h
    subst h
    refine callIntRefused (.inl rfl) R.room.handled hl hc hn λh' tk e htk hx' =>?_
    have T₂ := T.toks (s.toks + 1 + 1 + 1)
    refine caughtV (s := { s with toks := s.toks + 1 + 1 + 1 }) O R T₂ hx' htk hkv hgv λs' T' ss E' =>?_
    refine wpAny_execs_cons (wpAny_bind (wpAny_standAt (wpAny_pure (wpAny_execs_nil (execsC_nil ?_)))))
    exact hQ _ _ T' ((Step.mono (t := s.toks + 1 + 1 + 1) T.gd).sstep.trans ss)
  | some i =>
    rw [hn] at h
    obtain ⟨hlog, d, σ₂, hev, hσ₂, rfl⟩ := h
    refine wpC_any (KIN.call_text hn hl (wpC_any ?_))
    have T₂ := T.toks (s.toks + 1 + 1 + 1 + 1)
    have un : ∀ {ρ : Loc} {y : Str} {o}, o = some (l, (.str x :: rest : List PyData)) → l ≠ y → unown y o = some (l, .str x :: rest) := λ{ρ y o} e hne =>by
      subst e; show (if l = y then none else some (l, _)) = _; rw [if_neg hne]
    refine storeVar O.tabOk T₂ hm (.int i _) (sets_of σ mj (.int i)) λs₁ T₃ nk₁ =>execsC_nil ?_
    have l1 : (⟨setLoc mj (.int i) σ.ρ, unown mj σ.ω⟩ : St).ρ.lookup mj = some (.int i) :=by
      show (setLoc mj (.int i) σ.ρ).lookup mj = _
      rw [setLoc_lookup, if_pos rfl]
    have a1 : (evN G 2).ev Γ (.BinOp (.Name mj pg) .Sub (.Constant (.int 3) c2 ph) pi) (setLoc mj (.int i) σ.ρ) = some (.int (i - 3)) :=by
      show (((evN G 1).ev Γ (.Name mj pg) (setLoc mj (.int i) σ.ρ)).bind λa =>((evN G 1).ev Γ (.Constant (.int 3) c2 ph) (setLoc mj (.int i) σ.ρ)).bind λb =>binD .Sub a b) = _
      rw [evName hm hmd, l1]; rfl
    refine execsC_cons (wpC_any (assignNameOk O GO a1 hm (sets_of _ mj (.int (i - 3))) R.room T₃ λS₄ s₄ T₄ ss₄ =>?_))
    have hω₄ : (⟨setLoc mj (.int (i - 3)) (setLoc mj (.int i) σ.ρ), unown mj (unown mj σ.ω)⟩ : St).ω = some (l, .str x :: rest) := un (ρ := σ.ρ) (un (ρ := σ.ρ) hω hlm) hlm
    have l4 : (⟨setLoc mj (.int (i - 3)) (setLoc mj (.int i) σ.ρ), unown mj (unown mj σ.ω)⟩ : St).ρ.lookup mj = some (.int (i - 3)) :=by
      show (setLoc mj _ _).lookup mj = _
      rw [setLoc_lookup, if_pos rfl]
    refine execsC_cons (wpC_any (PySem.wpAny_Assign_Subscript (Call_ (evalGlob O T₄ hks hgs (by decide) ?_) rfl) rfl))
    refine PyProof.Rows.callWith_type1 (args_cons (evalVar T₄ l4 (by simpa using hmd) λva ra =>args_nil ?_) rfl) rfl rfl
    obtain ⟨ta, rfl⟩ := ra.int_inv
    refine P.str_of_int hlog ?_
    have T₅ := T₄.toks (s₄.toks + 1)
    obtain ⟨r₅, vs₅, n₅, hv₅, hg₅, hS₅, hr₅, hall₅⟩ := T₅.own l _ hω₄
    have e5 := hall₅.length
    simp only [Array.length_toList, List.length_cons] at e5
    refine PySem.wpAny_Name (loadVar T₅ hv₅ (PySem.wpAny_Constant_int ?_)) (by simpa using hld)
    have T₆ := T₄.toks (s₄.toks + 1 + 1)
    refine setItem0 (s := { s₄ with toks := s₄.toks + 1 + 1 }) hg₅ (by decide) (by decide) (by omega) ?_
    refine X23 (λw0 wr hws rw0 rwr =>?_) hall₅.cons_inv
    have hnew : RdAll S₄ (vs₅.setIfInBounds 0 (.str (Str.ofString (toString (i - 3))) s₄.toks)).toList (.str (Str.ofString (toString (i - 3))) :: rest) :=by
      rw [Array.toList_setIfInBounds, hws]
      exact .cons (.str _ _) rwr
    refine X02 (λT₇ ss₇ =>?_) (ownUpdate O T₆ hω₄ hv₅ hg₅ hS₅ hr₅ (f := λa =>a.setIfInBounds 0 (.str (Str.ofString (toString (i - 3))) s₄.toks)) (t := s₄.toks + 1 + 1) id hnew)
    refine X12 (λS₈ ss₈ T₈ =>?_) T₇.freeze'
    refine execsC_cons (wpC_any (assignNameOk (σ' := σ') O GO hev hr ?_ R.room T₈ λS₉ s₉ T₉ ss₉ =>execsC_nil (execsC_nil (hQ _ _ T₉ ?_))))
    · rw [hσ₂]; exact sets_of _ rl d
    · exact ((((Step.mono (t := s.toks + 1 + 1 + 1 + 1) T.gd).sstep.trans nk₁.sstep).trans ss₄).trans ((Step.mono (t := s₄.toks + 1 + 1) T₄.gd).sstep.trans (ss₇.trans ss₈))).trans ss₉
end
end Mine
end
section
namespace Mine
open PySem PySem.Spec PySem.Calls PyProof.Rows PySem.W
open AutoSeq1 (wpAny_loadPart')
theorem slot_map_init : Slot "map" "__init__" "object.__init__" :=
  .of (owner := "object") (n := "__init__") (by rw [typeLookup_type, builtinLookup_eq_fast]; kernel_rfl) (by decide +kernel) (by decide +kernel) (by decide +kernel)
    (by first | exact .inl (by decide +kernel) | exact .inr (by decide +kernel)) (by rw [isSubtype_type]; kernel_rfl)
theorem slot_map_iter : Slot "map" "__iter__" "map.__iter__" :=
  .of (owner := "map") (n := "__iter__") (by rw [typeLookup_type, builtinLookup_eq_fast]; kernel_rfl) (by decide +kernel) (by decide +kernel) (by decide +kernel)
    (by first | exact .inl (by decide +kernel) | exact .inr (by decide +kernel)) (by rw [isSubtype_type]; kernel_rfl)
theorem slot_map_next : Slot "map" "__next__" "map.__next__" :=
  .of (owner := "map") (n := "__next__") (by rw [typeLookup_type, builtinLookup_eq_fast]; kernel_rfl) (by decide +kernel) (by decide +kernel) (by decide +kernel)
    (by first | exact .inl (by decide +kernel) | exact .inr (by decide +kernel)) (by rw [isSubtype_type]; kernel_rfl)
theorem entry_map_iter : entryFor table "map.__iter__" = some Builtin.«dict_keyiterator.__iter__» :=
  entryFor_alias (id' := "dict_keyiterator.__iter__") (by kernel_rfl) (by first | rfl | decide +kernel | (unfold String.splitOn; simp +decide [String.splitOnAux])) (by decide +kernel) (by kernel_rfl)
theorem entry_map_next : entryFor table "map.__next__" = some Builtin.«map.__next__» := entryFor_of_tree (by kernel_rfl)
theorem entry_map_new : entryFor table "map.__new__" = some Builtin.«map.__new__» := entryFor_of_tree (by kernel_rfl)
theorem args_map_iter_1 (a : Value) : argsOk "map.__iter__" ⟨[a], []⟩ := by unfold argsOk; kernel_rfl
theorem args_map_next_1 (a : Value) : argsOk "map.__next__" ⟨[a], []⟩ := by unfold argsOk; kernel_rfl
theorem mro_map : mroOf (.type "map") = pure [.type "map", .type "object"] := by rw [mroOf_type]; kernel_rfl
theorem lookup_map_new : typeLookup (.type "map") "__new__" = pure (some (.builtin "map.__new__")) := by rw [typeLookup_type, builtinLookup_eq_fast]; kernel_rfl
theorem sub_map : isSubtype (.type "map") (.type "map") = pure true := by rw [isSubtype_type]; kernel_rfl
theorem called_map : TypeCalled "map" "map.__new__" "object.__init__" :=
  ⟨by decide +kernel, by decide +kernel, ⟨_, _, mro_map⟩, madeBy_type mro_map lookup_map_new (by decide +kernel), by decide +kernel, sub_map, slot_map_init⟩
theorem typeCall_map_2 (a b : Value) : checkTypeCall "map" ⟨[a, b], []⟩ = pure () := by kernel_rfl
theorem newCall_map_2 (a b : Value) : checkBuiltinCall "map.__new__" ⟨[.type "map", a, b], []⟩ = pure () := by kernel_rfl
theorem slot_filter_init : Slot "filter" "__init__" "object.__init__" :=
  .of (owner := "object") (n := "__init__") (by rw [typeLookup_type, builtinLookup_eq_fast]; kernel_rfl) (by decide +kernel) (by decide +kernel) (by decide +kernel)
    (by first | exact .inl (by decide +kernel) | exact .inr (by decide +kernel)) (by rw [isSubtype_type]; kernel_rfl)
theorem slot_filter_iter : Slot "filter" "__iter__" "filter.__iter__" :=
  .of (owner := "filter") (n := "__iter__") (by rw [typeLookup_type, builtinLookup_eq_fast]; kernel_rfl) (by decide +kernel) (by decide +kernel) (by decide +kernel)
    (by first | exact .inl (by decide +kernel) | exact .inr (by decide +kernel)) (by rw [isSubtype_type]; kernel_rfl)
theorem slot_filter_next : Slot "filter" "__next__" "filter.__next__" :=
  .of (owner := "filter") (n := "__next__") (by rw [typeLookup_type, builtinLookup_eq_fast]; kernel_rfl) (by decide +kernel) (by decide +kernel) (by decide +kernel)
    (by first | exact .inl (by decide +kernel) | exact .inr (by decide +kernel)) (by rw [isSubtype_type]; kernel_rfl)
theorem entry_filter_iter : entryFor table "filter.__iter__" = some Builtin.«dict_keyiterator.__iter__» :=
  entryFor_alias (id' := "dict_keyiterator.__iter__") (by kernel_rfl) (by first | rfl | decide +kernel | (unfold String.splitOn; simp +decide [String.splitOnAux])) (by decide +kernel) (by kernel_rfl)
theorem entry_filter_next : entryFor table "filter.__next__" = some Builtin.«filter.__next__» := entryFor_of_tree (by kernel_rfl)
theorem entry_filter_new : entryFor table "filter.__new__" = some Builtin.«filter.__new__» := entryFor_of_tree (by kernel_rfl)
theorem args_filter_iter_1 (a : Value) : argsOk "filter.__iter__" ⟨[a], []⟩ := by unfold argsOk; kernel_rfl
theorem args_filter_next_1 (a : Value) : argsOk "filter.__next__" ⟨[a], []⟩ := by unfold argsOk; kernel_rfl
theorem mro_filter : mroOf (.type "filter") = pure [.type "filter", .type "object"] := by rw [mroOf_type]; kernel_rfl
theorem lookup_filter_new : typeLookup (.type "filter") "__new__" = pure (some (.builtin "filter.__new__")) := by rw [typeLookup_type, builtinLookup_eq_fast]; kernel_rfl
theorem sub_filter : isSubtype (.type "filter") (.type "filter") = pure true := by rw [isSubtype_type]; kernel_rfl
theorem called_filter : TypeCalled "filter" "filter.__new__" "object.__init__" :=
  ⟨by decide +kernel, by decide +kernel, ⟨_, _, mro_filter⟩, madeBy_type mro_filter lookup_filter_new (by decide +kernel), by decide +kernel, sub_filter, slot_filter_init⟩
theorem typeCall_filter_2 (a b : Value) : checkTypeCall "filter" ⟨[a, b], []⟩ = pure () := by kernel_rfl
theorem newCall_filter_2 (a b : Value) : checkBuiltinCall "filter.__new__" ⟨[.type "filter", a, b], []⟩ = pure () := by kernel_rfl
section
variable {prog : Program} {w : World} {A : Around} {E : Value → Shared → Prop} {s : Shared}
noncomputable def mapO (tup : Addr) (f : Value) : Obj := { cls := .type "map", data := .fields #[.ref tup, f] }
noncomputable def filtO (f : Value) (it : Addr) : Obj := { cls := .type "filter", data := .fields #[f, .ref it] }
theorem wpAny_pyIter_map {m t : Addr} {f : Value} {Q : Value → Shared → Prop} (hz : s.heap.get? m = some (mapO t f)) (h : Q (.ref m) s) : wpAny (model prog w) A (pyIter (.ref m)) Q E s :=by
  have hT : s.TypeIs (.ref m) "map" := ⟨_, hz, rfl⟩
  refine wpAny_pyIter_slot hT slot_map_iter (wpAny_call_entry slot_map_iter hT entry_map_iter ?_ (args_map_iter_1 _))
  show wpAny _ _ (ret (.ref m)) _ _ s
  exact wpAny_pure ⟨_, rfl, "map", _, hT, slot_map_next.lookup, h⟩
theorem wpAny_pyIter_filter {m i : Addr} {f : Value} {Q : Value → Shared → Prop} (hz : s.heap.get? m = some (filtO f i)) (h : Q (.ref m) s) : wpAny (model prog w) A (pyIter (.ref m)) Q E s :=by
  have hT : s.TypeIs (.ref m) "filter" := ⟨_, hz, rfl⟩
  refine wpAny_pyIter_slot hT slot_filter_iter (wpAny_call_entry slot_filter_iter hT entry_filter_iter ?_ (args_filter_iter_1 _))
  show wpAny _ _ (ret (.ref m)) _ _ s
  exact wpAny_pure ⟨_, rfl, "filter", _, hT, slot_filter_next.lookup, h⟩
theorem meets_map_list (f : Value) (l : Addr) (items : Array Value) (n : Nat) :
    Meets (Builtin.«map.__new__» ⟨[.type "map", f, .ref l], []⟩) (fun _ R s => s.heap.get? l = some (listO items n) ∧
      R (.ok (.ret (.ref ((s.heap.push { cls := .type "list_iterator", data := .fields #[.ref l, .int 0 0] }).push (tupO #[.ref s.heap.objs.size] 0)).objs.size)))
        { s with heap := ((s.heap.push { cls := .type "list_iterator", data := .fields #[.ref l, .int 0 0] }).push (tupO #[.ref s.heap.objs.size] 0)).push (mapO (s.heap.push { cls := .type "list_iterator", data := .fields #[.ref l, .int 0 0] }).objs.size f) }) :=
  .of_wp λprog w A R s h =>by
    obtain ⟨hp, g, d, tk, os⟩ := s; obtain ⟨hl, h⟩ := h
    have hsub := sub_map
    have hL : Heap.IsList (Shared.heap ⟨hp, g, d, tk, os⟩) l items := ⟨_, hl, rfl, n, rfl⟩
    wp_walk using wpAny_pyIter_list hL
    exact ⟨_, rfl, h⟩
theorem meets_map_map (f : Value) (m t : Addr) (f' : Value) :
    Meets (Builtin.«map.__new__» ⟨[.type "map", f, .ref m], []⟩) (fun _ R s => s.heap.get? m = some (mapO t f') ∧
      R (.ok (.ret (.ref (s.heap.push (tupO #[.ref m] 0)).objs.size)))
        { s with heap := (s.heap.push (tupO #[.ref m] 0)).push (mapO s.heap.objs.size f) }) :=
  .of_wp λprog w A R s h =>by
    obtain ⟨hp, g, d, tk, os⟩ := s; obtain ⟨hl, h⟩ := h
    have hsub := sub_map
    wp_walk using wpAny_pyIter_map hl
    exact ⟨_, rfl, h⟩
theorem meets_filter_tuple (f : Value) (l : Addr) (items : Array Value) (n : Nat) :
    Meets (Builtin.«filter.__new__» ⟨[.type "filter", f, .ref l], []⟩) (fun _ R s => s.heap.get? l = some (tupO items n) ∧
      R (.ok (.ret (.ref (s.heap.push { cls := .type "tuple_iterator", data := .fields #[.ref l, .int 0 0] }).objs.size)))
        { s with heap := (s.heap.push { cls := .type "tuple_iterator", data := .fields #[.ref l, .int 0 0] }).push (filtO f s.heap.objs.size) }) :=
  .of_wp λprog w A R s h =>by
    obtain ⟨hp, g, d, tk, os⟩ := s; obtain ⟨hl, h⟩ := h
    have hsub := sub_filter
    have hL : Heap.IsTuple (Shared.heap ⟨hp, g, d, tk, os⟩) l items := ⟨_, hl, rfl, n, rfl⟩
    wp_walk using wpAny_pyIter_tuple hL
    exact ⟨_, rfl, h⟩
end
end Mine
end
section
namespace Mine
open PySem PySem.Spec PySem.Calls PyProof.Rows PySem.W
section
variable {prog : Program} {w : World} {A : Around} {E : Value → Shared → Prop} {s : Shared} {R : Result → Shared → Prop}
theorem codeC_call_builtin' {id : String} {args : Args} {b : Builtin} (hq : plainId id = true) (hb : entryFor table id = some b)
    (h : wpAny (model prog w) A.in1 (checkBuiltinCall id args) (fun _ s₁ => wpC (model prog w) A.in1 (b args)
      (λfin s' =>match fin with | .done f =>R (.ok f) s' | .again c' =>c'.quiet = true ∧ codeC (model prog w) A c' R s') (λe s' =>R (.error e) s') s₁) (λe s' =>R (.error e) s') s) : codeC (model prog w) A (.call (.builtin id) args) R s :=by
  refine codeC_of_tree ?_
  show wpC _ A.in1 (do checkBuiltinCall id args; again (.builtin id args)) _ _ s
  refine wpC_bind (wpC_any (wpAny_mono h (λ_ s₁ h₁ =>wpC_pure ⟨plainId_quiet hq args, codeC_builtin hb ?_⟩) λ_ _ x =>x))
  rw [Around.under_plainId hq args]; exact h₁
theorem forIn1 {β : Type} (x : Value) (b : β) (f : Value → β → Sem (ForInStep β)) : (forIn #[x] b f) = (do match ← f x b with | .done b' =>pure b' | .yield b' =>pure b') :=by
  simp only [← Array.forIn_toList, List.forIn_cons, List.forIn_nil]
  rfl
theorem mapNextC {m t : Addr} {f it : Value} {n : Nat} {Q : Value → Shared → Prop} (hm : s.heap.get? m = some (mapO t f)) (ht : s.heap.get? t = some (tupO #[it] n))
    (h : wpC (model prog w) A.in1 (Builtin.SmallTypes.nextOf it) (λv s₁ =>s₁.heap.get? m = some (mapO t f) ∧ wpC (model prog w) A.in1 (call f [v]) (λr s₂ =>Q r s₂) E s₁) E s) :
    wpC (model prog w) A (call (.builtin "map.__next__") [.ref m]) Q E s := by
  refine wpC_call (codeC_call_builtin' slot_map_next.plain entry_map_next (slot_map_next.check _ _ _ _ _ _ _ _ (show s.TypeIs (.ref m) "map" from ⟨_, hm, rfl⟩) (args_map_next_1 _) ?_))
  unfold Builtin.«map.__next__»
  refine wpC_eq (t' := (field (.ref m) 0 >>= _)) rfl ?_
  refine wpC_bind (wpC_any (wpAny_field hm rfl rfl ?_))
  refine wpC_bind (wpC_any (wpAny_seqItems ht rfl ?_))
  refine wpC_eq (t' := (forIn #[it] (#[] : Array Value) (fun it items => do let x ← holding items.toList (Builtin.SmallTypes.nextOf it); pure (ForInStep.yield (items.push x))) >>= fun items => do
    let g ← field (.ref m) 1
    let result ← holding items.toList (call g items.toList)
    letGo items.toList [result]
    ret result)) rfl ?_
  rw [forIn1]
  refine wpC_bind (wpC_bind (wpC_bind (wpC_holding (wpC_mono h (λv s₁ h₁ =>wpC_pure (wpC_pure ?_)) λ_ _ x =>x))))
  dsimp only
  refine wpC_bind (wpC_any (wpAny_field h₁.1 rfl rfl ?_))
  refine wpC_bind (wpC_holding (wpC_mono h₁.2 (λr s₂ h₂ =>wpC_bind (wpC_any (wpAny_letGo (wpC_pure ?_)))) λ_ _ x =>x))
  exact h₂
theorem callSpecialC {T id : String} {name : Str} {self : Value} {Q : Option Value → Shared → Prop} (sl : Slot T name id) (hT : s.TypeIs self T) (h : wpC (model prog w) A (call (.builtin id) [self]) (λv s' =>Q (some v) s') E s) : wpC (model prog w) A (callSpecial? self name) Q E s :=by
  unfold callSpecial?
  refine wpC_bind (wpC_any (wpAny_specialOf hT sl.lookup ?_))
  dsimp only
  refine wpC_holding (wpC_bind (wpC_eq (sl.bind self) (wpC_pure ?_)))
  dsimp only
  exact wpC_bind (wpC_mono h (λv s' h' =>wpC_pure h') λ_ _ x =>x)
theorem nextOfC {T id : String} {self : Value} {Q : Value → Shared → Prop} (sl : Slot T (Str.ofString "__next__") id) (hT : s.TypeIs self T) (h : wpC (model prog w) A (call (.builtin id) [self]) Q E s) : wpC (model prog w) A (Builtin.SmallTypes.nextOf self) Q E s := by
  unfold Builtin.SmallTypes.nextOf
  refine wpC_bind (callSpecialC sl hT (wpC_mono h (λv s' h' =>?_) λ_ _ x =>x))
  exact wpC_pure h'
theorem pyNextC {T id : String} {self : Value} {Q : Option Value → Shared → Prop} (sl : Slot T (Str.ofString "__next__") id) (hT : s.TypeIs self T)
    (h : wpC (model prog w) A (call (.builtin id) [self]) (fun v s' => Q (some v) s') (fun e s' => (s'.TypeIs e "StopIteration" ∧ Q none s') ∨ (∃ X, s'.TypeIs e X ∧ isSubtype (.type X) (.type "StopIteration") = pure false ∧ E e s')) s) : wpC (model prog w) A (pyNext self) Q E s := by
  unfold pyNext
  refine wpC_bind (wpC_attempt (callSpecialC sl hT (wpC_mono h (λv s' h' =>wpC_pure h') λe s' h' =>?_)))
  dsimp only
  rcases h' with ⟨h1, h2⟩ | ⟨X, h1, h2, h3⟩
  · refine wpC_bind (wpC_any (wpAny_isInstance h1 (b := true) (by rw [isSubtype_type]; kernel_rfl) ?_))
    exact wpC_pure h2
  · refine wpC_bind (wpC_any (wpAny_isInstance h1 (b := false) h2 ?_))
    exact wpC_any (wpAny_throw h3)
end
end Mine
end
section
namespace Mine
open PySem PySem.Spec PySem.Calls PyProof.Rows PySem.W
structure MapsAt (h : Heap) (l li t1 m1 t2 m2 : Addr) (items : Array Value) (i : Nat) : Prop where
  hl : h.IsList l items
  hli : h.IsListIter li l i
  ht1 : h.get? t1 = some (tupO #[.ref li] 0)
  hm1 : h.get? m1 = some (mapO t1 (.type "int"))
  ht2 : h.get? t2 = some (tupO #[.ref m1] 0)
  hm2 : h.get? m2 = some (mapO t2 (.type "str"))
theorem MapsAt.ne {h : Heap} {l li t1 m1 t2 m2 : Addr} {items : Array Value} {i : Nat} (M : MapsAt h l li t1 m1 t2 m2 items i) : l ≠ li ∧ t1 ≠ li ∧ m1 ≠ li ∧ t2 ≠ li ∧ m2 ≠ li :=by
  refine X13 (λo ho hc hd =>?_) M.hli
  have q : ∀ {a : Addr} {o' : Obj}, h.get? a = some o' → o'.cls ≠ .type "list_iterator" → a ≠ li := fun e hn q => by
    subst q; rw [ho] at e; replace e := Option.some.inj e; subst e; exact hn hc
  refine X13 (λol hol hcl u1 =>?_) M.hl
  have ty : ∀ {x y : String}, x ≠ y → Value.type x ≠ .type y := λhne q =>hne (Value.type.inj q)
  exact ⟨q hol (by rw [hcl]; exact ty (by decide)), q M.ht1 (ty (by decide)), q M.hm1 (ty (by decide)), q M.ht2 (ty (by decide)), q M.hm2 (ty (by decide))⟩
theorem MapsAt.move {h h' : Heap} {l li t1 m1 t2 m2 : Addr} {items : Array Value} {i j : Nat} (M : MapsAt h l li t1 m1 t2 m2 items i) (hi : h'.IsListIter li l j) (k : ∀ b o, b ≠ li → h.get? b = some o → h'.get? b = some o) : MapsAt h' l li t1 m1 t2 m2 items j :=by
  refine X05 (λn1 n2 n3 n4 n5 =>?_) M.ne
  exact ⟨M.hl.at λo e =>k _ o n1 e, hi, k _ _ n2 M.ht1, k _ _ n3 M.hm1, k _ _ n4 M.ht2, k _ _ n5 M.hm2⟩
section
variable {prog : Program} {w : World} {A : Around} {E : Value → Shared → Prop} {s : Shared}
theorem typeIs_new {h' : Heap} {tk : Nat} {e : Addr} {cls : String} {h : Heap} (hx : Heap.NewExc h h' e cls) : Shared.TypeIs { s with heap := h', toks := tk } (.ref e) cls :=by
  refine X23 (λob t h1 h2 u2 =>?_) hx.there
  exact ⟨ob, h1, h2⟩
theorem drawC {l li t1 m1 t2 m2 : Addr} {items : Array Value} {i : Nat} {Q : Option Value → Shared → Prop} (hh : A.handled = none) (M : MapsAt s.heap l li t1 m1 t2 m2 items i) (hv : ∀ (j : Nat) (v : Value), items[j]? = some v → ∃ x u, v = Value.str x u)
    (hitem : ∀ x u, items[i]? = some (.str x u) → asciiD x = true ∧
      (∀ k, PySem.intText? x = some k → k.natAbs.log2 < 1920 ∧ ∀ h' tk v, Heap.SameBut li s.heap h' → h'.IsListIter li l (i + 1) → (0 < s.toks → 0 < tk) → Q (some (.str (Str.ofString (toString k)) v)) { s with heap := h', toks := tk }) ∧
      (PySem.intText? x = none → ∀ h' h'' tk e, Heap.SameBut li s.heap h' → h'.IsListIter li l (i + 1) → Heap.NewExc h' h'' e "ValueError" → (0 < s.toks → 0 < tk) → E (.ref e) { s with heap := h'', toks := tk }))
    (hdone : items[i]? = none → ∀ h', Heap.ExtBut li s.heap h' → Q none { s with heap := h' }) : wpC (model prog w) A (pyNext (.ref m2)) Q E s :=by
  refine X05 (λn1 n2 n3 n4 n5 =>?_) M.ne
  refine pyNextC slot_map_next ⟨_, M.hm2, rfl⟩ (mapNextC M.hm2 M.ht2 (nextOfC slot_map_next ⟨_, M.hm1, rfl⟩ (mapNextC M.hm1 M.ht1 ?_)))
  cases hx : items[i]? with
  | none =>
    refine wpC_any (wpAny_nextOf_list_end hh M.hli M.hl hx λh' e hk he =>?_)
    exact .inl ⟨he, hdone hx h' hk⟩
  | some v =>
    obtain ⟨x, u, rfl⟩ := hv i v hx
    refine X03 (λha h1 h2 =>?_) (hitem x u hx)
    refine X02 (λhc hl =>?_) (asciiD_c ha)
    refine wpC_any (wpAny_nextOf_list_item M.hli M.hl hx λh' hi hs =>⟨(hs.2 _ n3).trans M.hm1, ?_⟩)
    cases hn : PySem.intText? x with
    | some k =>
      refine X02 (λhlog hQ =>?_) (h1 k hn)
      refine wpC_any (KIN.call_text hn hl ⟨(hs.2 _ n5).trans M.hm2, wpC_any (P.str_of_int hlog ?_)⟩)
      exact hQ h' _ _ hs hi (λ_ =>Nat.succ_pos _)
    | none =>
      refine callIntRefused (s := { s with heap := h' }) (.inl rfl) hh hl hc hn fun h'' tk e htk hx' => .inr ⟨"ValueError", typeIs_new (s := s) hx', by rw [isSubtype_type]; kernel_rfl, ?_⟩
      exact h2 hn h' h'' tk e hs hi hx' htk
end
section
variable {X : Cx} {k : Nat} {hb : Heap} {Sb S S' : Store} {Γ : Sc} {env : Env} {σ σ' : St} {s s₁ s' : Shared} {A : Around} {E : Value → Shared → Prop}
theorem Step.alter (O : CxOk X) (g : Gd X S s) (st : Step X S s S' s₁) {fp : Addr → Prop} {h' : Heap} {t : Nat} (hk : ∀ a o, ¬ fp a → s₁.heap.get? a = some o → h'.get? a = some o)
    (hf : ∀ a, fp a → s.heap.get? a = none ∧ S' a = none ∧ ∀ o, s₁.heap.get? a = some o → ¬ Codey o) (ht : 0 < s₁.toks → 0 < t) : Step X S s S' { s₁ with heap := h', toks := t } :=
  ⟨st.gd.change O.tabOk hk (λa q =>⟨g.back _ (hf a q).1, (hf a q).2.1, (hf a q).2.2⟩) ht, st.le, st.ext.on λb o e o' e' =>hk b o' (λq =>by rw [(hf b q).1] at e; exact nos e) e', st.new⟩
noncomputable def strOfIntD (x : Str) : Str := Str.ofString (toString ((PySem.intText? x).getD 0))
theorem loopC (O : CxOk X) (hh : A.handled = none) (T : At X hb Sb Γ env σ S s) {l li t1 m1 t2 m2 D : Addr} {items : Array Value} {xs : List Str} {R' : Result → Shared → Prop}
    (hit : RdAll S items.toList (xs.map PyData.str)) (hxs : ∀ x ∈ xs, asciiD x = true ∧ ∀ k, PySem.intText? x = some k → k.natAbs.log2 < 1920) (hlen : xs.length ≤ 100000)
    (nli : s.heap.get? li = none) (nD : s.heap.get? D = none) (hne : li ≠ D) (hls : ∃ o, s.heap.get? l = some o)
    (hok : (∀ x ∈ xs, (PySem.intText? x).isSome = true) → ∀ s' vs c, Step X S s S s' → s'.heap.get? D = some (listO vs c) → RdAll S vs.toList (xs.map λx =>.str (strOfIntD x)) → R' (.ok (.ret .none)) s')
    (hno : (∃ x ∈ xs, PySem.intText? x = none) → ∀ s' h' tk e, Step X S s S s' → Heap.NewExc s'.heap h' e "ValueError" → (0 < s'.toks → 0 < tk) → R' (.error (.ref e)) { s' with heap := h', toks := tk }) :
    ∀ (i : Nat) (s₁ : Shared) (acc : Array Value) (c : Nat), i ≤ xs.length → Step X S s S s₁ → MapsAt s₁.heap l li t1 m1 t2 m2 items i → s₁.heap.get? D = some (listO acc c) → (∀ x ∈ xs.take i, (PySem.intText? x).isSome = true) → RdAll S acc.toList ((xs.take i).map fun x => .str (strOfIntD x)) →
      codeC X.M A (.builtin "list.extend.loop" ⟨[.ref D, .ref m2, .none], []⟩) R' s₁ := by
  have sl : (100000 : Nat) ≤ sizeLine :=by decide
  have e1 := hit.length
  simp only [Array.length_toList, List.length_map] at e1
  have hv : ∀ (j : Nat) (v : Value), items[j]? = some v → ∃ x u, v = Value.str x u ∧ xs[j]? = some x := λj v hj =>by
    have hj' : items.toList[j]? = some v :=by simpa using hj
    have hlt : j < xs.length :=by
      have := (Array.getElem?_eq_some_iff.mp hj).1; omega
    refine X12 (λv' h1 h2 =>?_) (hit.get j (d := .str xs[j]) (by simp [hlt]))
    rw [hj'] at h1; replace h1 := Option.some.inj h1; subst h1
    obtain ⟨u, rfl⟩ := h2.str_inv
    exact ⟨_, u, rfl, by simp [hlt]⟩
  have nS : ∀ {a : Addr}, s.heap.get? a = none → S a = none := λ{a} hn =>by
    cases q : S a with
    | none =>rfl
    | some o =>have := T.gd.inn a o q; rw [hn] at this; exact nos this
  have nC : ∀ {o : Obj}, o.cls = .type "list_iterator" → ¬ Codey o := fun hc cd => by
    rcases cd.2 with q | q <;> rw [hc] at q
    · exact absurd (Value.type.inj q) (by decide)
    · cases q
  have nL : ∀ {a : Array Value} {c : Nat}, ¬ Codey (listO a c) := λcd =>by obtain ⟨⟨vs, e⟩, _⟩ := cd; cases e
  have main : ∀ (n i : Nat) (s₁ : Shared) (acc : Array Value) (c : Nat), n = xs.length - i → i ≤ xs.length → Step X S s S s₁ → MapsAt s₁.heap l li t1 m1 t2 m2 items i → s₁.heap.get? D = some (listO acc c) → (∀ x ∈ xs.take i, (PySem.intText? x).isSome = true) → RdAll S acc.toList ((xs.take i).map fun x => .str (strOfIntD x)) →
      codeC X.M A (.builtin "list.extend.loop" ⟨[.ref D, .ref m2, .none], []⟩) R' s₁ := by
    intro n
    induction n with
    | zero =>
      intro i s₁ acc c hn hi st M hD hall hacc
      have hin : i = xs.length :=by omega
      refine codeC_builtin F.entry_extend_loop ?_
      rw [Around.under_plainId F.plain_extend_loop _]
      show wpC _ A.in1 (pyNext (.ref m2) >>= _) _ _ s₁
      have hnone : items[i]? = none :=by
        rw [Array.getElem?_eq_none_iff]; omega
      refine wpC_bind (drawC hh M (λj v hj =>let ⟨x, u, h, _⟩ := hv j v hj; ⟨x, u, h⟩) (λx u hx =>by rw [hnone] at hx; exact nos hx) λ_ h' hk =>?_)
      have st' : Step X S s S { s₁ with heap := h', toks := s₁.toks } := Step.alter O T.gd st (fp := λa =>a = li) (λa o hn e =>hk a o hn e) (λa q =>by
        subst q
        refine ⟨nli, nS nli, λo e =>?_⟩
        refine X13 (λo' ho' hc' u3 =>?_) M.hli
        rw [ho'] at e; replace e := Option.some.inj e; subst e
        exact nC hc') id
      rw [hin, List.take_length] at hall hacc
      exact wpC_pure (hok hall _ acc c st' (hk D _ (Ne.symm hne) hD) hacc)
    | succ n ih =>
      intro i s₁ acc c hn hi st M hD hall hacc
      have hlt : i < xs.length :=by omega
      refine codeC_builtin F.entry_extend_loop ?_
      rw [Around.under_plainId F.plain_extend_loop _]
      show wpC _ A.in1 (pyNext (.ref m2) >>= _) _ _ s₁
      have hsome : ¬ items[i]? = none :=by
        rw [Array.getElem?_eq_none_iff]; omega
      have liOk : ∀ o, s₁.heap.get? li = some o → ¬ Codey o := λo e =>by
        refine X13 (λo' ho' hc' u4 =>?_) M.hli
        rw [ho'] at e; replace e := Option.some.inj e; subst e
        exact nC hc'
      refine wpC_bind (drawC hh M (λj v hj =>let ⟨x, u, h, _⟩ := hv j v hj; ⟨x, u, h⟩) (λx u hx =>?_) λq =>absurd q hsome)
      refine X22 (λx' u' e' hxi =>?_) (hv i _ hx)
      cases e'
      have hmem : x ∈ xs := List.mem_of_getElem? hxi
      have htake : xs.take (i + 1) = xs.take i ++ [x] :=by
        rw [List.take_add_one, hxi]; rfl
      refine ⟨(hxs x hmem).1, λk hk =>⟨(hxs x hmem).2 k hk, λh' tk v hs hi' htk =>?_⟩, λhnn h' h'' tk e hs hi' hx' htk =>?_⟩
      · show wpC _ A.in1 (updateSeq D (·.push _) >>= _) _ _ _
        have hD' : h'.get? D = some (listO acc c) := (hs.2 D (Ne.symm hne)).trans hD
        have e2 := hacc.length
        simp only [Array.length_toList, List.length_map, List.length_take] at e2
        refine wpC_bind (wpC_any (wpAny_updateSeq hD' rfl ?_ ?_ ?_))
        · refine wpC_pure ⟨plainId_quiet F.plain_extend_loop _, ?_⟩
          have st' : Step X S s S { s₁ with heap := h'.update D (Obj.mapSeq λa =>a.push (.str (Str.ofString (toString k)) v)), toks := tk } := Step.alter O T.gd st (fp := λa =>a = li ∨ a = D) (λa o hn e =>by
              have h1 : a ≠ li := λq =>hn (.inl q)
              have h2 : a ≠ D := λq =>hn (.inr q)
              exact (Heap.get?_update_other _ _ (Ne.symm h2)).trans ((hs.2 a h1).trans e)) (λa q =>by
            rcases q with q | q
            · subst q; exact ⟨nli, nS nli, liOk⟩
            · subst q; exact ⟨nD, nS nD, λo e =>by rw [hD] at e; replace e := Option.some.inj e; subst e; exact nL⟩) htk
          have hDn : IsL (h'.update D (Obj.mapSeq λa =>a.push (.str (Str.ofString (toString k)) v))) D (acc.push (.str (Str.ofString (toString k)) v)) _ := IsL.update (h := h') (l := D) (items := acc) (n := c) hD' λa =>a.push (.str (Str.ofString (toString k)) v)
          have keepM : ∀ b o, b ≠ li → s₁.heap.get? b = some o → b ≠ D → (h'.update D (Obj.mapSeq λa =>a.push (.str (Str.ofString (toString k)) v))).get? b = some o := λb o h1 e h2 =>(Heap.get?_update_other _ _ (Ne.symm h2)).trans ((hs.2 b h1).trans e)
          have ty : ∀ {x y : String}, x ≠ y → Value.type x ≠ .type y := λhne q =>hne (Value.type.inj q)
          have nDq : ∀ {b : Addr} {o : Obj}, s₁.heap.get? b = some o → o.cls ≠ .type "list" → b ≠ D := fun e hn q => by subst q; rw [hD] at e; replace e := Option.some.inj e; subst e; exact hn rfl
          refine X05 (λn1 n2 n3 n4 n5 =>?_) M.ne
          have lD : l ≠ D := λq =>by revert hls; refine X11 λo ho =>?_; rw [q, nD] at ho; exact nos ho
          have M' : MapsAt (h'.update D (Obj.mapSeq λa =>a.push (.str (Str.ofString (toString k)) v))) l li t1 m1 t2 m2 items (i + 1) :=by
            refine ⟨M.hl.at λo e =>keepM _ o n1 e lD, ?_, keepM _ _ n2 M.ht1 (nDq M.ht1 (ty (by decide))), keepM _ _ n3 M.hm1 (nDq M.hm1 (ty (by decide))), keepM _ _ n4 M.ht2 (nDq M.ht2 (ty (by decide))), keepM _ _ n5 M.hm2 (nDq M.hm2 (ty (by decide)))⟩
            exact hi'.at λo e =>(Heap.get?_update_other _ _ (Ne.symm hne)).trans e
          refine ih (i + 1) _ (acc.push (.str (Str.ofString (toString k)) v)) _ (by omega) hlt st' M' hDn ?_ ?_
          · intro y hy
            rw [htake] at hy
            rcases List.mem_append.mp hy with q | q
            · exact hall y q
            · rw [List.mem_singleton.mp q, hk]; rfl
          · rw [htake, List.map_append, Array.toList_push]
            refine hacc.append (.cons ?_ .nil)
            have : strOfIntD x = Str.ofString (toString k) :=by unfold strOfIntD; rw [hk]; rfl
            show Rd S _ (PyData.str (strOfIntD x))
            rw [this]
            exact .str _ _
        · show acc.size ≤ sizeLine; omega
        · show (acc.push _).size ≤ sizeLine + 1
          rw [Array.size_push]; omega
      · have st' : Step X S s S { s₁ with heap := h', toks := s₁.toks } := Step.alter O T.gd st (fp := fun a => a = li) (fun a o hn e => (hs.2 a hn).trans e) (fun a q => by subst q; exact ⟨nli, nS nli, liOk⟩) id
        exact hno ⟨x, hmem, hnn⟩ { s₁ with heap := h' } h'' tk e st' hx' htk
  exact λi s₁ acc c =>main _ i s₁ acc c rfl
end
end Mine
end
section
namespace Mine
open PySem PySem.Spec PySem.Calls PyProof.Rows PySem.W
theorem map_no_len : typeLookup (.type "map") "__len__" = pure none := by rw [typeLookup_type, builtinLookup_eq_fast]; kernel_rfl
theorem map_no_hint : typeLookup (.type "map") "__length_hint__" = pure none := by rw [typeLookup_type, builtinLookup_eq_fast]; kernel_rfl
section
variable {prog : Program} {w : World} {A : Around} {E : Value → Shared → Prop} {s : Shared} {R : Result → Shared → Prop}
theorem codeC_mono {M : Model} {c : Code} {R R' : Result → Shared → Prop} (h : codeC M A c R s) (hR : ∀ r s, R r s → R' r s) : codeC M A c R' s :=
  λΓ p hc hΓ hC =>wpCode_mono hR (h Γ p hc hΓ hC)
theorem listInitMap {D m t : Addr} {f : Value} {c : Nat} {Q : Fin → Shared → Prop} (hD : s.heap.get? D = some (listO #[] c)) (hm : s.heap.get? m = some (mapO t f))
    (h : ∀ h' c', h'.get? D = some (listO #[] c') → Heap.SameBut D s.heap h' → Q (.again (.builtin "list.extend.loop" ⟨[.ref D, .ref m, .none], []⟩)) { s with heap := h' }) :
    wpAny (model prog w) A (Builtin.«list.__init__» ⟨[.ref D, .ref m], []⟩) Q E s :=by
  have hDm : D ≠ m := λq =>by
    subst q; rw [hD] at hm
    have := congrArg Obj.cls (Option.some.inj hm)
    exact absurd (Value.type.inj this) (by decide)
  have hT : s.TypeIs (.ref m) "map" := ⟨_, hm, rfl⟩
  show wpAny _ A (Builtin.List.listItems (.ref D) >>= _) _ _ s
  refine wpAny_bind (wpAny_listItems hD rfl ?_)
  show wpAny _ A (updateSeq D (λ_ =>#[]) >>= _) _ _ s
  refine wpAny_bind (wpAny_updateSeq hD rfl ?_ (Nat.zero_le _) (Nat.zero_le _))
  refine wpAny_bind (wpAny_letGo ?_)
  have hD1 : IsL (s.heap.update D (Obj.mapSeq λ_ =>#[])) D #[] _ := IsL.update (h := s.heap) (l := D) (items := #[]) (n := c) hD λ_ =>#[]
  have hs1 : Heap.SameBut D s.heap (s.heap.update D (Obj.mapSeq λ_ =>#[])) := Heap.SameBut.update ..
  generalize hh1 : s.heap.update D (Obj.mapSeq λ_ =>#[]) = h₁ at *
  have hm1 : h₁.get? m = some (mapO t f) := (hs1.2 m (Ne.symm hDm)).trans hm
  have hT1 : Shared.TypeIs { s with heap := h₁ } (.ref m) "map" := ⟨_, hm1, rfl⟩
  show wpAny _ A (Builtin.List.listExtendWith (.ref D) (.ref m) .none) _ _ _
  unfold Builtin.List.listExtendWith
  refine wpAny_bind (wpAny_typeOf hT1 ?_)
  have g1 : Builtin.List.listSameRef (.ref D) (.ref m) = false :=by simp [Builtin.List.listSameRef, hDm]
  have g2 : (Value.type "map" == Value.type "list") = false := by decide
  have g3 : (Value.type "map" == Value.type "tuple") = false := by decide
  simp only [g1, g2, g3, Bool.or_false, Bool.false_eq_true, if_false]
  refine wpAny_bind (wpAny_pyIter_map (s := { s with heap := h₁ }) hm1 ?_)
  refine wpAny_bind (wpAny_holding ?_)
  unfold Builtin.List.listLengthHint
  refine wpAny_bind (wpAny_specialOf hT1 map_no_len ?_)
  show wpAny _ A (specialOf (Value.ref m) (Str.ofString "__length_hint__") >>= _) _ _ _
  refine wpAny_bind (wpAny_specialOf hT1 map_no_hint ?_)
  refine wpAny_pure ?_
  show wpAny _ A (rule "list.extend.makes-room" >>= fun _ => Builtin.List.listTouch (.ref D) >>= fun _ =>
    again (.builtin "list.extend.loop" ⟨[.ref D, .ref m, .none], []⟩)) _ _ _
  refine wpAny_bind (wpAny_rule ?_)
  refine wpAny_bind ?_
  show wpAny _ A (updateSeq D (·.push .none) >>= λ_ =>updateSeq D (·.pop)) _ _ _
  refine wpAny_bind (wpAny_updateSeq hD1 rfl ?_ (Nat.zero_le _) (by show (#[Value.none] : Array Value).size ≤ _; decide))
  have hD2 : IsL (h₁.update D (Obj.mapSeq (·.push Value.none))) D #[.none] _ := IsL.update (h := h₁) (l := D) (items := #[]) hD1 λa =>a.push Value.none
  refine wpAny_updateSeq hD2 rfl (wpAny_pure ?_) (by show (#[Value.none] : Array Value).size ≤ _; decide) (Nat.zero_le _)
  have hD3 : IsL ((h₁.update D (Obj.mapSeq (·.push Value.none))).update D (Obj.mapSeq (·.pop))) D #[] _ := IsL.update (items := #[.none]) hD2 λa =>a.pop
  exact h _ _ hD3 ((hs1.trans (Heap.SameBut.update ..)).trans (Heap.SameBut.update ..))
theorem callListC {m t : Addr} {f : Value} {Q : Value → Shared → Prop} (hm : s.heap.get? m = some (mapO t f))
    (h : ∀ h' c', h'.get? s.heap.objs.size = some (listO #[] c') → (∀ b o, s.heap.get? b = some o → h'.get? b = some o) →
      codeC (model prog w) A.in1 (.builtin "list.extend.loop" ⟨[.ref s.heap.objs.size, .ref m, .none], []⟩) (wants (fun r s₂ => r = .none ∧ Q (.ref s.heap.objs.size) s₂) E) { s with heap := h' }) :
    wpC (model prog w) A (call (.type "list") [.ref m]) Q E s := by
  have ft := F.called_list
  have h1 := ft.notType
  have h2 := ft.canCreate
  have h3 := ft.made
  have h4 := F.mro_list
  refine wpC_call (codeC_of_tree ?_)
  show wpC _ _ (callAny (.type "list") _) _ _ _
  refine wpC_pure ⟨Code.quiet_builtin _ (by decide +kernel), codeC_builtin F.entry_type_call ?_⟩
  rw [Around.under_plain (weight_type_call_type "list" [.ref m] []) (units_type_call_type "list" [.ref m] [])]
  unfold Builtin.«type.__call__»
  dsimp only
  rw [h1, h2]
  simp only [Bool.false_eq_true, if_false]
  rw [F.typeCall_list_1, bind_pure', h4, bind_pure', h3, bind_pure']
  refine wpC_bind (wpC_pure (wpC_bind (wpC_holding (wpC_any (wpAny_call (code_list_new (.ref m) ?_))))))
  have hD0 : (s.heap.push { cls := .type "list", data := .seq #[] }).get? s.heap.objs.size = some (listO #[] 0) := Heap.get?_push_size _ rfl
  have hT0 : Shared.TypeIs { s with heap := s.heap.push { cls := .type "list", data := .seq #[] } } (.ref s.heap.objs.size) "list" := ⟨_, hD0, rfl⟩
  refine wpC_bind (wpC_any (wpAny_isInstance hT0 (b := true) sub_list_self ?_))
  simp only [Bool.not_true, Bool.false_eq_true, if_false]
  have hm0 : (s.heap.push { cls := .type "list", data := .seq #[] }).get? m = some (mapO t f) := Heap.get?_push_of_some _ hm
  unfold callSpecial?
  refine wpC_bind (wpC_holding (wpC_bind (wpC_any (wpAny_specialOf hT0 F.slot_list_init.lookup ?_))))
  dsimp only
  refine wpC_holding (wpC_bind (wpC_eq (F.slot_list_init.bind _) (wpC_pure ?_)))
  dsimp only
  refine wpC_bind (wpC_call (codeC_call_builtin' F.slot_list_init.plain F.entry_list_init (F.slot_list_init.check _ _ _ _ _ _ _ _ hT0 (F.args_list_init_2 _ _) ?_)))
  refine wpC_any (listInitMap (s := { s with heap := s.heap.push { cls := .type "list", data := .seq #[] } }) hD0 hm0 fun h' c' hD' hs' => ?_)
  refine ⟨plainId_quiet F.plain_extend_loop _, ?_⟩
  have kp : ∀ b o, s.heap.get? b = some o → h'.get? b = some o := λb o e =>by
    have : b ≠ s.heap.objs.size := λq =>by subst q; rw [get?_size] at e; exact nos e
    exact (hs'.2 b this).trans (Heap.get?_push_of_some _ e)
  refine codeC_mono (h h' c' hD' kp) λr s₂ hr =>?_
  cases r with
  | error e =>exact hr
  | ok fl =>
    cases fl with
    | ret v =>
      obtain ⟨rfl, hq⟩ := hr
      exact wpC_pure (wpC_pure hq)
    | _ =>exact hr.elim
end
end Mine
end
section
namespace Mine
open PySem PySem.Spec PySem.Calls PyProof.Rows PySem.W
section
variable {X : Cx} {k : Nat} {hb : Heap} {Sb S S' : Store} {Γ : Sc} {env : Env} {σ σ' : St} {s s₁ s' : Shared} {A : Around} {E : Value → Shared → Prop}
theorem ge_none {h : Heap} {a : Addr} (h0 : h.objs.size ≤ a) : h.get? a = none :=by
  cases q : h.get? a with
  | none =>rfl
  | some o =>exact absurd (Heap.lt_size q) (Nat.not_lt.mpr h0)
theorem Step.freeze (st : Step X S s S s') {D : Addr} {vs : Array Value} {c : Nat} (nD : s.heap.get? D = none) (g : Gd X S s) (hD : s'.heap.get? D = some (listO vs c)) : Step X S s (S.put D (listO vs c)) s' :=by
  have hS : S D = none :=by
    cases q : S D with
    | none =>rfl
    | some o =>have := g.inn D o q; rw [nD] at this; exact nos this
  refine ⟨st.gd.put hD rfl hS (g.notP' nD), Store.put_le hS, st.ext, λa o e =>?_⟩
  unfold Store.put at e
  revert e; refine iteC (λ_ e =>?_) λ_ e =>?_
  · rename_i q; subst q; exact .inr nD
  · exact .inl e
theorem normTryOk (O : CxOk X) {l stn : Str} (hkl : Γ.names.lookup (Str.ofString "list") = some .globalImplicit) (hgl : GlobIs X (Str.ofString "list") (.type "list")) (hkm : Γ.names.lookup (Str.ofString "map") = some .globalImplicit) (hgm : GlobIs X (Str.ofString "map") (.type "map"))
    (hki : Γ.names.lookup (Str.ofString "int") = some .globalImplicit) (hgi : GlobIs X (Str.ofString "int") (.type "int")) (hks : Γ.names.lookup (Str.ofString "str") = some .globalImplicit) (hgs : GlobIs X (Str.ofString "str") (.type "str")) (hkv : Γ.names.lookup (Str.ofString "ValueError") = some .globalImplicit)
    (hgv : GlobIs X (Str.ofString "ValueError") (.type "ValueError")) (hld : l ≠ Str.ofString "__debug__") (hst : Γ.mayStore stn = true) {xs : List Str} (hx : σ.ρ.lookup l = some (.list (xs.map PyData.str))) (hlen : xs.length ≤ 100000)
    (hxs : ∀ x ∈ xs, asciiD x = true ∧ ∀ k, PySem.intText? x = some k → k.natAbs.log2 < 1920)
    {p1 p2 p3 p4 p5 p6 p7 p8 p9 pa pb pc pd pe pf pg ph : Pos}
    (h : σ' = ⟨setLoc stn (.list (if xs.all (λx =>(PySem.intText? x).isSome) then xs.map λx =>.str (strOfIntD x) else xs.map PyData.str)) σ.ρ, unown stn σ.ω⟩) :
    StOkC X k Γ (.Try [.Assign [.Name stn p1] (.Call (.Name (Str.ofString "list") p2) [.Call (.Name (Str.ofString "map") p3) [.Name (Str.ofString "str") p4, .Call (.Name (Str.ofString "map") p5) [.Name (Str.ofString "int") p6, .Name l p7] [] p8] [] p9] [] pa) pb]
      [.ExceptHandler (some (.Name (Str.ofString "ValueError") pc)) none [.Assign [.Name stn pd] (.Name l pe) pf] pg] [] [] ph) σ .next σ' := by
  intro hb Sb env S s A Q E R T hQ
  subst h
  refine tryC (execsC_cons (assignNameC ?_ rfl))
  refine wpC_eq (t' := do callWith pa (← eval (.Name (Str.ofString "list") p2) env) [] (backTo pa (starEach [.Call (.Name (Str.ofString "map") p3) [.Name (Str.ofString "str") p4, .Call (.Name (Str.ofString "map") p5) [.Name (Str.ofString "int") p6, .Name l p7] [] p8] [] p9] env)) (backToKw pa (keywordEach [] env))) rfl ?_
  refine wpC_bind (wpC_any (evalGlob O T hkl hgl (by decide) ?_))
  refine callWithC_type rfl (evalArgsC (splicedC_cons (wpC_any ?_)))
  refine Call_ (evalGlob O T hkm hgm (by decide) ?_) rfl
  refine PyProof.Rows.callWith_type1 (args_cons (evalGlob O T hks hgs (by decide) ?_) rfl) rfl rfl
  refine args_cons ?_ rfl
  refine Call_ (evalGlob O T hkm hgm (by decide) ?_) rfl
  refine PyProof.Rows.callWith_type1 (args_cons (evalGlob O T hki hgi (by decide) (args_cons (evalVar T hx (by simpa using hld) λv r =>args_nil ?_) rfl)) rfl) rfl rfl
  obtain ⟨la, vs, n, rfl, hS, rs⟩ := r.list_inv
  have hl := T.gd.inn _ _ hS
  refine callType_new called_map (by decide) (typeCall_map_2 _ _) (newCall_map_2 _ _) (fun obj => F.args_object_init_3 obj _ _) entry_map_new (meets_map_list (.type "int") la vs n) ⟨hl, ?_⟩
  have st1 := Step.push O T.gd { cls := .type "list_iterator", data := .fields #[.ref la, .int 0 0] } s.toks
  generalize hh1 : s.heap.push { cls := .type "list_iterator", data := .fields #[.ref la, .int 0 0] } = h1 at *
  have hli : h1.IsListIter s.heap.objs.size la 0 :=by rw [← hh1]; exact ⟨_, Heap.get?_push_size _ rfl, rfl, rfl⟩
  have z1 : h1.objs.size = s.heap.objs.size + 1 :=by rw [← hh1]; exact Heap.size_push ..
  have st2 := st1.trans (Step.push O st1.gd (tupO #[.ref s.heap.objs.size] 0) s.toks)
  generalize hh2 : h1.push (tupO #[.ref s.heap.objs.size] 0) = h2 at *
  have k2 : ∀ b o, h1.get? b = some o → h2.get? b = some o := λb o e =>by rw [← hh2]; exact Heap.get?_push_of_some _ e
  have ht1 : h2.get? h1.objs.size = some (tupO #[.ref s.heap.objs.size] 0) :=by rw [← hh2]; exact Heap.get?_push_size _ rfl
  have z2 : h2.objs.size = s.heap.objs.size + 2 :=by rw [← hh2]; have := Heap.size_push h1 (tupO #[.ref s.heap.objs.size] 0); omega
  have st3 := st2.trans (Step.push O st2.gd (mapO h1.objs.size (.type "int")) s.toks)
  generalize hh3 : h2.push (mapO h1.objs.size (.type "int")) = h3 at *
  have k3 : ∀ b o, h2.get? b = some o → h3.get? b = some o := λb o e =>by rw [← hh3]; exact Heap.get?_push_of_some _ e
  have hm1 : h3.get? h2.objs.size = some (mapO h1.objs.size (.type "int")) := by rw [← hh3]; exact Heap.get?_push_size _ rfl
  have z3 : h3.objs.size = s.heap.objs.size + 3 := by rw [← hh3]; have := Heap.size_push h2 (mapO h1.objs.size (.type "int")); omega
  refine ⟨⟨_, hm1, rfl⟩, args_nil ?_⟩
  refine callType_new (s := { s with heap := h3 }) called_map (by decide) (typeCall_map_2 _ _) (newCall_map_2 _ _) (fun obj => F.args_object_init_3 obj _ _) entry_map_new (meets_map_map (.type "str") h2.objs.size h1.objs.size (.type "int")) ⟨hm1, ?_⟩
  have st4 := st3.trans (Step.push O st3.gd (tupO #[.ref h2.objs.size] 0) s.toks)
  generalize hh4 : h3.push (tupO #[.ref h2.objs.size] 0) = h4 at *
  have k4 : ∀ b o, h3.get? b = some o → h4.get? b = some o := λb o e =>by rw [← hh4]; exact Heap.get?_push_of_some _ e
  have ht2 : h4.get? h3.objs.size = some (tupO #[.ref h2.objs.size] 0) :=by rw [← hh4]; exact Heap.get?_push_size _ rfl
  have z4 : h4.objs.size = s.heap.objs.size + 4 :=by rw [← hh4]; have := Heap.size_push h3 (tupO #[.ref h2.objs.size] 0); omega
  have st5 := st4.trans (Step.push O st4.gd (mapO h3.objs.size (.type "str")) s.toks)
  show _ ∧ _
  generalize hh5 : h4.push (mapO h3.objs.size (.type "str")) = h5 at *
  have k5 : ∀ b o, h4.get? b = some o → h5.get? b = some o := λb o e =>by rw [← hh5]; exact Heap.get?_push_of_some _ e
  have hm2 : h5.get? h4.objs.size = some (mapO h3.objs.size (.type "str")) := by rw [← hh5]; exact Heap.get?_push_size _ rfl
  have z5 : h5.objs.size = s.heap.objs.size + 5 := by rw [← hh5]; have := Heap.size_push h4 (mapO h3.objs.size (.type "str")); omega
  refine ⟨⟨_, hm2, rfl⟩, wpC_any (args_nil (env := env) (pos := pa) ?_)⟩
  have st5' : Step X S s S { s with heap := h5 } := st5
  have M5 : MapsAt h5 la s.heap.objs.size h1.objs.size h2.objs.size h3.objs.size h4.objs.size vs 0 :=by
    refine ⟨?_, hli.at λo e =>k5 _ _ (k4 _ _ (k3 _ _ (k2 _ _ e))), k5 _ _ (k4 _ _ (k3 _ _ ht1)), k5 _ _ (k4 _ _ hm1), k5 _ _ ht2, hm2⟩
    exact Rd.isList st5'.gd.inn hS
  refine callListC (s := { s with heap := h5 }) hm2 λh' c' hD kp =>?_
  have st6 : Step X S s S { s with heap := h' } := st5'.trans (Step.fresh (s := { s with heap := h5 }) (t := s.toks) O st5'.gd (h' := h') λa o _ e =>kp a o e)
  have nD : s.heap.get? h5.objs.size = none := ge_none (by omega)
  refine loopC (A := A.in1) (items := vs) (xs := xs) (li := s.heap.objs.size) O R.room.handled T rs hxs hlen (get?_size _) nD (by show s.heap.objs.size ≠ h5.objs.size; omega) ⟨_, hl⟩ ?_ ?_ 0 { s with heap := h' } #[] c' (Nat.zero_le _) st6 ⟨M5.hl.at λo e =>kp _ o e, M5.hli.at λo e =>kp _ o e, kp _ _ M5.ht1, kp _ _ M5.hm1, kp _ _ M5.ht2, kp _ _ M5.hm2⟩ hD (λx hx =>by simp at hx) (by exact .nil)
  · intro hall s' ws c st' hD' rd
    refine ⟨rfl, wpC_any ?_⟩
    have stF := st'.freeze nD T.gd hD'
    have e : xs.all (λx =>(PySem.intText? x).isSome) = true := List.all_eq_true.mpr hall
    refine storeVar (d := .list (xs.map λx =>.str (strOfIntD x))) O.tabOk (T.step stF) hst (.list Store.put_self (rd.le stF.le)) (sets_of σ stn _) λs₂ T₂ nk =>execsC_nil (execsC_nil (hQ _ _ ?_ (stF.sstep.trans nk.sstep)))
    rw [e, if_pos rfl]; exact T₂
  · intro hex s' h'' tk e st' hx' htk
    refine caughtV O R (T.step st') hx' htk hkv hgv λs₂ T₂ ss E' =>?_
    have e : xs.all (λx =>(PySem.intText? x).isSome) = false :=by
      revert hex; refine X12 λx hm hn =>?_
      rw [List.all_eq_false]
      exact ⟨x, hm, by rw [hn]; decide⟩
    refine wpAny_execs_cons (PySem.wpAny_Assign_Name (evalVar T₂ hx (by simpa using hld) λv rv =>?_) rfl)
    refine storeVar O.tabOk T₂ hst rv (sets_of σ stn _) λs₃ T₃ nk =>wpAny_execs_nil (hQ _ _ ?_ ((st'.sstep.trans ss).trans nk.sstep))
    rw [e, if_neg (by decide)]; exact T₃
end
end Mine
end
section
namespace Mine
open PySem PySem.Spec PySem.Calls PyProof.Rows PySem.W
noncomputable def ne0 (x : Str) : Bool := x.length != 0
section
variable {prog : Program} {w : World} {A : Around} {E : Value → Shared → Prop} {s : Shared} {R : Result → Shared → Prop}
theorem tupNextItem {it l : Addr} {i : Nat} {items : Array Value} {x : Value} {Q : Option Value → Shared → Prop} (hit : s.heap.IsTupleIter it l i) (hl : s.heap.IsTuple l items) (hx : items[i]? = some x)
    (hQ : ∀ h', h'.IsTupleIter it l (i + 1) → Heap.SameBut it s.heap h' → Q (some x) { s with heap := h' }) : wpAny (model prog w) A (callSpecial? (.ref it) (Str.ofString "__next__")) Q E s := by
  refine X13 (λo ho hc hd =>?_) (id hit)
  obtain ⟨ol, hol, u1, nl, hdl⟩ := hl
  refine wpAny_callSpecial?_slot (name := Str.ofString "__next__") hit.typeIs F.slot_tuple_iterator_next
    (wpAny_call_entry F.slot_tuple_iterator_next hit.typeIs F.entry_tuple_iterator_next ?_ (F.args_tuple_iterator_next_1 _))
  show wpAny _ _ (field (.ref it) 0 >>= _) _ _ s
  refine wpAny_bind (wpAny_field ho hd (x := .ref l) rfl ?_)
  show wpAny _ _ (if (Value.ref l == Value.none) = true then _ else _) _ _ s
  rw [if_neg (show ¬ ((Value.ref l == Value.none) = true) from Bool.false_ne_true)]
  show wpAny _ _ (field (.ref it) 1 >>= _) _ _ s
  refine wpAny_bind (wpAny_field ho hd (x := .int i 0) rfl ?_)
  show wpAny _ _ (seqItems? (.ref l) >>= _) _ _ s
  refine wpAny_bind (wpAny_seqItems hol hdl ?_)
  simp only [Int.toNat_natCast, hx]
  refine wpAny_bind (wpAny_setField ho hd (by simp) (wpAny_pure ⟨x, rfl, hQ _ ?_ (Heap.SameBut.update ..)⟩))
  exact ⟨_, Heap.get?_update_self _ ho (Obj.isFreed_of_fields (Obj.data_mapFields hd _)), (Obj.cls_mapFields ..).trans hc, by
    rw [Obj.data_mapFields hd]; simp [rawInt]⟩
theorem tupNextEnd {it l : Addr} {i : Nat} {items : Array Value} {Q : Option Value → Shared → Prop} (hh : A.handled = none) (hit : s.heap.IsTupleIter it l i) (hl : s.heap.IsTuple l items) (hx : items[i]? = none)
    (hE : ∀ h' e, Heap.ExtBut it s.heap h' → (∃ o, h'.get? e = some o ∧ o.cls = .type "StopIteration") → E (.ref e) { s with heap := h' }) : wpAny (model prog w) A (callSpecial? (.ref it) (Str.ofString "__next__")) Q E s := by
  refine X13 (λo ho hc hd =>?_) (id hit)
  obtain ⟨ol, hol, u2, nl, hdl⟩ := hl
  refine wpAny_callSpecial?_slot (name := Str.ofString "__next__") hit.typeIs F.slot_tuple_iterator_next
    (wpAny_call_entry F.slot_tuple_iterator_next hit.typeIs F.entry_tuple_iterator_next ?_ (F.args_tuple_iterator_next_1 _))
  show wpAny _ _ (field (.ref it) 0 >>= _) _ _ s
  refine wpAny_bind (wpAny_field ho hd (x := .ref l) rfl ?_)
  show wpAny _ _ (if (Value.ref l == Value.none) = true then _ else _) _ _ s
  rw [if_neg (show ¬ ((Value.ref l == Value.none) = true) from Bool.false_ne_true)]
  show wpAny _ _ (field (.ref it) 1 >>= _) _ _ s
  refine wpAny_bind (wpAny_field ho hd (x := .int i 0) rfl ?_)
  show wpAny _ _ (seqItems? (.ref l) >>= _) _ _ s
  refine wpAny_bind (wpAny_seqItems hol hdl ?_)
  simp only [Int.toNat_natCast, hx]
  refine wpAny_bind (wpAny_rule (wpAny_bind (wpAny_setField ho hd (by simp) ?_)))
  show wpAny _ _ (newExc (.type "StopIteration") [] >>= _) _ _ _
  refine wpAny_bind ?_
  simp only [newExc, newTuple]
  refine wpAny_bind (wpAny_newObj_type ?_ (by size_fits))
  refine wpAny_bind (m := firstArgMember _ _) (wpAny_of_eq (a := Value.none) (by first | rfl | (simp only [firstArgMember]; rfl)) ?_)
  refine wpAny_newObj_type ?_ (by size_fits)
  simp only [raiseNew]
  refine wpAny_bind (wpAny_handled ?_)
  first | rw [show A.in1.handled = none from hh] | rw [hh]
  refine wpAny_bind (wpAny_pure (wpAny_throw ?_))
  exact hE _ _ (((Heap.SameBut.update ..).extBut.push _).push _) ⟨_, Heap.get?_push_size _ rfl, rfl⟩
noncomputable def FSt (fa it l : Addr) (items : Array Value) (xs : List Str) (i : Nat) (h : Heap) : Prop :=
  h.get? fa = some (filtO (.builtin "len") it) ∧ h.IsTuple l items ∧ ∃ j, h.IsTupleIter it l j ∧ j ≤ xs.length ∧ ((xs.take j).filter ne0).length = i
theorem filtCode {fa it l : Addr} {items : Array Value} {xs : List Str} (hh : A.handled = none) (hit : ∀ (j : Nat) (v : Value), items[j]? = some v → ∃ u, v = Value.str (xs.getD j "") u) (hsz : items.size = xs.length) (hx : ∀ x ∈ xs, x.length ≤ 100000)
    (nfi : fa ≠ it) (nli : l ≠ it) :
    ∀ (k j : Nat) (s : Shared), k = xs.length - j → j ≤ xs.length → s.heap.get? fa = some (filtO (.builtin "len") it) → s.heap.IsTuple l items → s.heap.IsTupleIter it l j →
      (∀ x u h' tk j', j < j' → j' ≤ xs.length → xs[j' - 1]? = some x → ne0 x = true → ((xs.take (j' - 1)).drop j).filter ne0 = [] → h'.IsTupleIter it l j' → Heap.SameBut it s.heap h' → R (.ok (.ret (.str x u))) { s with heap := h', toks := tk }) →
      ((xs.drop j).filter ne0 = [] → ∀ h' tk e, Heap.ExtBut it s.heap h' → (∃ o, h'.get? e = some o ∧ o.cls = .type "StopIteration") → R (.error (.ref e)) { s with heap := h', toks := tk }) →
      codeAny (model prog w) A (.builtin "filter.__next__" ⟨[.ref fa], []⟩) R s := by
  intro k
  induction k with
  | zero =>
    intro j s hk hj hf hl hi hitem hend
    have : j = xs.length :=by omega
    subst this
    refine codeAny_builtin entry_filter_next ?_
    rw [Around.under_plainId slot_filter_next.plain _]
    show wpAny _ A.in1 (field (.ref fa) 0 >>= _) _ _ s
    refine wpAny_bind (wpAny_field (x := .builtin "len") hf rfl rfl (wpAny_bind (wpAny_field (x := .ref it) hf rfl rfl ?_)))
    refine wpAny_bind (tupNextEnd hh hi hl (by rw [Array.getElem?_eq_none_iff]; omega) λh' e hk he =>?_)
    exact hend (by rw [List.drop_length]; rfl) h' s.toks e hk he
  | succ k ih =>
    intro j s hk hj hf hl hi hitem hend
    have hlt : j < xs.length :=by omega
    refine codeAny_builtin entry_filter_next ?_
    rw [Around.under_plainId slot_filter_next.plain _]
    show wpAny _ A.in1 (field (.ref fa) 0 >>= _) _ _ s
    refine wpAny_bind (wpAny_field (x := .builtin "len") hf rfl rfl (wpAny_bind (wpAny_field (x := .ref it) hf rfl rfl ?_)))
    have hv : items[j]? = some items[j] := Array.getElem?_eq_getElem (by omega)
    refine X11 (λu hu =>?_) (hit j _ hv)
    have hxj : xs[j]? = some (xs.getD j "") := by simp [List.getD_eq_getElem?_getD, hlt]
    have hmem : xs.getD j "" ∈ xs := List.mem_of_getElem? hxj
    generalize hxx : xs.getD j "" = x at *
    refine wpAny_bind (tupNextItem hi hl hv λh' hi' hs =>?_)
    rw [hu]
    refine wpAny_bind (wpAny_holding ?_)
    rw [if_neg (show ¬ ((Value.builtin "len" == Value.none || Value.builtin "len" == Value.type "bool") = true) by decide)]
    refine wpAny_bind (PyProof.Rows.len_str (by have := hx x hmem; omega) (wpAny_holding (PyProof.Rows.truthy_int ?_)))
    have hne : ((x.length : Int) != 0) = ne0 x :=by
      unfold ne0
      cases h : x.length with
      | zero =>rfl
      | succ n =>rfl
    rw [hne]
    have hf' : h'.get? fa = some (filtO (.builtin "len") it) := (hs.2 fa nfi).trans hf
    have hl' : h'.IsTuple l items :=by revert hl; refine X12 λo ho r =>?_; exact ⟨o, (hs.2 l nli).trans ho, r⟩
    cases hb : ne0 x with
    | true =>
      rw [if_pos rfl]
      refine wpAny_pure (hitem x u h' _ (j + 1) (Nat.lt_succ_self _) hlt (by simpa using hxj) hb ?_ hi' hs)
      simp
    | false =>
      rw [if_neg (by decide)]
      refine wpAny_pure ⟨plainId_quiet slot_filter_next.plain _, ih (j + 1) _ (by omega) hlt hf' hl' hi' ?_ ?_⟩
      · intro y u' h'' tk j' h1 h2 h3 h4 h5 h6 h7
        refine hitem y u' h'' tk j' (by omega) h2 h3 h4 ?_ h6 (hs.trans h7)
        have e : (xs.take (j' - 1)).drop j = x :: (xs.take (j' - 1)).drop (j + 1) :=by
          rw [← List.getElem_cons_drop (i := j) (h :=by simp; omega)]
          congr 1
          have := hxj
          simp [List.getElem?_eq_getElem hlt] at this
          simp [this]
        rw [e, List.filter_cons, hb]
        exact h5
      · intro h1 h'' tk e h2 h3
        refine hend ?_ h'' tk e (λa o ha e' =>h2 a o ha ((hs.2 a ha).trans e')) h3
        have e : xs.drop j = x :: xs.drop (j + 1) :=by
          rw [← List.getElem_cons_drop (h := hlt)]
          congr 1
          have := hxj
          simp [List.getElem?_eq_getElem hlt] at this
          exact this
        rw [e, List.filter_cons, hb]
        exact h1
end
end Mine
end
section
namespace Mine
open PySem PySem.Spec PySem.Calls PyProof.Rows PySem.W
theorem filt_step {xs : List Str} {j j' i : Nat} {x : Str} (hj : j < j') (hj' : j' ≤ xs.length) (hx : xs[j' - 1]? = some x) (hn : ne0 x = true) (h0 : ((xs.take (j' - 1)).drop j).filter ne0 = []) (hi : ((xs.take j).filter ne0).length = i) :
    ((xs.take j').filter ne0).length = i + 1 ∧ (xs.filter ne0).getD i "" = x := by
  obtain ⟨q, rfl⟩ : ∃ q, j' = q + 1 := ⟨j' - 1, by omega⟩
  simp only [Nat.add_sub_cancel] at hx h0
  have e1 : xs.take (q + 1) = xs.take q ++ [x] :=by rw [List.take_add_one, hx]; rfl
  have e2 : xs.take q = xs.take j ++ (xs.take q).drop j :=by
    have := List.take_append_drop j (xs.take q)
    rw [List.take_take, Nat.min_eq_left (by omega)] at this
    exact this.symm
  have e3 : (xs.take (q + 1)).filter ne0 = (xs.take j).filter ne0 ++ [x] :=by
    rw [e1, e2, List.filter_append, List.filter_append, h0, List.append_nil]
    simp [hn]
  refine ⟨by rw [e3]; simp [hi], ?_⟩
  have e4 : xs.filter ne0 = ((xs.take j).filter ne0 ++ [x]) ++ (xs.drop (q + 1)).filter ne0 :=by
    rw [← e3, ← List.filter_append, List.take_append_drop]
  rw [e4, List.getD_eq_getElem?_getD, List.append_assoc, List.getElem?_append_right (by omega), hi]
  simp
section
variable {prog : Program} {w : World} {A : Around} {E : Value → Shared → Prop} {s : Shared}
theorem typeIs_stop {s : Shared} {e : Addr} (h : ∃ o, s.heap.get? e = some o ∧ o.cls = .type "StopIteration") : s.TypeIs (.ref e) "StopIteration" := h
theorem filtWalks (hh : A.handled = none) {fa it l : Addr} {items : Array Value} {xs : List Str} (hit : ∀ (j : Nat) (v : Value), items[j]? = some v → ∃ u, v = Value.str (xs.getD j "") u) (hsz : items.size = xs.length) (hx : ∀ x ∈ xs, x.length ≤ 100000) (nfi : fa ≠ it) (nli : l ≠ it) :
    Walks prog w A fa [fa, it, l] [it] (xs.filter ne0).length (fun i v => ∃ u, v = Value.str ((xs.filter ne0).getD i "") u) (FSt fa it l items xs) where
  sub := λb hb =>by simp at hb; simp [hb]
  frame := λi h h' st hk =>by
    obtain ⟨h1, ⟨o, ho, r⟩, j, ⟨o2, ho2, r2⟩, h3, h4⟩ := st
    exact ⟨hk _ (by simp) _ h1, ⟨o, hk _ (by simp) _ ho, r⟩, j, ⟨o2, hk _ (by simp) _ ho2, r2⟩, h3, h4⟩
  item := λi s Q E hi st hQ =>by
    obtain ⟨h1, h2, j, h3, h4, h5⟩ := st
    have hT : s.TypeIs (.ref fa) "filter" := ⟨_, h1, rfl⟩
    unfold pyNext
    refine wpAny_bind (wpAny_attempt (wpAny_callSpecial?_slot hT slot_filter_next (wpAny_call (codeAny_call_builtin_code (plainId_quiet slot_filter_next.plain _) (slot_filter_next.check _ _ _ _ _ _ _ _ hT (args_filter_next_1 _) ?_)))))
    refine filtCode hh hit hsz hx nfi nli _ j s rfl h4 h1 h2 h3 (λx u h' tk j' a1 a2 a3 a4 a5 a6 a7 =>?_) (λh0 =>?_)
    · refine X02 (fun e1 e2 => ?_) (filt_step a1 a2 a3 a4 a5 h5)
      refine wpAny_pure (hQ _ h' tk ⟨u, by rw [e2]⟩ ⟨(a7.2 fa nfi).trans h1, ?_, j', a6, a2, e1⟩ λb o hb e =>(a7.2 b (by simpa using hb)).trans e)
      revert h2; refine X12 λo ho r =>?_
      exact ⟨o, (a7.2 l nli).trans ho, r⟩
    · exfalso
      have e : xs.filter ne0 = (xs.take j).filter ne0 ++ (xs.drop j).filter ne0 :=by rw [← List.filter_append, List.take_append_drop]
      rw [e, h0, List.append_nil, h5] at hi
      exact Nat.lt_irrefl _ hi
  done := λs Q E st hQ =>by
    obtain ⟨h1, h2, j, h3, h4, h5⟩ := st
    have hT : s.TypeIs (.ref fa) "filter" := ⟨_, h1, rfl⟩
    unfold pyNext
    refine wpAny_bind (wpAny_attempt (wpAny_callSpecial?_slot hT slot_filter_next (wpAny_call (codeAny_call_builtin_code (plainId_quiet slot_filter_next.plain _) (slot_filter_next.check _ _ _ _ _ _ _ _ hT (args_filter_next_1 _) ?_)))))
    refine filtCode hh hit hsz hx nfi nli _ j s rfl h4 h1 h2 h3 (λx u h' tk j' a1 a2 a3 a4 a5 a6 a7 =>?_) (λh0 h' tk e hk he =>?_)
    · exfalso
      refine X02 (λe1 e2 =>?_) (filt_step a1 a2 a3 a4 a5 h5)
      have e : xs.filter ne0 = (xs.take j').filter ne0 ++ (xs.drop j').filter ne0 :=by rw [← List.filter_append, List.take_append_drop]
      have := congrArg List.length e
      rw [List.length_append, e1] at this
      omega
    · refine wpAny_bind (wpAny_isInstance (typeIs_stop (s := { s with heap := h', toks := tk }) he) (b := true) (by rw [isSubtype_type]; kernel_rfl) ?_)
      exact wpAny_pure (hQ h' tk λb o hb e =>hk b o (by simpa using hb) e)
  self := λi s Q E st hQ =>wpAny_pyIter_filter st.1 hQ
end
end Mine
end
section
namespace Mine
open PySem PySem.Spec PySem.Calls PyProof.Rows PySem.W
structure PlatAt (X : Cx) (c : Addr) (pos : Pos) : Prop where
  bm : ∃ bm ob, BMod X.h₁ mainGlobals X.mg bm ob ∧ bm ≠ X.P
  look : ∀ {h}, X.Tab h → ∃ ps, h.IsCode c X.P ps ∧ h.TableAt c X.P ps
  grow : ∀ {h h' : Heap} {ps c'}, X.Tab h → h.TableAt c X.P ps → Heap.ExtBut X.P h h' → h'.IsCode c X.P (ps ++ #[rawInt pos.line, rawInt pos.col, .ref c']) → h'.TableAt c X.P (ps ++ #[rawInt pos.line, rawInt pos.col, .ref c']) → X.Tab h'
section
variable {X : Cx} {k : Nat} {hb : Heap} {Sb S S' : Store} {Γ : Sc} {env : Env} {σ σ' : St} {s s₁ s' : Shared} {A : Around} {E : Value → Shared → Prop}
theorem Step.table (g : Gd X S s) {h' : Heap} {t : Nat} (hk : Heap.ExtBut X.P s.heap h') (htab : X.Tab h') (hP : ∃ o, h'.get? X.P = some o) (ht : 0 < s.toks → 0 < t) : Step X S s S { s with heap := h', toks := t } :=
  ⟨⟨λa o e =>hk a o (λq =>by subst q; rw [g.sP] at e; exact nos e) (g.inn a o e), g.s0, λa o n e =>hk a o n (g.base a o n e), g.isSeq, g.sP, g.p1, hP, g.bare, htab, g.os, ht g.tp⟩, .refl _, .of hk, λ_ _ e =>.inl e⟩
theorem callStrip {x : Str} {t : Tok} {Q : Value → Shared → Prop} {prog : Program} {w : World} (hx : x.length ≤ sizeLine) (h : ∀ t' k, Q (.str (Txt.strip x) t') { s with toks := k }) : wpAny (model prog w) A (call (.builtin "str.strip") [.str x t]) Q E s :=
  call_meets PySem.F.slot_str_strip (typeIs_str _ _ _) PySem.F.entry_str_strip (PySem.F.args_str_strip_1 _) (gives_str_strip x t).meets (post_val_or_made (λ_ =>fits_stripped _ _ _ hx) h)
theorem passing_all (n : Nat) : passing (λ_ =>true) n 0 = List.range n :=by
  unfold passing
  simp
theorem stripElt {cenv : Env} {x : Str} {y : Str} {t : Tok} {m₂ : Str → Option Value} {px ap pos : Pos} {prog : Program} {w : World} {Q : Value → Shared → Prop} (hk : cenv.scope.kind = .function) (hx : cenv.kindOf x = some .local) (hd : x ≠ Str.ofString "__debug__") (he : ap.endLine = pos.line) (hn : s.heap.Ns cenv.locals m₂) (hm : m₂ x = some (.str y t)) (hy : y.length ≤ sizeLine)
    (h : ∀ t' k, Q (.str (Txt.strip y) t') { s with toks := k }) : wpAny (model prog w) A (eval (.Call (.Attribute (.Name x px) (Str.ofString "strip") ap) [] [] pos) cenv) Q E s := by
  refine MethodCall_ (PySem.wpAny_Name (wpAny_loadName_local hk hx hn hm ?_) (by simpa using hd)) (method_eq rfl rfl (by simp) he)
  refine getMethod_builtin (T := "str") (typeIs_str _ _ _) PySem.F.plainAttrs_str PySem.F.slot_str_strip PySem.F.type_str_strip (fun a e => by cases e) ?_
  exact callWith_method0 (callStrip hy h)
end
end Mine
end
section
namespace Mine
open PySem PySem.Spec PySem.Calls PyProof.Rows PySem.W
noncomputable def platJ (xs : List Str) : Str := Txt.join (Str.ofString "-") ((xs.filter ne0).map Txt.strip)
section
variable {X : Cx} {k : Nat} {hb : Heap} {Sb S S' : Store} {Γ : Sc} {env : Env} {σ σ' : St} {s s₁ s' : Shared} {A : Around} {E : Value → Shared → Prop}
set_option maxHeartbeats 1600000 in
theorem platJoin (O : CxOk X) {c : Addr} {pos : Pos} (PA : PlatAt X c pos) (hcode : env.code = .ref c) (R : Room A k) (T : At X hb Sb Γ env σ S s) {ar pl x : Str} {xs : List Str} (hargs : σ.ρ.lookup ar = some (.tuple (xs.map PyData.str))) (hxs : ∀ x ∈ xs, x.length ≤ 100000) (hxl : xs.length ≤ 100000)
    (hok : JoinOk (Str.ofString "-") ((xs.filter ne0).map Txt.strip) = true) (had : ar ≠ Str.ofString "__debug__") (hxd : x ≠ Str.ofString "__debug__") (hpl : Γ.mayStore pl = true)
    (hkf : Γ.names.lookup (Str.ofString "filter") = some .globalImplicit) (hgf : GlobIs X (Str.ofString "filter") (.type "filter")) (hkl : Γ.names.lookup (Str.ofString "len") = some .globalImplicit) (hgl : GlobIs X (Str.ofString "len") (.builtin "len"))
    {scope : Scope} (hco : scope.isCoroutine = false) (hclos : closureFor scope env = pure []) (hcell : ∀ y ∈ scope.names, y.2 ≠ .cell) (h0 : scope.names.lookup (".0" : Str) = some NameKind.local) (hx : scope.names.lookup x = some .local) (hkind : scope.kind = .function)
    {p1 p2 p3 p4 p5 p6 p7 p8 p9 pa pb ap ap2 : Pos} {c1 : Nat} (he : ap.endLine = p2.line) (he2 : ap2.endLine = p4.line) {Q : Flow → Shared → Prop}
    (hQ : ∀ s', At X hb Sb Γ env ⟨setLoc pl (.str (platJ xs)) σ.ρ, unown pl σ.ω⟩ S s' → SStep X S s S s' → Q .next s') :
    wpAny X.M A (exec (.Assign [.Name pl p1] (.Call (.Attribute (.Constant (.str (Str.ofString "-")) c1 p5) (Str.ofString "join") ap) [.GeneratorExp (.Call (.Attribute (.Name x p3) (Str.ofString "strip") ap2) [] [] p4)
      [⟨.Name x p6, .Call (.Name (Str.ofString "filter") p7) [.Name (Str.ofString "len") p8, .Name ar p9] [] pa, [], 0⟩] scope pos] [] p2) pb) env) Q E s := by
  have sl : (100000 : Nat) ≤ sizeLine :=by decide
  have hdep := R.depth
  refine PySem.wpAny_Assign_Name (MethodCall_ (PySem.wpAny_Constant_str ?_) (method_eq rfl rfl (by simp) he)) rfl
  refine strMeth (X := X) (S := S) PySem.F.slot_str_join PySem.F.type_str_join (.str _ _) ?_
  refine callWith_method1 (args_cons ?_ rfl) rfl rfl
  have T1 := T.toks (s.toks + 1)
  refine wpAny_with_toks (n := 1) (Nat.succ_le_succ (Nat.zero_le _)) ?_
  refine wpAny_GeneratorExp_walksQ (s := { s with toks := s.toks + 1 }) R.handled hco hclos hcell h0 hx hkind (by show A.depth < 1000; omega) ?_ (λx =>rfl)
  refine Call_ (evalGlob O T1 hkf hgf (by decide) ?_) rfl
  refine PyProof.Rows.callWith_type1 (args_cons (evalGlob O T1 hkl hgl (by decide) (args_cons (evalVar T1 hargs (by simpa using had) λv r =>args_nil ?_) rfl)) rfl) rfl rfl
  obtain ⟨l, items, n, rfl, hS, rs⟩ := r.tuple_inv
  have hl := T1.gd.inn _ _ hS
  refine callType_new called_filter (by decide) (typeCall_filter_2 _ _) (newCall_filter_2 _ _) (fun obj => F.args_object_init_3 obj _ _) entry_filter_new (meets_filter_tuple (.builtin "len") l items n) ⟨hl, ?_⟩
  have st1 := Step.push O T1.gd { cls := .type "tuple_iterator", data := .fields #[.ref l, .int 0 0] } (s.toks + 1)
  generalize hh1 : s.heap.push { cls := .type "tuple_iterator", data := .fields #[.ref l, .int 0 0] } = h1 at *
  have hit : h1.IsTupleIter s.heap.objs.size l 0 :=by rw [← hh1]; exact ⟨_, Heap.get?_push_size _ rfl, rfl, rfl⟩
  have z1 : h1.objs.size = s.heap.objs.size + 1 :=by rw [← hh1]; exact Heap.size_push ..
  have st2 := st1.trans (Step.push O st1.gd (filtO (.builtin "len") s.heap.objs.size) (s.toks + 1))
  show _ ∧ _
  generalize hh2 : h1.push (filtO (.builtin "len") s.heap.objs.size) = h2 at *
  have k2 : ∀ b o, h1.get? b = some o → h2.get? b = some o := λb o e =>by rw [← hh2]; exact Heap.get?_push_of_some _ e
  have hfa : h2.get? h1.objs.size = some (filtO (.builtin "len") s.heap.objs.size) := by rw [← hh2]; exact Heap.get?_push_size _ rfl
  have z2 : h2.objs.size = s.heap.objs.size + 2 := by rw [← hh2]; have := Heap.size_push h1 (filtO (.builtin "len") s.heap.objs.size); omega
  have st2' : Step X S { s with toks := s.toks + 1 } S { s with heap := h2, toks := s.toks + 1 } := st2
  refine ⟨⟨_, hfa, rfl⟩, wpAny_pyIter_filter (s := { s with heap := h2, toks := s.toks + 1 }) hfa ⟨st2'.gd.lim O, ?_⟩⟩
  have nit : s.heap.get? s.heap.objs.size = none := get?_size _
  have nfa : s.heap.get? h1.objs.size = none := ge_none (by omega)
  have itP : s.heap.objs.size ≠ X.P := T.gd.notP' nit
  have faP : h1.objs.size ≠ X.P := T.gd.notP' nfa
  have lP : l ≠ X.P := λq =>by rw [q, T.gd.sP] at hS; cases hS
  have hlt : l < s.heap.objs.size := Heap.lt_size hl
  have ks : ∀ b o, s.heap.get? b = some o → h2.get? b = some o := λb o e =>k2 _ _ (by rw [← hh1]; exact Heap.get?_push_of_some _ e)
  have nfi : h1.objs.size ≠ s.heap.objs.size :=by rw [z1]; exact Nat.succ_ne_self _
  have e1 := rs.length
  simp only [Array.length_toList, List.length_map] at e1
  have hitm : ∀ (j : Nat) (v : Value), items[j]? = some v → ∃ u, v = Value.str (xs.getD j "") u := fun j v hj => by
    have hj' : items.toList[j]? = some v :=by simpa using hj
    have hlt : j < xs.length :=by
      have := (Array.getElem?_eq_some_iff.mp hj).1; omega
    obtain ⟨v', g1, g2⟩ := rs.get j (d := .str xs[j]) (by simp [hlt])
    rw [hj'] at g1; cases g1
    obtain ⟨u, rfl⟩ := g2.str_inv
    exact ⟨u, by simp [List.getD_eq_getElem?_getD, hlt]⟩
  have hshort : ∀ i : Nat, ((xs.filter ne0).getD i "").length ≤ sizeLine := fun i => by
    rw [List.getD_eq_getElem?_getD]
    cases q : (xs.filter ne0)[i]? with
    | none =>exact Nat.zero_le _
    | some y =>
      have := hxs y (List.mem_filter.mp (List.mem_of_getElem? q)).1
      show y.length ≤ sizeLine
      omega
  have main : ∀ (E' : Value → Shared → Prop) (code : Value) (h3 : Heap) (tk : Nat), Heap.ExtBut X.P h2 h3 → Step X S { s with toks := s.toks + 1 } S { s with heap := h3, toks := tk } → h2.objs.size ≤ h3.objs.size → wpAny X.M A (builtinsFor env.globals env.builtins) (fun bi s₄ =>
        ∃ I fp wr n₀ P St₀ pz F, (Value.ref h1.objs.size) = .ref I ∧ (∀ A' : Around, A'.handled = none → Walks PySem.Challenge.pw_mr0260_01 X.w A' I fp wr n₀ P St₀) ∧ St₀ 0 s₄.heap ∧ (∀ b ∈ fp, b < s₄.heap.objs.size) ∧ s₄.heap.NoLimit ∧ cStatics ∉ wr ∧
          (∀ href : Heap, (∀ b o, s₄.heap.get? b = some o → href.get? b = some o) →
            QuietGen PySem.Challenge.pw_mr0260_01 X.w (genEnv scope [] s₄.heap.objs.size code bi env) x [] (.Call (.Attribute (.Name x p3) (Str.ofString "strip") ap2) [] [] p4) (List.range s₄.heap.objs.size) wr P pz F href) ∧
          (∀ a h₅ tk gs, gs.bare = true → s₄.heap.objs.size < a → h₅.objs.size = a + 1 → (∀ b o, s₄.heap.get? b = some o → h₅.get? b = some o) →
            WalksS PySem.Challenge.pw_mr0260_01 X.w A.in4 a (a :: s₄.heap.objs.size :: List.range s₄.heap.objs.size) (s₄.heap.objs.size :: wr) (GenOnlyQ s₄.gens.size) (passing pz n₀ 0).length
              (λj y =>∃ i, (passing pz n₀ 0)[j]? = some i ∧ F i y) (GenAt PySem.Challenge.pw_mr0260_01 X.w A.in4 a s₄.gens.size s₄.heap.objs.size (List.range s₄.heap.objs.size) wr pz n₀ F) →
            GenAt PySem.Challenge.pw_mr0260_01 X.w A.in4 a s₄.gens.size s₄.heap.objs.size (List.range s₄.heap.objs.size) wr pz n₀ F 0 { s₄ with gens := s₄.gens.push gs, toks := tk, heap := h₅ } →
            (1 ≤ tk → wpAny X.M A (spliced (backTo p2 (starEach [] env))) (fun vs s₂ => wpAny X.M A (call (.builtin "str.join") ([.str (Str.ofString "-") s.toks] ++ .ref a :: vs)) (fun v s₁ => wpAny X.M A (storeName env pl v) (fun _ => Q .next) E s₁) E s₂) E { s₄ with gens := s₄.gens.push gs, toks := tk, heap := h₅ }))) E' { s with heap := h3, toks := tk } := by
    intro E' code h3 tk hx3 st3 hz3
    have b1 : h1.objs.size < h3.objs.size :=by omega
    have b2 : s.heap.objs.size < h3.objs.size :=by omega
    obtain ⟨bm, ob, M, hbm⟩ := PA.bm
    rw [T.envOk.glob]
    refine wpAny_builtinsFor (st3.gd.gNs O) M.name M.ne (st3.gd.base bm ob hbm M.obj) M.cls M.dict M.data ?_
    have hl3 : h3.IsTuple l items := ⟨_, hx3 _ _ lP (ks _ _ hl), rfl, n, rfl⟩
    have hit3 : h3.IsTupleIter s.heap.objs.size l 0 :=by obtain ⟨o, ho, r⟩ := hit; exact ⟨o, hx3 _ _ itP (k2 _ _ ho), r⟩
    have hcs : ∃ o, s.heap.get? cStatics = some o :=by
      obtain ⟨u1, hns, u2⟩ := T.gd.lim O
      obtain ⟨o, u3, u4, ho, u5⟩ := hns
      exact ⟨o, ho⟩
    refine ⟨h1.objs.size, [h1.objs.size, s.heap.objs.size, l], [s.heap.objs.size], (xs.filter ne0).length, _, _, fun _ => true, fun i y => ∃ u, y = Value.str (Txt.strip ((xs.filter ne0).getD i "")) u, rfl,
      λA' hA =>filtWalks hA hitm (by omega) hxs nfi (Nat.ne_of_lt hlt), ⟨hx3 _ _ faP hfa, hl3, 0, hit3, Nat.zero_le _, rfl⟩, ?_, st3.gd.lim O, ?_, ?_, ?_⟩
    · intro b hb
      show b < h3.objs.size
      simp only [List.mem_cons, List.not_mem_nil, or_false] at hb
      rcases hb with rfl | rfl | rfl
      · exact b1
      · exact b2
      · exact Nat.lt_trans hlt b2
    · intro hm
      obtain ⟨o, ho⟩ := hcs
      rw [List.mem_singleton.mp hm, nit] at ho; cases ho
    · intro href hhref
      refine ⟨λA' E' i v s₂ m₂ _ _ _ _ _ =>wpAny_pure ⟨rfl, s₂.heap, s₂.toks, rfl, λ_ _ e =>e⟩, λA' E' i v s₂ m₂ _ hP _ hn hm _ =>?_⟩
      obtain ⟨u, rfl⟩ := hP
      refine stripElt (cenv := genEnv scope [] _ code _ env) hkind hx hxd he2 hn hm (hshort i) λt' k =>⟨⟨t', rfl⟩, s₂.heap, k, rfl, λ_ _ e =>e⟩
    · intro a h₅ tk5 gs hgb hag hsz5 hk5 W hat htk
      refine args_nil ?_
      show wpAny X.M A (call (.builtin "str.join") [.str (Str.ofString "-") s.toks, .ref a]) _ E _
      have hfl : (xs.filter ne0).length ≤ 100000 := Nat.le_trans (List.length_filter_le _ _) hxl
      have hpl' : (passing (λ_ =>true) (xs.filter ne0).length 0).length = (xs.filter ne0).length :=by rw [passing_all, List.length_range]
      refine wpAny_with_toks (n := 1) htk ?_
      refine SC.joinGen W.in4_2 (λi s' st =>st.1.typeIs) hat ?_ List.mem_cons_self ?_ ?_ ?_
      · intro b hb
        show b < h₅.objs.size
        rw [hsz5]
        rcases List.mem_cons.mp hb with rfl | hb
        · exact Nat.lt_succ_self _
        · rcases List.mem_cons.mp hb with rfl | hb
          · exact Nat.lt_succ_of_lt hag
          · exact Nat.lt_succ_of_lt (Nat.lt_trans (List.mem_range.mp hb) hag)
      · rintro j v ⟨q, _, u, rfl⟩
        exact ⟨_, u, rfl⟩
      · intro s' lt hm hacc
        have hlt' : lt.map (·.1) = (xs.filter ne0).map Txt.strip :=by
          apply List.ext_getElem?
          intro j
          have hsz : lt.length = (xs.filter ne0).length :=by
            have := hacc.1
            rw [hpl'] at this
            simpa [strValues] using this
          by_cases hj : j < (xs.filter ne0).length
          · have hj' : j < lt.length := hsz ▸ hj
            obtain ⟨q, hq, u, hv⟩ := hacc.2 j (.str lt[j].1 lt[j].2) (by simp [strValues, List.getElem?_eq_getElem hj'])
            rw [passing_all, List.getElem?_range hj] at hq
            cases hq
            injection hv with g1 _
            simp [List.getElem?_eq_getElem hj', hj, g1, List.getD_eq_getElem?_getD]
          · rw [List.getElem?_eq_none (by simpa [hsz] using Nat.le_of_not_lt hj), List.getElem?_eq_none (by simpa using Nat.le_of_not_lt hj)]
        rw [hlt']
        refine ⟨hok, λt' kk hkk =>?_⟩
        have gb : AllBare s'.gens := AllBare.movedS (s := { s with heap := h₅, gens := s.gens.push gs, toks := tk5 }) (T.gd.bare.push hgb) hm
        have hC3 : h3.get? h3.objs.size = none := get?_size _
        have mv : ∀ b o, b ≠ s.heap.objs.size → h3.get? b = some o → s'.heap.get? b = some o := λb o hb e =>by
          refine hm.heap b o (λhmm =>?_) (hk5 b o e)
          rcases List.mem_cons.mp hmm with q | q
          · rw [q] at e
            have e' : h3.get? h3.objs.size = some o := e
            rw [hC3] at e'; cases e'
          · exact hb (List.mem_singleton.mp q)
        have stF : Step X S s S { s' with toks := kk } :=by
          have keepS : ∀ a o, a ≠ X.P → s.heap.get? a = some o → s'.heap.get? a = some o := λa o hn e =>mv a o (λq =>by rw [q, nit] at e; cases e) (hx3 a o hn (ks a o e))
          refine ⟨⟨λa o e =>keepS a o (λq =>by rw [q, T.gd.sP] at e; cases e) (T.gd.inn a o e), T.gd.s0, λa o hn e =>keepS a o hn (T.gd.base a o hn e), T.gd.isSeq, T.gd.sP, T.gd.p1, ?_, gb, ?_, ?_, hkk⟩, .refl _, .of keepS, λ_ _ e =>.inl e⟩
          · obtain ⟨o, ho⟩ := st3.gd.pH
            exact ⟨o, mv _ o (Ne.symm itP) ho⟩
          · refine O.tabOk.keep st3.gd.tab fun a o e cc => mv a o (fun q => ?_) e
            rw [q] at e cc
            obtain ⟨o2, ho2, hc2, u6⟩ := hit3
            have e' : h3.get? s.heap.objs.size = some o := e
            rw [ho2] at e'; cases e'
            rcases cc with ⟨o', e'⟩ | cd
            · rw [T.gd.back _ nit] at e'; cases e'
            · rcases cd.2 with q | q <;> rw [hc2] at q
              · exact absurd (Value.type.inj q) (by decide)
              · cases q
          · show s'.os = _
            exact hm.os.trans T.gd.os
        refine storeVar O.tabOk (T.step stF) hpl (.str _ _) (sets_of σ pl (.str (platJ xs))) λs₉ T₉ nk =>hQ _ T₉ (stF.sstep.trans nk.sstep)
      · rw [hpl']; omega
  obtain ⟨ps, hIC, hTA⟩ := PA.look st2'.gd.tab
  cases hca : codeAmong pos ps.toList with
  | none =>
    refine wpAny_with_toks (n := 1) (Nat.succ_le_succ (Nat.zero_le _)) (wpAny_genexprCodeX hcode hIC hTA hca λc' h3 tk hx3 hge hlt3 hIC3 _ hTA3 _ htk =>?_)
    have st3 := st2'.trans (Step.table st2'.gd hx3 (PA.grow st2'.gd.tab hTA hx3 hIC3 hTA3) ⟨_, hTA3.2⟩ (t := tk) λ_ =>htk)
    exact main _ _ h3 tk hx3 st3 (Nat.le_trans hge (Nat.le_of_lt hlt3))
  | some cv =>
    exact wpAny_genexprCode_hit hcode hIC hca (main _ cv h2 (s.toks + 1) (λ_ _ _ e =>e) st2' (Nat.le_refl _))
end
end Mine
end
section
namespace Mine
open PySem PySem.Spec PySem.Calls PyProof.Rows PySem.W
section
variable {X : Cx} {k : Nat} {hb : Heap} {Sb S S' : Store} {Γ : Sc} {env : Env} {σ σ' : St} {s s₁ s' : Shared} {A : Around} {E : Value → Shared → Prop}
structure VarDefAt (X : Cx) (f ar : Str) (body : List Stmt) (names : List (Str × NameKind)) (c : Addr) : Prop where
  ex : ∃ a o fd, GlobIs X f (.ref a) ∧ X.h₁.get? a = some o ∧ a ≠ X.P ∧ o.data = .func fd ∧ X.h₁.CodeRec fd.code fd.qualname ∧ fd.code = .ref c ∧ c ≠ X.P ∧ fd.body = .stmts body ∧ fd.closure = [] ∧ fd.globals = mainGlobals ∧ fd.builtins = builtinsNs ∧
    fd.scope.kind = .function ∧ fd.scope.names = names ∧ fd.scope.isCoroutine = false ∧ fd.scope.isGenerator = false ∧ (∀ vals, bindArgs fd ⟨vals, []⟩ = (do let t ← newTuple vals; pure [(ar, t)]))
theorem varDefOk (O : CxOk X) {f ar : Str} {body : List Stmt} {names : List (Str × NameKind)} {c : Addr} (D : VarDefAt X f ar body names c) (har : names.lookup ar = some .local ∨ names.lookup ar = some .cell)
    {ds : List PyData} {d : PyData} (hl : ds.length ≤ 100000)
    (hex : ∀ {hb : Heap} {Sb : Store} {env : Env} {S : Store} {s : Shared} {A : Around} {Q : Flow → Shared → Prop} {E : Value → Shared → Prop}, env.code = .ref c →
      Room A k → At X hb Sb ⟨names, []⟩ env ⟨[(ar, .tuple ds)], none⟩ S s → (∀ S' s' σ', At X hb Sb ⟨names, []⟩ env σ' S' s' → SStep X S s S' s' → OutPost Q S' s' (.ret d)) → wpAny X.M A (PySem.execs body env) Q E s) : CallOk X (k + 1) f ds d :=by
  obtain ⟨a, o, fd, hf, ho, haP, hd, hcd, hcc, hcP, hbody, hclo, hg, hbi, hk, hn, hco, hgen, hbind⟩ := D.ex
  subst hn
  refine ⟨.ref a, hf, .inr (.inr ⟨a, o, fd, rfl, ho, haP, hd⟩), λ{S s vs A Q E} R g r hQ =>wpAny_call ?_⟩
  have hcd' : s.heap.CodeRec fd.code fd.qualname :=by
    obtain ⟨c', oc, vc, t, h1, h2, h3, h4⟩ := hcd
    have : c' = c :=by rw [hcc] at h1; cases h1; rfl
    subst this
    exact ⟨c', oc, vc, t, h1, g.base c' oc hcP h2, h3, h4⟩
  have hdep := R.depth
  have sl : (100000 : Nat) ≤ sizeLine :=by decide
  refine codeAny_call_function (by show A.depth < 1000; omega) (g.base a o haP ho) hd hco hgen hbody hcd' ?_
  rw [hbind vs, hclo]
  refine wpAny_bind (newTupleOk O g r (by rw [r.length]; omega) λtv S₁ s₁ st₁ rt =>wpAny_pure ?_)
  have hkb : ∀ x ∈ [ar].zip [tv], fd.scope.names.lookup x.1 = some .local ∨ (fd.scope.names.lookup x.1 = some .cell ∧ ((cellsFrom (s₁.heap.objs.size + 1) fd.scope.names []).lookup x.1).isSome = true) := λx hx =>by
    simp only [List.zip_cons_cons, List.zip_nil_right, List.mem_singleton] at hx
    subst hx
    rcases har with h | h
    · exact .inl h
    · refine X11 (fun c hc => ?_) (cellsFrom_has (n := s₁.heap.objs.size + 1) (mem_of_lookup h))
      refine X11 (λc' hc' =>?_) (mem_lookup hc)
      exact .inr ⟨h, by rw [hc']; rfl⟩
  refine wpAny_with_toks st₁.gd.tp (wpAny_newFunctionEnv_cells hk hkb λenv he s₂ x htk =>?_)
  subst he
  refine ⟨(st₁.gd.lim O).keeps x.toInCall.keep, codeAny_func ?_⟩
  have T := enterAt (a := a) (ps := [ar]) (vs := [tv]) (ds := [.tuple ds]) O st₁.gd hg hbi hk rfl (by simp) (λy hy =>by rw [List.mem_singleton.mp hy]; exact har) (.cons rt .nil) htk x
  refine hex (by show fd.code = _; exact hcc) (R.deeper _) T λS' s' σ' T' _ v rv =>hQ v S' s' (st₁.trans (T'.done rfl)) rv
end
end Mine
end
section
namespace Mine
open PySem PySem.Spec PySem.Calls PyProof.Rows PySem.W
noncomputable def ndE : PySem.Expr := .Constant .none 0 default
noncomputable def at' (b : List Stmt) (k : Nat) : Stmt := b.getD k (.Pass default)
noncomputable def sTgt : Stmt → PySem.Expr
  | .For t _ _ _ _ =>t
  | _ =>ndE
noncomputable def sBody : Stmt → List Stmt
  | .For _ _ b _ _ =>b
  | .If _ b _ _ =>b
  | .While _ b _ _ =>b
  | _ =>[]
noncomputable def sElse : Stmt → List Stmt
  | .For _ _ _ o _ =>o
  | .If _ _ o _ =>o
  | _ =>[]
noncomputable def sTest : Stmt → PySem.Expr
  | .If t _ _ _ =>t
  | .While t _ _ _ =>t
  | _ =>ndE
noncomputable def retE : Stmt → PySem.Expr
  | .Return (some e) _ =>e
  | _ =>ndE
noncomputable def asgE : Stmt → PySem.Expr
  | .Assign _ e _ =>e
  | _ =>ndE
noncomputable def tupE : PySem.Expr → List PySem.Expr
  | .Tuple es _ _ =>es
  | _ =>[]
noncomputable def argE : PySem.Expr → PySem.Expr
  | .Call _ (a :: _) _ _ =>a
  | _ =>ndE
noncomputable def subV : PySem.Expr → PySem.Expr
  | .Subscript v _ _ =>v
  | e =>e
noncomputable def cmpL : PySem.Expr → PySem.Expr
  | .Compare l _ _ _ =>l
  | e =>e
noncomputable def cmpR : PySem.Expr → PySem.Expr
  | .Compare _ _ (r :: _) _ =>r
  | e =>e
noncomputable def bvs : PySem.Expr → List PySem.Expr
  | .BoolOp _ vs _ =>vs
  | _ =>[]
noncomputable def lcElt : PySem.Expr → PySem.Expr
  | .ListComp x _ _ _ =>x
  | e =>e
noncomputable def lcGens : PySem.Expr → List Comprehension
  | .ListComp _ g _ _ =>g
  | _ =>[]
noncomputable def lcScope : PySem.Expr → Scope
  | .ListComp _ _ s _ =>s
  | _ =>⟨.function, [], false, false, []⟩
noncomputable def gen0 (e : PySem.Expr) (k : Nat) : Comprehension := (lcGens e).getD k ⟨ndE, ndE, [], 0⟩
noncomputable def retD (r : Option (Out × St)) : Option PyData := match r with | some (.ret d, _) =>some d | _ =>none
noncomputable def thenS (r : Option (Out × St)) (k : St → Option (Out × St)) : Option (Out × St) := r.bind fun p => match p.1 with
  | .next =>k p.2
  | o =>some (o, p.2)
noncomputable def AllP (P : Nat → Prop) : Nat → Prop
  | 0 =>True
  | n + 1 =>AllP P n ∧ P n
theorem allP {P : Nat → Prop} : ∀ {n : Nat}, AllP P n → ∀ {k : Nat}, k < n → P k
  | _ + 1, h, _, hk =>(Nat.lt_succ_iff_lt_or_eq.mp hk).elim (allP h.1) (λe =>e ▸ h.2)
theorem int_nat {t : Int} {n : Nat} (h0 : 0 ≤ t) (h1 : t < n) : ∃ k : Nat, k < n ∧ t = k := ⟨t.toNat, (Int.toNat_lt h0).mpr h1, (Int.toNat_of_nonneg h0).symm⟩
end Mine
end
section
namespace Mine
open PySem PySem.Spec PySem.Calls PyProof.Rows PySem.W PySem.Builtin PySem.Builtin.Str
noncomputable def fmT : PyData :=
  let p (i : Int) (c : String) : PyData := .tuple [.int i, .str (Str.ofString c)]
  .tuple [.tuple [p 40960 "l", p 49152 "s", p 32768 "-", p 24576 "b", p 16384 "d", p 8192 "c", p 4096 "p"], .tuple [p 256 "r"], .tuple [p 128 "w"], .tuple [p 2112 "s", p 2048 "S", p 64 "x"],
    .tuple [p 32 "r"], .tuple [p 16 "w"], .tuple [p 1032 "s", p 1024 "S", p 8 "x"], .tuple [p 4 "r"], .tuple [p 2 "w"], .tuple [p 513 "t", p 512 "T", p 1 "x"]]
noncomputable def globT : List (Str × PyData) :=
  [(Str.ofString "S_IFDIR", .int 16384), (Str.ofString "S_IFCHR", .int 8192), (Str.ofString "S_IFBLK", .int 24576), (Str.ofString "S_IFREG", .int 32768), (Str.ofString "S_IFIFO", .int 4096), (Str.ofString "S_IFLNK", .int 40960), (Str.ofString "S_IFSOCK", .int 49152),
   (Str.ofString "_twin_re_1", .dict [(.int 36, .none)]), (Str.ofString "_filemode_table", fmT)]
noncomputable def methJoin (sep : Str) (ys : List PyData) : Option PyData := (strsD ys).bind λzs =>if JoinOk sep zs = true ∧ (glued sep zs).length ≤ 100000 then some (.str (glued sep zs)) else none
noncomputable def methSplit (x y : Str) : Option PyData := if y.length ≠ 0 ∧ x.length ≤ 100000 ∧ (Txt.split x y).length ≤ 100000 then some (.list ((Txt.split x y).map PyData.str)) else none
noncomputable def methRe (x : Str) : Option PyData := if x.cps.size ≤ 100000 then some (.list ((reGo [] [] x.cps.toList).map S!)) else none
noncomputable def uD (e : PyData) : Option (List (PyData × PyData)) := if h : e.ctorIdx = 6 then PyData.dict.elim e h λi =>some i else none
theorem uD_eq {e : PyData} {x : (List (PyData × PyData))} (h : uD e = some x) : e = PyData.dict x := diteE h λhc =>PyData.dict.elim (motive_1 := λe =>∀ hc, PyData.dict.elim e hc (λi =>some i) = some x → e = PyData.dict x) e hc (λ_ _ h =>congrArg (λx : (List (PyData × PyData)) =>PyData.dict x) (Option.some.inj h)) hc
noncomputable def patD (d : PyData) : Bool := ifD ((uD d).bind d1) (λp =>ifD (uI p.1) (λi =>decide (i = 36) && isNo p.2) false) false
theorem patD_eq {d : PyData} (h : patD d = true) : d = .dict [(.int 36, .none)] :=by
  revert h; refine ifDC (λp =>bsC λl h1 h2 =>ifDC (λi h3 =>andC λh4 h5 =>?_) λ_ h =>fnt h) λ_ h =>fnt h
  rw [uD_eq h1, d1_eq h2, show p = (p.1, p.2) from rfl, uI_eq h3, of_decide_eq_true h4]
  cases hp : p.2 with
  | none =>rfl
  | _ =>rw [hp] at h5; exact fnt h5
noncomputable def meth0 (self : PyData) (m : Str) (ds : List PyData) : Option PyData := (d1 ds).bind fun a => ifD (uS self)
  (fun x => ifD (uL a) (fun ys => if m = Str.ofString "join" then methJoin x ys else none) ((uS a).bind fun y => if m = Str.ofString "split" then methSplit x y else none))
  (if patD self = true ∧ m = Str.ofString "split" then (uS a).bind methRe else none)
noncomputable def call0 (f : Str) (ds : List PyData) : Option PyData := (d1 ds).bind fun a => ifD (uL a)
  (fun xs => if f = Str.ofString "len" then (if xs.length ≤ 100000 then some (.int xs.length) else none) else if f = Str.ofString "sum" then (intsD xs).bind fun is => some (.int is.sum) else none)
  ((uI a).bind fun i => if f = Str.ofString "str" then (if i.natAbs.log2 < 1920 then some (.str (Str.ofString (toString i))) else none) else if f = Str.ofString "abs" then some (.int (if i < 0 then -i else i)) else none)
noncomputable def G0 : Gl := ⟨λx =>globT.lookup x, call0, meth0⟩
structure TopOk (X : Cx) : Prop where
  ok : CxOk X
  glob : ∀ {x d}, globT.lookup x = some d → ∃ fv, GlobIs X x fv ∧ Rd X.S₀ fv d
  pat : PatAt X 36
  none : ∀ x : String, x ∈ ["len", "sum", "str", "abs", "range", "zip", "enumerate", "isinstance", "bool", "int", "ValueError", "list", "map", "filter"] → X.mg (Str.ofString x) = Option.none
  plat : ∃ a o fd, GlobIs X (Str.ofString "_platform") (.ref a) ∧ X.h₁.get? a = some o ∧ a ≠ X.P ∧ o.data = .func fd
section
variable {X : Cx} {k : Nat}
theorem TopOk.bi (t : TopOk X) {x : String} {v : Value} (hx : x ∈ ["len", "sum", "str", "abs", "range", "zip", "enumerate", "isinstance", "bool", "int", "ValueError", "list", "map", "filter"]) (hn : Str.ofString x ≠ "__name__") (hv : bootBuiltins (Str.ofString x) = some v) : GlobIs X (Str.ofString x) v :=
  globBuiltin t.ok (t.none x hx) hn hv
theorem CallOk.of {f : Str} {ds : List PyData} {d d' : PyData} (h : some d' = some d) (c : CallOk X k f ds d') : CallOk X k f ds d := Option.some.inj h ▸ c
theorem MethOk.of {self : PyData} {m : Str} {ds : List PyData} {d d' : PyData} (h : some d' = some d) (c : MethOk X k self m ds d') : MethOk X k self m ds d := Option.some.inj h ▸ c
theorem call0Ok (t : TopOk X) {f : Str} {ds : List PyData} {d : PyData} (h : call0 f ds = some d) : CallOk X k f ds d :=by
  revert h; refine bsC λa h1 =>?_
  rw [d1_eq h1]
  refine ifDC (λxs h2 =>?_) λ_ =>bsC λi h2 =>?_
  · rw [uL_eq h2]
    refine iteC (λhf =>ifsC λhl h =>.of h ?_) λ_ =>ifsC λhf =>bsC λis h1 h2 =>.of h2 ?_
    · rw [hf]; exact lenOk (t.bi (by decide) (by decide) (by decide +kernel)) hl
    · rw [hf]; exact sumOk t.ok (t.bi (by decide) (by decide) (by decide +kernel)) h1
  · rw [uI_eq h2]
    refine iteC (λhf =>ifsC λhl h =>.of h ?_) λ_ =>ifsC λhf h =>.of h ?_
    · rw [hf]; exact strOk (t.bi (by decide) (by decide) (by decide +kernel)) hl
    · rw [hf]; exact absOk (t.bi (by decide) (by decide) (by decide +kernel))
theorem meth0Ok (t : TopOk X) {self : PyData} {m : Str} {ds : List PyData} {d : PyData} (h : meth0 self m ds = some d) : MethOk X k self m ds d :=by
  revert h; refine bsC λa h1 =>?_
  rw [d1_eq h1]
  refine ifDC (λx hx =>?_) λ_ =>ifsC λhp =>bsC λy hy =>ifsC λhc h =>.of h ?_
  · rw [uS_eq hx]
    refine ifDC (λys h2 =>ifsC λhm =>bsC λzs h3 =>ifsC λhc h =>.of h ?_) λ_ =>bsC λy hy =>ifsC λhm =>ifsC λhc h =>.of h ?_
    · rw [uL_eq h2, hm]; exact joinOk h3 hc.1 hc.2
    · rw [uS_eq hy, hm]; exact splitOk t.ok hc.1 hc.2.1 hc.2.2
  · rw [patD_eq hp.1, hp.2, uS_eq hy]; exact patSplitOk t.ok t.pat hc
theorem gl0Ok (t : TopOk X) : GlOk X k G0 where
  glob := λh =>t.glob h
  call := λh =>call0Ok t h
  meth := λh =>meth0Ok t h
  range := t.bi (by decide) (by decide) (by decide +kernel)
  zip := t.bi (by decide) (by decide) (by decide +kernel)
  enum := t.bi (by decide) (by decide) (by decide +kernel)
  isinst := t.bi (by decide) (by decide) (by decide +kernel)
  bool := t.bi (by decide) (by decide) (by decide +kernel)
  plat := t.plat
end
end Mine
end
section
namespace Mine
open PySem PySem.Spec PySem.Calls PyProof.Rows PySem.W
noncomputable def fnAt (k : Nat) : FnRec := match (PySem.Challenge.pw_mr0260_01.main.body)[k]? with
  | some (.FunctionDef m a b _ _ _ sc _ _ _) =>⟨m, a, b, sc⟩
  | _ =>⟨Str.empty, ⟨[], [], none, [], [], none, []⟩, [], ⟨.function, [], false, false, []⟩⟩
noncomputable def fnPs (k : Nat) : List Str := (fnAt k).params.args.map (·.arg)
noncomputable def ctxA (G : Gl) (k : Nat) : Ctx := { G, Γ := ⟨(fnAt k).scope.names, []⟩, owns := [Str.ofString "files", Str.ofString "perm"], frz := [], prim := fun _ => none }
noncomputable def specA (G : Gl) (k : Nat) (ds : List PyData) : Option PyData :=
  if ds.length = (fnPs k).length then match execs (exN (ctxA G k) (evN G 40) 20) (fnAt k).body ⟨(fnPs k).zip ds, none⟩ with
    | some (.ret d, _) =>some d
    | _ =>none
  else none
noncomputable def addG (G : Gl) (fs : List (Str × (List PyData → Option PyData))) : Gl := { G with call := λf ds =>match fs.lookup f with | some g =>g ds | none =>G.call f ds }
noncomputable def lev (G : Gl) (ks : List Nat) : Gl := addG G (ks.map λk =>((fnAt k).name, specA G k))
section
variable {X : Cx} {k : Nat} {G : Gl}
theorem Room.mono {A : Around} {j : Nat} (R : Room A k) (h : j ≤ k) : Room A j := ⟨R.handled, R.guards, R.frames, by have := R.depth; omega, by have := R.units; omega⟩
theorem CallOk.mono {f : Str} {ds : List PyData} {d : PyData} {j : Nat} (h : CallOk X j f ds d) (hj : j ≤ k) : CallOk X k f ds d :=by
  revert h; refine X13 λfv h1 h2 h3 =>?_
  exact ⟨fv, h1, h2, λ{S s vs A Q E} R g r hQ =>h3 (R.mono hj) g r hQ⟩
theorem MethOk.mono {self : PyData} {m : Str} {ds : List PyData} {d : PyData} {j : Nat} (h : MethOk X j self m ds d) (hj : j ≤ k) : MethOk X k self m ds d :=by
  revert h; refine X12 λid h1 h2 =>?_
  exact ⟨id, λ{S s v pl A Q E} g r hq =>h1 g r hq, λ{S s v vs A Q E} R g r rs hQ =>h2 (R.mono hj) g r rs hQ⟩
theorem GlOk.mono {j : Nat} (g : GlOk X j G) (hj : j ≤ k) : GlOk X k G :=
  ⟨λh =>g.glob h, λh =>(g.call h).mono hj, λh =>(g.meth h).mono hj, g.range, g.zip, g.enum, g.isinst, g.bool, g.plat⟩
theorem GlOk.add (g : GlOk X k G) {fs : List (Str × (List PyData → Option PyData))} (h : ∀ p ∈ fs, ∀ ds d, p.2 ds = some d → CallOk X k p.1 ds d) : GlOk X k (addG G fs) :=by
  refine ⟨λh =>g.glob h, λ{f ds d} hc =>?_, λh =>g.meth h, g.range, g.zip, g.enum, g.isinst, g.bool, g.plat⟩
  change (match fs.lookup f with | some g =>g ds | none =>G.call f ds) = some d at hc
  cases q : fs.lookup f with
  | some e =>rw [q] at hc; exact h (f, e) (PySem.mem_of_lookup q) ds d hc
  | none =>rw [q] at hc; exact g.call hc
noncomputable def DefsAt (X : Cx) (i : Nat) : Prop := DefAt X (fnAt i).name (fnPs i) (fnAt i).body (fnAt i).scope.names
noncomputable def defLook (i : Nat) : Bool := decide (fnPs i).Nodup && (fnPs i).all λx =>decide ((fnAt i).scope.names.lookup x = some .local ∨ (fnAt i).scope.names.lookup x = some .cell)
theorem specAOk (t : TopOk X) (g : GlOk X k G) {i : Nat} (D : DefsAt X i) (hl : defLook i = true) {ds : List PyData} {d : PyData} (h : specA G i ds = some d) : CallOk X (k + 1) (fnAt i).name ds d :=by
  simp only [defLook, Bool.and_eq_true, decide_eq_true_eq, List.all_eq_true] at hl
  unfold specA at h
  revert h; refine iteC (λ_ h =>?_) λ_ h =>?_
  · rename_i hlen
    split at h
    · rename_i d' σ' he
      replace h := Option.some.inj h; subst h
      exact defOk t.ok D hl.1 hl.2 hlen (execsOk (λh =>exNOk (C := ctxA G i) t.ok g (λhp =>by exact nos hp) 20 h) _ he)
    · exact nos h
  · exact nos h
theorem levOk (t : TopOk X) (g : GlOk X k G) {ks : List Nat} (D : ∀ i ∈ ks, DefsAt X i) (hl : ∀ i ∈ ks, defLook i = true) : GlOk X (k + 1) (lev G ks) :=by
  refine GlOk.add (g.mono (Nat.le_succ _)) λp hp ds d h =>?_
  obtain ⟨i, hi, rfl⟩ := List.mem_map.mp hp
  exact specAOk t g (D i hi) (hl i hi) h
end
end Mine
end
section
namespace Mine
open PySem PySem.Spec PySem.Calls PyProof.Rows PySem.W
noncomputable def stagesT : List (Str × Int) := [(Str.ofString "dev", 10), (Str.ofString "alpha", 20), (Str.ofString "a", 20), (Str.ofString "beta", 30), (Str.ofString "b", 30), (Str.ofString "c", 40), (Str.ofString "RC", 50), (Str.ofString "rc", 50), (Str.ofString "pl", 200), (Str.ofString "p", 200)]
noncomputable def isGl (Γ : Sc) (x : String) : Bool := decide (Γ.names.lookup (Str.ofString x) = some .globalImplicit)
noncomputable def rCall (st : Stmt) : Option (Str × Str × List Expr) := (dAsg st).bind λa =>(dName a.1).bind λv =>(dCall a.2).bind λc =>(dName c.1).bind λf =>some (v, f, c.2.1)
theorem rCall_eq {st : Stmt} {x : Str × Str × List Expr} (h : rCall st = some x) : ∃ p1 p2 p3 p4, st = .Assign [.Name x.1 p1] (.Call (.Name x.2.1 p2) x.2.2 [] p3) p4 :=by
  revert h; refine bsC λa h1 h =>?_
  revert h; refine bsC λv h2 h =>?_
  revert h; refine bsC λc h3 h =>?_
  revert h; refine bsC λf h4 h =>?_
  replace h := Option.some.inj h; subst h
  obtain ⟨p4, rfl⟩ := dAsg_eq h1
  refine X11 (λp1 e1 =>?_) (dName_eq h2)
  have e2 := dCall_eq h3
  refine X11 (λp2 e3 =>?_) (dName_eq h4)
  exact ⟨p1, p2, c.2.2, p4, by rw [e1, e2, e3]⟩
noncomputable def rMeth (st : Stmt) : Option (Str × (Expr × Str × Pos) × List Expr × Pos) := (dAsg st).bind λa =>(dName a.1).bind λv =>(dCall a.2).bind λc =>(dAttr c.1).bind λf =>some (v, f, c.2.1, c.2.2)
theorem rMeth_eq {st : Stmt} {x : Str × (Expr × Str × Pos) × List Expr × Pos} (h : rMeth st = some x) : ∃ p1 p4, st = .Assign [.Name x.1 p1] (.Call (.Attribute x.2.1.1 x.2.1.2.1 x.2.1.2.2) x.2.2.1 [] x.2.2.2) p4 :=by
  revert h; refine bsC λa h1 h =>?_
  revert h; refine bsC λv h2 h =>?_
  revert h; refine bsC λc h3 h =>?_
  revert h; refine bsC λf h4 h =>?_
  replace h := Option.some.inj h; subst h
  obtain ⟨p4, rfl⟩ := dAsg_eq h1
  refine X11 (λp1 e1 =>?_) (dName_eq h2)
  have e2 := dCall_eq h3
  have e3 := dAttr_eq h4
  exact ⟨p1, p4, by rw [e1, e2, e3]⟩
noncomputable def rExc (hs : List ExceptHandler) : Option (Str × Stmt) := (d1 hs).bind λh =>(dHand h).bind λx =>(dName x.1).bind λn =>(d1 x.2).bind λst =>some (n, st)
theorem rExc_eq {hs : List ExceptHandler} {x : Str × Stmt} (h : rExc hs = some x) : ∃ p1 p2, hs = [.ExceptHandler (some (.Name x.1 p1)) none [x.2] p2] :=by
  revert h; refine bsC λa h1 h =>?_
  revert h; refine bsC λb h2 h =>?_
  revert h; refine bsC λn h3 h =>?_
  revert h; refine bsC λst h4 h =>?_
  replace h := Option.some.inj h; subst h
  refine X11 (λp2 e =>?_) (dHand_eq h2)
  refine X11 (λp1 e1 =>?_) (dName_eq h3)
  exact ⟨p1, p2, by rw [d1_eq h1, e, e1, d1_eq h4]⟩
noncomputable def isNm (e : Expr) (x : Str) : Bool := dName e == some x
theorem isNm_eq {e : Expr} {x : Str} (h : isNm e x = true) : ∃ p, e = .Name x p := dName_eq (eq_of_beq h)
noncomputable def isI (e : Expr) (n : Int) : Bool := dInt e == some n
theorem isI_eq {e : Expr} {n : Int} (h : isI e n = true) : ∃ c p, e = .Constant (.int n) c p := dInt_eq (eq_of_beq h)
theorem and_t {a b : Bool} (h : (a && b) = true) : a = true ∧ b = true := Bool.and_eq_true_iff.mp h
noncomputable def isNI (as : List Expr) (x : Str) (n : Int) : Bool := dNameInt as == some (x, n)
theorem isNI_eq {as : List Expr} {x : Str} {n : Int} (h : isNI as x n = true) : ∃ p c q, as = [.Name x p, .Constant (.int n) c q] := dNameInt_eq (eq_of_beq h)
noncomputable def posA (ps : List Pos) (k : Nat) : Pos := ps.getD k default
structure VAt where
  v : Str
  t : Str
noncomputable def tmplV (x : VAt) (P : Nat → Pos) (C : Nat → Nat) : Stmt := .Try [.Assign [.Name x.v (P 1)] (.Call (.Name (Str.ofString "int") (P 2)) [.Name x.v (P 3), .Constant (.int 10) (C 1) (P 4)] [] (P 5)) (P 6), .Assign [.Name x.t (P 7)] (.Constant (.int 100) (C 2) (P 8)) (P 9)]
  [.ExceptHandler (some (.Name (Str.ofString "ValueError") (P 10))) none [.Assign [.Name x.t (P 11)] (.Call (.Attribute (.Name (Str.ofString "_ver_stages") (P 12)) (Str.ofString "get") (P 13)) [.Name x.v (P 14), .Constant (.int 0) (C 3) (P 15)] [] (P 16)) (P 17)] (P 18)] [] [] (P 19)
noncomputable def vInt (st : Stmt) : Option Str := (rCall st).bind fun a => if a.2.1 == Str.ofString "int" && isNI a.2.2 a.1 10 then some a.1 else none
theorem vInt_eq {st : Stmt} {v : Str} (h : vInt st = some v) : ∃ p1 p2 p3 p4 p5 p6 c, st = .Assign [.Name v p1] (.Call (.Name (Str.ofString "int") p2) [.Name v p3, .Constant (.int 10) c p4] [] p5) p6 := by
  obtain ⟨a, h1, h⟩ := bind_some' h
  by_cases q : (a.2.1 == Str.ofString "int" && isNI a.2.2 a.1 10) = true
  · obtain ⟨q1, q2⟩ := and_t q
    obtain ⟨p1, p2, p5, p6, e⟩ := rCall_eq h1
    obtain ⟨p3, c, p4, e2⟩ := isNI_eq q2
    have e3 := Option.some.inj ((if_pos q).symm.trans h)
    exact ⟨p1, p2, p3, p4, p5, p6, c, by rw [e, e2, eq_of_beq q1, e3]⟩
  · exact absurd ((if_neg q).symm.trans h) (λe =>nomatch e)
noncomputable def vSet (st : Stmt) : Option Str := (dAsg st).bind λa =>if isI a.2 100 then dName a.1 else none
theorem vSet_eq {st : Stmt} {t : Str} (h : vSet st = some t) : ∃ p1 p2 p3 c, st = .Assign [.Name t p1] (.Constant (.int 100) c p2) p3 :=by
  revert h; refine bsC λa h1 h =>?_
  by_cases q : isI a.2 100 = true
  · refine X11 (fun p3 e => ?_) (dAsg_eq h1)
    refine X21 (λc p2 e2 =>?_) (isI_eq q)
    refine X11 (λp1 e1 =>?_) (dName_eq ((if_pos q).symm.trans h))
    exact ⟨p1, p2, p3, c, by rw [e, e1, e2]⟩
  · exact absurd ((if_neg q).symm.trans h) (λe =>nomatch e)
noncomputable def vGet (st : Stmt) (v t : Str) : Bool := match rMeth st with
  | some g => g.1 == t && (isNm g.2.1.1 (Str.ofString "_ver_stages") && (g.2.1.2.1 == Str.ofString "get" && (isNI g.2.2.1 v 0 && g.2.1.2.2.endLine == g.2.2.2.line)))
  | none =>false
theorem vGet_eq {st : Stmt} {v t : Str} (h : vGet st v t = true) : ∃ p1 p2 ap p3 p4 pe p5 c, st = .Assign [.Name t p1] (.Call (.Attribute (.Name (Str.ofString "_ver_stages") p2) (Str.ofString "get") ap) [.Name v p3, .Constant (.int 0) c p4] [] pe) p5 ∧ ap.endLine = pe.line := by
  unfold vGet at h
  cases h1 : rMeth st with
  | none =>rw [h1] at h; exact fnt h
  | some g =>
    rw [h1] at h
    revert h; refine andC λa1 h =>?_
    revert h; refine andC λa2 h =>?_
    revert h; refine andC λa3 h =>?_
    revert h; refine andC λa4 a5 =>?_
    refine X21 (λp1 p5 e =>?_) (rMeth_eq h1)
    refine X11 (λp2 e2 =>?_) (isNm_eq a2)
    refine X31 (λp3 c p4 e4 =>?_) (isNI_eq a4)
    exact ⟨p1, p2, g.2.1.2.2, p3, p4, g.2.2.2, p5, c, by rw [e, e2, e4, eq_of_beq a1, eq_of_beq a3], eq_of_beq a5⟩
noncomputable def pV (st : Stmt) : Option VAt := (dTry st).bind fun t => (d2 t.1).bind fun b => (vInt b.1).bind fun v => (vSet b.2).bind fun s => (rExc t.2.1).bind fun e => if e.1 == Str.ofString "ValueError" && (vGet e.2 v s && t.2.2.isEmpty) then some ⟨v, s⟩ else none
theorem pV_eq {st : Stmt} {x : VAt} (h : pV st = some x) : ∃ P C, st = tmplV x P C ∧ (P 13).endLine = (P 16).line :=by
  revert h; refine bsC λt h1 h =>?_
  revert h; refine bsC λb h2 h =>?_
  revert h; refine bsC λv h3 h =>?_
  revert h; refine bsC λs h4 h =>?_
  revert h; refine bsC λe h5 h =>?_
  by_cases q : (e.1 == Str.ofString "ValueError" && (vGet e.2 v s && t.2.2.isEmpty)) = true
  · have hx := Option.some.inj ((if_pos q).symm.trans h)
    revert q; refine andC λq1 q =>?_
    revert q; refine andC λq2 q3 =>?_
    refine X11 (λpt e1 =>?_) (dTry_eq h1)
    obtain ⟨p1, p2, p3, p4, p5, p6, c1, e3⟩ := vInt_eq h3
    refine X41 (λp7 p8 p9 c2 e4 =>?_) (vSet_eq h4)
    refine X21 (λpa pb e5 =>?_) (rExc_eq h5)
    obtain ⟨p10, p11, ap, p12, p13, pe, p14, c3, e6, hap⟩ := vGet_eq q2
    refine ⟨posA [default, p1, p2, p3, p4, p5, p6, p7, p8, p9, pa, p10, p11, ap, p12, p13, pe, p14, pb, pt], λk =>[0, c1, c2, c3].getD k 0, ?_, hap⟩
    rw [e1, d2_eq h2, e3, e4, e5, e6, eq_of_beq q1, List.isEmpty_iff.mp q3, ← hx]
    rfl
  · exact absurd ((if_neg q).symm.trans h) (λe =>nomatch e)
noncomputable def condV (Γ : Sc) (x : VAt) : Bool := decide (x.v ≠ Str.ofString "__debug__") && (isGl Γ "int" && (isGl Γ "ValueError" && (isGl Γ "_ver_stages" && (Γ.mayStore x.v && Γ.mayStore x.t))))
noncomputable def runV (x : VAt) (σ : St) : Option (Out × St) := match σ.ρ.lookup x.v with
  | some (.str y) => if asciiD y then (match PySem.intText? y with
      | some n =>some (.next, ⟨setLoc x.t (.int 100) (setLoc x.v (.int n) σ.ρ), unown x.t (unown x.v σ.ω)⟩)
      | none =>some (.next, ⟨setLoc x.t (.int ((stagesT.lookup y).getD 0)) σ.ρ, unown x.t σ.ω⟩)) else none
  | _ =>none
noncomputable def primV (Γ : Sc) (st : Stmt) : Option (St → Option (Out × St)) := (pV st).bind λx =>if condV Γ x then some (runV x) else none
noncomputable def dStr1 (as : List Expr) : Option Str := (d1 as).bind dStrE
theorem dStr1_eq {as : List Expr} {y : Str} (h : dStr1 as = some y) : ∃ c p, as = [.Constant (.str y) c p] :=by
  revert h; refine bsC λa h1 h =>?_
  refine X21 (λc p e =>?_) (dStrE_eq h)
  exact ⟨c, p, by rw [d1_eq h1, e]⟩
noncomputable def condS (Γ : Sc) (x : Str × (Expr × Str × Pos) × List Expr × Pos) (y : Str) : Bool := decide (x.1 = Str.ofString "l") && (decide (x.2.1.2.1 = Str.ofString "split") && (!superCall x.2.1.1 && (decide (x.2.1.2.2.endLine = x.2.2.2.line) && (decide (y.length ≠ 0) && Γ.mayStore x.1))))
noncomputable def runS (G : Gl) (Γ : Sc) (o : Expr) (v y : Str) (σ : St) : Option (Out × St) := match (evN G 5).ev Γ o σ.ρ with
  | some (.str z) =>if z.length ≤ 100000 ∧ (Txt.split z y).length ≤ 100000 ∧ σ.ω.isNone = true ∧ hasLoc v σ.ρ = false then some (.next, σ.setOwn v ((Txt.split z y).map PyData.str)) else none
  | _ =>none
noncomputable def primS (G : Gl) (Γ : Sc) (st : Stmt) : Option (St → Option (Out × St)) := (rMeth st).bind λx =>(dStr1 x.2.2.1).bind λy =>if condS Γ x y then some (runS G Γ x.2.1.1 x.1 y) else none
structure NAt where
  stn : Str
  l : Str
noncomputable def tmplN (x : NAt) (P : Nat → Pos) : Stmt := .Try [.Assign [.Name x.stn (P 1)] (.Call (.Name (Str.ofString "list") (P 2)) [.Call (.Name (Str.ofString "map") (P 3)) [.Name (Str.ofString "str") (P 4), .Call (.Name (Str.ofString "map") (P 5)) [.Name (Str.ofString "int") (P 6), .Name x.l (P 7)] [] (P 8)] [] (P 9)] [] (P 10)) (P 11)]
  [.ExceptHandler (some (.Name (Str.ofString "ValueError") (P 12))) none [.Assign [.Name x.stn (P 13)] (.Name x.l (P 14)) (P 15)] (P 16)] [] [] (P 17)
noncomputable def rF (e : Expr) (f : Str) : Option (List Expr) := (dCall e).bind λc =>if isNm c.1 f then some c.2.1 else none
theorem rF_eq {e : Expr} {f : Str} {as : List Expr} (h : rF e f = some as) : ∃ p q, e = .Call (.Name f p) as [] q :=by
  revert h; refine bsC λc h1 h =>?_
  by_cases n : isNm c.1 f = true
  · refine X11 (fun p e1 => ?_) (isNm_eq n)
    have e2 := Option.some.inj ((if_pos n).symm.trans h)
    exact ⟨p, c.2.2, by rw [dCall_eq h1, e1, e2]⟩
  · exact absurd ((if_neg n).symm.trans h) (λe =>nomatch e)
noncomputable def rMap (e : Expr) (f : Str) : Option Expr := (rF e (Str.ofString "map")).bind fun as => (d2 as).bind fun b => if isNm b.1 f then some b.2 else none
theorem rMap_eq {e : Expr} {f : Str} {a : Expr} (h : rMap e f = some a) : ∃ p1 p2 p3, e = .Call (.Name (Str.ofString "map") p1) [.Name f p2, a] [] p3 := by
  revert h; refine bsC λas h1 h =>?_
  revert h; refine bsC λb h2 h =>?_
  by_cases n : isNm b.1 f = true
  · refine X21 (fun p1 p3 e1 => ?_) (rF_eq h1)
    refine X11 (λp2 e2 =>?_) (isNm_eq n)
    have e3 := Option.some.inj ((if_pos n).symm.trans h)
    exact ⟨p1, p2, p3, by rw [e1, d2_eq h2, e2, e3]⟩
  · exact absurd ((if_neg n).symm.trans h) (λe =>nomatch e)
noncomputable def pN (st : Stmt) : Option NAt := (dTry st).bind fun t => (d1 t.1).bind fun b => (rCall b).bind fun a => (d1 a.2.2).bind fun m => (rMap m (Str.ofString "str")).bind fun m1 => (rMap m1 (Str.ofString "int")).bind fun m2 => (dName m2).bind fun l => (rExc t.2.1).bind fun e => (dAsg e.2).bind fun g =>
  if a.2.1 == Str.ofString "list" && (e.1 == Str.ofString "ValueError" && (isNm g.1 a.1 && (isNm g.2 l && t.2.2.isEmpty))) then some ⟨a.1, l⟩ else none
theorem pN_eq {st : Stmt} {x : NAt} (h : pN st = some x) : ∃ P, st = tmplN x P :=by
  revert h; refine bsC λt h1 h =>?_
  revert h; refine bsC λb h2 h =>?_
  revert h; refine bsC λa h3 h =>?_
  revert h; refine bsC λm h4 h =>?_
  revert h; refine bsC λm1 h5 h =>?_
  revert h; refine bsC λm2 h6 h =>?_
  revert h; refine bsC λl h7 h =>?_
  revert h; refine bsC λe h8 h =>?_
  revert h; refine bsC λg h9 h =>?_
  by_cases q : (a.2.1 == Str.ofString "list" && (e.1 == Str.ofString "ValueError" && (isNm g.1 a.1 && (isNm g.2 l && t.2.2.isEmpty)))) = true
  · have hx := Option.some.inj ((if_pos q).symm.trans h)
    revert q; refine andC λq1 q =>?_
    revert q; refine andC λq2 q =>?_
    revert q; refine andC λq3 q =>?_
    revert q; refine andC λq4 q5 =>?_
    refine X11 (λpt e1 =>?_) (dTry_eq h1)
    refine X41 (λp1 p2 p10 p11 e3 =>?_) (rCall_eq h3)
    refine X31 (λp3 p4 p9 e5 =>?_) (rMap_eq h5)
    refine X31 (λp5 p6 p8 e6 =>?_) (rMap_eq h6)
    refine X11 (λp7 e7 =>?_) (dName_eq h7)
    refine X21 (λpa pb e8 =>?_) (rExc_eq h8)
    refine X11 (λpc e9 =>?_) (dAsg_eq h9)
    refine X11 (λpd e10 =>?_) (isNm_eq q3)
    refine X11 (λpe e11 =>?_) (isNm_eq q4)
    refine ⟨posA [default, p1, p2, p3, p4, p5, p6, p7, p8, p9, p10, p11, pa, pd, pe, pc, pb, pt], ?_⟩
    rw [e1, d1_eq h2, e3, d1_eq h4, e5, e6, e7, e8, e9, e10, e11, eq_of_beq q1, eq_of_beq q2, List.isEmpty_iff.mp q5, ← hx]
    rfl
  · exact absurd ((if_neg q).symm.trans h) (λe =>nomatch e)
noncomputable def condN (Γ : Sc) (x : NAt) : Bool := decide (x.l ≠ Str.ofString "__debug__") && (isGl Γ "list" && (isGl Γ "map" && (isGl Γ "str" && (isGl Γ "int" && (isGl Γ "ValueError" && Γ.mayStore x.stn)))))
noncomputable def okText (x : Str) : Bool := asciiD x && (match PySem.intText? x with | some n =>decide (n.natAbs.log2 < 1920) | none =>true)
noncomputable def runN (x : NAt) (σ : St) : Option (Out × St) := match σ.ρ.lookup x.l with
  | some (.list ds) => (strsD ds).bind fun xs => if xs.length ≤ 100000 ∧ xs.all okText = true then
      some (.next, ⟨setLoc x.stn (.list (if xs.all (λx =>(PySem.intText? x).isSome) then xs.map λx =>.str (strOfIntD x) else xs.map PyData.str)) σ.ρ, unown x.stn σ.ω⟩) else none
  | _ =>none
noncomputable def primN (Γ : Sc) (st : Stmt) : Option (St → Option (Out × St)) := (pN st).bind λx =>if condN Γ x then some (runN x) else none
section
variable {X : Cx} {k : Nat} {G : Gl} {Γ : Sc} {σ σ' : St}
theorem isGl_look {x : String} (h : isGl Γ x = true) : Γ.names.lookup (Str.ofString x) = some .globalImplicit := of_decide_eq_true h
theorem strsD_map {ds : List PyData} : ∀ {xs : List Str}, strsD ds = some xs → ds = xs.map PyData.str :=by
  induction ds with
  | nil =>exact λh =>Option.some.inj h ▸ rfl
  | cons d ds ih =>
    intro xs; exact bsC λx h1 =>bsC λys h2 h =>by rw [← Option.some.inj h, uS_eq h1, ih h2]; rfl
theorem bi3 (t : TopOk X) : GlobIs X (Str.ofString "int") (.type "int") ∧ GlobIs X (Str.ofString "ValueError") (.type "ValueError") ∧ GlobIs X (Str.ofString "str") (.type "str") :=
  ⟨t.bi (by decide) (by decide) (by decide +kernel), t.bi (by decide) (by decide) (by decide +kernel), t.bi (by decide) (by decide) (by decide +kernel)⟩
theorem runVOk (t : TopOk X) {D : Addr} (hD : StagesAt X D stagesT) (hg : GlobIs X (Str.ofString "_ver_stages") (.ref D)) {x : VAt} {P : Nat → Pos} {C : Nat → Nat} {o : Out} (hap : (P 13).endLine = (P 16).line) (hc : condV Γ x = true) (hf : runV x σ = some (o, σ')) : StOkC X k Γ (tmplV x P C) σ o σ' := by
  refine X03 (λb1 b2 u1 =>?_) (bi3 t)
  revert hc; refine andC λhvd hc =>?_
  revert hc; refine andC λg1 hc =>?_
  revert hc; refine andC λg2 hc =>?_
  revert hc; refine andC λg3 hc =>?_
  revert hc; refine andC λm1 m2 =>?_
  unfold runV at hf
  cases hx : σ.ρ.lookup x.v with
  | none =>rw [hx] at hf; exact nos hf
  | some d =>
    rw [hx] at hf
    cases d with
    | str y =>
      by_cases ha : asciiD y = true
      · have hf := (if_pos ha).symm.trans hf
        cases q : PySem.intText? y with
        | none =>
          rw [q] at hf
          have e := Option.some.inj hf
          cases e
          intro R T hQ
          exact tryIntOk t.ok hD hg (isGl_look g1) b1 (isGl_look g2) b2 (isGl_look g3) (of_decide_eq_true hvd) (by decide) m1 m2 hx ha hap (by rw [q]) R T hQ
        | some n =>
          rw [q] at hf
          have e := Option.some.inj hf
          cases e
          intro R T hQ
          exact tryIntOk t.ok hD hg (isGl_look g1) b1 (isGl_look g2) b2 (isGl_look g3) (of_decide_eq_true hvd) (by decide) m1 m2 hx ha hap (by rw [q]) R T hQ
      · exact absurd ((if_neg ha).symm.trans hf) (λe =>nomatch e)
    | _ =>exact nos hf
theorem primVOk (t : TopOk X) {D : Addr} (hD : StagesAt X D stagesT) (hg : GlobIs X (Str.ofString "_ver_stages") (.ref D)) {st : Stmt} {f : St → Option (Out × St)} {o : Out} (h : primV Γ st = some f) (hf : f σ = some (o, σ')) : StOkC X k Γ st σ o σ' := by
  revert h; refine bsC λx h1 h =>?_
  refine X22 (λP C e hap =>?_) (pV_eq h1)
  by_cases hc : condV Γ x = true
  · have e2 := Option.some.inj ((if_pos hc).symm.trans h)
    rw [e]
    exact runVOk t hD hg hap hc (e2 ▸ hf)
  · exact absurd ((if_neg hc).symm.trans h) (λe =>nomatch e)
theorem primSOk (t : TopOk X) (g : GlOk X k G) {st : Stmt} {f : St → Option (Out × St)} {o : Out} (h : primS G Γ st = some f) (hf : f σ = some (o, σ')) : StOkC X k Γ st σ o σ' :=by
  revert h; refine bsC λx h1 h =>?_
  revert h; refine bsC λy h2 h =>?_
  refine X21 (λp1 p2 e1 =>?_) (rMeth_eq h1)
  refine X21 (λc p3 e3 =>?_) (dStr1_eq h2)
  by_cases hc : condS Γ x y = true
  · have e2 := Option.some.inj ((if_pos hc).symm.trans h)
    rw [e1, e3]
    have hf : runS G Γ x.2.1.1 x.1 y σ = some (o, σ') := e2 ▸ hf
    revert hc; refine andC λc1 hc =>?_
    revert hc; refine andC λc2 hc =>?_
    revert hc; refine andC λc3 hc =>?_
    revert hc; refine andC λc4 hc =>?_
    revert hc; refine andC λc5 hm =>?_
    unfold runS at hf
    cases hz : (evN G 5).ev Γ x.2.1.1 σ.ρ with
    | none =>rw [hz] at hf; exact nos hf
    | some d =>
      rw [hz] at hf
      cases d with
      | str z =>
        by_cases hc2 : z.length ≤ 100000 ∧ (Txt.split z y).length ≤ 100000 ∧ σ.ω.isNone = true ∧ hasLoc x.1 σ.ρ = false
        · have e := Option.some.inj ((if_pos hc2).symm.trans hf)
          cases e
          intro R T hQ
          exact wpC_any (splitOwnOk t.ok (evNOk t.ok g 5) (by simpa using c3) (of_decide_eq_true c4) (of_decide_eq_true c2) hz (of_decide_eq_true c5) hc2.1 hc2.2.1 hm (Option.isNone_iff_eq_none.mp hc2.2.2.1) (hasLoc_false hc2.2.2.2) R.room T hQ)
        · exact absurd ((if_neg hc2).symm.trans hf) (λe =>nomatch e)
      | _ =>exact nos hf
  · exact absurd ((if_neg hc).symm.trans h) (λe =>nomatch e)
theorem runNOk (t : TopOk X) {x : NAt} {P : Nat → Pos} {o : Out} (hc : condN Γ x = true) (hf : runN x σ = some (o, σ')) : StOkC X k Γ (tmplN x P) σ o σ' :=by
  refine X03 (λb1 b2 b3 =>?_) (bi3 t)
  revert hc; refine andC λhld hc =>?_
  revert hc; refine andC λg1 hc =>?_
  revert hc; refine andC λg2 hc =>?_
  revert hc; refine andC λg3 hc =>?_
  revert hc; refine andC λg4 hc =>?_
  revert hc; refine andC λg5 m1 =>?_
  unfold runN at hf
  cases hx : σ.ρ.lookup x.l with
  | none =>rw [hx] at hf; exact nos hf
  | some d =>
    rw [hx] at hf
    cases d with
    | list ds =>
      revert hf; refine bsC λxs h1 h2 =>?_
      by_cases hc2 : xs.length ≤ 100000 ∧ xs.all okText = true
      · have e := Option.some.inj ((if_pos hc2).symm.trans h2)
        cases e
        rw [strsD_map h1] at hx
        intro R T hQ
        refine normTryOk t.ok (isGl_look g1) (t.bi (by decide) (by decide) (by decide +kernel)) (isGl_look g2) (t.bi (by decide) (by decide) (by decide +kernel)) (isGl_look g4) b1 (isGl_look g3) b3 (isGl_look g5) b2 (of_decide_eq_true hld) m1 hx hc2.1 (λx hm =>?_) rfl R T hQ
        have := and_t (List.all_eq_true.mp hc2.2 x hm)
        refine ⟨this.1, λn hn =>?_⟩
        have h3 := this.2
        rw [hn] at h3
        exact of_decide_eq_true h3
      · exact absurd ((if_neg hc2).symm.trans h2) (λe =>nomatch e)
    | _ =>exact nos hf
theorem primNOk (t : TopOk X) {st : Stmt} {f : St → Option (Out × St)} {o : Out} (h : primN Γ st = some f) (hf : f σ = some (o, σ')) : StOkC X k Γ st σ o σ' :=by
  revert h; refine bsC λx h1 h =>?_
  refine X11 (λP e =>?_) (pN_eq h1)
  by_cases hc : condN Γ x = true
  · have e2 := Option.some.inj ((if_pos hc).symm.trans h)
    rw [e]
    exact runNOk t hc (e2 ▸ hf)
  · exact absurd ((if_neg hc).symm.trans h) (λe =>nomatch e)
end
end Mine
end
section
namespace Mine
open PySem PySem.Spec PySem.Calls PyProof.Rows PySem.W
noncomputable def dIfK (e : Stmt) : Option (Expr × List Stmt × List Stmt) := if h : e.ctorIdx = 12 then Stmt.If.elim e h λt b oe _ =>some (t, b, oe) else none
theorem dIfK_eq {e : Stmt} {x : (Expr × List Stmt × List Stmt)} (h : dIfK e = some x) : ∃ p, e = Stmt.If x.1 x.2.1 x.2.2 p := diteE h λhc =>Stmt.If.elim (motive_2 := λe =>∀ hc, Stmt.If.elim e hc (λt b oe _ =>some (t, b, oe)) = some x → ∃ p, e = Stmt.If x.1 x.2.1 x.2.2 p) e hc (λ_ _ _ p _ h =>⟨p, congrArg (λx : (Expr × List Stmt × List Stmt) =>Stmt.If x.1 x.2.1 x.2.2 p) (Option.some.inj h)⟩) hc
noncomputable def dSub (e : Expr) : Option (Expr × Expr) := if h : e.ctorIdx = 21 then Expr.Subscript.elim e h λv i _ =>some (v, i) else none
theorem dSub_eq {e : Expr} {x : (Expr × Expr)} (h : dSub e = some x) : ∃ p, e = Expr.Subscript x.1 x.2 p := diteE h λhc =>Expr.Subscript.elim (motive_1 := λe =>∀ hc, Expr.Subscript.elim e hc (λv i _ =>some (v, i)) = some x → ∃ p, e = Expr.Subscript x.1 x.2 p) e hc (λ_ _ p _ h =>⟨p, congrArg (λx : (Expr × Expr) =>Expr.Subscript x.1 x.2 p) (Option.some.inj h)⟩) hc
noncomputable def dBin (e : Expr) : Option (Expr × Operator × Expr) := if h : e.ctorIdx = 2 then Expr.BinOp.elim e h λl op r _ =>some (l, op, r) else none
theorem dBin_eq {e : Expr} {x : (Expr × Operator × Expr)} (h : dBin e = some x) : ∃ p, e = Expr.BinOp x.1 x.2.1 x.2.2 p := diteE h λhc =>Expr.BinOp.elim (motive_1 := λe =>∀ hc, Expr.BinOp.elim e hc (λl op r _ =>some (l, op, r)) = some x → ∃ p, e = Expr.BinOp x.1 x.2.1 x.2.2 p) e hc (λ_ _ _ p _ h =>⟨p, congrArg (λx : (Expr × Operator × Expr) =>Expr.BinOp x.1 x.2.1 x.2.2 p) (Option.some.inj h)⟩) hc
noncomputable def dConstP (e : Expr) : Option (Const × Nat × Pos) := if h : e.ctorIdx = 19 then Expr.Constant.elim e h λk c p =>some (k, c, p) else none
theorem dConstP_eq {e : Expr} {x : (Const × Nat × Pos)} (h : dConstP e = some x) : e = Expr.Constant x.1 x.2.1 x.2.2 := diteE h λhc =>Expr.Constant.elim (motive_1 := λe =>∀ hc, Expr.Constant.elim e hc (λk c p =>some (k, c, p)) = some x → e = Expr.Constant x.1 x.2.1 x.2.2) e hc (λ_ _ _ _ h =>congrArg (λx : (Const × Nat × Pos) =>Expr.Constant x.1 x.2.1 x.2.2) (Option.some.inj h)) hc
noncomputable def dNameP (e : Expr) : Option (Str × Pos) := if h : e.ctorIdx = 23 then Expr.Name.elim e h λx1 p =>some (x1, p) else none
theorem dNameP_eq {e : Expr} {x : (Str × Pos)} (h : dNameP e = some x) : e = Expr.Name x.1 x.2 := diteE h λhc =>Expr.Name.elim (motive_1 := λe =>∀ hc, Expr.Name.elim e hc (λx1 p =>some (x1, p)) = some x → e = Expr.Name x.1 x.2) e hc (λ_ _ _ h =>congrArg (λx : (Str × Pos) =>Expr.Name x.1 x.2) (Option.some.inj h)) hc
noncomputable def dIf (st : Stmt) : Option (Expr × List Stmt) := (dIfK st).bind λa =>if a.2.2.isEmpty then some (a.1, a.2.1) else none
theorem dIf_eq {st : Stmt} {x : Expr × List Stmt} (h : dIf st = some x) : ∃ p, st = .If x.1 x.2 [] p :=by
  revert h; refine bsC λa h1 =>ifsC λh2 h =>?_
  rw [← Option.some.inj h, ← List.isEmpty_iff.mp h2]; exact dIfK_eq h1
noncomputable def dMin (e : Expr) : Option (Expr × Expr) := (dBin e).bind λa =>if a.2.1 = .Sub then some (a.1, a.2.2) else none
theorem dMin_eq {e : Expr} {x : Expr × Expr} (h : dMin e = some x) : ∃ p, e = .BinOp x.1 .Sub x.2 p :=by
  revert h; refine bsC λa h1 =>ifsC λh2 h =>?_
  rw [← Option.some.inj h, ← h2]; exact dBin_eq h1
noncomputable def isPass (st : Stmt) : Bool := Nat.beq st.ctorIdx 25
theorem isPass_eq {st : Stmt} (h : isPass st = true) : ∃ p, st = .Pass p := Stmt.Pass.elim (motive_2 := λst =>∃ p, st = .Pass p) st (Nat.eq_of_beq_eq_true h) λp =>⟨p, rfl⟩
noncomputable def dZero (e : Expr) : Option Nat := (dConstP e).bind λk =>(cI k.1).bind λz =>if z = 0 then some k.2.1 else none
theorem dZero_eq {e : Expr} {c : Nat} (h : dZero e = some c) : ∃ p, e = .Constant (.int 0) c p :=by
  revert h; refine bsC λk h1 =>bsC λz h2 =>ifsC λh3 h =>⟨k.2.2, ?_⟩
  rw [dConstP_eq h1, cI_eq h2, h3, ← Option.some.inj h]
noncomputable def dStrP (e : Expr) : Option (Str × Nat × Pos) := (dConstP e).bind λk =>(cS k.1).bind λs =>some (s, k.2.1, k.2.2)
theorem dStrP_eq {e : Expr} {x : Str × Nat × Pos} (h : dStrP e = some x) : e = .Constant (.str x.1) x.2.1 x.2.2 :=by
  revert h; refine bsC λk h1 =>bsC λz h2 h =>?_
  rw [dConstP_eq h1, cS_eq h2, ← Option.some.inj h]
theorem if_some {α : Type} {c : Bool} {a b : α} (h : (if c then some a else none) = some b) : c = true ∧ a = b :=by
  cases c with
  | true =>exact ⟨rfl, Option.some.inj h⟩
  | false =>exact nos h
noncomputable def isAt0 (e : Expr) (x : Str) : Option Nat := (dSub e).bind λa =>(dZero a.2).bind λc =>if isNm a.1 x then some c else none
theorem isAt0_eq {e : Expr} {x : Str} {c : Nat} (h : isAt0 e x = some c) : ∃ p q r, e = .Subscript (.Name x p) (.Constant (.int 0) c q) r :=by
  revert h; refine bsC λa h1 h =>?_
  revert h; refine bsC λc' h2 h =>?_
  refine X02 (λh3 h4 =>?_) (if_some h)
  refine X11 (λr e1 =>?_) (dSub_eq h1)
  refine X11 (λq e2 =>?_) (dZero_eq h2)
  refine X11 (λp e3 =>?_) (isNm_eq h3)
  exact ⟨p, q, r, by rw [e1, e2, e3, h4]⟩
noncomputable def isLess (st : Stmt) (mj : Str) : Option Unit := (dAsg st).bind λa =>(dMin a.2).bind λb =>if isNm a.1 mj && (isNm b.1 mj && isI b.2 3) then some () else none
theorem isLess_eq {st : Stmt} {mj : Str} (h : isLess st mj = some ()) : ∃ p1 p2 c p3 p4 p5, st = .Assign [.Name mj p1] (.BinOp (.Name mj p2) .Sub (.Constant (.int 3) c p3) p4) p5 :=by
  revert h; refine bsC λa h1 h =>?_
  revert h; refine bsC λb h2 h =>?_
  refine X02 (λh3 u1 =>?_) (if_some h)
  revert h3; refine andC λha hb =>?_
  revert hb; refine andC λhb hc =>?_
  refine X11 (λp5 e =>?_) (dAsg_eq h1)
  refine X11 (λp1 e1 =>?_) (isNm_eq ha)
  refine X11 (λp4 e2 =>?_) (dMin_eq h2)
  refine X11 (λp2 e3 =>?_) (isNm_eq hb)
  refine X21 (λc p3 e4 =>?_) (isI_eq hc)
  exact ⟨p1, p2, c, p3, p4, p5, by rw [e, e1, e2, e3, e4]⟩
noncomputable def isPut (st : Stmt) (l mj : Str) : Option Nat := (dAsg st).bind fun a => (isAt0 a.1 l).bind fun c => (rF a.2 (Str.ofString "str")).bind fun f => (d1 f).bind fun b => if isNm b mj then some c else none
theorem isPut_eq {st : Stmt} {l mj : Str} {c : Nat} (h : isPut st l mj = some c) : ∃ p1 p2 p3 p4 p5 p6 p7, st = .Assign [.Subscript (.Name l p1) (.Constant (.int 0) c p2) p3] (.Call (.Name (Str.ofString "str") p4) [.Name mj p5] [] p6) p7 := by
  revert h; refine bsC λa h1 h =>?_
  revert h; refine bsC λc' h2 h =>?_
  revert h; refine bsC λf h3 h =>?_
  revert h; refine bsC λb h4 h =>?_
  refine X02 (λh5 h6 =>?_) (if_some h)
  refine X11 (λp7 e =>?_) (dAsg_eq h1)
  refine X31 (λp1 p2 p3 e1 =>?_) (isAt0_eq h2)
  refine X21 (λp4 p6 e2 =>?_) (rF_eq h3)
  refine X11 (λp5 e3 =>?_) (isNm_eq h5)
  exact ⟨p1, p2, p3, p4, p5, p6, p7, by rw [e, e1, e2, d1_eq h4, e3, h6]⟩
noncomputable def pInt (st : Stmt) (l : Str) : Option (Str × Nat) := (rCall st).bind fun a => (d1 a.2.2).bind fun b => (isAt0 b l).bind fun c => if a.2.1 == Str.ofString "int" then some (a.1, c) else none
theorem pInt_eq {st : Stmt} {l : Str} {x : Str × Nat} (h : pInt st l = some x) : ∃ p1 p2 p3 p4 p5 p6 p7, st = .Assign [.Name x.1 p1] (.Call (.Name (Str.ofString "int") p2) [.Subscript (.Name l p3) (.Constant (.int 0) x.2 p4) p5] [] p6) p7 := by
  revert h; refine bsC λa h1 h =>?_
  revert h; refine bsC λb h2 h =>?_
  revert h; refine bsC λc h3 h =>?_
  refine X02 (λh4 h5 =>?_) (if_some h)
  refine X41 (λp1 p2 p6 p7 e =>?_) (rCall_eq h1)
  refine X31 (λp3 p4 p5 e1 =>?_) (isAt0_eq h3)
  exact ⟨p1, p2, p3, p4, p5, p6, p7, by rw [e, d1_eq h2, e1, eq_of_beq h4, ← h5]⟩
structure JoinAt where
  rl : Str
  c3 : Nat
  p1 : Pos
  ap : Pos
  p2 : Pos
  p3 : Pos
noncomputable def tmplJ (x : JoinAt) (l : Str) (q1 q2 : Pos) : Stmt := .Assign [.Name x.rl q1] (.Call (.Attribute (.Constant (.str (Str.ofString ".")) x.c3 x.p1) (Str.ofString "join") x.ap) [.Name l x.p2] [] x.p3) q2
noncomputable def pJoin (st : Stmt) (l : Str) : Option JoinAt := (rMeth st).bind fun a => (d1 a.2.2.1).bind fun b => (dStrP a.2.1.1).bind fun s => (dNameP b).bind fun n => if s.1 == Str.ofString "." && (a.2.1.2.1 == Str.ofString "join" && n.1 == l) then some ⟨a.1, s.2.1, s.2.2, a.2.1.2.2, n.2, a.2.2.2⟩ else none
theorem pJoin_eq {st : Stmt} {l : Str} {x : JoinAt} (h : pJoin st l = some x) : ∃ q1 q2, st = tmplJ x l q1 q2 :=by
  revert h; refine bsC λa h1 h =>?_
  revert h; refine bsC λb h2 h =>?_
  revert h; refine bsC λs h3 h =>?_
  revert h; refine bsC λn h4 h =>?_
  refine X02 (λh5 h6 =>?_) (if_some h)
  revert h5; refine andC λc1 h5 =>?_
  revert h5; refine andC λc2 c3 =>?_
  refine X21 (λq1 q2 e =>?_) (rMeth_eq h1)
  refine ⟨q1, q2, ?_⟩
  rw [e, d1_eq h2, dStrP_eq h3, dNameP_eq h4, eq_of_beq c1, eq_of_beq c2, eq_of_beq c3, ← h6]
  rfl
structure AliasAt where
  l : Str
  mj : Str
  J : JoinAt
noncomputable def tmplA (x : AliasAt) (P : Nat → Pos) (c1 c2 : Nat) : Stmt := .If (.Name x.l (P 1)) [.Try [.Assign [.Name x.mj (P 2)] (.Call (.Name (Str.ofString "int") (P 3)) [.Subscript (.Name x.l (P 4)) (.Constant (.int 0) c1 (P 5)) (P 6)] [] (P 7)) (P 8)]
  [.ExceptHandler (some (.Name (Str.ofString "ValueError") (P 9))) none [.Pass (P 10)] (P 11)]
  [.Assign [.Name x.mj (P 12)] (.BinOp (.Name x.mj (P 13)) .Sub (.Constant (.int 3) c2 (P 14)) (P 15)) (P 16), .Assign [.Subscript (.Name x.l (P 17)) (.Constant (.int 0) c1 (P 18)) (P 19)] (.Call (.Name (Str.ofString "str") (P 20)) [.Name x.mj (P 21)] [] (P 22)) (P 23),
    tmplJ x.J x.l (P 24) (P 25)] [] (P 26)] [] (P 27)
noncomputable def pA (st : Stmt) : Option AliasAt := (dIf st).bind fun a => (dName a.1).bind fun l => (d1 a.2).bind fun t => (dTry t).bind fun x => (d1 x.1).bind fun s1 => (pInt s1 l).bind fun m => (rExc x.2.1).bind fun e => (d3 x.2.2).bind fun o => (isLess o.1 m.1).bind fun _ => (isPut o.2.1 l m.1).bind fun c => (pJoin o.2.2 l).bind fun J =>
  if e.1 == Str.ofString "ValueError" && (isPass e.2 && c == m.2) then some ⟨l, m.1, J⟩ else none
theorem pA_eq {st : Stmt} {x : AliasAt} (h : pA st = some x) : ∃ P c1 c2, st = tmplA x P c1 c2 :=by
  revert h; refine bsC λa h1 h =>?_
  revert h; refine bsC λl h2 h =>?_
  revert h; refine bsC λt h3 h =>?_
  revert h; refine bsC λy h4 h =>?_
  revert h; refine bsC λs1 h5 h =>?_
  revert h; refine bsC λm h6 h =>?_
  revert h; refine bsC λe h7 h =>?_
  revert h; refine bsC λo h8 h =>?_
  revert h; refine bsC λu h11 h =>?_
  revert h; refine bsC λc h9 h =>?_
  revert h; refine bsC λJ h10 h =>?_
  refine X02 (λhq hx =>?_) (if_some h)
  revert hq; refine andC λq1 hq =>?_
  revert hq; refine andC λq2 q3 =>?_
  refine X11 (λpos e1 =>?_) (dIf_eq h1)
  refine X11 (λp1 e2 =>?_) (dName_eq h2)
  refine X11 (λpt e4 =>?_) (dTry_eq h4)
  obtain ⟨p2, p3, p4, p5, p6, p7, p8, e6⟩ := pInt_eq h6
  refine X21 (λp9 p11 e7 =>?_) (rExc_eq h7)
  refine X11 (λp10 e8 =>?_) (isPass_eq q2)
  obtain ⟨p12, p13, c2, p14, p15, p16, e9⟩ := isLess_eq h11
  obtain ⟨p17, p18, p19, p20, p21, p22, p23, e10⟩ := isPut_eq h9
  refine X21 (λp24 p25 e11 =>?_) (pJoin_eq h10)
  refine ⟨posA [default, p1, p2, p3, p4, p5, p6, p7, p8, p9, p10, p11, p12, p13, p14, p15, p16, p17, p18, p19, p20, p21, p22, p23, p24, p25, pt, pos], m.2, c2, ?_⟩
  rw [e1, e2, d1_eq h3, e4, d1_eq h5, e6, e7, e8, d3_eq h8, e9, e10, e11, eq_of_beq q1, eq_of_beq q3, ← hx]
  rfl
noncomputable def aliasD (G : Gl) (Γ : Sc) (x : AliasAt) (ρ : Loc) (rest : List PyData) (n : Int) : Option (Out × St) := if (n - 3).natAbs.log2 < 1920 then
  ((evN G 5).ev Γ (.Call (.Attribute (.Constant (.str (Str.ofString ".")) x.J.c3 x.J.p1) (Str.ofString "join") x.J.ap) [.Name x.l x.J.p2] [] x.J.p3) ((x.l, .list (.str (Str.ofString (toString (n - 3))) :: rest)) :: setLoc x.mj (.int (n - 3)) (setLoc x.mj (.int n) ρ))).bind fun d =>
    some (.next, ⟨setLoc x.J.rl d ((x.l, .list (.str (Str.ofString (toString (n - 3))) :: rest)) :: setLoc x.mj (.int (n - 3)) (setLoc x.mj (.int n) ρ)), none⟩) else none
noncomputable def condA (Γ : Sc) (x : AliasAt) : Bool := decide (x.l ≠ Str.ofString "__debug__") && (decide (x.mj ≠ Str.ofString "__debug__") && (decide (x.l ≠ x.mj) && (decide (x.l ≠ x.J.rl) && (isGl Γ "int" && (isGl Γ "ValueError" && (isGl Γ "str" && (Γ.mayStore x.mj && Γ.mayStore x.J.rl)))))))
noncomputable def runA (G : Gl) (Γ : Sc) (x : AliasAt) (σ : St) : Option (Out × St) := ifD σ.ω (fun w => (dC w.2).bind fun q => (uS q.1).bind fun z => if w.1 = x.l ∧ q.2.length ≤ 100000 ∧ asciiD z = true then (match PySem.intText? z with
      | some n =>aliasD G Γ x σ.ρ q.2 n
      | none =>some (.next, σ)) else none) none
noncomputable def primA (G : Gl) (Γ : Sc) (st : Stmt) : Option (St → Option (Out × St)) := (pA st).bind λx =>if condA Γ x then some (runA G Γ x) else none
section
variable {X : Cx} {k : Nat} {G : Gl} {Γ : Sc} {σ σ' : St}
theorem runA_key {x : AliasAt} {z : Str} {rest : List PyData} {o : Out} (hf : (match PySem.intText? z with
      | some n =>aliasD G Γ x σ.ρ rest n
      | none =>some (.next, σ)) = some (o, σ')) : (match PySem.intText? z with
    | some n => (n - 3).natAbs.log2 < 1920 ∧ ∃ d σ₂, (evN G 5).ev Γ (.Call (.Attribute (.Constant (.str (Str.ofString ".")) x.J.c3 x.J.p1) (Str.ofString "join") x.J.ap) [.Name x.l x.J.p2] [] x.J.p3) ((x.l, .list (.str (Str.ofString (toString (n - 3))) :: rest)) :: setLoc x.mj (.int (n - 3)) (setLoc x.mj (.int n) σ.ρ)) = some d ∧
        σ₂ = ⟨setLoc x.J.rl d ((x.l, .list (.str (Str.ofString (toString (n - 3))) :: rest)) :: setLoc x.mj (.int (n - 3)) (setLoc x.mj (.int n) σ.ρ)), none⟩ ∧ σ' = σ₂
    | none =>σ' = σ) ∧ o = .next :=by
  cases hn : PySem.intText? z with
  | none =>
    rw [hn] at hf
    have e := Option.some.inj hf
    exact ⟨(congrArg Prod.snd e).symm, (congrArg Prod.fst e).symm⟩
  | some n =>
    rw [hn] at hf
    have hf : aliasD G Γ x σ.ρ rest n = some (o, σ') := hf
    unfold aliasD at hf
    by_cases hlog : (n - 3).natAbs.log2 < 1920
    · refine X12 (fun d h1 h2 => ?_) (bind_some' ((if_pos hlog).symm.trans hf))
      have e := Option.some.inj h2
      exact ⟨⟨hlog, d, _, h1, rfl, (congrArg Prod.snd e).symm⟩, (congrArg Prod.fst e).symm⟩
    · exact absurd ((if_neg hlog).symm.trans hf) (λe =>nomatch e)
theorem runAOk (t : TopOk X) (g : GlOk X k G) {x : AliasAt} {P : Nat → Pos} {c1 c2 : Nat} {o : Out} (hc : condA Γ x = true) (hf : runA G Γ x σ = some (o, σ')) : StOkC X k Γ (tmplA x P c1 c2) σ o σ' :=by
  refine X03 (λb1 b2 b3 =>?_) (bi3 t)
  revert hc; refine andC λhld hc =>?_
  revert hc; refine andC λhmd hc =>?_
  revert hc; refine andC λhlm hc =>?_
  revert hc; refine andC λhlr hc =>?_
  revert hc; refine andC λg1 hc =>?_
  revert hc; refine andC λg2 hc =>?_
  revert hc; refine andC λg3 hc =>?_
  revert hc; refine andC λm1 m2 =>?_
  revert hf; refine ifDC (λw hω =>bsC λq hq =>bsC λz hz =>ifsC λhc2 hf =>X02 (λkey ho =>?_) (runA_key hf)) λ_ =>nos
  subst ho
  exact λR T hQ =>aliasOk (nE := 5) t.ok g (isGl_look g1) b1 (isGl_look g2) b2 (isGl_look g3) b3 (of_decide_eq_true hld) (of_decide_eq_true hmd) m1 m2 (of_decide_eq_true hlm) (of_decide_eq_true hlr) (show σ.ω = some (x.l, .str z :: q.2) by rw [← hc2.1, ← uS_eq hz, ← dC_eq hq]; exact hω) hc2.2.1 hc2.2.2 (p1 := x.J.p1) (p2 := x.J.p2) (p3 := x.J.p3) (ap := x.J.ap) (c3 := x.J.c3) key R T hQ
theorem primAOk (t : TopOk X) (g : GlOk X k G) {st : Stmt} {f : St → Option (Out × St)} {o : Out} (h : primA G Γ st = some f) (hf : f σ = some (o, σ')) : StOkC X k Γ st σ o σ' :=by
  revert h; refine bsC λx h1 h =>?_
  refine X31 (λP c1 c2 e =>?_) (pA_eq h1)
  refine X02 (λhc e2 =>?_) (if_some h)
  rw [e]
  exact runAOk t g hc (e2 ▸ hf)
end
end Mine
end
section
namespace Mine
open PySem PySem.Spec PySem.Calls PyProof.Rows PySem.W
noncomputable def primC4 (G : Gl) (Γ : Sc) (st : Stmt) : Option (St → Option (Out × St)) := match primV Γ st with
  | some f =>some f
  | none => match primS G Γ st with
    | some f =>some f
    | none => match primN Γ st with
      | some f =>some f
      | none =>primA G Γ st
noncomputable def ctxC (G : Gl) (i : Nat) (frz : List Nat) : CtxC :=
  { C := { G, Γ := ⟨(fnAt i).scope.names, []⟩, owns := [Str.ofString "result"], frz, prim := fun _ => none }, callC := fun _ _ => none, ns := [], primC := primC4 G ⟨(fnAt i).scope.names, []⟩ }
noncomputable def runC (K : CtxC) (i : Nat) (ds : List PyData) : Option PyData :=
  if ds.length = (fnPs i).length then match execs (exC K (evN K.C.G 40) 20) (fnAt i).body ⟨(fnPs i).zip ds, none⟩ with
    | some (.ret d, _) =>some d
    | _ =>none
  else none
noncomputable def frzOf (i : Nat) : List Nat := if i = 5 then [21] else []
noncomputable def specC (G : Gl) (i : Nat) (ds : List PyData) : Option PyData := runC (ctxC G i (frzOf i)) i ds
noncomputable def callC3 (f : Str) (ds : List PyData) : Option PyData := match ([4, 5, 6].map fun i => ((fnAt i).name, specC G0 i)).lookup f with
  | some g =>g ds
  | none =>none
noncomputable def lawK (G : Gl) : CtxC :=
  { C := { G, Γ := ⟨(fnAt 49).scope.names, []⟩, owns := [Str.ofString "heads"], frz := [207], prim := fun _ => none }, callC := callC3, ns := [(fnAt 4).name, (fnAt 5).name, (fnAt 6).name], primC := fun _ => none }
section
variable {X : Cx} {k : Nat} {G : Gl}
theorem CallOkC.mono {f : Str} {ds : List PyData} {d : PyData} {j : Nat} (h : CallOkC X j f ds d) (hj : j ≤ k) : CallOkC X k f ds d :=by
  obtain ⟨a, o, fd, h1, h2, h3, h4, h5⟩ := h
  exact ⟨a, o, fd, h1, h2, h3, h4, λ{S s vs A Q E} R F g r hQ =>h5 (R.mono hj) F g r hQ⟩
theorem runCOk (t : TopOk X) {K : CtxC} (g : GlOk X k K.C.G) (GC : ∀ {f ds d}, K.callC f ds = some d → CallOkC X k f ds d) {i : Nat} (hΓ : K.C.Γ = ⟨(fnAt i).scope.names, []⟩) (hp : ∀ {st f σ o σ'}, K.primC st = some f → f σ = some (o, σ') → StOkC X k K.C.Γ st σ o σ')
    (D : DefsAt X i) (hl : defLook i = true) {ds : List PyData} {d : PyData} (h : runC K i ds = some d) : CallOkC X (k + 1) (fnAt i).name ds d :=by
  simp only [defLook, Bool.and_eq_true, decide_eq_true_eq, List.all_eq_true] at hl
  unfold runC at h
  revert h; refine iteC (λ_ h =>?_) λ_ h =>?_
  · rename_i hlen
    split at h
    · rename_i d' σ' he
      replace h := Option.some.inj h; subst h
      refine defOkC t.ok D hl.1 hl.2 hlen (σ' := σ') ?_
      rw [← hΓ]
      exact execsOkC (λh =>exCOk t.ok g (λh =>GC h) (λa b =>hp a b) 20 h) _ he
    · exact nos h
  · exact nos h
theorem primC4Ok (t : TopOk X) (g : GlOk X k G) {D : Addr} (hD : StagesAt X D stagesT) (hg : GlobIs X (Str.ofString "_ver_stages") (.ref D)) {Γ : Sc} {st : Stmt} {f : St → Option (Out × St)} {σ σ' : St} {o : Out} (h : primC4 G Γ st = some f) (hf : f σ = some (o, σ')) : StOkC X k Γ st σ o σ' := by
  unfold primC4 at h
  split at h
  · rename_i q; cases h; exact primVOk t hD hg q hf
  · split at h
    · rename_i q; cases h; exact primSOk t g q hf
    · split at h
      · rename_i q; cases h; exact primNOk t q hf
      · exact primAOk t g h hf
theorem callC3Ok (t : TopOk X) {D : Addr} (hD : StagesAt X D stagesT) (hg : GlobIs X (Str.ofString "_ver_stages") (.ref D)) (Ds : ∀ i ∈ [4, 5, 6], DefsAt X i) (hl : ∀ i ∈ [4, 5, 6], defLook i = true) {f : Str} {ds : List PyData} {d : PyData} (h : callC3 f ds = some d) : CallOkC X 1 f ds d := by
  unfold callC3 at h
  split at h
  · rename_i e q
    refine X12 (λi hi he =>?_) (List.mem_map.mp (PySem.mem_of_lookup q))
    cases he
    exact runCOk (k := 0) (K := ctxC G0 i (frzOf i)) t (gl0Ok t) (λh =>by exact nos h) rfl (λa b =>primC4Ok t (gl0Ok t) hD hg a b) (Ds i hi) (hl i hi) h
  · exact nos h
theorem lawOk (t : TopOk X) (g : GlOk X 4 G) {D : Addr} (hD : StagesAt X D stagesT) (hg : GlobIs X (Str.ofString "_ver_stages") (.ref D)) (Ds : ∀ i ∈ [4, 5, 6, 49], DefsAt X i) (hl : ∀ i ∈ [4, 5, 6, 49], defLook i = true) {ds : List PyData} {d : PyData} (h : runC (lawK G) 49 ds = some d) : CallOkC X 5 (fnAt 49).name ds d := by
  have sub : ∀ i ∈ [4, 5, 6], i ∈ [4, 5, 6, 49] :=by decide
  exact runCOk (K := lawK G) t g (λh =>(callC3Ok t hD hg (λi hi =>Ds i (sub i hi)) (λi hi =>hl i (sub i hi)) h).mono (by decide)) rfl (λa _ =>by exact nos a) (Ds 49 (by decide)) (hl 49 (by decide)) h
theorem looks : ∀ i ∈ [4, 5, 6, 9, 10, 18, 19, 20, 21, 22, 23, 24, 38, 40, 41, 42, 43, 44, 45, 46, 47, 48, 49], defLook i = true :=by decide +kernel
end
end Mine
end
section
namespace Mine
open PySem PySem.Spec PySem.Calls PyProof.Rows PySem.W
noncomputable def platRest (xs : List Str) : Option PyData := match execs (exN (ctxA G0 7) (evN G0 40) 20) ((fnAt 7).body.drop 1) ⟨setLoc (Str.ofString "platform") (.str (platJ xs)) [(Str.ofString "args", .tuple (xs.map PyData.str))], none⟩ with
  | some (.ret d, _) =>some d
  | _ =>none
noncomputable def specP (ds : List PyData) : Option PyData := (strsD ds).bind fun xs => if xs.length ≤ 1000 ∧ xs.all (fun x => decide (x.length ≤ 1000)) = true ∧ JoinOk (Str.ofString "-") ((xs.filter ne0).map Txt.strip) = true then platRest xs else none
noncomputable def G1 : Gl := addG (lev G0 [9, 10, 6, 40, 41, 44, 46, 47]) [(Str.ofString "_platform", specP)]
noncomputable def G2 : Gl := lev G1 [18, 19, 20, 21, 22, 23, 24, 38, 45]
noncomputable def G3 : Gl := lev G2 [42, 48]
noncomputable def G4 : Gl := lev G3 [43]
noncomputable def genPos : Pos := match (fnAt 7).body with
  | .Assign _ (.Call _ [.GeneratorExp _ _ _ p] _ _) _ :: _ =>p
  | _ =>default
section
variable {X : Cx}
theorem specPOk (t : TopOk X) {c : Addr} (PA : PlatAt X c genPos) (D : VarDefAt X (Str.ofString "_platform") (Str.ofString "args") (fnAt 7).body (fnAt 7).scope.names c) {ds : List PyData} {d : PyData} (h : specP ds = some d) : CallOk X 1 (Str.ofString "_platform") ds d := by
  revert h; refine bsC λxs h1 h2 =>?_
  revert h2; refine iteC (λ_ h2 =>?_) λ_ h2 =>?_
  · rename_i hc
    revert hc; refine X03 λhc1 hc2 hc3 =>?_
    have hds := strsD_map h1
    subst hds
    unfold platRest at h2
    split at h2
    · rename_i d' σ' he
      replace h2 := Option.some.inj h2; subst h2
      refine varDefOk (k := 0) t.ok D (by decide +kernel) (by rw [List.length_map]; omega) λ{hb Sb env S s A Q E} hcode R T hQ =>?_
      have hx : ∀ x ∈ xs, x.length ≤ 100000 := λx hm =>by
        have := of_decide_eq_true (List.all_eq_true.mp hc2 x hm); omega
      refine wpAny_execs_cons (platJoin (xs := xs) (ar := Str.ofString "args") t.ok PA hcode R T rfl hx (by omega) hc3 (by decide) (by decide) (by decide +kernel) (by decide +kernel) (t.bi (by decide) (by decide) (by decide +kernel)) (by decide +kernel) (t.bi (by decide) (by decide) (by decide +kernel)) rfl rfl (by decide +kernel) (by decide +kernel) (by decide +kernel) rfl rfl rfl fun s' T' ss => ?_)
      refine execsOk (λh =>exNOk (C := ctxA G0 7) t.ok (gl0Ok t) (λhp =>by exact nos hp) 20 h) _ he R T' λS₂ s₂ T₂ ss₂ =>hQ _ _ _ T₂ (ss.trans ss₂)
    · exact nos h2
  · exact nos h2
end
end Mine
end
section
namespace Mine
open PySem PySem.Spec PySem.Calls PyProof.Rows PySem.W
noncomputable def defIx : List Nat := [4, 5, 6, 9, 10, 18, 19, 20, 21, 22, 23, 24, 38, 40, 41, 42, 43, 44, 45, 46, 47, 48, 49]
structure AllAt (X : Cx) : Prop where
  top : TopOk X
  stages : ∃ D, StagesAt X D stagesT ∧ GlobIs X (Str.ofString "_ver_stages") (.ref D)
  defs : ∀ i ∈ defIx, DefsAt X i
  plat : ∃ c, PlatAt X c genPos ∧ VarDefAt X (Str.ofString "_platform") (Str.ofString "args") (fnAt 7).body (fnAt 7).scope.names c
section
variable {X : Cx}
theorem g4Ok (T : AllAt X) : GlOk X 4 G4 :=by
  have lv : ∀ {k : Nat} {G : Gl} {ks : List Nat}, GlOk X k G → (∀ i ∈ ks, i ∈ defIx) → GlOk X (k + 1) (lev G ks) := λg hs =>levOk T.top g (λi hi =>T.defs i (hs i hi)) (λi hi =>looks i (hs i hi))
  refine X12 (λc PA D =>?_) T.plat
  have g1 : GlOk X 1 G1 := GlOk.add (lv (gl0Ok T.top) (by decide)) λp hp ds d h =>by
    rw [List.mem_singleton.mp hp] at h ⊢
    exact specPOk T.top PA D h
  exact lv (lv (lv g1 (by decide)) (by decide)) (by decide)
theorem lawRuns (T : AllAt X) {ds : List PyData} {d : PyData} (h : runC (lawK G4) 49 ds = some d) : CallOkC X 5 (fnAt 49).name ds d :=by
  refine X12 (λD h1 h2 =>?_) T.stages
  exact lawOk T.top (g4Ok T) h1 h2 (λi hi =>T.defs i (by revert i; decide)) (λi hi =>looks i (by revert i; decide)) h
end
end Mine
end
section
namespace Mine
open PySem PySem.Spec PyProof.Rows PySem.W
theorem sep_notDig {c : Nat} (h : isSep c = true) : isDig c = false :=by
  simp only [isSep, Bool.or_eq_true, beq_iff_eq] at h
  rcases h with ((h | h) | h) | h <;> subst h <;> rfl
theorem reGo_sep {c : Nat} (hc : isSep c = true) (y : List Nat) : ∀ (x txt run : List Nat), reGo txt run (x ++ c :: y) = reGo txt run x ++ [c] :: reGo [] [] y
  | [], txt, [] =>by
    rw [List.nil_append, reGo_c, reGo_nil, sep_notDig hc, hc]; rfl
  | [], txt, r :: rs =>by
    rw [List.nil_append, reGo_cr, reGo_nilr, sep_notDig hc, hc]; rfl
  | a :: x, txt, [] =>by
    rw [List.cons_append, reGo_c, reGo_c, reGo_sep hc y x, reGo_sep hc y x, reGo_sep hc y x]
    split
    · rfl
    · split <;> rfl
  | a :: x, txt, r :: rs =>by
    rw [List.cons_append, reGo_cr, reGo_cr, reGo_sep hc y x, reGo_sep hc y x, reGo_sep hc y x]
    split
    · rfl
    · split <;> rfl
end Mine
end
section
namespace Mine
open PySem PySem.Spec PyProof.Rows PySem.W
noncomputable def cBody : List Stmt := sBody (at' (fnAt 4).body 2)
noncomputable def cTgt : Expr := sTgt (at' (fnAt 4).body 2)
noncomputable def K4 : CtxC := ctxC G0 4 (frzOf 4)
noncomputable def V4 : EvT := evN G0 40
theorem comp_unf (x : Str) : execs (exC K4 V4 20) (fnAt 4).body ⟨[(Str.ofString "version", .str x)], none⟩ =
    (((methRe x).bind itemsD).bind fun ds => forD (targetD K4.C.Γ cTgt) (execs (exC K4 V4 19) cBody) (fun σ => some (.next, σ)) [Str.ofString "component_re", Str.ofString "version"] ds ⟨[(Str.ofString "component_re", .dict [(.int 36, .none)]), (Str.ofString "version", .str x)], some (Str.ofString "result", [])⟩).bind fun p => match p.1 with
      | .next =>execs (exC K4 V4 20) ((fnAt 4).body.drop 3) p.2
      | o =>some (o, p.2) := rfl
theorem body_unf (x v : Str) (rs : List PyData) : execs (exC K4 V4 19) cBody ⟨[(Str.ofString "v", .str v), (Str.ofString "component_re", .dict [(.int 36, .none)]), (Str.ofString "version", .str x)], some (Str.ofString "result", rs)⟩ =
   if (!(!(Builtin.Str.occurrences (Str.ofString "._+-") v 0 4 1).isEmpty)) = true then (if asciiD v then (match PySem.intText? v with
     | some n => if rs.length + 2 ≤ 100000 then some (.next, ⟨[(Str.ofString "t", .int 100), (Str.ofString "v", .int n), (Str.ofString "component_re", .dict [(.int 36, .none)]), (Str.ofString "version", .str x)], some (Str.ofString "result", rs ++ [.int 100, .int n])⟩) else none
     | none => if rs.length + 2 ≤ 100000 then some (.next, ⟨[(Str.ofString "t", .int ((stagesT.lookup v).getD 0)), (Str.ofString "v", .str v), (Str.ofString "component_re", .dict [(.int 36, .none)]), (Str.ofString "version", .str x)], some (Str.ofString "result", rs ++ [.int ((stagesT.lookup v).getD 0), .str v])⟩) else none) else none)
   else some (.next, ⟨[(Str.ofString "v", .str v), (Str.ofString "component_re", .dict [(.int 36, .none)]), (Str.ofString "version", .str x)], some (Str.ofString "result", rs)⟩) := by
  by_cases h1 : (!(!(Builtin.Str.occurrences (Str.ofString "._+-") v 0 4 1).isEmpty)) = true
  · rw [if_pos h1]
    show Option.bind (if (!(!(Builtin.Str.occurrences (Str.ofString "._+-") v 0 (Str.ofString "._+-").length 1).isEmpty)) = true then _ else _) _ = _
    rw [if_pos (show (!(!(Builtin.Str.occurrences (Str.ofString "._+-") v 0 (Str.ofString "._+-").length 1).isEmpty)) = true from h1)]
    by_cases h2 : asciiD v = true
    · rw [if_pos h2]
      cases hn : PySem.intText? v with
      | some n =>
        show Option.bind (Option.bind (if asciiD v = true then (match PySem.intText? v with | some n =>_ | none =>_) else none) _) _ = _
        rw [if_pos h2, hn]
        show Option.bind (Option.bind (if rs.length + 2 ≤ 100000 then _ else none) _) _ = _
        by_cases h3 : rs.length + 2 ≤ 100000
        · rw [if_pos h3]; dsimp only; rw [if_pos h3]; rfl
        · rw [if_neg h3]; dsimp only; rw [if_neg h3]; rfl
      | none =>
        show Option.bind (Option.bind (if asciiD v = true then (match PySem.intText? v with | some n =>_ | none =>_) else none) _) _ = _
        rw [if_pos h2, hn]
        show Option.bind (Option.bind (if rs.length + 2 ≤ 100000 then _ else none) _) _ = _
        by_cases h3 : rs.length + 2 ≤ 100000
        · rw [if_pos h3]; dsimp only; rw [if_pos h3]; rfl
        · rw [if_neg h3]; dsimp only; rw [if_neg h3]; rfl
    · rw [if_neg h2]
      show Option.bind (Option.bind (if asciiD v = true then _ else none) _) _ = _
      rw [if_neg h2]
      rfl
  · rw [if_neg h1]
    show Option.bind (if (!(!(Builtin.Str.occurrences (Str.ofString "._+-") v 0 (Str.ofString "._+-").length 1).isEmpty)) = true then _ else _) _ = _
    rw [if_neg (show ¬ (!(!(Builtin.Str.occurrences (Str.ofString "._+-") v 0 (Str.ofString "._+-").length 1).isEmpty)) = true from h1)]
    rfl
end Mine
end
section
namespace Mine
open PySem PySem.Spec PyProof.Rows PySem.W
noncomputable def notIn (v : Str) : Bool := (!(!(Builtin.Str.occurrences (Str.ofString "._+-") v 0 4 1).isEmpty))
noncomputable def compV (v : Str) : List PyData := if notIn v = true then (match PySem.intText? v with
  | some n =>[.int 100, .int n]
  | none =>[.int ((stagesT.lookup v).getD 0), .str v]) else []
noncomputable def ρ4 (x : Str) : Loc := [(Str.ofString "component_re", .dict [(.int 36, .none)]), (Str.ofString "version", .str x)]
noncomputable def n4 : List Str := [Str.ofString "component_re", Str.ofString "version"]
theorem comp_loop (x : Str) : ∀ (ps : List Str) (rs : List PyData), (∀ p ∈ ps, notIn p = true → asciiD p = true) → rs.length + 2 * ps.length ≤ 100000 →
    forD (targetD K4.C.Γ cTgt) (execs (exC K4 V4 19) cBody) (fun σ => some (.next, σ)) n4 (ps.map PyData.str) ⟨ρ4 x, some (Str.ofString "result", rs)⟩ = some (.next, ⟨ρ4 x, some (Str.ofString "result", rs ++ ps.flatMap compV)⟩)
  | [], rs, _, _ =>by simp [forD]
  | p :: ps, rs, hp, hl =>by
    have e1 : targetD K4.C.Γ cTgt (.str p) ⟨ρ4 x, some (Str.ofString "result", rs)⟩ = some ⟨(Str.ofString "v", .str p) :: ρ4 x, some (Str.ofString "result", rs)⟩ := rfl
    have ih := comp_loop x ps (rs ++ compV p) (λq hq =>hp q (List.mem_cons_of_mem _ hq)) (by
      have : (compV p).length ≤ 2 :=by
        unfold compV
        split
        · split <;> simp
        · simp
      simp only [List.length_append, List.length_cons] at hl ⊢
      omega)
    have e2 : execs (exC K4 V4 19) cBody ⟨(Str.ofString "v", .str p) :: ρ4 x, some (Str.ofString "result", rs)⟩ = _ := body_unf x p rs
    rw [List.map_cons, forD, e1, Option.bind_some, e2]
    simp only [List.length_cons] at hl
    by_cases h1 : notIn p = true
    · have h2 := hp p List.mem_cons_self h1
      have h3 : rs.length + 2 ≤ 100000 :=by omega
      rw [if_pos (show (!(!(Builtin.Str.occurrences (Str.ofString "._+-") p 0 4 1).isEmpty)) = true from h1), if_pos h2]
      rw [List.flatMap_cons, ← List.append_assoc, ← ih]
      cases hn : PySem.intText? p with
      | some n =>
        have : compV p = [.int 100, .int n] :=by unfold compV; rw [if_pos h1, hn]
        rw [this]
        dsimp only
        rw [if_pos h3]
        rfl
      | none =>
        have : compV p = [.int ((stagesT.lookup p).getD 0), .str p] :=by unfold compV; rw [if_pos h1, hn]
        rw [this]
        dsimp only
        rw [if_pos h3]
        rfl
    · rw [if_neg (show ¬ (!(!(Builtin.Str.occurrences (Str.ofString "._+-") p 0 4 1).isEmpty)) = true from h1)]
      have : compV p = [] :=by unfold compV; rw [if_neg h1]
      rw [List.flatMap_cons, ← List.append_assoc, ← ih, this, List.append_nil]
      rfl
noncomputable def str! (w : List Nat) : Str := ⟨w.toArray⟩
noncomputable def compW (w : List Nat) : List PyData := ((reGo [] [] w).map str!).flatMap compV
theorem comp_spec {x : Str} (hx : x.cps.size ≤ 1000) (ha : ∀ p ∈ (reGo [] [] x.cps.toList).map str!, notIn p = true → asciiD p = true) : specC G0 4 [.str x] = some (.list (compW x.cps.toList)) :=by
  have hm : methRe x = some (.list ((reGo [] [] x.cps.toList).map S!)) :=by
    unfold methRe; rw [if_pos (by omega)]
  have e : execs (exC K4 V4 20) (fnAt 4).body ⟨[(Str.ofString "version", .str x)], none⟩ = some (.ret (.list (compW x.cps.toList)), ⟨(Str.ofString "result", .list (compW x.cps.toList)) :: ρ4 x, none⟩) := by
    rw [comp_unf, hm]
    have hmap : (reGo [] [] x.cps.toList).map S! = ((reGo [] [] x.cps.toList).map str!).map PyData.str :=by
      rw [List.map_map]; rfl
    have hlen := reGo_len x.cps.toList [] []
    have hsz : x.cps.toList.length = x.cps.size := Array.length_toList
    show Option.bind (forD _ _ _ _ ((reGo [] [] x.cps.toList).map S!) _) _ = _
    rw [hmap]
    have := comp_loop x ((reGo [] [] x.cps.toList).map str!) [] ha (by simp only [List.length_nil, List.length_map]; omega)
    show Option.bind (forD (targetD K4.C.Γ cTgt) (execs (exC K4 V4 19) cBody) (fun σ => some (.next, σ)) n4 _ ⟨ρ4 x, some (Str.ofString "result", [])⟩) _ = _
    rw [this]
    rfl
  show (if [PyData.str x].length = (fnPs 4).length then (match execs (exC K4 V4 20) (fnAt 4).body ⟨[(Str.ofString "version", .str x)], none⟩ with
    | some (.ret d, _) =>some d
    | _ =>none) else none) = _
  rw [if_pos (by rfl), e]
end Mine
end
section
namespace Mine
open PySem PySem.Spec PyProof.Rows PySem.W PySem.Builtin PySem.Builtin.Str
noncomputable def K5 : CtxC := ctxC G0 5 (frzOf 5)
noncomputable def nm (x : String) : Str := Str.ofString x
noncomputable def okN (x : Str) : Bool := asciiD x && (match PySem.intText? x with | some n =>decide (n.natAbs.log2 < 1920) | none =>true)
noncomputable def strsN (xs : List Str) : List Str := if xs.all (λx =>(PySem.intText? x).isSome) then xs.map strOfIntD else xs
theorem norm_unf1 (x b : Str) : execs (exC K5 V4 20) (fnAt 5).body ⟨[(nm "version", .str x), (nm "build", .str b)], none⟩ =
    (if x.length ≤ 100000 ∧ (Txt.split x (nm ".")).length ≤ 100000 ∧ (none : Option (Str × List PyData)).isNone = true ∧ hasLoc (nm "l") [(nm "version", .str x), (nm "build", .str b)] = false then some (Out.next, St.setOwn ⟨[(nm "version", .str x), (nm "build", .str b)], none⟩ (nm "l") ((Txt.split x (nm ".")).map PyData.str)) else none).bind fun p => match p.1 with
      | .next =>execs (exC K5 V4 20) ((fnAt 5).body.drop 1) p.2
      | o =>some (o, p.2) := rfl
noncomputable def ρ5 (x b : Str) : Loc := [(nm "version", .str x), (nm "build", .str b)]
theorem norm_unf2 (x b : Str) (ys : List PyData) : execs (exC K5 V4 20) ((fnAt 5).body.drop 1) ⟨ρ5 x b, some (nm "l", ys)⟩ =
    ((if b.length ≤ 100000 then some (b.length != 0) else none).bind fun c => if c = true then ((if ys.length ≤ 100000 then some (Out.next, (⟨ρ5 x b, some (nm "l", ys ++ [.str b])⟩ : St)) else none).bind fun p => match p.1 with
        | .next =>some (.next, p.2)
        | o => some (o, p.2)) else some (.next, ⟨ρ5 x b, some (nm "l", ys)⟩)).bind fun p => match p.1 with
      | .next =>execs (exC K5 V4 20) ((fnAt 5).body.drop 2) p.2
      | o =>some (o, p.2) := rfl
theorem norm_unf3 (x b : Str) (xs : List Str) : execs (exC K5 V4 20) ((fnAt 5).body.drop 2) ⟨ρ5 x b, some (nm "l", xs.map PyData.str)⟩ =
    ((strsD (xs.map PyData.str)).bind fun zs => if zs.length ≤ 100000 ∧ zs.all okN = true then
            some (Out.next, (⟨(nm "strings", .list (if zs.all (fun x => (PySem.intText? x).isSome) then zs.map fun x => .str (strOfIntD x) else zs.map PyData.str)) :: (nm "l", .list (xs.map PyData.str)) :: ρ5 x b, none⟩ : St)) else none).bind fun p => match p.1 with
      | .next =>execs (exC K5 V4 20) ((fnAt 5).body.drop 3) p.2
      | o =>some (o, p.2) := rfl
end Mine
end
section
namespace Mine
open PySem PySem.Spec PyProof.Rows PySem.W PySem.Builtin PySem.Builtin.Str
theorem notIn_of {v : Str} {c : Nat} (hc : c ∈ v.cps.toList) (hn : isSep c = false) : notIn v = true :=by
  unfold notIn
  cases h : (!(Builtin.Str.occurrences (Str.ofString "._+-") v 0 4 1).isEmpty) with
  | false =>rfl
  | true =>
    exfalso
    refine X12 (fun i h1 h2 => ?_) ((StrLaws.found_iff (Str.ofString "._+-") v).mp h)
    rw [StrLaws.subAt_eq] at h2
    have e := eq_of_beq h2
    rw [← e] at hc
    have hm := List.mem_of_mem_drop (List.mem_of_mem_take hc)
    have hl : (Str.ofString "._+-").cps.toList = [46, 95, 43, 45] := by decide
    rw [hl] at hm
    simp only [List.mem_cons, List.not_mem_nil, or_false] at hm
    rcases hm with rfl | rfl | rfl | rfl <;> exact absurd hn (by decide)
theorem compV_nil : compV (str! []) = [] :=by kernel_rfl
theorem compV_sep {c : Nat} (hc : isSep c = true) : compV (str! [c]) = [] :=by
  simp only [isSep, Bool.or_eq_true, beq_iff_eq] at hc
  rcases hc with ((h | h) | h) | h <;> subst h <;> kernel_rfl
theorem compW_nil : compW [] = [] :=by
  show ([[]].map str!).flatMap compV = []
  rw [List.map_cons, List.flatMap_cons, compV_nil]; rfl
theorem compW_sep {c : Nat} (hc : isSep c = true) (x y : List Nat) : compW (x ++ c :: y) = compW x ++ compW y :=by
  unfold compW
  rw [reGo_sep hc, List.map_append, List.flatMap_append, List.map_cons, List.flatMap_cons, compV_sep hc, List.nil_append]
theorem join_cons (sep x y : Str) (r : List Str) : Str.join sep (x :: y :: r) = x ++ sep ++ Str.join sep (y :: r) := rfl
theorem toList_app (x y : Str) : (x ++ y).cps.toList = x.cps.toList ++ y.cps.toList :=by
  show (x.cps ++ y.cps).toList = _
  rw [Array.toList_append]
theorem compW_join {c : Nat} (hc : isSep c = true) : ∀ ts : List Str, compW (Str.join ⟨#[c]⟩ ts).cps.toList = ts.flatMap fun t => compW t.cps.toList
  | [] =>compW_nil
  | [x] =>by rw [List.flatMap_cons, List.flatMap_nil, List.append_nil]; rfl
  | x :: y :: r =>by
    have e : (x ++ (⟨#[c]⟩ : Str) ++ Str.join ⟨#[c]⟩ (y :: r)).cps.toList = x.cps.toList ++ c :: (Str.join ⟨#[c]⟩ (y :: r)).cps.toList :=by
      rw [toList_app, toList_app, List.append_assoc]; rfl
    rw [join_cons, e, compW_sep hc, compW_join hc (y :: r)]; rfl
theorem reGo_digs : ∀ (ds txt : List Nat) (r : Nat) (rs : List Nat), (∀ c ∈ ds, isDig c = true) → reGo txt (r :: rs) ds = [txt, r :: rs ++ ds, []]
  | [], txt, r, rs, _ =>by rw [reGo_nilr, List.append_nil]
  | c :: ds, txt, r, rs, h =>by
    rw [reGo_cr, if_pos (h c List.mem_cons_self), List.cons_append, reGo_digs ds txt r (rs ++ [c]) (λd hd =>h d (List.mem_cons_of_mem _ hd))]
    simp
theorem isDig_iff {c : Nat} : isDig c = true ↔ 48 ≤ c ∧ c ≤ 57 :=by simp [isDig]
theorem compW_digs {ds : List Nat} {n : Int} (hd : ∀ c ∈ ds, isDig c = true) (hne : ds ≠ []) (hn : PySem.intText? (str! ds) = some n) : compW ds = [.int 100, .int n] :=by
  match ds, hne, hd, hn with
  | c :: cs, _, hd, hn =>
    have hc := hd c List.mem_cons_self
    have e : reGo [] [] (c :: cs) = [[], c :: cs, []] :=by
      rw [reGo_c, if_pos hc, reGo_digs cs [] c [] (λd hd' =>hd d (List.mem_cons_of_mem _ hd'))]; rfl
    have hs : isSep c = false :=by
      have := isDig_iff.mp hc
      cases q : isSep c with
      | false =>rfl
      | true =>rw [sep_notDig q] at hc; exact fnt hc
    unfold compW
    rw [e]
    show compV (str! []) ++ (compV (str! (c :: cs)) ++ (compV (str! []) ++ [])) = _
    have h1 : notIn (str! (c :: cs)) = true := notIn_of (c := c) (by show c ∈ (c :: cs).toArray.toList; simp) hs
    have h2 : compV (str! (c :: cs)) = [.int 100, .int n] :=by unfold compV; rw [if_pos h1, hn]
    rw [compV_nil, h2]; rfl
theorem reGo_mem : ∀ (cs txt run : List Nat), ∀ p ∈ reGo txt run cs, (∀ c ∈ p, c ∈ txt ∨ c ∈ run ∨ c ∈ cs) ∧ p.length ≤ txt.length + run.length + cs.length
  | [], txt, [], p, hp =>by
    rw [reGo_nil] at hp; rw [List.mem_singleton.mp hp]; exact ⟨λc hc =>.inl hc, by simp <;> omega⟩
  | [], txt, r :: rs, p, hp =>by
    rw [reGo_nilr] at hp
    simp only [List.mem_cons, List.not_mem_nil, or_false] at hp
    rcases hp with rfl | rfl | rfl
    · exact ⟨λc hc =>.inl hc, by simp <;> omega⟩
    · exact ⟨λc hc =>.inr (.inl hc), by simp <;> omega⟩
    · exact ⟨λc hc =>(by cases hc), by simp <;> omega⟩
  | c :: cs, txt, [], p, hp =>by
    rw [reGo_c] at hp
    split at hp
    · refine X02 (fun h1 h2 => ?_) (reGo_mem cs txt [c] p hp)
      refine ⟨λd hd =>?_, by simp at h2 ⊢ <;> omega⟩
      rcases h1 d hd with h | h | h
      · exact .inl h
      · exact .inr (.inr (List.mem_cons.mpr (.inl (List.mem_singleton.mp h))))
      · exact .inr (.inr (List.mem_cons_of_mem _ h))
    · split at hp
      · simp only [List.mem_cons] at hp
        rcases hp with rfl | rfl | hp
        · exact ⟨λd hd =>.inl hd, by simp <;> omega⟩
        · exact ⟨λd hd =>.inr (.inr (List.mem_cons.mpr (.inl (List.mem_singleton.mp hd)))), by simp <;> omega⟩
        · refine X02 (fun h1 h2 => ?_) (reGo_mem cs [] [] p hp)
          refine ⟨λd hd =>?_, by simp at h2 ⊢ <;> omega⟩
          rcases h1 d hd with h | h | h
          · cases h
          · cases h
          · exact .inr (.inr (List.mem_cons_of_mem _ h))
      · refine X02 (fun h1 h2 => ?_) (reGo_mem cs (txt ++ [c]) [] p hp)
        refine ⟨λd hd =>?_, by simp at h2 ⊢ <;> omega⟩
        rcases h1 d hd with h | h | h
        · rcases List.mem_append.mp h with h | h
          · exact .inl h
          · exact .inr (.inr (List.mem_cons.mpr (.inl (List.mem_singleton.mp h))))
        · cases h
        · exact .inr (.inr (List.mem_cons_of_mem _ h))
  | c :: cs, txt, r :: rs, p, hp =>by
    rw [reGo_cr] at hp
    split at hp
    · refine X02 (fun h1 h2 => ?_) (reGo_mem cs txt (r :: rs ++ [c]) p hp)
      refine ⟨λd hd =>?_, by simp at h2 ⊢ <;> omega⟩
      rcases h1 d hd with h | h | h
      · exact .inl h
      · rcases List.mem_append.mp h with h | h
        · exact .inr (.inl h)
        · exact .inr (.inr (List.mem_cons.mpr (.inl (List.mem_singleton.mp h))))
      · exact .inr (.inr (List.mem_cons_of_mem _ h))
    · simp only [List.mem_cons] at hp
      rcases hp with rfl | rfl | hp
      · exact ⟨λd hd =>.inl hd, by simp <;> omega⟩
      · exact ⟨λd hd =>.inr (.inl hd), by simp <;> omega⟩
      · split at hp
        · simp only [List.mem_cons] at hp
          rcases hp with rfl | rfl | hp
          · exact ⟨λd hd =>(by cases hd), by simp <;> omega⟩
          · exact ⟨λd hd =>.inr (.inr (List.mem_cons.mpr (.inl (List.mem_singleton.mp hd)))), by simp <;> omega⟩
          · refine X02 (fun h1 h2 => ?_) (reGo_mem cs [] [] p hp)
            refine ⟨λd hd =>?_, by simp at h2 ⊢ <;> omega⟩
            rcases h1 d hd with h | h | h
            · cases h
            · cases h
            · exact .inr (.inr (List.mem_cons_of_mem _ h))
        · refine X02 (fun h1 h2 => ?_) (reGo_mem cs [c] [] p hp)
          refine ⟨λd hd =>?_, by simp at h2 ⊢ <;> omega⟩
          rcases h1 d hd with h | h | h
          · exact .inr (.inr (List.mem_cons.mpr (.inl (List.mem_singleton.mp h))))
          · cases h
          · exact .inr (.inr (List.mem_cons_of_mem _ h))
noncomputable def Asc (x : Str) (n : Nat) : Prop := (∀ c ∈ x.cps.toList, c < 128) ∧ x.length ≤ n
theorem Asc.ascii {x : Str} {n : Nat} (h : Asc x n) (hn : n ≤ 640) : asciiD x = true :=by
  simp only [asciiD, Bool.and_eq_true, List.all_eq_true, decide_eq_true_eq]
  exact ⟨h.1, Nat.le_trans h.2 hn⟩
theorem comp_at {x : Str} (h : Asc x 640) : specC G0 4 [.str x] = some (.list (compW x.cps.toList)) :=by
  have hl : x.cps.size ≤ 640 := h.2
  refine comp_spec (by omega) λp hp _ =>?_
  obtain ⟨q, hq, rfl⟩ := List.mem_map.mp hp
  refine X02 (λh1 h2 =>?_) (reGo_mem _ _ _ q hq)
  refine Asc.ascii (n := 640) ⟨λc hc =>?_, ?_⟩ (Nat.le_refl _)
  · have : c ∈ q := by simpa [str!] using hc
    rcases h1 c this with h' | h' | h'
    · cases h'
    · cases h'
    · exact h.1 c h'
  · show q.toArray.size ≤ 640
    simp only [List.length_nil, Nat.zero_add, Array.length_toList] at h2
    rw [List.size_toArray]; omega
end Mine
end
section
namespace Mine
open PySem PySem.Spec PyProof.Rows PySem.W PySem.Builtin PySem.Builtin.Str
theorem strsD_of : ∀ xs : List Str, strsD (xs.map PyData.str) = some xs
  | [] =>rfl
  | x :: xs =>by
    show (strsD (xs.map PyData.str)).bind _ = _
    rw [strsD_of xs]; rfl
theorem methJoin_at {sep : Str} {ts : List Str} {B : Nat} (hB : ∀ t ∈ ts, t.length ≤ B) (h : ts.length * B + ts.length * sep.length ≤ 100000) : methJoin sep (ts.map PyData.str) = some (.str (Str.join sep ts)) :=by
  unfold methJoin
  rw [strsD_of, Option.bind_some, StrLaws.glued_eq_join]
  have h1 : JoinOk sep ts = true :=by
    unfold JoinOk
    rw [StrLaws.joinTotal]
    have := StrLaws.sumLen_le ts hB
    unfold tooLong sizeLine
    simp only [Bool.not_eq_true', decide_eq_false_iff_not]
    omega
  have h2 : (Str.join sep ts).length ≤ 100000 :=by
    have h3 := PySem.StrLaws.join_length_le sep ts
    have := StrLaws.sumLen_le ts hB
    omega
  rw [if_pos ⟨h1, h2⟩]
noncomputable def partsOf (x b : Str) : List Str := Txt.split x (nm ".") ++ (if b.length = 0 then [] else [b])
theorem strs_map (zs : List Str) : (if zs.all (λx =>(PySem.intText? x).isSome) then zs.map λx =>PyData.str (strOfIntD x) else zs.map PyData.str) = (strsN zs).map PyData.str :=by
  unfold strsN
  split
  · rw [List.map_map]; rfl
  · rfl
theorem norm_at {x b : Str} {B : Nat} (hx : x.length ≤ 100000) (hb : b.length ≤ 100000) (hl : (Txt.split x (nm ".")).length ≤ 1000) (hok : ∀ t ∈ partsOf x b, okN t = true) (hB : ∀ t ∈ (strsN (partsOf x b)).take 3, t.length ≤ B) (h3 : B ≤ 1000) :
    specC G0 5 [.str x, .str b] = some (.str (Str.join (nm ".") ((strsN (partsOf x b)).take 3))) := by
  have hparts : (partsOf x b).length ≤ 1001 :=by
    unfold partsOf; rw [List.length_append]; split <;> simp <;> omega
  have e3 : ∀ L, execs (exC K5 V4 20) ((fnAt 5).body.drop 3) ⟨(nm "strings", .list ((strsN (partsOf x b)).map PyData.str)) :: (nm "l", L) :: ρ5 x b, none⟩ =
      some (.ret (.str (Str.join (nm ".") ((strsN (partsOf x b)).take 3))), ⟨(nm "strings", .list ((strsN (partsOf x b)).map PyData.str)) :: (nm "l", L) :: [(nm "version", .str (Str.join (nm ".") ((strsN (partsOf x b)).take 3))), (nm "build", .str b)], none⟩) := by
    intro L
    have hs : sliceD (.list ((strsN (partsOf x b)).map PyData.str)) none (some (.int 3)) = some (.list (((strsN (partsOf x b)).take 3).map PyData.str)) :=by
      have hlen : ((strsN (partsOf x b)).map PyData.str).length ≤ 100000 :=by
        rw [List.length_map]; unfold strsN; split
        · rw [List.length_map]; omega
        · omega
      show (if (0 : Int) ≤ 3 ∧ ((strsN (partsOf x b)).map PyData.str).length ≤ 100000 then some (PyData.list (((strsN (partsOf x b)).map PyData.str).take 3)) else none) = _
      rw [if_pos ⟨by decide, hlen⟩, List.map_take]
    show Option.bind (Option.bind (Option.bind (Option.bind (sliceD (.list ((strsN (partsOf x b)).map PyData.str)) none (some (.int 3))) _) _) _) _ = _
    rw [hs]
    show Option.bind (Option.bind (methJoin (nm ".") (((strsN (partsOf x b)).take 3).map PyData.str)) _) _ = _
    have ht : ((strsN (partsOf x b)).take 3).length ≤ 3 := List.length_take_le ..
    have hm : ((strsN (partsOf x b)).take 3).length * B ≤ 3 * 1000 := Nat.mul_le_mul ht h3
    have hd : (nm ".").length = 1 := by decide
    rw [methJoin_at hB (by rw [hd]; omega)]
    rfl
  have e2 : execs (exC K5 V4 20) ((fnAt 5).body.drop 2) ⟨ρ5 x b, some (nm "l", (partsOf x b).map PyData.str)⟩ = execs (exC K5 V4 20) ((fnAt 5).body.drop 3) ⟨(nm "strings", .list ((strsN (partsOf x b)).map PyData.str)) :: (nm "l", .list ((partsOf x b).map PyData.str)) :: ρ5 x b, none⟩ := by
    rw [norm_unf3, strsD_of, Option.bind_some, if_pos ⟨by omega, List.all_eq_true.mpr hok⟩, strs_map]
    rfl
  have e1 : execs (exC K5 V4 20) ((fnAt 5).body.drop 1) ⟨ρ5 x b, some (nm "l", (Txt.split x (nm ".")).map PyData.str)⟩ = execs (exC K5 V4 20) ((fnAt 5).body.drop 2) ⟨ρ5 x b, some (nm "l", (partsOf x b).map PyData.str)⟩ := by
    rw [norm_unf2, if_pos hb, Option.bind_some]
    by_cases q : b.length = 0
    · have : (b.length != 0) = false := by rw [q]; rfl
      rw [this, if_neg (by decide), Option.bind_some]
      unfold partsOf
      rw [if_pos q, List.append_nil]
    · have : (b.length != 0) = true := bne_iff_ne.mpr q
      rw [this, if_pos rfl, List.length_map, if_pos (by omega)]
      unfold partsOf
      rw [if_neg q, List.map_append]
      rfl
  have e0 : execs (exC K5 V4 20) (fnAt 5).body ⟨[(nm "version", .str x), (nm "build", .str b)], none⟩ = execs (exC K5 V4 20) ((fnAt 5).body.drop 1) ⟨ρ5 x b, some (nm "l", (Txt.split x (nm ".")).map PyData.str)⟩ := by
    rw [norm_unf1, if_pos ⟨hx, by omega, rfl, by rfl⟩]
    rfl
  show (if [PyData.str x, .str b].length = (fnPs 5).length then (match execs (exC K5 V4 20) (fnAt 5).body ⟨[(nm "version", .str x), (nm "build", .str b)], none⟩ with
    | some (.ret d, _) =>some d
    | _ =>none) else none) = _
  rw [if_pos (by rfl), e0, e1, e2, e3]
end Mine
end
section
namespace Mine
open PySem PySem.Spec PyProof.Rows PySem.W PySem.Builtin PySem.Builtin.Str
theorem alias_win1 (x v : Str) : specC G0 6 [.str (nm "win32"), .str x, .str v] = some (.tuple [.str (nm "Windows"), .str x, .str v]) := by kernel_rfl
theorem alias_win2 (x v : Str) : specC G0 6 [.str (nm "win16"), .str x, .str v] = some (.tuple [.str (nm "Windows"), .str x, .str v]) := by kernel_rfl
theorem alias_1 (x v : Str) : specC G0 6 [.str (nm "Solaris"), .str x, .str v] = some (.tuple [.str (nm "Solaris"), .str x, .str v]) := by kernel_rfl
theorem alias_2 (x v : Str) : specC G0 6 [.str (nm "Darwin"), .str x, .str v] = some (.tuple [.str (nm "Darwin"), .str x, .str v]) := by kernel_rfl
theorem alias_3 (x v : Str) : specC G0 6 [.str (nm "Linux"), .str x, .str v] = some (.tuple [.str (nm "Linux"), .str x, .str v]) := by kernel_rfl
theorem alias_4 (x v : Str) : specC G0 6 [.str (nm "Java"), .str x, .str v] = some (.tuple [.str (nm "Java"), .str x, .str v]) := by kernel_rfl
theorem alias_5 (x v : Str) : specC G0 6 [.str (nm "dos"), .str x, .str v] = some (.tuple [.str (nm "dos"), .str x, .str v]) := by kernel_rfl
theorem alias_6 (x v : Str) : specC G0 6 [.str (nm ""), .str x, .str v] = some (.tuple [.str (nm ""), .str x, .str v]) := by kernel_rfl
noncomputable def K6 : CtxC := ctxC G0 6 (frzOf 6)
noncomputable def aBody : List Stmt := sBody (at' (fnAt 6).body 0)
noncomputable def ρ6 (x v : Str) : Loc := [(nm "system", .str (nm "SunOS")), (nm "release", .str x), (nm "version", .str v)]
theorem alias_unf (x v : Str) : execs (exC K6 V4 20) (fnAt 6).body ⟨ρ6 x v, none⟩ = (execs (exC K6 V4 19) aBody ⟨ρ6 x v, none⟩).bind fun p => match p.1 with
    | .next =>execs (exC K6 V4 20) ((fnAt 6).body.drop 1) p.2
    | o =>some (o, p.2) :=by kernel_rfl
theorem alias_unf1 (x v : Str) : execs (exC K6 V4 19) aBody ⟨ρ6 x v, none⟩ = (if decide (x.cps.toList < (nm "5").cps.toList) = true then some (Out.ret (.tuple [.str (nm "SunOS"), .str x, .str v]), (⟨ρ6 x v, none⟩ : St)) else some (.next, ⟨ρ6 x v, none⟩)).bind fun p => match p.1 with
    | .next =>execs (exC K6 V4 19) (aBody.drop 1) p.2
    | o =>some (o, p.2) :=by kernel_rfl
theorem alias_unf2 (x v : Str) : execs (exC K6 V4 19) (aBody.drop 1) ⟨ρ6 x v, none⟩ = (if x.length ≤ 100000 ∧ (Txt.split x (nm ".")).length ≤ 100000 ∧ (none : Option (Str × List PyData)).isNone = true ∧ hasLoc (nm "l") (ρ6 x v) = false then some (Out.next, St.setOwn ⟨ρ6 x v, none⟩ (nm "l") ((Txt.split x (nm ".")).map PyData.str)) else none).bind fun p => match p.1 with
    | .next =>execs (exC K6 V4 19) (aBody.drop 2) p.2
    | o =>some (o, p.2) :=by kernel_rfl
theorem alias_unf3 (x v t : Str) (rest : List PyData) : execs (exC K6 V4 19) (aBody.drop 2) ⟨ρ6 x v, some (nm "l", .str t :: rest)⟩ = (if nm "l" = nm "l" ∧ rest.length ≤ 100000 ∧ asciiD t = true then (match PySem.intText? t with
            | some n => if (n - 3).natAbs.log2 < 1920 then (methJoin (nm ".") (.str (Str.ofString (toString (n - 3))) :: rest)).bind fun d =>
               some (Out.next, (⟨setLoc (nm "release") d ((nm "l", .list (.str (Str.ofString (toString (n - 3))) :: rest)) :: setLoc (nm "major") (.int (n - 3)) (setLoc (nm "major") (.int n) (ρ6 x v))), none⟩ : St)) else none
            | none => some (.next, ⟨ρ6 x v, some (nm "l", .str t :: rest)⟩)) else none).bind fun p => match p.1 with
    | .next =>execs (exC K6 V4 19) (aBody.drop 3) p.2
    | o =>some (o, p.2) :=by kernel_rfl
theorem alias_unf4 (x v : Str) (ω : List PyData) : execs (exC K6 V4 19) (aBody.drop 3) ⟨ρ6 x v, some (nm "l", ω)⟩ = (if decide (x.cps.toList < (nm "6").cps.toList) = true then some (Out.next, (⟨[(nm "system", .str (nm "Solaris")), (nm "release", .str x), (nm "version", .str v)], some (nm "l", ω)⟩ : St)) else
    some (Out.next, (⟨[(nm "system", .str (nm "Solaris")), (nm "release", .str x), (nm "version", .str v)], some (nm "l", ω)⟩ : St))).bind fun p => match p.1 with
    | .next =>some (.next, p.2)
    | o =>some (o, p.2) :=by kernel_rfl
theorem alias_unf5 (x v y : Str) (a b : PyData) : execs (exC K6 V4 19) (aBody.drop 3) ⟨(nm "l", a) :: (nm "major", b) :: ρ6 y v, none⟩ = (if decide (y.cps.toList < (nm "6").cps.toList) = true then some (Out.next, (⟨(nm "l", a) :: (nm "major", b) :: [(nm "system", .str (nm "Solaris")), (nm "release", .str y), (nm "version", .str v)], none⟩ : St)) else
    some (Out.next, (⟨(nm "l", a) :: (nm "major", b) :: [(nm "system", .str (nm "Solaris")), (nm "release", .str y), (nm "version", .str v)], none⟩ : St))).bind fun p => match p.1 with
    | .next =>some (.next, p.2)
    | o =>some (o, p.2) :=by kernel_rfl
theorem alias_end {x v : Str} {o : Out} {σ : St} {d : PyData} {σ' : St} (h : execs (exC K6 V4 19) aBody ⟨ρ6 x v, none⟩ = some (o, σ)) (h2 : (match o with | .next => execs (exC K6 V4 20) ((fnAt 6).body.drop 1) σ | o => some (o, σ)) = some (.ret d, σ')) : specC G0 6 [.str (nm "SunOS"), .str x, .str v] = some d := by
  show (if [PyData.str (nm "SunOS"), .str x, .str v].length = (fnPs 6).length then (match execs (exC K6 V4 20) (fnAt 6).body ⟨ρ6 x v, none⟩ with
    | some (.ret d, _) =>some d
    | _ =>none) else none) = _
  rw [if_pos (by rfl), alias_unf, h, Option.bind_some]
  dsimp only
  cases o with
  | next =>dsimp only at h2 ⊢; rw [h2]
  | brk =>cases h2
  | cont =>cases h2
  | ret d' =>cases h2; rfl
theorem alias_low {x v : Str} (h : x.cps.toList < (nm "5").cps.toList) : specC G0 6 [.str (nm "SunOS"), .str x, .str v] = some (.tuple [.str (nm "SunOS"), .str x, .str v]) := by
  refine alias_end (by rw [alias_unf1, if_pos (decide_eq_true h)]; rfl) rfl
theorem alias_word {x v t : Str} {rest : List Str} (h : ¬ x.cps.toList < (nm "5").cps.toList) (hx : x.length ≤ 100000) (hs : Txt.split x (nm ".") = t :: rest) (hr : rest.length ≤ 1000) (ha : asciiD t = true) (hn : PySem.intText? t = none) :
    specC G0 6 [.str (nm "SunOS"), .str x, .str v] = some (.tuple [.str (nm "Solaris"), .str x, .str v]) := by
  refine alias_end (o := .next) (σ := ⟨[(nm "system", .str (nm "Solaris")), (nm "release", .str x), (nm "version", .str v)], some (nm "l", .str t :: rest.map PyData.str)⟩) ?_ rfl
  rw [alias_unf1, if_neg (by simpa using h), Option.bind_some]
  dsimp only
  rw [alias_unf2, hs, if_pos ⟨hx, by simp only [List.length_cons]; omega, rfl, by rfl⟩, Option.bind_some]
  dsimp only
  show execs (exC K6 V4 19) (aBody.drop 2) ⟨ρ6 x v, some (nm "l", .str t :: rest.map PyData.str)⟩ = _
  rw [alias_unf3, if_pos ⟨rfl, by rw [List.length_map]; omega, ha⟩, hn]
  dsimp only
  rw [Option.bind_some]
  dsimp only
  rw [alias_unf4]
  split <;> rfl
theorem alias_num {x v t : Str} {rest : List Str} {n : Int} (h : ¬ x.cps.toList < (nm "5").cps.toList) (hx : x.length ≤ 100000) (hs : Txt.split x (nm ".") = t :: rest) (hr : rest.length ≤ 1000) (ha : asciiD t = true) (hn : PySem.intText? t = some n) (hlog : (n - 3).natAbs.log2 < 1920)
    (hj : methJoin (nm ".") (.str (Str.ofString (toString (n - 3))) :: rest.map PyData.str) = some (.str (Str.join (nm ".") (Str.ofString (toString (n - 3)) :: rest)))) :
    specC G0 6 [.str (nm "SunOS"), .str x, .str v] = some (.tuple [.str (nm "Solaris"), .str (Str.join (nm ".") (Str.ofString (toString (n - 3)) :: rest)), .str v]) := by
  refine alias_end (o := .next) (σ := ⟨(nm "l", .list (.str (Str.ofString (toString (n - 3))) :: rest.map PyData.str)) :: (nm "major", .int (n - 3)) :: [(nm "system", .str (nm "Solaris")), (nm "release", .str (Str.join (nm ".") (Str.ofString (toString (n - 3)) :: rest))), (nm "version", .str v)], none⟩) ?_ rfl
  rw [alias_unf1, if_neg (by simpa using h), Option.bind_some]
  dsimp only
  rw [alias_unf2, hs, if_pos ⟨hx, by simp only [List.length_cons]; omega, rfl, by rfl⟩, Option.bind_some]
  dsimp only
  show execs (exC K6 V4 19) (aBody.drop 2) ⟨ρ6 x v, some (nm "l", .str t :: rest.map PyData.str)⟩ = _
  rw [alias_unf3, if_pos ⟨rfl, by rw [List.length_map]; omega, ha⟩, hn]
  dsimp only
  rw [if_pos hlog, hj, Option.bind_some, Option.bind_some]
  dsimp only
  show execs (exC K6 V4 19) (aBody.drop 3) ⟨(nm "l", _) :: (nm "major", _) :: ρ6 (Str.join (nm ".") (Str.ofString (toString (n - 3)) :: rest)) v, none⟩ = _
  rw [alias_unf5 x]
  split <;> rfl
end Mine
end
section
namespace Mine
open PySem PySem.Spec PyProof.Rows PySem.W PySem.Builtin PySem.Builtin.Str
theorem replace_parts (x y z : Str) (hy : y.length ≠ 0) : ∃ p ps, Str.join y (p :: ps) = x ∧ Txt.replace x y z = Str.join z (p :: ps) :=by
  have h10 : (y.length == 0) = false := beq_eq_false_iff_ne.mpr hy
  unfold Txt.replace
  rw [h10, Bool.false_and, Bool.or_false]
  cases he : (occurrences x y 0 x.length (x.length + 1)).isEmpty
  · rw [if_neg Bool.false_ne_true, StrLaws.glued_eq_join, StrLaws.partsBetween_eq]
    refine X11 (λf h =>?_) (StrLaws.occ_chain x y (x.length + 1))
    have e := StrLaws.join_partsFrom x y _ 0 f h
    rw [StrLaws.sub_whole] at e
    refine X21 (λp r q =>?_) (StrLaws.partsFrom_ne x y.length 0 (occurrences x y 0 x.length (x.length + 1)))
    rw [q] at e ⊢
    exact ⟨p, r, e, rfl⟩
  · rw [if_pos rfl]
    exact ⟨x, [], rfl, rfl⟩
theorem mem_join_sep {y : Str} {c : Nat} (hc : c ∈ y.cps.toList) (p q : Str) (r : List Str) : c ∈ (Str.join y (p :: q :: r)).cps.toList :=by
  rw [join_cons, toList_app, toList_app]
  simp [hc]
theorem replace_free {x y : Str} (z : Str) {c : Nat} (hc : c ∈ y.cps.toList) (hx : c ∉ x.cps.toList) : Txt.replace x y z = x :=by
  have hy : y.length ≠ 0 :=by
    intro h
    have : y.cps.toList = [] := List.length_eq_zero_iff.mp (by rw [Array.length_toList]; exact h)
    rw [this] at hc; cases hc
  refine X22 (λp ps h1 h2 =>?_) (replace_parts x y z hy)
  cases ps with
  | nil =>rw [h2, ← h1]; rfl
  | cons q r =>exact absurd (h1 ▸ mem_join_sep hc p q r) hx
theorem compW_join2 {c d : Nat} (hc : isSep c = true) (hd : isSep d = true) : ∀ ts : List Str, compW (Str.join ⟨#[c, d]⟩ ts).cps.toList = ts.flatMap fun t => compW t.cps.toList
  | [] =>compW_nil
  | [x] =>by rw [List.flatMap_cons, List.flatMap_nil, List.append_nil]; rfl
  | x :: y :: r =>by
    have e : (x ++ (⟨#[c, d]⟩ : Str) ++ Str.join ⟨#[c, d]⟩ (y :: r)).cps.toList = x.cps.toList ++ c :: ([] ++ d :: (Str.join ⟨#[c, d]⟩ (y :: r)).cps.toList) :=by
      rw [toList_app, toList_app, List.append_assoc]; rfl
    rw [join_cons, e, compW_sep hc, compW_sep hd, compW_join2 hc hd (y :: r), compW_nil]; rfl
theorem mem_join {y : Str} {c : Nat} : ∀ {ts : List Str}, c ∈ (Str.join y ts).cps.toList → c ∈ y.cps.toList ∨ ∃ t ∈ ts, c ∈ t.cps.toList
  | [], h =>by
    have h : c ∈ (#[] : Array Nat).toList := h
    cases h
  | [x], h =>.inr ⟨x, List.mem_singleton.mpr rfl, h⟩
  | x :: q :: r, h =>by
    rw [join_cons, toList_app, toList_app, List.mem_append, List.mem_append] at h
    rcases h with (h | h) | h
    · exact .inr ⟨x, List.mem_cons_self, h⟩
    · exact .inl h
    · rcases mem_join h with h | ⟨t, ht, h⟩
      · exact .inl h
      · exact .inr ⟨t, List.mem_cons_of_mem _ ht, h⟩
theorem mem_join_of {y : Str} {c : Nat} : ∀ {ts : List Str} {t : Str}, t ∈ ts → c ∈ t.cps.toList → c ∈ (Str.join y ts).cps.toList
  | [x], t, h, hc =>by rw [List.mem_singleton.mp h] at hc; exact hc
  | x :: q :: r, t, h, hc =>by
    rw [join_cons, toList_app, toList_app, List.mem_append, List.mem_append]
    rcases List.mem_cons.mp h with rfl | h
    · exact .inl (.inl hc)
    · exact .inr (mem_join_of h hc)
theorem join_len {y : Str} : ∀ (p : Str) (ts : List Str), (Str.join y (p :: ts)).length = ((p :: ts).map (·.length)).sum + ts.length * y.length
  | p, [] =>by simp [Str.join]
  | p, q :: r =>by
    rw [join_cons, Str.length_append, Str.length_append, join_len q r]
    simp only [List.map_cons, List.sum_cons, List.length_cons, Nat.succ_mul]; omega
theorem dash_step (x : Str) : compW (Txt.replace x (nm "--") (nm "-")).cps.toList = compW x.cps.toList ∧ (∀ c ∈ (Txt.replace x (nm "--") (nm "-")).cps.toList, c ∈ x.cps.toList) ∧
    (Txt.replace x (nm "--") (nm "-") = x ∨ (Txt.replace x (nm "--") (nm "-")).length < x.length) := by
  have e2 : nm "--" = ⟨#[45, 45]⟩ := by decide
  have e1 : nm "-" = ⟨#[45]⟩ := by decide
  rw [e1, e2]
  refine X22 (λp ps h1 h2 =>?_) (replace_parts x ⟨#[45, 45]⟩ ⟨#[45]⟩ (by decide))
  rw [h2]
  refine ⟨?_, λc hc =>?_, ?_⟩
  · rw [← h1, compW_join (by decide), compW_join2 (by decide) (by decide)]
  · cases ps with
    | nil =>rw [← h1]; exact hc
    | cons q r =>
      rcases mem_join hc with h | ⟨t, ht, h⟩
      · rw [← h1]
        exact mem_join_sep (by simpa using h) p q r
      · rw [← h1]; exact mem_join_of ht h
  · cases ps with
    | nil =>exact .inl h1
    | cons q r =>
      refine .inr ?_
      rw [← h1, join_len, join_len]
      show _ + (q :: r).length * 1 < _ + (q :: r).length * 2
      simp only [List.length_cons]; omega
end Mine
end
section
namespace Mine
open PySem PySem.Spec PyProof.Rows PySem.W PySem.Builtin PySem.Builtin.Str
noncomputable def E7 (n : Nat) : Stmt → St → Option (Out × St) := exN (ctxA G0 7) V4 n
noncomputable def b7 : List Stmt := (fnAt 7).body
noncomputable def Γ7 : Sc := (ctxA G0 7).Γ
noncomputable def ρ7 (x : Str) (A : PyData) : Loc := [(nm "platform", .str x), (nm "args", A)]
noncomputable def repS (x a b : Str) (A : PyData) : Option (Out × St) := (if x.length ≤ 100000 then some (PyData.str (Txt.replace x a b)) else none).bind fun d => some (.next, ⟨[(nm "platform", d), (nm "args", A)], none⟩)
theorem rep_of {x a b : Str} {A : PyData} {k : St → Option (Out × St)} (h : x.length ≤ 100000) : thenS (repS x a b A) k = k ⟨ρ7 (Txt.replace x a b) A, none⟩ :=by
  unfold repS
  rw [if_pos h]; rfl
section
variable (x : Str) (A : PyData) (h : x.length ≤ 100000)
include h
theorem rep1 : execs (E7 20) (b7.drop 1) ⟨ρ7 x A, none⟩ = execs (E7 20) (b7.drop 2) ⟨ρ7 (Txt.replace x (nm " ") (nm "_")) A, none⟩ := by
  rw [show execs (E7 20) (b7.drop 1) ⟨ρ7 x A, none⟩ = thenS (repS x (nm " ") (nm "_") A) (execs (E7 20) (b7.drop 2)) from (by kernel_rfl), rep_of h]
theorem rep2 : execs (E7 20) (b7.drop 2) ⟨ρ7 x A, none⟩ = execs (E7 20) (b7.drop 3) ⟨ρ7 (Txt.replace x (nm "/") (nm "-")) A, none⟩ := by
  rw [show execs (E7 20) (b7.drop 2) ⟨ρ7 x A, none⟩ = thenS (repS x (nm "/") (nm "-") A) (execs (E7 20) (b7.drop 3)) from (by kernel_rfl), rep_of h]
theorem rep3 : execs (E7 20) (b7.drop 3) ⟨ρ7 x A, none⟩ = execs (E7 20) (b7.drop 4) ⟨ρ7 (Txt.replace x (nm "\\") (nm "-")) A, none⟩ := by
  rw [show execs (E7 20) (b7.drop 3) ⟨ρ7 x A, none⟩ = thenS (repS x (nm "\\") (nm "-") A) (execs (E7 20) (b7.drop 4)) from (by kernel_rfl), rep_of h]
theorem rep4 : execs (E7 20) (b7.drop 4) ⟨ρ7 x A, none⟩ = execs (E7 20) (b7.drop 5) ⟨ρ7 (Txt.replace x (nm ":") (nm "-")) A, none⟩ := by
  rw [show execs (E7 20) (b7.drop 4) ⟨ρ7 x A, none⟩ = thenS (repS x (nm ":") (nm "-") A) (execs (E7 20) (b7.drop 5)) from (by kernel_rfl), rep_of h]
theorem rep5 : execs (E7 20) (b7.drop 5) ⟨ρ7 x A, none⟩ = execs (E7 20) (b7.drop 6) ⟨ρ7 (Txt.replace x (nm ";") (nm "-")) A, none⟩ := by
  rw [show execs (E7 20) (b7.drop 5) ⟨ρ7 x A, none⟩ = thenS (repS x (nm ";") (nm "-") A) (execs (E7 20) (b7.drop 6)) from (by kernel_rfl), rep_of h]
theorem rep6 : execs (E7 20) (b7.drop 6) ⟨ρ7 x A, none⟩ = execs (E7 20) (b7.drop 7) ⟨ρ7 (Txt.replace x (nm "\"") (nm "-")) A, none⟩ := by
  rw [show execs (E7 20) (b7.drop 6) ⟨ρ7 x A, none⟩ = thenS (repS x (nm "\"") (nm "-") A) (execs (E7 20) (b7.drop 7)) from (by kernel_rfl), rep_of h]
theorem rep7 : execs (E7 20) (b7.drop 7) ⟨ρ7 x A, none⟩ = execs (E7 20) (b7.drop 8) ⟨ρ7 (Txt.replace x (nm "(") (nm "-")) A, none⟩ := by
  rw [show execs (E7 20) (b7.drop 7) ⟨ρ7 x A, none⟩ = thenS (repS x (nm "(") (nm "-") A) (execs (E7 20) (b7.drop 8)) from (by kernel_rfl), rep_of h]
theorem rep8 : execs (E7 20) (b7.drop 8) ⟨ρ7 x A, none⟩ = execs (E7 20) (b7.drop 9) ⟨ρ7 (Txt.replace x (nm ")") (nm "-")) A, none⟩ := by
  rw [show execs (E7 20) (b7.drop 8) ⟨ρ7 x A, none⟩ = thenS (repS x (nm ")") (nm "-") A) (execs (E7 20) (b7.drop 9)) from (by kernel_rfl), rep_of h]
theorem rep9 : execs (E7 20) (b7.drop 9) ⟨ρ7 x A, none⟩ = execs (E7 20) (b7.drop 10) ⟨ρ7 (Txt.replace x (nm "unknown") (nm "")) A, none⟩ := by
  rw [show execs (E7 20) (b7.drop 9) ⟨ρ7 x A, none⟩ = thenS (repS x (nm "unknown") (nm "") A) (execs (E7 20) (b7.drop 10)) from (by kernel_rfl), rep_of h]
end
noncomputable def w1T : Expr := sTest (at' b7 10)
noncomputable def w1B : List Stmt := sBody (at' b7 10)
noncomputable def w2T : Expr := sTest (at' b7 11)
noncomputable def w2B : List Stmt := sBody (at' b7 11)
noncomputable def n7 : List Str := [nm "platform", nm "args"]
noncomputable def W1 : Nat → St → Option (Out × St) := whileD (λσ =>V4.ts Γ7 w1T σ.ρ) (execs (E7 19) w1B) n7
noncomputable def W2 : Nat → St → Option (Out × St) := whileD (λσ =>V4.ts Γ7 w2T σ.ρ) (execs (E7 19) w2B) n7
theorem w1_unf (x : Str) (A : PyData) : execs (E7 20) (b7.drop 10) ⟨ρ7 x A, none⟩ = (W1 1000 ⟨ρ7 x A, none⟩).bind fun p => match p.1 with
    | .next =>execs (E7 20) (b7.drop 11) p.2
    | o =>some (o, p.2) := rfl
theorem w2_unf (x : Str) (A : PyData) : execs (E7 20) (b7.drop 11) ⟨ρ7 x A, none⟩ = (W2 1000 ⟨ρ7 x A, none⟩).bind fun p => match p.1 with
    | .next =>execs (E7 20) (b7.drop 12) p.2
    | o =>some (o, p.2) := rfl
theorem w3_unf (x : Str) (A : PyData) : execs (E7 20) (b7.drop 12) ⟨ρ7 x A, none⟩ = some (.ret (.str x), ⟨ρ7 x A, none⟩) := rfl
noncomputable def low (x : Str) : Prop := ∀ c ∈ x.cps.toList, c < 128
theorem low_ok {x : Str} (h : low x) : PyData.canLay0 (.str x) = true :=by
  have e : PyData.canLay0 (.str x) = x.cps.all (λc =>decide (c < 0x110000)) :=by rw [PyData.canLay0]; rfl
  rw [e, Array.all_eq_true_iff_forall_mem]
  intro c hc
  have := h c (Array.mem_toList_iff.mpr hc)
  exact decide_eq_true (by omega)
theorem eq_str {a b : Str} (ha : low a) (hb : low b) : cmpD .Eq (.str a) (.str b) = some (a == b) :=by
  have : okD (.str a) (.str b) = true :=by
    unfold okD
    rw [low_ok ha, low_ok hb]; rfl
  show (if okD (.str a) (.str b) = true then some (PyData.eqv (.str a) (.str b)) else none) = _
  rw [if_pos this, PyData.eqv]
theorem w1_body (x : Str) (A : PyData) (h : x.length ≤ 100000) (hx : low x) (hr : low (Txt.replace x (nm "--") (nm "-"))) : execs (E7 19) w1B ⟨ρ7 x A, none⟩ =
    if (Txt.replace x (nm "--") (nm "-") == x) = true then some (.brk, ⟨(nm "cleaned", .str (Txt.replace x (nm "--") (nm "-"))) :: ρ7 x A, none⟩)
    else some (.next, ⟨(nm "cleaned", .str (Txt.replace x (nm "--") (nm "-"))) :: ρ7 (Txt.replace x (nm "--") (nm "-")) A, none⟩) := by
  show Option.bind (Option.bind (if x.length ≤ 100000 then _ else none) _) _ = _
  rw [if_pos h]
  show Option.bind (Option.bind (cmpD .Eq (.str (Txt.replace x (nm "--") (nm "-"))) (.str x)) _) _ = _
  rw [eq_str hr hx]
  show Option.bind (if (Txt.replace x (nm "--") (nm "-") == x) = true then _ else _) _ = _
  by_cases q : (Txt.replace x (nm "--") (nm "-") == x) = true
  · rw [if_pos q, if_pos q]; rfl
  · rw [if_neg q, if_neg q]; rfl
theorem w2_test0 (x : Str) (A : PyData) (h : x.length = 0) : V4.ts Γ7 w2T (ρ7 x A) = some false :=by
  show Option.bind (if x.length ≤ 100000 then some (x.length != 0) else none) _ = _
  rw [if_pos (by omega), h]; rfl
theorem idx_last {x : Str} {l : List Nat} {c : Nat} (hx : x.cps.toList = l ++ [c]) (h : x.length ≤ 100000) : idxStr x (-1) = some (.str ⟨#[c]⟩) :=by
  have hs : x.cps.size = l.length + 1 :=by rw [← Array.length_toList, hx]; simp
  unfold idxStr
  rw [if_neg (by omega), if_pos ⟨rfl, h⟩, hs, ← Array.getElem?_toList, hx]
  simp
theorem w2_test1 {x : Str} (A : PyData) {l : List Nat} {c : Nat} (hx : x.cps.toList = l ++ [c]) (h : x.length ≤ 100000) (hlow : low x) : V4.ts Γ7 w2T (ρ7 x A) = some ((⟨#[c]⟩ : Str) == nm "-") := by
  have hs : x.length = l.length + 1 :=by show x.cps.size = _; rw [← Array.length_toList, hx]; simp
  have hne : (x.length != 0) = true :=by rw [hs]; rfl
  show Option.bind (if x.length ≤ 100000 then some (x.length != 0) else none) _ = _
  rw [if_pos h, hne]
  show Option.bind (Option.bind (idxStr x (-1)) _) _ = _
  rw [idx_last hx h]
  show Option.bind (cmpD .Eq (.str ⟨#[c]⟩) (.str (nm "-"))) _ = _
  rw [eq_str (λd hd =>hlow d (by rw [hx]; exact List.mem_append_right _ (by simpa using hd))) (by unfold low; decide), Option.bind_some]
  cases ((⟨#[c]⟩ : Str) == nm "-") <;> rfl
theorem w2_body {x : Str} (A : PyData) {l : List Nat} {c : Nat} (hx : x.cps.toList = l ++ [c]) (h : x.length ≤ 100000) : execs (E7 19) w2B ⟨ρ7 x A, none⟩ = some (.next, ⟨ρ7 ⟨l.toArray⟩ A, none⟩) :=by
  have hs : x.length = l.length + 1 :=by show x.cps.size = _; rw [← Array.length_toList, hx]; simp
  have e : sliceD (.str x) none (some (.int (-1))) = some (.str ⟨l.toArray⟩) :=by
    show takeS x (-1) = _
    unfold takeS
    rw [if_neg (by omega), if_pos ⟨rfl, by omega, h⟩, hx, hs]
    simp
  show Option.bind (Option.bind (sliceD (.str x) none (some (.int (-1)))) _) _ = _
  rw [e]; rfl
theorem w1_run (A : PyData) : ∀ (n : Nat) (x : Str), x.length < n → x.length ≤ 100000 → low x → ∃ y : Str, W1 n ⟨ρ7 x A, none⟩ = some (.next, ⟨ρ7 y A, none⟩) ∧ compW y.cps.toList = compW x.cps.toList ∧ (∀ c ∈ y.cps.toList, c ∈ x.cps.toList) ∧ y.length ≤ x.length
  | 0, x, h, _, _ =>absurd h (Nat.not_lt_zero _)
  | n + 1, x, h, hl, hlow =>by
    have e : W1 (n + 1) ⟨ρ7 x A, none⟩ = (execs (E7 19) w1B ⟨ρ7 x A, none⟩).bind fun p => match p.1 with
      | .next =>W1 n (p.2.cut n7)
      | .cont =>W1 n (p.2.cut n7)
      | .brk =>some (.next, p.2.cut n7)
      | .ret d =>some (.ret d, p.2) := rfl
    refine X03 (λd1 d2 d3 =>?_) (dash_step x)
    rw [e, w1_body x A hl hlow λc hc =>hlow c (d2 c hc)]
    by_cases q : (Txt.replace x (nm "--") (nm "-") == x) = true
    · rw [if_pos q]
      exact ⟨x, rfl, rfl, λ_ h =>h, Nat.le_refl _⟩
    · rw [if_neg q]
      have hlt : (Txt.replace x (nm "--") (nm "-")).length < x.length := by
        rcases d3 with d | d
        · rw [d] at q; simp at q
        · exact d
      refine X14 (fun y y1 y2 y3 y4 => ?_) (w1_run A n (Txt.replace x (nm "--") (nm "-")) (by omega) (by omega) (fun c hc => hlow c (d2 c hc)))
      exact ⟨y, y1, y2.trans d1, λc hc =>d2 c (y3 c hc), by omega⟩
theorem nm_dash : nm "-" = ⟨#[45]⟩ := by decide
theorem w2_run (A : PyData) : ∀ (n : Nat) (x : Str), x.length < n → x.length ≤ 100000 → low x → ∃ y : Str, W2 n ⟨ρ7 x A, none⟩ = some (.next, ⟨ρ7 y A, none⟩) ∧ compW y.cps.toList = compW x.cps.toList ∧ (∀ c ∈ y.cps.toList, c ∈ x.cps.toList) ∧ y.length ≤ x.length
  | 0, x, h, _, _ =>absurd h (Nat.not_lt_zero _)
  | n + 1, x, h, hl, hlow =>by
    have e : W2 (n + 1) ⟨ρ7 x A, none⟩ = (V4.ts Γ7 w2T (ρ7 x A)).bind fun c => if c then (execs (E7 19) w2B ⟨ρ7 x A, none⟩).bind fun p => match p.1 with
      | .next =>W2 n (p.2.cut n7)
      | .cont =>W2 n (p.2.cut n7)
      | .brk =>some (.next, p.2.cut n7)
      | .ret d =>some (.ret d, p.2) else some (.next, ⟨ρ7 x A, none⟩) := rfl
    rw [e]
    rcases List.eq_nil_or_concat x.cps.toList with hx | ⟨l, c, hx⟩
    · have h0 : x.length = 0 := by show x.cps.size = 0; rw [← Array.length_toList, hx]; rfl
      rw [w2_test0 x A h0]
      exact ⟨x, rfl, rfl, λ_ h =>h, Nat.le_refl _⟩
    · rw [List.concat_eq_append] at hx
      have hs : x.length = l.length + 1 :=by show x.cps.size = _; rw [← Array.length_toList, hx]; simp
      rw [w2_test1 A hx hl hlow, Option.bind_some]
      by_cases q : ((⟨#[c]⟩ : Str) == nm "-") = true
      · rw [if_pos q, w2_body A hx hl, Option.bind_some]
        refine X14 (λy y1 y2 y3 y4 =>?_) (w2_run A n ⟨l.toArray⟩ (by show l.toArray.size < n; rw [List.size_toArray]; omega) (by show l.toArray.size ≤ _; rw [List.size_toArray]; omega) (λd hd =>hlow d (by rw [hx]; exact List.mem_append_left _ (by simpa using hd))))
        have hc : c = 45 :=by
          rw [nm_dash] at q
          have := eq_of_beq q
          simpa using this
        refine ⟨y, y1, y2.trans ?_, λd hd =>?_, Nat.le_trans y4 (by show l.toArray.size ≤ _; rw [List.size_toArray]; omega)⟩
        · rw [hx, hc, compW_sep (by decide), compW_nil, List.append_nil]
        · rw [hx]
          exact List.mem_append_left _ (by simpa using y3 d hd)
      · rw [if_neg q]
        exact ⟨x, rfl, rfl, λ_ h =>h, Nat.le_refl _⟩
noncomputable def platSafe (c : Nat) : Bool := c < 128 && !([32, 47, 92, 58, 59, 34, 40, 41, 107] : List Nat).contains c
theorem platRest_at {xs : List Str} (hl : (platJ xs).length ≤ 640) (hs : ∀ c ∈ (platJ xs).cps.toList, platSafe c = true) :
    ∃ y : Str, platRest xs = some (.str y) ∧ compW y.cps.toList = compW (platJ xs).cps.toList ∧ Asc y 640 :=by
  have ns : ∀ c, platSafe c = false → c ∉ (platJ xs).cps.toList := λc h hm =>by rw [hs c hm] at h; exact tnf h
  have hlow : low (platJ xs) := λc hc =>by
    have := hs c hc
    unfold platSafe at this
    rw [Bool.and_eq_true] at this
    exact of_decide_eq_true this.1
  refine X14 (λy1 a1 a2 a3 a4 =>?_) (w1_run (.tuple (xs.map PyData.str)) 1000 (platJ xs) (by omega) (by omega) hlow)
  refine X14 (λy2 b1 b2 b3 b4 =>?_) (w2_run (.tuple (xs.map PyData.str)) 1000 y1 (by omega) (by omega) (λc hc =>hlow c (a3 c hc)))
  refine ⟨y2, ?_, b2.trans a2, ?_, by omega⟩
  · have h : (platJ xs).length ≤ 100000 := by omega
    have e : execs (E7 20) (b7.drop 1) ⟨ρ7 (platJ xs) (.tuple (xs.map PyData.str)), none⟩ = some (.ret (.str y2), ⟨ρ7 y2 (.tuple (xs.map PyData.str)), none⟩) :=by
      rw [rep1 _ _ h, replace_free _ (c := 32) (by decide) (ns _ (by decide)), rep2 _ _ h, replace_free _ (c := 47) (by decide) (ns _ (by decide)),
        rep3 _ _ h, replace_free _ (c := 92) (by decide) (ns _ (by decide)), rep4 _ _ h, replace_free _ (c := 58) (by decide) (ns _ (by decide)),
        rep5 _ _ h, replace_free _ (c := 59) (by decide) (ns _ (by decide)), rep6 _ _ h, replace_free _ (c := 34) (by decide) (ns _ (by decide)),
        rep7 _ _ h, replace_free _ (c := 40) (by decide) (ns _ (by decide)), rep8 _ _ h, replace_free _ (c := 41) (by decide) (ns _ (by decide)),
        rep9 _ _ h, replace_free _ (c := 107) (by decide) (ns _ (by decide)), w1_unf, a1, Option.bind_some]
      dsimp only
      rw [w2_unf, b1, Option.bind_some]
      dsimp only
      rw [w3_unf]
    unfold platRest
    show (match execs (E7 20) (b7.drop 1) ⟨ρ7 (platJ xs) (.tuple (xs.map PyData.str)), none⟩ with
      | some (.ret d, _) =>some d
      | _ =>none) = _
    rw [e]
  · exact λc hc =>hlow c (a3 c (b3 c hc))
end Mine
end
section
namespace Mine
open PySem PySem.Spec PyProof.Rows PySem.W PySem.Builtin PySem.Builtin.Str
theorem strip_empty {t : Str} (h : ne0 t = false) : compW (Txt.strip t).cps.toList = [] :=by
  have : t = ⟨#[]⟩ :=by
    unfold ne0 at h
    have h : t.cps.size = 0 :=by simpa [Str.length] using h
    exact Str.ext' (Array.size_eq_zero_iff.mp h)
  subst this
  kernel_rfl
theorem compW_strips : ∀ xs : List Str, ((xs.filter ne0).map Txt.strip).flatMap (fun t => compW t.cps.toList) = xs.flatMap fun t => compW (Txt.strip t).cps.toList
  | [] =>rfl
  | t :: xs =>by
    rw [List.flatMap_cons, List.filter_cons]
    cases h : ne0 t with
    | true =>rw [if_pos rfl, List.map_cons, List.flatMap_cons, compW_strips xs]
    | false =>rw [if_neg Bool.false_ne_true, compW_strips xs, strip_empty h, List.nil_append]
structure PlatOk (t : Str) : Prop where
  len : t.length ≤ 20
  slen : (Txt.strip t).length ≤ 20
  safe : ∀ c ∈ (Txt.strip t).cps.toList, platSafe c = true
theorem plat_at {xs : List Str} (hn : xs.length ≤ 4) (h : ∀ t ∈ xs, PlatOk t) : ∃ y : Str, specP (xs.map PyData.str) = some (.str y) ∧ compW y.cps.toList = (xs.flatMap λt =>compW (Txt.strip t).cps.toList) ∧ Asc y 640 :=by
  have hj : platJ xs = Str.join (nm "-") ((xs.filter ne0).map Txt.strip) := StrLaws.glued_eq_join _ _
  have hlen : ((xs.filter ne0).map Txt.strip).length ≤ 4 :=by rw [List.length_map]; exact Nat.le_trans (List.length_filter_le ..) hn
  have hmem : ∀ s ∈ (xs.filter ne0).map Txt.strip, ∃ t ∈ xs, s = Txt.strip t := λs hs =>by
    obtain ⟨t, ht, rfl⟩ := List.mem_map.mp hs
    exact ⟨t, (List.mem_filter.mp ht).1, rfl⟩
  have hB : ∀ s ∈ (xs.filter ne0).map Txt.strip, s.length ≤ 20 := λs hs =>by
    obtain ⟨t, ht, rfl⟩ := hmem s hs; exact (h t ht).slen
  have hd : (nm "-").length = 1 := by decide
  have hsum := StrLaws.sumLen_le _ hB
  have hmul : ((xs.filter ne0).map Txt.strip).length * 20 ≤ 4 * 20 := Nat.mul_le_mul_right _ hlen
  have hl : (platJ xs).length ≤ 640 :=by
    rw [hj]
    have h3 := PySem.StrLaws.join_length_le (nm "-") ((xs.filter ne0).map Txt.strip)
    rw [hd] at h3
    omega
  have hs : ∀ c ∈ (platJ xs).cps.toList, platSafe c = true :=by
    rw [hj]
    intro c hc
    rcases mem_join hc with h' | ⟨s, hs, h'⟩
    · rw [nm_dash] at h'
      have : c = 45 :=by simpa using h'
      subst this; decide
    · obtain ⟨t, ht, rfl⟩ := hmem s hs
      exact (h t ht).safe c h'
  refine X13 (λy y1 y2 y3 =>?_) (platRest_at hl hs)
  refine ⟨y, ?_, y2.trans ?_, y3⟩
  · have hJ : JoinOk (Str.ofString "-") ((xs.filter ne0).map Txt.strip) = true := by
      unfold JoinOk
      rw [StrLaws.joinTotal]
      unfold tooLong sizeLine
      simp only [Bool.not_eq_true', decide_eq_false_iff_not]
      have : (Str.ofString "-").length = 1 := hd
      rw [this]
      omega
    have hA : xs.all (λx =>decide (x.length ≤ 1000)) = true := List.all_eq_true.mpr λt ht =>decide_eq_true (Nat.le_trans (h t ht).len (by decide))
    unfold specP
    rw [strsD_of, Option.bind_some, if_pos ⟨by omega, hA, hJ⟩, y1]
  · rw [hj, nm_dash, compW_join (by decide), compW_strips]
end Mine
end
section
namespace Mine
open PySem PySem.Spec PyProof.Rows PySem.W
theorem and_shift (k : Nat) (y : Int) : ∀ x : Int, Builtin.bitAnd x (2 ^ k * y) = 2 ^ k * Builtin.bitAnd (x / 2 ^ k) y :=by
  induction k with
  | zero =>intro x; simp
  | succ k ih =>
    intro x
    rw [kbt_halves]
    have e1 : (2 : Int) ^ (k + 1) * y = 2 * (2 ^ k * y) :=by rw [Int.pow_succ, Int.mul_comm (2 ^ k) 2, Int.mul_assoc]
    have e2 : (2 : Int) ^ (k + 1) * y / 2 = 2 ^ k * y :=by rw [e1]; omega
    have e3 : ¬ ((2 : Int) ^ (k + 1) * y % 2 = 1) :=by rw [e1]; omega
    rw [e2, ih, if_neg (λh =>e3 h.2), Int.ediv_ediv_of_nonneg (by decide), Int.add_zero, Int.pow_succ, Int.mul_comm (2 ^ k) 2, Int.mul_assoc]
theorem and_ifmt (m : Int) : Builtin.bitAnd m 61440 = 4096 * (m / 4096 % 16) :=by
  have h := and_shift 12 15 m
  have e : Builtin.bitAnd (m / 2 ^ 12) 15 = m / 4096 % 16 := kbt_mask _ 4
  rw [e] at h
  exact h
theorem and_imode (m : Int) : Builtin.bitAnd m 4095 = m % 4096 := kbt_mask m 12
theorem and_bit (m : Int) (k : Nat) {b : Int} (hb : (2 : Int) ^ k = b) : Builtin.bitAnd m b = (m / b % 2) * b :=by
  subst hb; exact kbt_bit m k
theorem and_odd (k : Nat) (x : Int) : Builtin.bitAnd x (2 ^ (k + 1) + 1) = 2 ^ (k + 1) * (x / 2 ^ (k + 1) % 2) + x % 2 :=by
  have e1 : (2 : Int) ^ (k + 1) = 2 * 2 ^ k :=by rw [Int.pow_succ, Int.mul_comm]
  rw [kbt_halves]
  have e2 : ((2 : Int) ^ (k + 1) + 1) / 2 = 2 ^ k :=by rw [e1]; omega
  have e3 : ((2 : Int) ^ (k + 1) + 1) % 2 = 1 :=by rw [e1]; omega
  rw [e2, kbt_bit, Int.ediv_ediv_of_nonneg (by decide), ← e1, e1]
  have h : x % 2 = 0 ∨ x % 2 = 1 :=by omega
  have e4 : 2 * (x / (2 * 2 ^ k) % 2 * 2 ^ k) = 2 * 2 ^ k * (x / (2 * 2 ^ k) % 2) :=by rw [Int.mul_comm _ (2 ^ k), Int.mul_assoc]
  rw [e4]
  rcases h with h | h
  · rw [if_neg (by omega), h]
  · rw [if_pos ⟨h, by rw [← e1]; exact e3⟩, h]
theorem and_two (m : Int) (j k : Nat) {b c : Int} (hc : (2 : Int) ^ j = c) (hb : (2 : Int) ^ j * (2 ^ (k + 1) + 1) = b) : Builtin.bitAnd m b = c * (2 ^ (k + 1) * (m / c / 2 ^ (k + 1) % 2) + m / c % 2) :=by
  subst hb; subst hc
  rw [and_shift, and_odd]
theorem and_2112 (m : Int) : Builtin.bitAnd m 2112 = 64 * (32 * (m / 64 / 32 % 2) + m / 64 % 2) := and_two m 6 4 rfl rfl
theorem and_1032 (m : Int) : Builtin.bitAnd m 1032 = 8 * (128 * (m / 8 / 128 % 2) + m / 8 % 2) := and_two m 3 6 rfl rfl
theorem and_513 (m : Int) : Builtin.bitAnd m 513 = 512 * (m / 512 % 2) + m % 2 :=by
  have := and_two m 0 8 (c := 1) (b := 513) rfl rfl
  simpa using this
end Mine
end
section
namespace Mine
open PySem PySem.Spec PyProof.Rows PySem.W
theorem flags_run (m : Int) : specA G2 48 [.int m] = some (.list [.bool (Builtin.bitAnd m 61440 == 32768), .bool (Builtin.bitAnd m 61440 == 16384), .bool (Builtin.bitAnd m 61440 == 40960), .bool (Builtin.bitAnd m 61440 == 8192), .bool (Builtin.bitAnd m 61440 == 24576), .bool (Builtin.bitAnd m 61440 == 4096), .bool (Builtin.bitAnd m 61440 == 49152)]) :=by kernel_rfl
theorem ltC {P : Nat → Prop} {n : Nat} (h : ∀ k < n, P k) (hn : P n) (k : Nat) (hk : k < n + 1) : P k := (Nat.lt_succ_iff_lt_or_eq.mp hk).elim (h k) λe =>e.symm ▸ hn
theorem lt0 {P : Nat → Prop} (k : Nat) (h : k < 0) : P k := absurd h (Nat.not_lt_zero k)
theorem idx_at {L : List Int} {k : Nat} (h : k < L.length) (hb : k ≤ 100000) : idxList (L.map PyData.int) k = some (.int (L.getD k 0)) :=by
  unfold idxList
  rw [if_pos ⟨Int.natCast_nonneg k, Int.ofNat_le.mpr hb⟩]
  show (L.map PyData.int)[k]? = _
  rw [List.getElem?_map, List.getD_eq_getElem?_getD, List.getElem?_eq_getElem h]
  rfl
theorem fmod_nat (x : Int) {b : Nat} (hb : 0 < b) : ∃ d : Nat, d < b ∧ x.fmod b = d :=by
  rw [Int.fmod_eq_emod_of_nonneg _ (Int.natCast_nonneg b)]
  exact (Int.eq_ofNat_of_zero_le (Int.emod_nonneg x (Int.ofNat_ne_zero.mpr (Nat.ne_of_gt hb)))).elim λd e =>⟨d, Int.ofNat_lt.mp (e ▸ Int.emod_lt_of_pos x (Int.ofNat_lt.mpr hb)), e⟩
noncomputable def kindI (x : Int) : Int := ([8, 4, 10, 2, 6, 1, 12, (x.fdiv 8).fmod 16] : List Int).getD (x.fmod 8).toNat 0
noncomputable def modeI (x : Int) : Int := kindI x * 4096 + (x.fdiv 8).fmod 4096 + 65536 * ((x.fdiv 32768 + 2).fmod 5 - 2)
theorem mode_at (x : Int) : specA G0 40 [.int x] = some (.int (modeI x)) :=by
  have hk : idxList [.int 8, .int 4, .int 10, .int 2, .int 6, .int 1, .int 12, .int ((x.fdiv 8).fmod 16)] (x.fmod 8) = some (.int (kindI x)) :=by
    refine X12 (λk hk e =>?_) (fmod_nat x (b := 8) (by decide))
    have e : x.fmod 8 = k := e
    unfold kindI
    rw [e, Int.toNat_natCast]
    exact idx_at (L := [8, 4, 10, 2, 6, 1, 12, (x.fdiv 8).fmod 16]) hk (Nat.le_trans (Nat.le_of_lt hk) (by decide))
  show retD (Option.bind (Option.bind (idxList [.int 8, .int 4, .int 10, .int 2, .int 6, .int 1, .int 12, .int ((x.fdiv 8).fmod 16)] (x.fmod 8)) _) _) = _
  rw [hk]
  rfl
end Mine
end
section
namespace Mine
open PySem PySem.Spec PyProof.Rows PySem.W
noncomputable def E38 (n : Nat) : Stmt → St → Option (Out × St) := exN (ctxA G1 38) (evN G1 40) n
noncomputable def b38 : List Stmt := (fnAt 38).body
noncomputable def f38B : List Stmt := sBody (at' b38 1)
noncomputable def f38T : Expr := sTgt (at' b38 1)
noncomputable def i38B : List Stmt := sBody (at' f38B 0)
noncomputable def i38O : List Stmt := sElse (at' f38B 0)
noncomputable def i38T : Expr := sTgt (at' f38B 0)
noncomputable def tgt38 : PyData → St → Option St := targetD (ctxA G1 38).Γ f38T
noncomputable def tgtI : PyData → St → Option St := targetD (ctxA G1 38).Γ i38T
noncomputable def ρ38 (m : Int) : Loc := [(nm "mode", .int m)]
noncomputable def σ38 (m : Int) (ps : List PyData) : St := ⟨ρ38 m, some (nm "perm", ps)⟩
noncomputable def σI (m i : Int) (ts ps : List PyData) : St := ⟨(nm "table", .tuple ts) :: (nm "index", .int i) :: ρ38 m, some (nm "perm", ps)⟩
noncomputable def nI : List Str := [nm "table", nm "index", nm "mode"]
noncomputable def loopI (xs : List PyData) (σ : St) : Option (Out × St) := forD tgtI (execs (E38 18) i38B) (execs (E38 18) i38O) nI xs σ
noncomputable def loop38 (xs : List PyData) (σ : St) : Option (Out × St) := forD tgt38 (execs (E38 19) f38B) (fun σ => some (.next, σ)) [nm "mode"] xs σ
theorem in0 {m i b : Int} {c : Str} {ts ps r : List PyData} (hi : (i == 0) = false) (hl : ps.length ≤ 100000) :
    loopI (.tuple [.int b, .str c] :: r) (σI m i ts ps) = if (Builtin.bitAnd m b == b) = true then some (.next, σI m i ts (ps ++ [.str c])) else loopI r (σI m i ts ps) :=by
  show Option.bind (Option.bind (if (i == 0) = true then _ else _) _) _ = _
  rw [hi, if_neg Bool.false_ne_true]
  by_cases h : (Builtin.bitAnd m b == b) = true
  · rw [if_pos h]
    show Option.bind (Option.bind (Option.bind (if (Builtin.bitAnd m b == b) = true then _ else _) _) _) _ = _
    rw [if_pos h]
    show Option.bind (Option.bind (Option.bind (Option.bind (if ps.length ≤ 100000 then _ else none) _) _) _) _ = _
    rw [if_pos hl]; rfl
  · rw [if_neg h]
    show Option.bind (Option.bind (Option.bind (if (Builtin.bitAnd m b == b) = true then _ else _) _) _) _ = _
    rw [if_neg h]; rfl
theorem in1 {m i : Int} {ts ps : List PyData} (hi : (i == 0) = false) (hl : ps.length ≤ 100000) : loopI [] (σI m i ts ps) = some (.next, σI m i ts (ps ++ [.str (nm "-")])) := by
  show Option.bind (if (i == 0) = true then _ else _) _ = _
  rw [hi, if_neg Bool.false_ne_true]
  show Option.bind (Option.bind (if ps.length ≤ 100000 then _ else none) _) _ = _
  rw [if_pos hl]; rfl
theorem in2 {m b : Int} {c : Str} {ts ps r : List PyData} (hl : ps.length ≤ 100000) :
    loopI (.tuple [.int b, .str c] :: r) (σI m 0 ts ps) = if (Builtin.bitAnd m 61440 == b) = true then some (.next, σI m 0 ts (ps ++ [.str c])) else loopI r (σI m 0 ts ps) :=by
  by_cases h : (Builtin.bitAnd m 61440 == b) = true
  · rw [if_pos h]
    show Option.bind (Option.bind (Option.bind (if (Builtin.bitAnd m 61440 == b) = true then _ else _) _) _) _ = _
    rw [if_pos h]
    show Option.bind (Option.bind (Option.bind (Option.bind (if ps.length ≤ 100000 then _ else none) _) _) _) _ = _
    rw [if_pos hl]; rfl
  · rw [if_neg h]
    show Option.bind (Option.bind (Option.bind (if (Builtin.bitAnd m 61440 == b) = true then _ else _) _) _) _ = _
    rw [if_neg h]; rfl
theorem in3 {m : Int} {ts ps : List PyData} (hl : ps.length ≤ 100000) : loopI [] (σI m 0 ts ps) = some (.next, σI m 0 ts (ps ++ [.str (nm "?")])) := by
  show Option.bind (Option.bind (if ps.length ≤ 100000 then _ else none) _) _ = _
  rw [if_pos hl]; rfl
noncomputable def pick (p : Int → Bool) (d : Str) : List (Int × Str) → Str
  | [] =>d
  | (b, c) :: r =>if p b then c else pick p d r
theorem pick_pos {p : Int → Bool} {d c : Str} {b : Int} {r : List (Int × Str)} (h : p b = true) : pick p d ((b, c) :: r) = c := if_pos h
theorem pick_neg {p : Int → Bool} {d c : Str} {b : Int} {r : List (Int × Str)} (h : ¬ p b = true) : pick p d ((b, c) :: r) = pick p d r := if_neg h
noncomputable def tab (ts : List (Int × Str)) : List PyData := ts.map λt =>.tuple [.int t.1, .str t.2]
theorem inRow {m i : Int} (hi : (i == 0) = false) {ts' ps : List PyData} (hl : ps.length ≤ 100000) : ∀ ts : List (Int × Str), loopI (tab ts) (σI m i ts' ps) = some (.next, σI m i ts' (ps ++ [.str (pick (fun b => Builtin.bitAnd m b == b) (nm "-") ts)]))
  | [] =>in1 hi hl
  | (b, c) :: r =>by
    show loopI (.tuple [.int b, .str c] :: tab r) _ = _
    rw [in0 hi hl, inRow hi hl r]
    by_cases h : (Builtin.bitAnd m b == b) = true
    · rw [if_pos h, pick_pos (p := λb =>Builtin.bitAnd m b == b) h]
    · rw [if_neg h, pick_neg (p := λb =>Builtin.bitAnd m b == b) h]
theorem inRow0 {m : Int} {ts' ps : List PyData} (hl : ps.length ≤ 100000) : ∀ ts : List (Int × Str), loopI (tab ts) (σI m 0 ts' ps) = some (.next, σI m 0 ts' (ps ++ [.str (pick (fun b => Builtin.bitAnd m 61440 == b) (nm "?") ts)]))
  | [] =>in3 hl
  | (b, c) :: r =>by
    show loopI (.tuple [.int b, .str c] :: tab r) _ = _
    rw [in2 hl, inRow0 hl r]
    by_cases h : (Builtin.bitAnd m 61440 == b) = true
    · rw [if_pos h, pick_pos (p := λb =>Builtin.bitAnd m 61440 == b) h]
    · rw [if_neg h, pick_neg (p := λb =>Builtin.bitAnd m 61440 == b) h]
theorem turn_unf {m i : Int} {ts ps xs : List PyData} : loop38 (.tuple [.int i, .tuple ts] :: xs) (σ38 m ps) = (((loopI ts (σI m i ts ps)).bind fun p => match p.1 with
    | .next =>some (.next, p.2)
    | o =>some (o, p.2))).bind λp =>match p.1 with
    | .next => loop38 xs (p.2.cut [nm "mode"])
    | .cont => loop38 xs (p.2.cut [nm "mode"])
    | .brk => some (.next, p.2.cut [nm "mode"])
    | .ret d =>some (.ret d, p.2) :=by kernel_rfl
theorem turn_i {m i : Int} {ps xs : List PyData} (ts : List (Int × Str)) (hi : (i == 0) = false) (hl : ps.length ≤ 100000) : loop38 (.tuple [.int i, .tuple (tab ts)] :: xs) (σ38 m ps) = loop38 xs (σ38 m (ps ++ [.str (pick (fun b => Builtin.bitAnd m b == b) (nm "-") ts)])) := by
  rw [turn_unf, inRow hi hl]; rfl
theorem turn_0 {m : Int} {ps xs : List PyData} (ts : List (Int × Str)) (hl : ps.length ≤ 100000) : loop38 (.tuple [.int 0, .tuple (tab ts)] :: xs) (σ38 m ps) = loop38 xs (σ38 m (ps ++ [.str (pick (fun b => Builtin.bitAnd m 61440 == b) (nm "?") ts)])) := by
  rw [turn_unf, inRow0 hl]; rfl
noncomputable def kindT : List (Int × Str) := [(40960, nm "l"), (49152, nm "s"), (32768, nm "-"), (24576, nm "b"), (16384, nm "d"), (8192, nm "c"), (4096, nm "p")]
noncomputable def permT : List (List (Int × Str)) := [[(256, nm "r")], [(128, nm "w")], [(2112, nm "s"), (2048, nm "S"), (64, nm "x")], [(32, nm "r")], [(16, nm "w")], [(1032, nm "s"), (1024, nm "S"), (8, nm "x")], [(4, nm "r")], [(2, nm "w")], [(513, nm "t"), (512, nm "T"), (1, nm "x")]]
noncomputable def fmSigns (m : Int) : List Str := pick (fun b => Builtin.bitAnd m 61440 == b) (nm "?") kindT :: permT.map (pick (fun b => Builtin.bitAnd m b == b) (nm "-"))
noncomputable def tail38 (p : Out × St) : Option (Out × St) := match p.1 with
      | .next =>execs (E38 20) (b38.drop 2) p.2
      | o =>some (o, p.2)
theorem fm_unf (m : Int) : specA G1 38 [.int m] = retD ((loop38 (enumD 0 ((kindT :: permT).map λt =>.tuple (tab t))) (σ38 m [])).bind tail38) :=by kernel_rfl
theorem fm_end (m : Int) (ps : List PyData) : retD (tail38 (.next, σ38 m ps)) = methJoin (nm "") ps := by
  show retD (Option.bind (Option.bind (methJoin (nm "") ps) _) _) = _
  cases methJoin (nm "") ps <;> rfl
theorem pick_len {p : Int → Bool} {d : Str} (hd : d.length = 1) : ∀ {ts : List (Int × Str)}, (∀ t ∈ ts, t.2.length = 1) → (pick p d ts).length = 1
  | [], _ =>hd
  | (b, c) :: r, h =>by
    unfold pick
    split
    · exact h _ List.mem_cons_self
    · exact pick_len hd λt ht =>h t (List.mem_cons_of_mem _ ht)
theorem fm_at (m : Int) : specA G1 38 [.int m] = some (.str (Str.join (nm "") (fmSigns m))) := by
  have e : loop38 (enumD 0 ((kindT :: permT).map λt =>.tuple (tab t))) (σ38 m []) = some (.next, σ38 m ((fmSigns m).map PyData.str)) :=by
    show loop38 (.tuple [.int 0, .tuple (tab kindT)] :: .tuple [.int 1, .tuple (tab [(256, nm "r")])] :: .tuple [.int 2, .tuple (tab [(128, nm "w")])] :: .tuple [.int 3, .tuple (tab [(2112, nm "s"), (2048, nm "S"), (64, nm "x")])] ::
      .tuple [.int 4, .tuple (tab [(32, nm "r")])] :: .tuple [.int 5, .tuple (tab [(16, nm "w")])] :: .tuple [.int 6, .tuple (tab [(1032, nm "s"), (1024, nm "S"), (8, nm "x")])] ::
      .tuple [.int 7, .tuple (tab [(4, nm "r")])] :: .tuple [.int 8, .tuple (tab [(2, nm "w")])] :: [.tuple [.int 9, .tuple (tab [(513, nm "t"), (512, nm "T"), (1, nm "x")])]]) _ = _
    rw [turn_0 _ (by decide), turn_i _ (by decide) (by simp), turn_i _ (by decide) (by simp), turn_i _ (by decide) (by simp), turn_i _ (by decide) (by simp), turn_i _ (by decide) (by simp), turn_i _ (by decide) (by simp), turn_i _ (by decide) (by simp), turn_i _ (by decide) (by simp), turn_i _ (by decide) (by simp)]
    rfl
  rw [fm_unf, e]
  show retD (tail38 (.next, σ38 m ((fmSigns m).map PyData.str))) = _
  rw [fm_end, methJoin_at (B := 1) (λt ht =>?_) (by show 10 * 1 + 10 * 0 ≤ _; decide)]
  have hall : ∀ r ∈ permT, ∀ t ∈ r, t.2.length = 1 :=by decide
  unfold fmSigns at ht
  rcases List.mem_cons.mp ht with rfl | ht
  · exact Nat.le_of_eq (pick_len rfl (by decide))
  · obtain ⟨r, hr, rfl⟩ := List.mem_map.mp ht
    exact Nat.le_of_eq (pick_len rfl (hall r hr))
end Mine
end
section
namespace Mine
open PySem PySem.Spec PyProof.Rows PySem.W
noncomputable def E41 (n : Nat) : Stmt → St → Option (Out × St) := exN (ctxA G0 41) V4 n
noncomputable def b41 : List Stmt := (fnAt 41).body
noncomputable def f41B : List Stmt := sBody (at' b41 1)
noncomputable def f41T : Expr := sTgt (at' b41 1)
noncomputable def σ41 (m : Int) (R : Str) : St := ⟨[(nm "row", .str R), (nm "mode", .int m)], none⟩
noncomputable def loop41 (xs : List PyData) (σ : St) : Option (Out × St) := forD (targetD (ctxA G0 41).Γ f41T) (execs (E41 19) f41B) (fun σ => some (.next, σ)) [nm "row", nm "mode"] xs σ
noncomputable def kindsS : Str := nm "?pc?d?b?-?l?s???"
section
variable {m : Int} {R A B C : Str} {xs : List PyData}
theorem turn41_0 (hA : idxStr (nm "-r") (((m.fdiv 64).fmod 8).fdiv 4) = some (.str A)) (hB : idxStr (nm "-w") ((((m.fdiv 64).fmod 8).fdiv 2).fmod 2) = some (.str B)) (hC : idxStr (nm "-xSs") (2 * (m.fdiv 2048).fmod 2 + ((m.fdiv 64).fmod 8).fmod 2) = some (.str C))
    (la : A.length = 1) (lb : B.length = 1) (lc : C.length = 1) (hR : R.length ≤ 1000) : loop41 (.int 0 :: xs) (σ41 m R) = loop41 xs (σ41 m (R ++ (A ++ B) ++ C)) :=by
  show Option.bind (Option.bind (Option.bind (Option.bind (idxStr (nm "-r") (((m.fdiv 64).fmod 8).fdiv 4)) _) _) _) _ = _
  rw [hA]
  show Option.bind (Option.bind (Option.bind (Option.bind (idxStr (nm "-w") ((((m.fdiv 64).fmod 8).fdiv 2).fmod 2)) _) _) _) _ = _
  rw [hB]
  show Option.bind (Option.bind (Option.bind (if A.length + B.length ≤ 100000 then _ else none) _) _) _ = _
  rw [if_pos (by omega)]
  show Option.bind (Option.bind (if R.length + (A ++ B).length ≤ 100000 then _ else none) _) _ = _
  rw [if_pos (by rw [Str.length_append]; omega)]
  show Option.bind (Option.bind (Option.bind (idxStr (nm "-xSs") (2 * (m.fdiv 2048).fmod 2 + ((m.fdiv 64).fmod 8).fmod 2)) _) _) _ = _
  rw [hC]
  show Option.bind (Option.bind (if (R ++ (A ++ B)).length + C.length ≤ 100000 then _ else none) _) _ = _
  rw [if_pos (by rw [Str.length_append, Str.length_append]; omega)]
  rfl
theorem turn41_1 (hA : idxStr (nm "-r") (((m.fdiv 8).fmod 8).fdiv 4) = some (.str A)) (hB : idxStr (nm "-w") ((((m.fdiv 8).fmod 8).fdiv 2).fmod 2) = some (.str B)) (hC : idxStr (nm "-xSs") (2 * (m.fdiv 1024).fmod 2 + ((m.fdiv 8).fmod 8).fmod 2) = some (.str C))
    (la : A.length = 1) (lb : B.length = 1) (lc : C.length = 1) (hR : R.length ≤ 1000) : loop41 (.int 1 :: xs) (σ41 m R) = loop41 xs (σ41 m (R ++ (A ++ B) ++ C)) :=by
  show Option.bind (Option.bind (Option.bind (Option.bind (idxStr (nm "-r") (((m.fdiv 8).fmod 8).fdiv 4)) _) _) _) _ = _
  rw [hA]
  show Option.bind (Option.bind (Option.bind (Option.bind (idxStr (nm "-w") ((((m.fdiv 8).fmod 8).fdiv 2).fmod 2)) _) _) _) _ = _
  rw [hB]
  show Option.bind (Option.bind (Option.bind (if A.length + B.length ≤ 100000 then _ else none) _) _) _ = _
  rw [if_pos (by omega)]
  show Option.bind (Option.bind (if R.length + (A ++ B).length ≤ 100000 then _ else none) _) _ = _
  rw [if_pos (by rw [Str.length_append]; omega)]
  show Option.bind (Option.bind (Option.bind (idxStr (nm "-xSs") (2 * (m.fdiv 1024).fmod 2 + ((m.fdiv 8).fmod 8).fmod 2)) _) _) _ = _
  rw [hC]
  show Option.bind (Option.bind (if (R ++ (A ++ B)).length + C.length ≤ 100000 then _ else none) _) _ = _
  rw [if_pos (by rw [Str.length_append, Str.length_append]; omega)]
  rfl
theorem turn41_2 (hA : idxStr (nm "-r") (((m.fdiv 1).fmod 8).fdiv 4) = some (.str A)) (hB : idxStr (nm "-w") ((((m.fdiv 1).fmod 8).fdiv 2).fmod 2) = some (.str B)) (hC : idxStr (nm "-xTt") (2 * (m.fdiv 512).fmod 2 + ((m.fdiv 1).fmod 8).fmod 2) = some (.str C))
    (la : A.length = 1) (lb : B.length = 1) (lc : C.length = 1) (hR : R.length ≤ 1000) : loop41 (.int 2 :: xs) (σ41 m R) = loop41 xs (σ41 m (R ++ (A ++ B) ++ C)) :=by
  show Option.bind (Option.bind (Option.bind (Option.bind (idxStr (nm "-r") (((m.fdiv 1).fmod 8).fdiv 4)) _) _) _) _ = _
  rw [hA]
  show Option.bind (Option.bind (Option.bind (Option.bind (idxStr (nm "-w") ((((m.fdiv 1).fmod 8).fdiv 2).fmod 2)) _) _) _) _ = _
  rw [hB]
  show Option.bind (Option.bind (Option.bind (if A.length + B.length ≤ 100000 then _ else none) _) _) _ = _
  rw [if_pos (by omega)]
  show Option.bind (Option.bind (if R.length + (A ++ B).length ≤ 100000 then _ else none) _) _ = _
  rw [if_pos (by rw [Str.length_append]; omega)]
  show Option.bind (Option.bind (Option.bind (idxStr (nm "-xTt") (2 * (m.fdiv 512).fmod 2 + ((m.fdiv 1).fmod 8).fmod 2)) _) _) _ = _
  rw [hC]
  show Option.bind (Option.bind (if (R ++ (A ++ B)).length + C.length ≤ 100000 then _ else none) _) _ = _
  rw [if_pos (by rw [Str.length_append, Str.length_append]; omega)]
  rfl
theorem row_unf {K : Str} (hK : idxStr kindsS ((m.fdiv 4096).fmod 16) = some (.str K)) (he : loop41 [.int 0, .int 1, .int 2] (σ41 m K) = some (.next, σ41 m R)) : specA G0 41 [.int m] = some (.str R) :=by
  show retD (Option.bind (Option.bind (idxStr kindsS ((m.fdiv 4096).fmod 16)) _) _) = _
  rw [hK]
  show retD (Option.bind (loop41 [.int 0, .int 1, .int 2] (σ41 m K)) _) = _
  rw [he]
  rfl
end
noncomputable abbrev pk (m : Int) (ts : List (Int × Str)) : Str := pick (fun b => Builtin.bitAnd m b == b) (nm "-") ts
theorem pk_no {m b : Int} {c : Str} {ts : List (Int × Str)} (h : Builtin.bitAnd m b ≠ b) : pk m ((b, c) :: ts) = pk m ts := pick_neg (p := λb =>Builtin.bitAnd m b == b) (λe =>h (eq_of_beq e))
theorem pk_yes {m b : Int} {c : Str} {ts : List (Int × Str)} (h : Builtin.bitAnd m b = b) : pk m ((b, c) :: ts) = c := pick_pos (p := λb =>Builtin.bitAnd m b == b) (beq_iff_eq.mpr h)
theorem sel1 {S c : Str} (h0 : idxStr S 0 = some (.str (nm "-"))) (h1 : idxStr S 1 = some (.str c)) {m b i : Int} (hi : i = 0 ∨ i = 1) (hb : Builtin.bitAnd m b = i * b) (hp : 0 < b) : idxStr S i = some (.str (pk m [(b, c)])) := by
  rcases hi with rfl | rfl
  · rw [pk_no (by rw [hb, Int.zero_mul]; exact λe =>Int.lt_irrefl 0 (e ▸ hp)), h0]; rfl
  · rw [pk_yes (by rw [hb, Int.one_mul]), h1]
theorem sel3 {S c1 c2 c3 : Str} (h0 : idxStr S 0 = some (.str (nm "-"))) (h1 : idxStr S 1 = some (.str c3)) (h2 : idxStr S 2 = some (.str c2)) (h3 : idxStr S 3 = some (.str c1)) {m b1 b2 b3 hi lo i : Int} (hhi : hi = 0 ∨ hi = 1) (hlo : lo = 0 ∨ lo = 1)
    (hb : b1 = b2 + b3) (e1 : Builtin.bitAnd m b1 = hi * b2 + lo * b3) (e2 : Builtin.bitAnd m b2 = hi * b2) (e3 : Builtin.bitAnd m b3 = lo * b3) (p2 : 0 < b2) (p3 : 0 < b3) (ei : i = 2 * hi + lo) : idxStr S i = some (.str (pk m [(b1, c1), (b2, c2), (b3, c3)])) :=by
  subst ei
  subst hb
  have n2 : (0 : Int) ≠ b2 := λe =>Int.lt_irrefl 0 (e ▸ p2)
  have n3 : (0 : Int) ≠ b3 := λe =>Int.lt_irrefl 0 (e ▸ p3)
  rcases hhi with rfl | rfl <;> rcases hlo with rfl | rfl <;> simp only [Int.zero_mul, Int.one_mul, Int.add_zero, Int.zero_add] at e1 e2 e3
  · rw [pk_no (by rw [e1]; omega), pk_no (by rw [e2]; exact n2), pk_no (by rw [e3]; exact n3)]; exact h0
  · rw [pk_no (by rw [e1]; omega), pk_no (by rw [e2]; exact n2), pk_yes e3]; exact h1
  · rw [pk_no (by rw [e1]; omega), pk_yes e2]; exact h2
  · rw [pk_yes e1]; exact h3
theorem kind_tab : AllP (fun t => idxStr kindsS (t : Int) = some (.str (pick (fun b => 4096 * (t : Int) == b) (nm "?") kindT))) 16 := ⟨⟨⟨⟨⟨⟨⟨⟨⟨⟨⟨⟨⟨⟨⟨⟨trivial, by kernel_rfl⟩, by kernel_rfl⟩, by kernel_rfl⟩, by kernel_rfl⟩, by kernel_rfl⟩, by kernel_rfl⟩, by kernel_rfl⟩, by kernel_rfl⟩, by kernel_rfl⟩, by kernel_rfl⟩, by kernel_rfl⟩, by kernel_rfl⟩, by kernel_rfl⟩, by kernel_rfl⟩, by kernel_rfl⟩, by kernel_rfl⟩
theorem kind_sel {m : Int} : idxStr kindsS ((m.fdiv 4096).fmod 16) = some (.str (pick (fun b => Builtin.bitAnd m 61440 == b) (nm "?") kindT)) := by
  have e : (m.fdiv 4096).fmod 16 = m / 4096 % 16 :=by rw [Int.fdiv_eq_ediv_of_nonneg _ (by decide), Int.fmod_eq_emod_of_nonneg _ (by decide)]
  rw [e, and_ifmt]
  refine X12 (λk hk e2 =>?_) (int_nat (n := 16) (Int.emod_nonneg (m / 4096) (by decide)) (Int.emod_lt_of_pos (m / 4096) (by decide)))
  have e2 : m / 4096 % 16 = k := e2
  rw [e2]
  exact allP kind_tab hk
theorem fd (m : Int) {b : Int} (hb : 0 ≤ b) : m.fdiv b = m / b := Int.fdiv_eq_ediv_of_nonneg _ hb
theorem fm (m : Int) {b : Int} (hb : 0 ≤ b) : m.fmod b = m % b := Int.fmod_eq_emod_of_nonneg _ hb
theorem join_empty (x : Str) : ∀ xs : List Str, Str.join (nm "") (x :: xs) = x ++ Str.join (nm "") xs
  | [] =>(Str.append_empty x).symm
  | y :: r =>by
    rw [join_cons]
    have : x ++ nm "" = x := Str.append_empty x
    rw [this]
theorem mod8_4 (a : Int) : a % 8 / 4 = a / 4 % 2 :=by omega
theorem mod8_2 (a : Int) : a % 8 / 2 % 2 = a / 2 % 2 :=by omega
theorem mod8_1 (a : Int) : a % 8 % 2 = a % 2 :=by omega
theorem selR (m : Int) {k : Nat} {D b : Int} (hD : 0 ≤ D) (hb : (2 : Int) ^ k = b) (hp : 0 < b) (e : D * 4 = b) : idxStr (nm "-r") (((m.fdiv D).fmod 8).fdiv 4) = some (.str (pk m [(b, nm "r")])) := by
  rw [fd _ hD, fm _ (by decide), fd _ (by decide), mod8_4, Int.ediv_ediv_of_nonneg hD, e]
  exact sel1 rfl rfl (Int.emod_two_eq _) (and_bit m k hb) hp
theorem selW (m : Int) {k : Nat} {D b : Int} (hD : 0 ≤ D) (hb : (2 : Int) ^ k = b) (hp : 0 < b) (e : D * 2 = b) : idxStr (nm "-w") ((((m.fdiv D).fmod 8).fdiv 2).fmod 2) = some (.str (pk m [(b, nm "w")])) := by
  rw [fd _ hD, fm _ (by decide), fd _ (by decide), fm _ (by decide), mod8_2, Int.ediv_ediv_of_nonneg hD, e]
  exact sel1 rfl rfl (Int.emod_two_eq _) (and_bit m k hb) hp
theorem two_bits (m : Int) {c q b2 b1 : Int} (hc : 0 ≤ c) (h2 : c * q = b2) (h : Builtin.bitAnd m b1 = c * (q * (m / c / q % 2) + m / c % 2)) : Builtin.bitAnd m b1 = m / b2 % 2 * b2 + m / c % 2 * c :=by
  rw [h, Int.ediv_ediv_of_nonneg hc, h2, Int.mul_add, ← Int.mul_assoc, h2, Int.mul_comm b2, Int.mul_comm c]
theorem selX {S c1 c2 c3 : Str} (h0 : idxStr S 0 = some (.str (nm "-"))) (h1 : idxStr S 1 = some (.str c3)) (h2 : idxStr S 2 = some (.str c2)) (h3 : idxStr S 3 = some (.str c1)) (m : Int) {b1 b2 b3 : Int} {k j : Nat} (p2 : 0 < b2) (p3 : 0 < b3) (hb : b1 = b2 + b3)
    (e1 : Builtin.bitAnd m b1 = m / b2 % 2 * b2 + m / b3 % 2 * b3) (e2 : (2 : Int) ^ k = b2) (e3 : (2 : Int) ^ j = b3) : idxStr S (2 * (m.fdiv b2).fmod 2 + ((m.fdiv b3).fmod 8).fmod 2) = some (.str (pk m [(b1, c1), (b2, c2), (b3, c3)])) :=by
  rw [fd _ (Int.le_of_lt p2), fd _ (Int.le_of_lt p3), fm _ (by decide), fm _ (by decide), fm _ (by decide), mod8_1]
  exact sel3 h0 h1 h2 h3 (Int.emod_two_eq _) (Int.emod_two_eq _) hb e1 (and_bit m k e2) (and_bit m j e3) p2 p3 rfl
theorem selX0 (m : Int) : idxStr (nm "-xSs") (2 * (m.fdiv 2048).fmod 2 + ((m.fdiv 64).fmod 8).fmod 2) = some (.str (pk m [(2112, nm "s"), (2048, nm "S"), (64, nm "x")])) :=
  selX rfl rfl rfl rfl m (k := 11) (j := 6) (by decide) (by decide) rfl (two_bits m (q := 32) (by decide) rfl (and_2112 m)) rfl rfl
theorem selX1 (m : Int) : idxStr (nm "-xSs") (2 * (m.fdiv 1024).fmod 2 + ((m.fdiv 8).fmod 8).fmod 2) = some (.str (pk m [(1032, nm "s"), (1024, nm "S"), (8, nm "x")])) :=
  selX rfl rfl rfl rfl m (k := 10) (j := 3) (by decide) (by decide) rfl (two_bits m (q := 128) (by decide) rfl (and_1032 m)) rfl rfl
theorem selX2 (m : Int) : idxStr (nm "-xTt") (2 * (m.fdiv 512).fmod 2 + ((m.fdiv 1).fmod 8).fmod 2) = some (.str (pk m [(513, nm "t"), (512, nm "T"), (1, nm "x")])) :=
  selX rfl rfl rfl rfl m (k := 9) (j := 0) (by decide) (by decide) rfl (by rw [and_513, Int.ediv_one, Int.mul_one, Int.mul_comm 512]) rfl rfl
theorem loop41_nil (σ : St) : loop41 [] σ = some (.next, σ) := rfl
theorem row_join {m : Int} {K : Str} : K ++ (pk m [(256, nm "r")] ++ pk m [(128, nm "w")]) ++ pk m [(2112, nm "s"), (2048, nm "S"), (64, nm "x")] ++ (pk m [(32, nm "r")] ++ pk m [(16, nm "w")]) ++ pk m [(1032, nm "s"), (1024, nm "S"), (8, nm "x")] ++ (pk m [(4, nm "r")] ++ pk m [(2, nm "w")]) ++ pk m [(513, nm "t"), (512, nm "T"), (1, nm "x")] =
    Str.join (nm "") (K :: permT.map (pk m)) := by
  unfold permT
  simp only [List.map_cons, List.map_nil, join_empty, Str.append_assoc]
  rfl
theorem row_at (m : Int) : specA G0 41 [.int m] = some (.str (Str.join (nm "") (fmSigns m))) := by
  have l1 : ∀ r ∈ permT, (pk m r).length = 1 := λr hr =>pick_len rfl ((by decide : ∀ r ∈ permT, ∀ t ∈ r, t.2.length = 1) r hr)
  have hk : (pick (fun b => Builtin.bitAnd m 61440 == b) (nm "?") kindT).length = 1 := pick_len rfl (by decide)
  have a0 := l1 [(256, nm "r")] (by decide)
  have a1 := l1 [(128, nm "w")] (by decide)
  have a2 := l1 [(2112, nm "s"), (2048, nm "S"), (64, nm "x")] (by decide)
  have a3 := l1 [(32, nm "r")] (by decide)
  have a4 := l1 [(16, nm "w")] (by decide)
  have a5 := l1 [(1032, nm "s"), (1024, nm "S"), (8, nm "x")] (by decide)
  have a6 := l1 [(4, nm "r")] (by decide)
  have a7 := l1 [(2, nm "w")] (by decide)
  have a8 := l1 [(513, nm "t"), (512, nm "T"), (1, nm "x")] (by decide)
  refine row_unf kind_sel ?_
  rw [turn41_0 (selR m (k := 8) (b := 256) (by decide) rfl (by decide) rfl) (selW m (k := 7) (b := 128) (by decide) rfl (by decide) rfl) (selX0 m) a0 a1 a2 (by omega),
    turn41_1 (selR m (k := 5) (b := 32) (by decide) rfl (by decide) rfl) (selW m (k := 4) (b := 16) (by decide) rfl (by decide) rfl) (selX1 m) a3 a4 a5 (by simp only [Str.length_append]; omega),
    turn41_2 (selR m (k := 2) (b := 4) (by decide) rfl (by decide) rfl) (selW m (k := 1) (b := 2) (by decide) rfl (by decide) rfl) (selX2 m) a6 a7 a8 (by simp only [Str.length_append]; omega)]
  rw [loop41_nil, row_join, fmSigns]
end Mine
end
section
namespace Mine
open PySem PySem.Spec PyProof.Rows PySem.W PySem.Builtin PySem.Builtin.Str
abbrev Wd := Int ⊕ Str
noncomputable def wdD : Wd → PyData
  | .inl n =>.int n
  | .inr s =>.str s
theorem wdD_inj {a b : Wd} (h : wdD a = wdD b) : a = b :=by
  cases a <;> cases b <;> simp_all [wdD]
theorem wdDs_inj : ∀ {a b : List Wd}, a.map wdD = b.map wdD → a = b
  | [], [], _ =>rfl
  | x :: a, y :: b, h =>by
    simp only [List.map_cons, List.cons.injEq] at h
    rw [wdD_inj h.1, wdDs_inj h.2]
  | [], _ :: _, h =>by cases h
  | _ :: _, [], h =>by cases h
noncomputable def kcV (v : Str) : List Wd := if notIn v = true then (match PySem.intText? v with
  | some n =>[.inl 100, .inl n]
  | none =>[.inl ((stagesT.lookup v).getD 0), .inr v]) else []
theorem compV_eq (v : Str) : compV v = (kcV v).map wdD :=by
  unfold compV kcV
  split
  · cases PySem.intText? v <;> rfl
  · rfl
noncomputable def kcW (w : List Nat) : List Wd := ((reGo [] [] w).map str!).flatMap kcV
theorem flatMap_map' {α β γ : Type} {f : α → List β} {g : β → γ} : ∀ {l : List α}, l.flatMap (fun a => (f a).map g) = (l.flatMap f).map g
  | [] =>rfl
  | a :: l =>by rw [List.flatMap_cons, List.flatMap_cons, List.map_append, flatMap_map']
theorem compW_eq (w : List Nat) : compW w = (kcW w).map wdD :=by
  unfold compW kcW
  rw [show compV = λv =>(kcV v).map wdD from funext compV_eq, flatMap_map']
theorem kcW_nil : kcW [] = [] := wdDs_inj (by rw [← compW_eq, compW_nil]; rfl)
theorem kcW_sep {c : Nat} (hc : isSep c = true) (x y : List Nat) : kcW (x ++ c :: y) = kcW x ++ kcW y := wdDs_inj (by rw [← compW_eq, compW_sep hc, List.map_append, compW_eq, compW_eq])
theorem kcW_join {c : Nat} (hc : isSep c = true) (ts : List Str) : kcW (Str.join ⟨#[c]⟩ ts).cps.toList = ts.flatMap λt =>kcW t.cps.toList := wdDs_inj (by
  rw [← compW_eq, compW_join hc, ← flatMap_map']
  congr 1
  funext t
  exact compW_eq _)
theorem kcW_digs {ds : List Nat} {n : Int} (hd : ∀ c ∈ ds, isDig c = true) (hne : ds ≠ []) (hn : PySem.intText? (str! ds) = some n) : kcW ds = [.inl 100, .inl n] := wdDs_inj (by rw [← compW_eq, compW_digs hd hne hn]; rfl)
abbrev Key := Int × Wd
noncomputable def flatK (ks : List Key) : List Wd := ks.flatMap λk =>[.inl k.1, k.2]
noncomputable def keyD (k : Key) : PyData := .tuple [.int k.1, wdD k.2]
noncomputable def wdB : Wd → Bool
  | .inl _ =>true
  | .inr s =>s.cps.toList.all (λc =>decide (c < 128)) && decide (s.length ≤ 20)
noncomputable def keyB (k : Key) : Bool := match k.2 with
  | .inl _ =>k.1 == 100
  | .inr s =>k.1 != 100 && wdB (.inr s)
noncomputable def blankK : Key := (0, .inr ⟨#[32]⟩)
structure Pc where
  t : Str
  num : Option Int
  keys : List Key
  deriving DecidableEq
noncomputable def numD : Option Int → PyData
  | some n =>.int n
  | none =>.none
noncomputable def pcD (p : Pc) : PyData := .tuple [.str p.t, .str p.t, numD p.num, .list (p.keys.map keyD)]
structure PcOk (p : Pc) : Prop where
  low : low p.t
  len : p.t.length ≤ 20
  keys : kcW p.t.cps.toList = flatK p.keys
  num : PySem.intText? p.t = p.num
  small : ∀ n, p.num = some n → n.natAbs < 10000000
  kok : ∀ k ∈ p.keys, keyB k = true
  klen : p.keys.length ≤ 20
structure PieceOk (p : Pc) : Prop extends PcOk p where
  nodot : 46 ∉ p.t.cps.toList
  plat : PlatOk p.t
  pkeys : kcW (Txt.strip p.t).cps.toList = flatK (p.keys.filter λk =>decide (k ≠ blankK))
noncomputable def numB : Option Int → Bool
  | some n =>decide (n.natAbs < 10000000)
  | none =>true
noncomputable def pcB (p : Pc) : Bool := p.t.cps.toList.all (λc =>decide (c < 128)) && decide (p.t.length ≤ 20) && decide (kcW p.t.cps.toList = flatK p.keys) && decide (PySem.intText? p.t = p.num) && numB p.num && p.keys.all keyB && decide (p.keys.length ≤ 20)
noncomputable def pieceB (p : Pc) : Bool := pcB p && !p.t.cps.toList.contains 46 && decide ((Txt.strip p.t).length ≤ 20) && (Txt.strip p.t).cps.toList.all platSafe && decide (kcW (Txt.strip p.t).cps.toList = flatK (p.keys.filter λk =>decide (k ≠ blankK)))
theorem pcOk_of {p : Pc} (h : pcB p = true) : PcOk p :=by
  unfold pcB at h
  simp only [Bool.and_eq_true, decide_eq_true_eq, List.all_eq_true] at h
  obtain ⟨⟨⟨⟨⟨⟨h1, h2⟩, h3⟩, h4⟩, h5⟩, h6⟩, h7⟩ := h
  exact ⟨h1, h2, h3, h4, λn hn =>by rw [hn] at h5; exact of_decide_eq_true h5, h6, h7⟩
theorem pieceOk_of {p : Pc} (h : pieceB p = true) : PieceOk p :=by
  unfold pieceB at h
  rw [Bool.and_eq_true, Bool.and_eq_true, Bool.and_eq_true, Bool.and_eq_true] at h
  obtain ⟨⟨⟨⟨h1, h2⟩, h3⟩, h4⟩, h5⟩ := h
  have g := pcOk_of h1
  refine ⟨g, ?_, ⟨g.len, of_decide_eq_true h3, List.all_eq_true.mp h4⟩, of_decide_eq_true h5⟩
  intro hm
  rw [List.contains_iff_mem.mpr hm] at h2
  exact fnt h2
theorem strip_none {x : Str} (h : ∀ c ∈ x.cps.toList, Unicode.isSpace c = false) : Txt.strip x = x :=by
  have hg : ∀ k, k < x.length → Unicode.isSpace (x.cps.getD k 0) = false := λk hk =>by
    refine h _ ?_
    have : k < x.cps.size := hk
    rw [Array.getD, dif_pos this]
    exact Array.mem_toList_iff.mpr (Array.getElem_mem this)
  refine X03 (λl1 l2 u1 =>?_) (lo_facts Unicode.isSpace x)
  have hlo : stripLo Unicode.isSpace true x = 0 :=by
    rcases Nat.eq_zero_or_pos (stripLo Unicode.isSpace true x) with e | e
    · exact e
    · have := l2 0 e
      rw [hg 0 (by omega)] at this; exact fnt this
  refine X03 (λh1 h2 h3 =>?_) (hi_facts Unicode.isSpace x 0 (Nat.zero_le _))
  have hhi : stripHi Unicode.isSpace true x 0 = x.length :=by
    rcases Nat.lt_or_ge (stripHi Unicode.isSpace true x 0) x.length with e | e
    · have := h3.1 (stripHi Unicode.isSpace true x 0) (Nat.le_refl _) e
      rw [hg _ e] at this; exact fnt this
    · omega
  unfold Txt.strip
  rw [PyProof.Rows.stripBy_eq, hlo, hhi]
  exact StrLaws.sub_whole x
end Mine
end
section
namespace Mine
open PySem PySem.Spec PyProof.Rows PySem.W PySem.Builtin PySem.Builtin.Str
noncomputable def strI (n : Nat) : Str := Str.ofString (toString (n : Int))
noncomputable def pcZero (k n : Nat) : Pc := ⟨Txt.mul (nm "0") k ++ strI n, some n, [(100, .inl n)]⟩
theorem pcZero_ok : ∀ k < 3, ∀ n < 13, pieceB (pcZero k n) = true :=by decide +kernel
noncomputable def wordsT : List (Int × Str) := [(10, nm "dev"), (20, nm "alpha"), (20, nm "a"), (30, nm "beta"), (30, nm "b"), (40, nm "c"), (50, nm "RC"), (50, nm "rc"), (200, nm "pl"), (200, nm "p"), (0, nm "x"), (0, nm "Rc")]
noncomputable def pcWord (t : Int × Str) : Pc := ⟨t.2, none, [(t.1, .inr t.2)]⟩
theorem pcWord_ok : ∀ t ∈ wordsT, pieceB (pcWord t) = true :=by decide +kernel
noncomputable def pcNone : Pc := ⟨nm "", none, []⟩
theorem pcNone_ok : pieceB pcNone = true :=by decide +kernel
noncomputable def pcPlus (n : Nat) : Pc := ⟨nm "+" ++ strI n, some n, [(100, .inl n)]⟩
noncomputable def pcMinus (n : Nat) : Pc := ⟨nm "-" ++ strI n, some (-(n : Int)), [(100, .inl n)]⟩
noncomputable def pcBlank (n : Nat) : Pc := ⟨nm " " ++ strI n, some n, [blankK, (100, .inl n)]⟩
noncomputable def pcTwice (n : Nat) : Pc := ⟨strI n ++ nm "_" ++ strI n, some (n * (if n < 10 then 11 else 101)), [(100, .inl n), (100, .inl n)]⟩
theorem pcPlus_ok : ∀ n < 13, pieceB (pcPlus n) = true :=by decide +kernel
theorem pcMinus_ok : ∀ n < 13, pieceB (pcMinus n) = true :=by decide +kernel
theorem pcBlank_ok : ∀ n < 13, pieceB (pcBlank n) = true :=by decide +kernel
theorem pcTwice_ok : ∀ n < 13, pieceB (pcTwice n) = true :=by decide +kernel
noncomputable def pcBuild0 : Pc := ⟨nm "", some 0, []⟩
noncomputable def pcBuilds : List Pc := [⟨nm "07", some 7, [(100, .inl 7)]⟩, ⟨nm "x", none, [(0, .inr (nm "x"))]⟩, ⟨nm "1.2", none, [(100, .inl 1), (100, .inl 2)]⟩]
theorem pcBuilds_ok : ∀ p ∈ pcBuilds, pcB p = true :=by decide +kernel
end Mine
end
section
namespace Mine
open PySem PySem.Spec PyProof.Rows PySem.W PySem.Builtin PySem.Builtin.Str
noncomputable def E42 (n : Nat) : Stmt → St → Option (Out × St) := exN (ctxA G2 42) (evN G2 40) n
noncomputable def b42 : List Stmt := (fnAt 42).body
noncomputable def σ42 (F N M z : Int) : St := ⟨[(nm "form", .int F), (nm "n", .int N), (nm "mode", .int M), (nm "z", .int z)], none⟩
noncomputable def if42 (k : Nat) : List Stmt := sBody (at' b42 k)
section
variable {z F N M : Int}
theorem p_unf (z : Int) : specA G2 42 [.int z] = retD (execs (E42 20) (b42.drop 1) (σ42 (z.fdiv 78) ((z.fdiv 6).fmod 13) (modeI (z.fdiv 6)) z)) :=by
  have e : specA G2 42 [.int z] = retD (thenS ((((specA G0 40 [.int (z.fdiv 6)]).bind fun m => some [m, .int ((z.fdiv 6).fmod 13), .int (z.fdiv 78)]).bind fun ds => some (PyData.tuple ds)).bind fun d => (targetD (ctxA G2 42).Γ (.Tuple [.Name (nm "mode") default, .Name (nm "n") default, .Name (nm "form") default] 0 default) d ⟨[(nm "z", .int z)], none⟩).bind fun σ' => some (.next, σ')) (execs (E42 20) (b42.drop 1))) := by kernel_rfl
  rw [e, mode_at]
  kernel_rfl
theorem skip1 (h : (z.fmod 6 == 1) = false) : execs (E42 20) (b42.drop 1) (σ42 F N M z) = execs (E42 20) (b42.drop 2) (σ42 F N M z) :=by
  rw [show execs (E42 20) (b42.drop 1) (σ42 F N M z) = thenS (if (z.fmod 6 == 1) = true then execs (E42 19) (if42 1) (σ42 F N M z) else some (.next, σ42 F N M z)) (execs (E42 20) (b42.drop 2)) from (by kernel_rfl), h, if_neg Bool.false_ne_true]
  rfl
theorem skip3 (h : (z.fmod 6 == 3) = false) : execs (E42 20) (b42.drop 2) (σ42 F N M z) = execs (E42 20) (b42.drop 3) (σ42 F N M z) :=by
  rw [show execs (E42 20) (b42.drop 2) (σ42 F N M z) = thenS (if (z.fmod 6 == 3) = true then execs (E42 19) (if42 2) (σ42 F N M z) else some (.next, σ42 F N M z)) (execs (E42 20) (b42.drop 3)) from (by kernel_rfl), h, if_neg Bool.false_ne_true]
  rfl
noncomputable def el42 (b : List Stmt) : List Stmt := sElse (at' b 0)
noncomputable def th42 (b : List Stmt) : List Stmt := sBody (at' b 0)
noncomputable def el0 : List Stmt := el42 (b42.drop 3)
noncomputable def el2 : List Stmt := el42 el0
noncomputable def el4 : List Stmt := el42 el2
noncomputable def ret42 (σ : St) : Option (Out × St) := execs (E42 20) (b42.drop 4) σ
noncomputable def nx (σ : St) : Option (Out × St) := some (.next, σ)
theorem r_unf0 (F N M z : Int) : execs (E42 20) (b42.drop 3) (σ42 F N M z) = thenS (if (z.fmod 6 == 0) = true then execs (E42 19) (th42 (b42.drop 3)) (σ42 F N M z) else execs (E42 19) el0 (σ42 F N M z)) ret42 :=by kernel_rfl
theorem r_unf2 (F N M z : Int) : execs (E42 19) el0 (σ42 F N M z) = thenS (if (z.fmod 6 == 2) = true then execs (E42 18) (th42 el0) (σ42 F N M z) else execs (E42 18) el2 (σ42 F N M z)) nx :=by kernel_rfl
theorem r_unf4 (F N M z : Int) : execs (E42 18) el2 (σ42 F N M z) = thenS (if (z.fmod 6 == 4) = true then execs (E42 17) (th42 el2) (σ42 F N M z) else execs (E42 17) el4 (σ42 F N M z)) nx :=by kernel_rfl
noncomputable def σ42r (t n k : PyData) (σ : St) : St := ⟨(nm "keys", k) :: (nm "number", n) :: (nm "text", t) :: σ.ρ, σ.ω⟩
theorem r_end (t : Str) (n k : PyData) (F N M z : Int) : retD (ret42 (σ42r (.str t) n k (σ42 F N M z))) = some (.tuple [.str t, .str t, n, k]) :=by kernel_rfl
noncomputable def strN (N : Int) : Option PyData := if N.natAbs.log2 < 1920 then some (.str (Str.ofString (toString N))) else none
theorem n_log : AllP (λn =>strN (n : Int) = some (.str (strI n))) 13 := ⟨⟨⟨⟨⟨⟨⟨⟨⟨⟨⟨⟨⟨trivial, rfl⟩, rfl⟩, rfl⟩, rfl⟩, rfl⟩, rfl⟩, rfl⟩, rfl⟩, rfl⟩, rfl⟩, rfl⟩, rfl⟩, rfl⟩
theorem r_run0 (F N M z : Int) : execs (E42 19) (th42 (b42.drop 3)) (σ42 F N M z) = thenS (((((strMulD (nm "0") (F.fmod 3)).bind fun a => (strN N).bind fun b => binD .Add a b).bind fun t => some [t, .int N, .list [.tuple [.int 100, .int N]]]).bind fun ds => some (PyData.tuple ds)).bind fun d => (targetD (ctxA G2 42).Γ (.Tuple [.Name (nm "text") default, .Name (nm "number") default, .Name (nm "keys") default] 0 default) d (σ42 F N M z)).bind fun σ' => some (.next, σ')) nx := by kernel_rfl
theorem zero_ok : ∀ k < 3, ∀ n < 13, (Txt.mul (nm "0") (k : Nat)).length + (strI n).length ≤ 100000 := by decide +kernel
theorem run0 {k n : Nat} (hk : k < 3) (hn : n < 13) (h : (z.fmod 6 == 0) = true) (hF : F.fmod 3 = k) : retD (execs (E42 20) (b42.drop 3) (σ42 F n M z)) = some (pcD (pcZero k n)) :=by
  have hm : strMulD (nm "0") (k : Int) = some (.str (Txt.mul (nm "0") k)) := if_pos ⟨by omega, by omega, by decide⟩
  rw [r_unf0, if_pos h, r_run0, hF, hm, allP n_log hn]
  show retD (thenS (thenS (((((strAddD (Txt.mul (nm "0") k) (strI n))).bind _).bind _).bind _) _) _) = _
  rw [show strAddD (Txt.mul (nm "0") k) (strI n) = some (.str (Txt.mul (nm "0") k ++ strI n)) from if_pos (zero_ok k hk n hn)]
  exact r_end _ _ _ _ _ _ _
noncomputable def wordsD : List PyData := wordsT.map λt =>.tuple [.int t.1, .str t.2]
theorem words_idx : AllP (fun k => idxList wordsD (k : Int) = some (.tuple [.int (wordsT.getD k (0, nm "")).1, .str (wordsT.getD k (0, nm "")).2])) 12 := ⟨⟨⟨⟨⟨⟨⟨⟨⟨⟨⟨⟨trivial, rfl⟩, rfl⟩, rfl⟩, rfl⟩, rfl⟩, rfl⟩, rfl⟩, rfl⟩, rfl⟩, rfl⟩, rfl⟩, rfl⟩
theorem r_run2 (F N M z : Int) (r : Int) (w : Str) (h : idxList wordsD ((z.fdiv 6).fmod 12) = some (.tuple [.int r, .str w])) : retD (thenS (thenS (execs (E42 18) (th42 el0) (σ42 F N M z)) nx) ret42) = some (.tuple [.str w, .str w, .none, .list [.tuple [.int r, .str w]]]) :=by
  have e : execs (E42 18) (th42 el0) (σ42 F N M z) = thenS ((idxList wordsD ((z.fdiv 6).fmod 12)).bind fun d => (targetD (ctxA G2 42).Γ (.Tuple [.Name (nm "rank") default, .Name (nm "text") default] 0 default) d (σ42 F N M z)).bind fun σ' => some (.next, σ')) (execs (E42 18) ((th42 el0).drop 1)) := by kernel_rfl
  rw [e, h]
  kernel_rfl
theorem run2 {k : Nat} (hk : k < 12) (h0 : (z.fmod 6 == 0) = false) (h2 : (z.fmod 6 == 2) = true) (hI : (z.fdiv 6).fmod 12 = k) : retD (execs (E42 20) (b42.drop 3) (σ42 F N M z)) = some (pcD (pcWord (wordsT.getD k (0, nm "")))) := by
  rw [r_unf0, h0, if_neg Bool.false_ne_true, r_unf2, if_pos h2]
  exact r_run2 _ _ _ _ _ _ (by rw [hI]; exact allP words_idx hk)
theorem r_run4 (F N M z : Int) : execs (E42 17) (th42 el2) (σ42 F N M z) = some (.next, σ42r (.str (nm "")) .none (.list []) (σ42 F N M z)) := by kernel_rfl
theorem run4 (h0 : (z.fmod 6 == 0) = false) (h2 : (z.fmod 6 == 2) = false) (h4 : (z.fmod 6 == 4) = true) : retD (execs (E42 20) (b42.drop 3) (σ42 F N M z)) = some (pcD pcNone) :=by
  rw [r_unf0, h0, if_neg Bool.false_ne_true, r_unf2, h2, if_neg Bool.false_ne_true, r_unf4, if_pos h4, r_run4]
  exact r_end _ _ _ _ _ _ _
noncomputable def pcSign (k n : Nat) : Pc := match k with
  | 0 =>pcPlus n
  | 1 =>pcMinus n
  | 2 =>pcBlank n
  | _ =>pcTwice n
noncomputable def pc3D (p : Pc) : PyData := .tuple [.str p.t, numD p.num, .list (p.keys.map keyD)]
theorem r_run5 (F M z : Int) : AllP (fun n => execs (E42 17) el4 (σ42 F n M z) = thenS (some (.next, ⟨(nm "twice", pc3D (pcTwice n)) :: (σ42 F n M z).ρ, none⟩)) (execs (E42 17) (el4.drop 1))) 13 :=
  ⟨⟨⟨⟨⟨⟨⟨⟨⟨⟨⟨⟨⟨trivial, by kernel_rfl⟩, by kernel_rfl⟩, by kernel_rfl⟩, by kernel_rfl⟩, by kernel_rfl⟩, by kernel_rfl⟩, by kernel_rfl⟩, by kernel_rfl⟩, by kernel_rfl⟩, by kernel_rfl⟩, by kernel_rfl⟩, by kernel_rfl⟩, by kernel_rfl⟩
noncomputable def signsD (n : Nat) : List PyData := [pc3D (pcPlus n), pc3D (pcMinus n), pc3D (pcBlank n), pc3D (pcTwice n)]
theorem r_run5b (F M z : Int) : AllP (fun n => execs (E42 17) (el4.drop 1) ⟨(nm "twice", pc3D (pcTwice n)) :: (σ42 F n M z).ρ, none⟩ = thenS ((idxList (signsD n) (F.fmod 4)).bind fun d => (targetD (ctxA G2 42).Γ (.Tuple [.Name (nm "text") default, .Name (nm "number") default, .Name (nm "keys") default] 0 default) d ⟨(nm "twice", pc3D (pcTwice n)) :: (σ42 F n M z).ρ, none⟩).bind fun σ' => some (.next, σ')) nx) 13 :=
  ⟨⟨⟨⟨⟨⟨⟨⟨⟨⟨⟨⟨⟨trivial, by kernel_rfl⟩, by kernel_rfl⟩, by kernel_rfl⟩, by kernel_rfl⟩, by kernel_rfl⟩, by kernel_rfl⟩, by kernel_rfl⟩, by kernel_rfl⟩, by kernel_rfl⟩, by kernel_rfl⟩, by kernel_rfl⟩, by kernel_rfl⟩, by kernel_rfl⟩
theorem signs_idx4 {k : Nat} (hk : k < 4) (n : Nat) : idxList (signsD n) (k : Int) = some (pc3D (pcSign k n)) := allP (P := λk =>idxList (signsD n) (k : Int) = some (pc3D (pcSign k n))) (n := 4) ⟨⟨⟨⟨trivial, rfl⟩, rfl⟩, rfl⟩, rfl⟩ hk
theorem r_end5 (T : PyData) (p : Pc) (F N M z : Int) : retD (ret42 (σ42r (.str p.t) (numD p.num) (.list (p.keys.map keyD)) ⟨(nm "twice", T) :: (σ42 F N M z).ρ, none⟩)) = some (pcD p) := by kernel_rfl
theorem run5 {k n : Nat} (hk : k < 4) (hn : n < 13) (h0 : (z.fmod 6 == 0) = false) (h2 : (z.fmod 6 == 2) = false) (h4 : (z.fmod 6 == 4) = false) (hF : F.fmod 4 = k) : retD (execs (E42 20) (b42.drop 3) (σ42 F n M z)) = some (pcD (pcSign k n)) :=by
  rw [r_unf0, h0, if_neg Bool.false_ne_true, r_unf2, h2, if_neg Bool.false_ne_true, r_unf4, h4, if_neg Bool.false_ne_true, allP (r_run5 F M z) hn]
  show retD (thenS (thenS (thenS (execs (E42 17) (el4.drop 1) ⟨(nm "twice", pc3D (pcTwice n)) :: (σ42 F n M z).ρ, none⟩) _) _) _) = _
  rw [allP (r_run5b F M z) hn, hF, signs_idx4 hk]
  exact r_end5 _ _ _ _ _ _
end
end Mine
end
section
namespace Mine
open PySem PySem.Spec PyProof.Rows PySem.W PySem.Builtin PySem.Builtin.Str PySem.NumText
theorem compL_map {b : PyData → Option Loc} {i : Loc → Option Bool} {n : Loc → Option (List PyData)} {f : PyData → PyData} : ∀ {ds : List PyData}, (∀ d ∈ ds, ((b d).bind fun ρ₁ => (i ρ₁).bind fun ok => if ok then n ρ₁ else some []) = some [f d]) → compL b i n ds = some (ds.map f)
  | [], _ =>rfl
  | d :: r, h =>by
    have h1 := h d List.mem_cons_self
    have ih := compL_map (b := b) (i := i) (n := n) (f := f) (ds := r) λx hx =>h x (List.mem_cons_of_mem _ hx)
    revert h1; refine bsC λρ₁ e1 h1 =>?_
    revert h1; refine bsC λok e2 h1 =>?_
    rw [compL, e1, Option.bind_some, e2, Option.bind_some, h1, ih]
    rfl
theorem compL_flat {b : PyData → Option Loc} {i : Loc → Option Bool} {n : Loc → Option (List PyData)} {f : PyData → List PyData} : ∀ {ds : List PyData}, (∀ d ∈ ds, ((b d).bind fun ρ₁ => (i ρ₁).bind fun ok => if ok then n ρ₁ else some []) = some (f d)) → compL b i n ds = some (ds.flatMap f)
  | [], _ =>rfl
  | d :: r, h =>by
    have h1 := h d List.mem_cons_self
    have ih := compL_flat (b := b) (i := i) (n := n) (f := f) (ds := r) λx hx =>h x (List.mem_cons_of_mem _ hx)
    revert h1; refine bsC λρ₁ e1 h1 =>?_
    revert h1; refine bsC λok e2 h1 =>?_
    rw [compL, e1, Option.bind_some, e2, Option.bind_some, h1, ih]
    rfl
theorem comp1 {V : EvT} {Γ : Sc} {elt : Expr} {g : Comprehension} {scope : Scope} {ρ : Loc} {ds : List PyData} {f : PyData → List PyData} (hs : scopeOk Γ scope = true) (hi : iterTup Γ g.iter = false) (hi2 : iterTup (Γ.inner scope) g.iter = false) (ha : g.is_async = 0) (h1 : iterE V Γ g.iter ρ = some ds)
    (h2 : ∀ d ∈ ds, ((bindC g.target d (Γ.inner scope) (innerLoc Γ scope ρ)).bind λρ₁ =>(allIfs (λc =>V.ts (Γ.inner scope) c ρ₁) g.ifs).bind λok =>if ok then ((V.ev (Γ.inner scope) elt ρ₁).bind λd =>some [d]) else some []) = some (f d))
    (hl : (ds.flatMap f).length ≤ 100000) : compE V Γ elt [g] scope ρ = some (ds.flatMap f) :=by
  unfold compE
  dsimp only
  rw [if_pos ⟨hs, hi, by simp [ha]⟩, h1, Option.bind_some, compT, if_neg (by simp [ha, hi2])]
  dsimp only
  rw [compL_flat h2, Option.bind_some, if_pos hl]
theorem ev_comp1 {G : Gl} {n : Nat} {Γ : Sc} {elt : Expr} {g : Comprehension} {scope : Scope} {p : Pos} {ρ : Loc} {ds : List PyData} (f : PyData → List PyData) (hs : scopeOk Γ scope = true) (hi : iterTup Γ g.iter = false) (hi2 : iterTup (Γ.inner scope) g.iter = false) (ha : g.is_async = 0) (h1 : iterE (evN G n) Γ g.iter ρ = some ds)
    (h2 : ∀ d ∈ ds, ((bindC g.target d (Γ.inner scope) (innerLoc Γ scope ρ)).bind λρ₁ =>(allIfs (λc =>(evN G n).ts (Γ.inner scope) c ρ₁) g.ifs).bind λok =>if ok then (((evN G n).ev (Γ.inner scope) elt ρ₁).bind λd =>some [d]) else some []) = some (f d))
    (hl : (ds.flatMap f).length ≤ 100000) : (evN G (n + 1)).ev Γ (.ListComp elt [g] scope p) ρ = some (.list (ds.flatMap f)) :=by
  show (compE (evN G n) Γ elt [g] scope ρ).bind _ = _
  rw [comp1 hs hi hi2 ha h1 h2 hl]
  rfl
noncomputable def strZ (n : Int) : Str := Str.ofString (toString n)
noncomputable def od (w : Int) (k : Nat) : Int := (w.fdiv (8 ^ k)).fmod 8
noncomputable def octT (w : Int) : Str := Str.join (nm "") ([od w 5, od w 4, od w 3, od w 2, od w 1, od w 0].map strZ)
noncomputable def octN (w : Int) : Int := od w 5 * 100000 + (od w 4 * 10000 + (od w 3 * 1000 + (od w 2 * 100 + (od w 1 * 10 + (od w 0 * 1 + 0)))))
noncomputable def pcOct (w : Int) : Pc := ⟨octT w, some (octN w), [(100, .inl (octN w))]⟩
theorem od_nat (w : Int) (k : Nat) : ∃ d : Nat, d < 8 ∧ od w k = d := fmod_nat (w.fdiv (8 ^ k)) (b := 8) (by decide)
theorem od_log (w : Int) (k : Nat) : (od w k).natAbs.log2 < 1920 :=by
  refine X12 (λd hd e =>?_) (od_nat w k)
  rw [e]
  exact (by decide : ∀ d < 8, ((d : Nat) : Int).natAbs.log2 < 1920) d hd
theorem strZ_dig : ∀ d < 8, strZ (d : Nat) = ⟨#[48 + d]⟩ :=by decide +kernel
theorem dig_facts : ∀ c < 58, 48 ≤ c → Unicode.isSpace c = false ∧ platSafe c = true ∧ c < 128 ∧ c ≠ 46 :=by decide +kernel
theorem digPiece {t : Str} {n : Int} (hd : ∀ c ∈ t.cps.toList, isDig c = true) (hne : t.cps.toList ≠ []) (hl : t.length ≤ 20) (hn : PySem.intText? t = some n) (hs : n.natAbs < 10000000) : PieceOk ⟨t, some n, [(100, .inl n)]⟩ :=by
  have rng : ∀ c ∈ t.cps.toList, 48 ≤ c ∧ c ≤ 57 := λc hc =>isDig_iff.mp (hd c hc)
  have fac : ∀ c ∈ t.cps.toList, Unicode.isSpace c = false ∧ platSafe c = true ∧ c < 128 ∧ c ≠ 46 := λc hc =>dig_facts c (Nat.lt_succ_of_le (rng c hc).2) (rng c hc).1
  have hsp : Txt.strip t = t := strip_none λc hc =>(fac c hc).1
  have hk : kcW t.cps.toList = [.inl 100, .inl n] := kcW_digs hd hne (by
    have : str! t.cps.toList = t := Str.ext' (by simp [str!])
    rw [this]; exact hn)
  refine ⟨⟨λc hc =>(fac c hc).2.2.1, hl, hk, hn, λm hm =>by replace hm := Option.some.inj hm; subst hm; exact hs, λk hk =>by rw [List.mem_singleton.mp hk]; rfl, Nat.le_add_left 1 19⟩, ?_, ⟨hl, by rw [hsp]; exact hl, λc hc =>?_⟩, ?_⟩
  · intro hm; exact (fac 46 hm).2.2.2 rfl
  · rw [hsp] at hc
    exact (fac c hc).2.1
  · show kcW (Txt.strip t).cps.toList = _
    rw [hsp, hk]
    rfl
theorem octT_eq {w : Int} {d5 d4 d3 d2 d1 d0 : Nat} (h5 : d5 < 8) (h4 : d4 < 8) (h3 : d3 < 8) (h2 : d2 < 8) (h1 : d1 < 8) (h0 : d0 < 8) (e5 : od w 5 = d5) (e4 : od w 4 = d4) (e3 : od w 3 = d3) (e2 : od w 2 = d2) (e1 : od w 1 = d1) (e0 : od w 0 = d0) :
    (octT w).cps.toList = [48 + d5, 48 + d4, 48 + d3, 48 + d2, 48 + d1, 48 + d0] :=by
  unfold octT
  rw [e5, e4, e3, e2, e1, e0]
  simp only [List.map_cons, List.map_nil, strZ_dig _ h5, strZ_dig _ h4, strZ_dig _ h3, strZ_dig _ h2, strZ_dig _ h1, strZ_dig _ h0, join_empty, toList_app]
  rfl
theorem digC {l : List Nat} {d : Nat} (h : d < 8) (H : AllDigits l) : AllDigits ((48 + d) :: l) := List.forall_mem_cons.mpr ⟨⟨Nat.le_add_right _ _, Nat.add_le_add_left (Nat.le_trans (Nat.le_of_lt h) (by decide : 8 ≤ 9)) 48⟩, H⟩
theorem horner (a b c d e f : Nat) : (((((0 * 10 + a) * 10 + b) * 10 + c) * 10 + d) * 10 + e) * 10 + f = a * 100000 + (b * 10000 + (c * 1000 + (d * 100 + (e * 10 + (f * 1 + 0))))) :=by omega
theorem digV (a b c d e f : Nat) : digitsVal [48 + a, 48 + b, 48 + c, 48 + d, 48 + e, 48 + f] = a * 100000 + (b * 10000 + (c * 1000 + (d * 100 + (e * 10 + (f * 1 + 0))))) :=by
  rw [← horner]
  show (((((0 * 10 + (48 + a - 48)) * 10 + (48 + b - 48)) * 10 + (48 + c - 48)) * 10 + (48 + d - 48)) * 10 + (48 + e - 48)) * 10 + (48 + f - 48) = _
  rw [Nat.add_sub_cancel_left, Nat.add_sub_cancel_left, Nat.add_sub_cancel_left, Nat.add_sub_cancel_left, Nat.add_sub_cancel_left, Nat.add_sub_cancel_left]
theorem digB {a k b n : Nat} (h : a < 8) (hb : b ≤ n) : a * k + b ≤ 7 * k + n := Nat.add_le_add (Nat.mul_le_mul_right _ (Nat.le_of_lt_succ h)) hb
theorem pcOct_ok (w : Int) : PieceOk (pcOct w) :=by
  refine X12 (λd5 h5 e5 =>?_) (od_nat w 5)
  refine X12 (λd4 h4 e4 =>?_) (od_nat w 4)
  refine X12 (λd3 h3 e3 =>?_) (od_nat w 3)
  refine X12 (λd2 h2 e2 =>?_) (od_nat w 2)
  refine X12 (λd1 h1 e1 =>?_) (od_nat w 1)
  refine X12 (λd0 h0 e0 =>?_) (od_nat w 0)
  have hT := octT_eq h5 h4 h3 h2 h1 h0 e5 e4 e3 e2 e1 e0
  have hlen : (octT w).length = 6 := Array.length_toList.symm.trans (congrArg List.length hT)
  have hall : AllDigits (octT w).cps.toList := hT ▸ digC h5 (digC h4 (digC h3 (digC h2 (digC h1 (digC h0 λ_ h =>absurd h List.not_mem_nil)))))
  have hne : (octT w).cps.toList ≠ [] := hT ▸ List.cons_ne_nil _ _
  have hv := intText_digits hall hne (hlen ▸ by decide)
  have hN : octN w = ((d5 * 100000 + (d4 * 10000 + (d3 * 1000 + (d2 * 100 + (d1 * 10 + (d0 * 1 + 0))))) : Nat) : Int) :=by
    unfold octN
    rw [e5, e4, e3, e2, e1, e0]
    rfl
  refine digPiece (λc hc =>isDig_iff.mpr (hall c hc)) hne (hlen ▸ by decide) (by rw [hv, hT, digV, hN]) ?_
  rw [hN]
  exact Nat.lt_of_le_of_lt (digB h5 (digB h4 (digB h3 (digB h2 (digB h1 (digB h0 (Nat.le_refl 0))))))) (by decide)
noncomputable def if1 : List Stmt := sBody (at' b42 1)
noncomputable def t1E : Expr := (tupE (retE (if1.getD 3 (.Pass default)))).getD 0 (.Constant .none 0 default)
noncomputable def t2E : Expr := (tupE (retE (if1.getD 3 (.Pass default)))).getD 1 (.Constant .none 0 default)
noncomputable def Γ42 : Sc := (ctxA G2 42).Γ
noncomputable def V2 : EvT := evN G2 39
noncomputable def figs (w : Int) : List PyData := [.int (od w 5), .int (od w 4), .int (od w 3), .int (od w 2), .int (od w 1), .int (od w 0)]
noncomputable def ρ1 (F N M z W w X : Int) : Loc := [(nm "number", .int X), (nm "figures", .list (figs w)), (nm "whole", .int W), (nm "form", .int F), (nm "n", .int N), (nm "mode", .int M), (nm "z", .int z)]
theorem strZ_len (w : Int) (k : Nat) : (strZ (od w k)).length ≤ 1 :=by
  refine X12 (λd hd e =>?_) (od_nat w k)
  rw [e, strZ_dig d hd]; exact Nat.le_refl _
theorem join_oct (w : Int) : methJoin (nm "") ([.str (strZ (od w 5)), .str (strZ (od w 4)), .str (strZ (od w 3)), .str (strZ (od w 2)), .str (strZ (od w 1)), .str (strZ (od w 0))]) = some (.str (octT w)) := by
  refine methJoin_at (B := 1) (ts := [od w 5, od w 4, od w 3, od w 2, od w 1, od w 0].map strZ) (λt ht =>?_) (by show 6 * 1 + 6 * 0 ≤ _; decide)
  simp only [List.map_cons, List.map_nil, List.mem_cons, List.not_mem_nil, or_false] at ht
  rcases ht with h | h | h | h | h | h <;> subst h <;> exact strZ_len w _
noncomputable def V2' : EvT := evN G2 38
theorem t1_unf (F N M z W w X : Int) : V2.ev Γ42 t1E (ρ1 F N M z W w X) = ((V2'.ev Γ42 (argE t1E) (ρ1 F N M z W w X)).bind fun d => some [d]).bind fun ds => G2.meth (.str (nm "")) (nm "join") ds := by kernel_rfl
theorem t2_unf (F N M z W w X : Int) : V2.ev Γ42 t2E (ρ1 F N M z W w X) = ((V2'.ev Γ42 (argE t2E) (ρ1 F N M z W w X)).bind fun d => some [d]).bind fun ds => G2.meth (.str (nm "")) (nm "join") ds := by kernel_rfl
theorem t1_run (F N M z W w X : Int) : V2.ev Γ42 t1E (ρ1 F N M z W w X) = some (.str (octT W)) :=by
  have e : V2'.ev Γ42 (argE t1E) (ρ1 F N M z W w X) = some (.list (([.int 5, .int 4, .int 3, .int 2, .int 1, .int 0] : List PyData).flatMap λd =>match d with | .int k =>[PyData.str (strZ (od W k.toNat))] | _ =>[])) :=by
    refine ev_comp1 (G := G2) (n := 37) _ (by decide +kernel) (by decide +kernel) (by decide +kernel) rfl rfl (λd hd =>?_) (show 6 ≤ 100000 by decide)
    simp only [List.mem_cons, List.not_mem_nil, or_false] at hd
    rcases hd with h | h | h | h | h | h <;> subst h
    · show Option.bind (if (od W 5).natAbs.log2 < 1920 then _ else none) _ = _
      rw [if_pos (od_log _ _)]; rfl
    · show Option.bind (if (od W 4).natAbs.log2 < 1920 then _ else none) _ = _
      rw [if_pos (od_log _ _)]; rfl
    · show Option.bind (if (od W 3).natAbs.log2 < 1920 then _ else none) _ = _
      rw [if_pos (od_log _ _)]; rfl
    · show Option.bind (if (od W 2).natAbs.log2 < 1920 then _ else none) _ = _
      rw [if_pos (od_log _ _)]; rfl
    · show Option.bind (if (od W 1).natAbs.log2 < 1920 then _ else none) _ = _
      rw [if_pos (od_log _ _)]; rfl
    · show Option.bind (if (od W 0).natAbs.log2 < 1920 then _ else none) _ = _
      rw [if_pos (od_log _ _)]; rfl
  rw [t1_unf, e]
  exact join_oct W
theorem t2_run (F N M z W w X : Int) : V2.ev Γ42 t2E (ρ1 F N M z W w X) = some (.str (octT w)) :=by
  have e : V2'.ev Γ42 (argE t2E) (ρ1 F N M z W w X) = some (.list ((figs w).flatMap λd =>match d with | .int k =>[PyData.str (strZ k)] | _ =>[])) :=by
    refine ev_comp1 (G := G2) (n := 37) _ (by decide +kernel) (by decide +kernel) (by decide +kernel) rfl rfl (λd hd =>?_) (show 6 ≤ 100000 by decide)
    simp only [figs, List.mem_cons, List.not_mem_nil, or_false] at hd
    have key : ∃ k, d = .int (od w k) :=by
      rcases hd with h | h | h | h | h | h <;> exact ⟨_, h⟩
    obtain ⟨k, rfl⟩ := key
    show Option.bind (if (od w k).natAbs.log2 < 1920 then _ else none) _ = _
    rw [if_pos (od_log _ _)]; rfl
  rw [t2_unf, e]
  exact join_oct w
theorem run1_unf (z F N M : Int) : execs (E42 19) if1 (σ42 F N M z) = ((((V2.ev Γ42 t1E (ρ1 F N M z (Builtin.bitAnd M 61440 + Builtin.bitAnd M 4095) (M.fmod 65536) (octN (M.fmod 65536)))).bind fun a =>
    ((V2.ev Γ42 t2E (ρ1 F N M z (Builtin.bitAnd M 61440 + Builtin.bitAnd M 4095) (M.fmod 65536) (octN (M.fmod 65536)))).bind fun b => some [b, PyData.int (octN (M.fmod 65536)), PyData.list [.tuple [.int 100, .int (octN (M.fmod 65536))]]]).bind fun ds => some (a :: ds)).bind fun ds => some (PyData.tuple ds)).bind fun d =>
      some (Out.ret d, (⟨ρ1 F N M z (Builtin.bitAnd M 61440 + Builtin.bitAnd M 4095) (M.fmod 65536) (octN (M.fmod 65536)), none⟩ : St))).bind fun p => match p.1 with
        | .next =>some (.next, p.2)
        | o =>some (o, p.2) :=by
  kernel_rfl
theorem run1 {z F N M : Int} (h : (z.fmod 6 == 1) = true) : retD (execs (E42 20) (b42.drop 1) (σ42 F N M z)) = some (pcD (pcOct (M.fmod 65536))) :=by
  show retD (Option.bind (if (z.fmod 6 == 1) = true then execs (E42 19) if1 (σ42 F N M z) else _) _) = _
  rw [if_pos h, run1_unf, t1_run, t2_run]
  have e : Builtin.bitAnd M 61440 + Builtin.bitAnd M 4095 = M.fmod 65536 :=by
    rw [and_ifmt, and_imode, fm _ (by decide)]; omega
  rw [e]
  rfl
end Mine
end
section
namespace Mine
open PySem PySem.Spec PyProof.Rows PySem.W PySem.Builtin PySem.Builtin.Str PySem.NumText
theorem digit_none {c : Nat} (h : isDig c = false) {ds : Array Nat} : step 10 (ds, false) c = none :=by
  unfold NumText.step
  split
  · rfl
  · cases hd : digit? c with
    | none =>rfl
    | some d =>
      dsimp only
      have : ¬ d < 10 :=by
        unfold digit? at hd
        have hn : ¬ (48 ≤ c ∧ c ≤ 57) := λq =>by rw [isDig_iff.mpr q] at h; exact tnf h
        revert hd; refine iteC (λ_ hd =>?_) λ_ hd =>?_
        · rename_i q; simp only [Bool.and_eq_true, decide_eq_true_eq] at q; exact absurd q hn
        · revert hd; refine iteC (fun _ hd => ?_) fun _ hd => ?_
          · rename_i q; simp only [Bool.and_eq_true, decide_eq_true_eq] at q; replace hd := Option.some.inj hd; subst hd; omega
          · revert hd; refine iteC (fun _ hd => ?_) fun _ hd => ?_
            · rename_i q; simp only [Bool.and_eq_true, decide_eq_true_eq] at q; replace hd := Option.some.inj hd; subst hd; omega
            · exact nos hd
      rw [if_neg this]
theorem digits_no {cs : List Nat} (h : ∀ c ∈ cs, isDig c = false) : digits? 10 cs = none :=by
  cases cs with
  | nil =>rfl
  | cons c cs =>
    unfold digits?
    rw [List.foldlM_cons, digit_none (h c List.mem_cons_self)]
    rfl
theorem mem_dropWhile {p : Nat → Bool} {c : Nat} : ∀ {l : List Nat}, c ∈ l.dropWhile p → c ∈ l
  | [], h =>h
  | a :: l, h =>by
    rw [List.dropWhile_cons] at h
    split at h
    · exact List.mem_cons_of_mem _ (mem_dropWhile h)
    · exact h
theorem mem_takeWhile {p : Nat → Bool} {c : Nat} : ∀ {l : List Nat}, c ∈ l.takeWhile p → c ∈ l
  | a :: l, h =>by
    rw [List.takeWhile_cons] at h
    split at h
    · rcases List.mem_cons.mp h with h | h
      · exact h ▸ List.mem_cons_self
      · exact List.mem_cons_of_mem _ (mem_takeWhile h)
    · cases h
theorem mem_sign {c : Nat} {l : List Nat} (h : c ∈ (sign l).2) : c ∈ l :=by
  unfold sign at h
  split at h
  · exact List.mem_cons_of_mem _ h
  · exact List.mem_cons_of_mem _ h
  · exact h
theorem mem_core {c : Nat} {l : List Nat} (h : c ∈ core l) : c ∈ l :=by
  unfold core at h
  exact mem_dropWhile (mem_sign (List.mem_reverse.mp (mem_dropWhile (List.mem_reverse.mp h))))
theorem intText_nodig {x : Str} (hl : low x) (h : ∀ c ∈ x.cps.toList, isDig c = false) : PySem.intText? x = none :=by
  have e : numTextOf x = x.cps.toList := if_pos (by
    rw [← Array.all_toList, List.all_eq_true]
    intro c hc
    exact decide_eq_true (hl c hc))
  unfold PySem.intText?
  split
  · rw [digits_no]
    intro c hc
    have := mem_takeWhile (mem_core hc)
    rw [e] at this
    exact h c this
  · rfl
theorem reGo_plain : ∀ (cs txt : List Nat), (∀ c ∈ cs, isDig c = false ∧ isSep c = false) → reGo txt [] cs = [txt ++ cs]
  | [], txt, _ =>by rw [reGo_nil, List.append_nil]
  | c :: cs, txt, h =>by
    refine X02 (λh1 h2 =>?_) (h c List.mem_cons_self)
    rw [reGo_c, h1, h2, if_neg Bool.false_ne_true, if_neg Bool.false_ne_true, reGo_plain cs _ λd hd =>h d (List.mem_cons_of_mem _ hd), List.append_assoc]
    rfl
theorem kcW_word {w : Str} (hl : low w) (h : ∀ c ∈ w.cps.toList, isDig c = false ∧ isSep c = false) (hne : w.cps.toList ≠ []) : kcW w.cps.toList = [.inl ((stagesT.lookup w).getD 0), .inr w] :=by
  have hw : str! w.cps.toList = w := Str.ext' (by simp [str!])
  unfold kcW
  rw [reGo_plain _ _ h, List.nil_append, List.map_cons, List.map_nil, List.flatMap_cons, List.flatMap_nil, List.append_nil, hw]
  unfold kcV
  refine X21 (λc cs e =>?_) (List.exists_cons_of_ne_nil hne)
  rw [if_pos (notIn_of (c := c) (by rw [e]; exact List.mem_cons_self) (h c (by rw [e]; exact List.mem_cons_self)).2), intText_nodig hl λc hc =>(h c hc).1]
noncomputable def rowR : List Nat := [114, 119, 120, 115, 83, 116, 84, 45]
noncomputable def rowK : List Nat := [63, 112, 99, 100, 98, 45, 108, 115]
noncomputable def smallT : List (Str × Int) := [(nm "b", 30), (nm "c", 40), (nm "p", 200)]
theorem one_sign {s : Str} (h : s ∈ ([nm "r", nm "w", nm "x", nm "s", nm "S", nm "t", nm "T", nm "-"] : List Str)) : ∃ c ∈ rowR, s = ⟨#[c]⟩ := by
  simp only [List.mem_cons, List.not_mem_nil, or_false] at h
  rcases h with rfl | rfl | rfl | rfl | rfl | rfl | rfl | rfl
  · exact ⟨114, by decide, by decide⟩
  · exact ⟨119, by decide, by decide⟩
  · exact ⟨120, by decide, by decide⟩
  · exact ⟨115, by decide, by decide⟩
  · exact ⟨83, by decide, by decide⟩
  · exact ⟨116, by decide, by decide⟩
  · exact ⟨84, by decide, by decide⟩
  · exact ⟨45, by decide, by decide⟩
theorem one_kind {s : Str} (h : s ∈ ([nm "?", nm "p", nm "c", nm "d", nm "b", nm "-", nm "l", nm "s"] : List Str)) : ∃ c ∈ rowK, s = ⟨#[c]⟩ := by
  simp only [List.mem_cons, List.not_mem_nil, or_false] at h
  rcases h with rfl | rfl | rfl | rfl | rfl | rfl | rfl | rfl
  · exact ⟨63, by decide, by decide⟩
  · exact ⟨112, by decide, by decide⟩
  · exact ⟨99, by decide, by decide⟩
  · exact ⟨100, by decide, by decide⟩
  · exact ⟨98, by decide, by decide⟩
  · exact ⟨45, by decide, by decide⟩
  · exact ⟨108, by decide, by decide⟩
  · exact ⟨115, by decide, by decide⟩
theorem pick_mem {p : Int → Bool} {d : Str} : ∀ ts : List (Int × Str), pick p d ts ∈ d :: ts.map (·.2)
  | [] =>List.mem_cons_self
  | (b, c) :: r =>by
    unfold pick
    split
    · exact List.mem_cons_of_mem _ List.mem_cons_self
    · have := pick_mem (p := p) (d := d) r
      rcases List.mem_cons.mp this with h | h
      · rw [h]; exact List.mem_cons_self
      · exact List.mem_cons_of_mem _ (List.mem_cons_of_mem _ h)
noncomputable def rowT (m : Int) : Str := Str.join (nm "") (fmSigns m)
theorem join_signs : ∀ xs : List Str, (∀ s ∈ xs, ∃ c ∈ rowR, s = (⟨#[c]⟩ : Str)) → (∀ c ∈ (Str.join (nm "") xs).cps.toList, c ∈ rowR) ∧ (Str.join (nm "") xs).cps.toList.length = xs.length
  | [], _ =>⟨λc hc =>(by have hc : c ∈ (#[] : Array Nat).toList := hc; cases hc), rfl⟩
  | s :: xs, h =>by
    obtain ⟨c, hc, rfl⟩ := h s List.mem_cons_self
    refine X02 (λh1 h2 =>?_) (join_signs xs λs hs =>h s (List.mem_cons_of_mem _ hs))
    rw [join_empty, toList_app]
    refine ⟨λd hd =>?_, ?_⟩
    · rcases List.mem_append.mp hd with hd | hd
      · have : d = c := by simpa using hd
        rw [this]; exact hc
      · exact h1 d hd
    · rw [List.length_append, h2, List.length_cons]
      show 1 + xs.length = xs.length + 1
      omega
theorem rowT_eq (m : Int) : ∃ k ∈ rowK, ∃ r : List Nat, (rowT m).cps.toList = k :: r ∧ (∀ c ∈ r, c ∈ rowR) ∧ r.length = 9 :=by
  refine X12 (fun k hk e => ?_) (one_kind (s := pick (fun b => Builtin.bitAnd m 61440 == b) (nm "?") kindT) (by
    have := pick_mem (p := fun b => Builtin.bitAnd m 61440 == b) (d := nm "?") kindT
    revert this
    generalize pick (fun b => Builtin.bitAnd m 61440 == b) (nm "?") kindT = s
    intro h
    simp only [kindT, List.map_cons, List.map_nil, List.mem_cons, List.not_mem_nil, or_false] at h ⊢
    rcases h with h | h | h | h | h | h | h | h <;> simp [h]))
  have hs : ∀ s ∈ permT.map (pk m), ∃ c ∈ rowR, s = (⟨#[c]⟩ : Str) := λs hs =>by
    obtain ⟨ts, hts, rfl⟩ := List.mem_map.mp hs
    refine one_sign ?_
    have h1 := pick_mem (p := fun b => Builtin.bitAnd m b == b) (d := nm "-") ts
    have h2 : ∀ ts ∈ permT, ∀ s ∈ nm "-" :: ts.map (·.2), s ∈ ([nm "r", nm "w", nm "x", nm "s", nm "S", nm "t", nm "T", nm "-"] : List Str) := by decide
    exact h2 ts hts _ h1
  refine X02 (λh1 h2 =>?_) (join_signs _ hs)
  refine ⟨k, hk, _, ?_, h1, h2.trans (by rfl)⟩
  unfold rowT fmSigns
  rw [join_empty, toList_app, e]
  rfl
end Mine
end
section
namespace Mine
open PySem PySem.Spec PyProof.Rows PySem.W PySem.Builtin PySem.Builtin.Str PySem.NumText
theorem words_tail : ∀ (ws : List Str) {k : Nat} {r : List Nat}, (Str.join ⟨#[45]⟩ ws).cps.toList = k :: r → ∀ w ∈ ws, ∀ c ∈ w.cps.toList.tail, c ∈ r
  | [x], k, r, h, w, hw, c, hc =>by
    rw [List.mem_singleton.mp hw] at hc
    have h : x.cps.toList = k :: r := h
    rw [h] at hc; exact hc
  | x :: y :: rest, k, r, h, w, hw, c, hc =>by
    have e : (Str.join ⟨#[45]⟩ (x :: y :: rest)).cps.toList = x.cps.toList ++ 45 :: (Str.join ⟨#[45]⟩ (y :: rest)).cps.toList :=by
      rw [join_cons, toList_app, toList_app, List.append_assoc]; rfl
    rw [e] at h
    rcases List.mem_cons.mp hw with rfl | hw
    · cases hx : w.cps.toList with
      | nil =>rw [hx] at hc; cases hc
      | cons a l =>
        rw [hx] at hc h
        rw [List.cons_append, List.cons.injEq] at h
        rw [← h.2]
        exact List.mem_append_left _ hc
    · have hm : c ∈ (Str.join ⟨#[45]⟩ (y :: rest)).cps.toList := mem_join_of hw (List.mem_of_mem_tail hc)
      cases hx : x.cps.toList with
      | nil =>
        rw [hx, List.nil_append, List.cons.injEq] at h
        rw [← h.2]; exact hm
      | cons a l =>
        rw [hx, List.cons_append, List.cons.injEq] at h
        rw [← h.2]
        exact List.mem_append_right _ (List.mem_cons_of_mem _ hm)
theorem lookup_no {w : Str} : ∀ {T : List (Str × Int)}, (∀ p ∈ T, p.1 ≠ w) → T.lookup w = none
  | [], _ =>rfl
  | (a, b) :: T, h =>by
    have h1 : (w == a) = false := beq_eq_false_iff_ne.mpr λe =>h (a, b) List.mem_cons_self e.symm
    rw [List.lookup, h1]
    exact lookup_no λp hp =>h p (List.mem_cons_of_mem _ hp)
theorem stage_one : ∀ a ∈ rowK ++ rowR, (stagesT.lookup (⟨#[a]⟩ : Str)).getD 0 = (smallT.lookup (⟨#[a]⟩ : Str)).getD 0 :=by decide +kernel
theorem stage_two : ∀ d ∈ rowR, ∀ p ∈ stagesT, p.1.cps.toList[1]? ≠ some d :=by decide +kernel
theorem small_two : ∀ d ∈ rowR, ∀ p ∈ smallT, p.1.cps.toList[1]? ≠ some d :=by decide +kernel
theorem stage_eq {w : Str} {a : Nat} {l : List Nat} (hw : w.cps.toList = a :: l) (ha : a ∈ rowK ++ rowR) (hl : ∀ c ∈ l, c ∈ rowR) : (stagesT.lookup w).getD 0 = (smallT.lookup w).getD 0 :=by
  cases l with
  | nil =>
    have : w = ⟨#[a]⟩ := Str.ext' (by apply Array.toList_inj.mp; rw [hw])
    rw [this]; exact stage_one a ha
  | cons d l =>
    have hd := hl d List.mem_cons_self
    have e1 : stagesT.lookup w = none := lookup_no λp hp q =>stage_two d hd p hp (by rw [q, hw]; rfl)
    have e2 : smallT.lookup w = none := lookup_no λp hp q =>small_two d hd p hp (by rw [q, hw]; rfl)
    rw [e1, e2]
noncomputable def rowWords (m : Int) : List Str := (Txt.split (rowT m) (nm "-")).filter fun w => decide (w ≠ nm "")
noncomputable def wordKey (w : Str) : Key := ((smallT.lookup w).getD 0, .inr w)
noncomputable def pcRow (m : Int) : Pc := ⟨rowT m, none, (rowWords m).map wordKey⟩
theorem row_chars {m : Int} {c : Nat} (hc : c ∈ (rowT m).cps.toList) : c ∈ rowK ++ rowR :=by
  obtain ⟨k, hk, r, e, hr, u1⟩ := rowT_eq m
  rw [e] at hc
  rcases List.mem_cons.mp hc with rfl | hc
  · exact List.mem_append_left _ hk
  · exact List.mem_append_right _ (hr c hc)
theorem row_split (m : Int) : Str.join ⟨#[45]⟩ (Txt.split (rowT m) (nm "-")) = rowT m := by rw [nm_dash]; exact StrLaws.join_split _ _
theorem alpha_plain : ∀ c ∈ rowK ++ rowR, isDig c = false ∧ (c ≠ 45 → isSep c = false) ∧ c < 128 ∧ Unicode.isSpace c = false ∧ platSafe c = true ∧ c ≠ 46 ∧ c ≠ 32 :=by decide +kernel
theorem word_facts {m : Int} {w : Str} (hw : w ∈ Txt.split (rowT m) (nm "-")) : (∀ c ∈ w.cps.toList, c ∈ rowK ++ rowR ∧ c ≠ 45) ∧ (w ≠ nm "" → kcW w.cps.toList = [.inl ((smallT.lookup w).getD 0), .inr w]) ∧ w.length ≤ 10 ∧ low w := by
  obtain ⟨k, hk, r, e, hr, hlen⟩ := rowT_eq m
  have hj := row_split m
  have hc : ∀ c ∈ w.cps.toList, c ∈ rowK ++ rowR ∧ c ≠ 45 := λc hc =>by
    refine ⟨row_chars (m := m) (by rw [← hj]; exact mem_join_of hw hc), λq =>?_⟩
    rw [nm_dash] at hw
    exact StrLaws.split_free (rowT m) 45 w hw (q ▸ hc)
  have hlow : low w := λc h =>(alpha_plain c (hc c h).1).2.2.1
  have hl10 : w.length ≤ 10 :=by
    have := part_short hw
    have e2 : (rowT m).length = 10 :=by show (rowT m).cps.size = 10; rw [← Array.length_toList, e, List.length_cons, hlen]
    omega
  refine ⟨hc, λhne =>?_, hl10, hlow⟩
  cases hx : w.cps.toList with
  | nil =>
    refine absurd ?_ hne
    have h1 : w = ⟨#[]⟩ := Str.ext' (by apply Array.toList_inj.mp; rw [hx])
    rw [h1]; rfl
  | cons a l =>
    have ht := words_tail (Txt.split (rowT m) (nm "-")) (by rw [hj, e]) w hw
    rw [hx] at ht
    rw [← hx, kcW_word hlow (λc h =>⟨(alpha_plain c (hc c h).1).1, (alpha_plain c (hc c h).1).2.1 (hc c h).2⟩) (by rw [hx]; simp)]
    rw [stage_eq hx (hc a (by rw [hx]; exact List.mem_cons_self)).1 (λc h =>hr c (ht c h))]
theorem words_flat : ∀ ws : List Str, (∀ w ∈ ws, w ≠ nm "" → kcW w.cps.toList = [.inl ((smallT.lookup w).getD 0), .inr w]) → (ws.flatMap fun t => kcW t.cps.toList) = flatK ((ws.filter fun w => decide (w ≠ nm "")).map wordKey)
  | [], _ =>rfl
  | w :: ws, h =>by
    have ih := words_flat ws λw hw =>h w (List.mem_cons_of_mem _ hw)
    rw [List.flatMap_cons, ih, List.filter_cons]
    by_cases q : w = nm ""
    · rw [decide_eq_false (fun h => h q), if_neg Bool.false_ne_true, q]
      have : kcW (nm "").cps.toList = [] := kcW_nil
      rw [this, List.nil_append]
    · rw [decide_eq_true q, if_pos rfl, h w List.mem_cons_self q]
      rfl
theorem row_keys (m : Int) : kcW (rowT m).cps.toList = flatK ((rowWords m).map wordKey) :=by
  have h := words_flat (Txt.split (rowT m) (nm "-")) fun w hw => (word_facts hw).2.1
  rw [← kcW_join (c := 45) (by decide), row_split] at h
  exact h
theorem small_rank (w : Str) : ((smallT.lookup w).getD 0 != 100) = true :=by
  cases h : smallT.lookup w with
  | none =>rfl
  | some r =>
    have := PySem.mem_of_lookup h
    exact (by decide : ∀ p ∈ smallT, (p.2 != 100) = true) _ this
theorem rowT_len (m : Int) : (rowT m).length = 10 :=by
  obtain ⟨k, hk, r, e, hr, hlen⟩ := rowT_eq m
  show (rowT m).cps.size = 10
  rw [← Array.length_toList, e, List.length_cons, hlen]
theorem rowT_low (m : Int) : low (rowT m) := λc hc =>(alpha_plain c (row_chars hc)).2.2.1
theorem rowT_strip (m : Int) : Txt.strip (rowT m) = rowT m := strip_none λc hc =>(alpha_plain c (row_chars hc)).2.2.2.1
theorem rowWords_sub {m : Int} {w : Str} (hw : w ∈ rowWords m) : w ∈ Txt.split (rowT m) (nm "-") := (List.mem_filter.mp hw).1
theorem rowWords_len (m : Int) : (rowWords m).length ≤ 12 :=by
  have h1 : (rowWords m).length ≤ (Txt.split (rowT m) (nm "-")).length := List.length_filter_le _ _
  have h2 := split_le (rowT m) (nm "-")
  rw [rowT_len] at h2
  exact Nat.le_trans h1 h2
theorem rowKey_ok {m : Int} {w : Str} (hw : w ∈ rowWords m) : keyB (wordKey w) = true :=by
  refine X04 (λu2 u3 f3 f4 =>?_) (word_facts (rowWords_sub hw))
  show ((smallT.lookup w).getD 0 != 100 && (w.cps.toList.all (λc =>decide (c < 128)) && decide (w.length ≤ 20))) = true
  rw [small_rank, decide_eq_true (show w.length ≤ 20 by omega), List.all_eq_true.mpr λc hc =>decide_eq_true (f4 c hc)]
  rfl
theorem rowKey_blank {m : Int} {w : Str} (hw : w ∈ rowWords m) : wordKey w ≠ blankK := λq =>by
  have : w = ⟨#[32]⟩ := Sum.inr.inj (congrArg Prod.snd q)
  have h32 := (word_facts (rowWords_sub hw)).1 32 (by rw [this]; simp)
  exact (alpha_plain 32 h32.1).2.2.2.2.2.2 rfl
theorem mk_piece {t : Str} {num : Option Int} {keys : List Key} (h1 : low t) (h2 : t.length ≤ 20) (h3 : kcW t.cps.toList = flatK keys) (h4 : PySem.intText? t = num) (h5 : ∀ n, num = some n → n.natAbs < 10000000) (h6 : ∀ k ∈ keys, keyB k = true) (h7 : keys.length ≤ 20)
    (h8 : 46 ∉ t.cps.toList) (h9 : PlatOk t) (h10 : kcW (Txt.strip t).cps.toList = flatK (keys.filter λk =>decide (k ≠ blankK))) : PieceOk ⟨t, num, keys⟩ := ⟨⟨h1, h2, h3, h4, h5, h6, h7⟩, h8, h9, h10⟩
theorem pcRow_ok (m : Int) : PieceOk (pcRow m) :=by
  have hl : (rowT m).length ≤ 20 := Nat.le_trans (Nat.le_of_eq (rowT_len m)) (by decide)
  refine mk_piece (rowT_low m) hl (row_keys m) (intText_nodig (rowT_low m) λc hc =>(alpha_plain c (row_chars hc)).1) (λn hn =>nomatch hn) (λkey hkey =>?_) ?_ (λhm =>(alpha_plain 46 (row_chars hm)).2.2.2.2.2.1 rfl) ⟨hl, ?_, λc hc =>?_⟩ ?_
  · obtain ⟨w, hw, rfl⟩ := List.mem_map.mp hkey
    exact rowKey_ok hw
  · rw [List.length_map]
    exact Nat.le_trans (rowWords_len m) (by decide)
  · rw [rowT_strip]; exact hl
  · rw [rowT_strip] at hc
    exact (alpha_plain c (row_chars hc)).2.2.2.2.1
  · rw [rowT_strip, row_keys, List.filter_eq_self.mpr]
    intro key hkey
    obtain ⟨w, hw, rfl⟩ := List.mem_map.mp hkey
    exact decide_eq_true (rowKey_blank hw)
end Mine
end
section
namespace Mine
open PySem PySem.Spec PyProof.Rows PySem.W PySem.Builtin PySem.Builtin.Str PySem.NumText
theorem ne_str {a b : Str} (ha : low a) (hb : low b) : cmpD .NotEq (.str a) (.str b) = some (!(a == b)) :=by
  have : okD (.str a) (.str b) = true :=by
    unfold okD
    rw [low_ok ha, low_ok hb]; rfl
  show (if okD (.str a) (.str b) = true then some (!PyData.eqv (.str a) (.str b)) else none) = _
  rw [if_pos this, PyData.eqv]
noncomputable def if3 : List Stmt := sBody (at' b42 2)
noncomputable def lcE : Expr := (tupE (retE (if3.getD 1 (.Pass default)))).getD 3 (.Constant .none 0 default)
noncomputable def ρ3 (F N M z : Int) (R : Str) : Loc := [(nm "row", .str R), (nm "form", .int F), (nm "n", .int N), (nm "mode", .int M), (nm "z", .int z)]
noncomputable def wordD (w : Str) : List PyData := if w == nm "" then [] else [.tuple [.int ((smallT.lookup w).getD 0), .str w]]
theorem lc_run {F N M z : Int} {R : Str} (hR : R.length ≤ 20) (hl : ∀ w ∈ Txt.split R (nm "-"), low w) : V2.ev Γ42 lcE (ρ3 F N M z R) = some (.list (((Txt.split R (nm "-")).map PyData.str).flatMap fun d => match d with | .str w => wordD w | _ => [])) := by
  have hs := split_le R (nm "-")
  refine ev_comp1 (G := G2) (n := 38) _ (by decide +kernel) (by decide +kernel) (by decide +kernel) rfl ?_ (λd hd =>?_) ?_
  · show Option.bind (if (nm "-").length ≠ 0 ∧ R.length ≤ 100000 ∧ (Txt.split R (nm "-")).length ≤ 100000 then _ else none) _ = _
    rw [if_pos ⟨by decide, by omega, by omega⟩]
    rfl
  · obtain ⟨w, hw, rfl⟩ := List.mem_map.mp hd
    show Option.bind (Option.bind (cmpD .NotEq (.str w) (.str (nm ""))) _) _ = _
    rw [ne_str (hl w hw) (by unfold low; decide)]
    unfold wordD
    dsimp only
    cases q : (w == nm "") with
    | true =>rw [if_pos rfl]; rfl
    | false =>rw [if_neg Bool.false_ne_true]; rfl
  · have : ∀ ws : List Str, ((ws.map PyData.str).flatMap λd =>match d with | .str w =>wordD w | _ =>[]).length ≤ ws.length :=by
      intro ws
      induction ws with
      | nil =>exact Nat.le_refl _
      | cons w ws ih =>
        rw [List.map_cons, List.flatMap_cons, List.length_append, List.length_cons]
        have h1 : (wordD w).length ≤ 1 :=by unfold wordD; split <;> simp
        dsimp only
        omega
    exact Nat.le_trans (this _) (by omega)
theorem words_eq : ∀ ws : List Str, ((ws.map PyData.str).flatMap fun d => match d with | .str w => wordD w | _ => []) = ((ws.filter fun w => decide (w ≠ nm "")).map wordKey).map keyD
  | [] =>rfl
  | w :: ws =>by
    rw [List.map_cons, List.flatMap_cons, words_eq ws, List.filter_cons]
    by_cases q : w = nm ""
    · rw [decide_eq_false (fun h => h q), if_neg Bool.false_ne_true]
      show wordD w ++ _ = _
      unfold wordD
      rw [q, if_pos (beq_self_eq_true _), List.nil_append]
    · rw [decide_eq_true q, if_pos rfl]
      show wordD w ++ _ = _
      unfold wordD
      rw [if_neg (by simpa using q)]
      rfl
theorem run3_unf (z F N M : Int) (R : Str) : execs (E42 19) (if3.drop 1) ⟨ρ3 F N M z R, none⟩ = ((((specA G1 38 [.int M]).bind fun a =>
    ((((V2.ev Γ42 lcE (ρ3 F N M z R)).bind fun b => some [b]).bind fun ds => some (PyData.none :: ds)).bind fun ds => some (PyData.str R :: ds)).bind fun ds => some (a :: ds)).bind fun ds => some (PyData.tuple ds)).bind fun d =>
      some (Out.ret d, (⟨ρ3 F N M z R, none⟩ : St))).bind fun p => match p.1 with
        | .next =>some (.next, p.2)
        | o =>some (o, p.2) :=by
  kernel_rfl
theorem run3 {z F N M : Int} (h : (z.fmod 6 == 3) = true) : retD (execs (E42 20) (b42.drop 2) (σ42 F N M z)) = some (pcD (pcRow M)) :=by
  show retD (Option.bind (if (z.fmod 6 == 3) = true then execs (E42 19) if3 (σ42 F N M z) else _) _) = _
  rw [if_pos h]
  have e : execs (E42 19) if3 (σ42 F N M z) = execs (E42 19) (if3.drop 1) ⟨ρ3 F N M z (rowT M), none⟩ :=by
    show Option.bind (Option.bind (specA G0 41 [.int M]) _) _ = _
    rw [show specA G0 41 [.int M] = some (.str (rowT M)) from row_at M]
    rfl
  rw [e, run3_unf, show specA G1 38 [.int M] = some (.str (rowT M)) from fm_at M, lc_run (Nat.le_trans (Nat.le_of_eq (rowT_len M)) (by decide)) (λw hw =>(word_facts hw).2.2.2), words_eq]
  kernel_rfl
noncomputable def pieceOf (z : Int) : Pc :=
  if z.fmod 6 = 1 then pcOct ((modeI (z.fdiv 6)).fmod 65536) else if z.fmod 6 = 3 then pcRow (modeI (z.fdiv 6)) else
  if z.fmod 6 = 0 then pcZero ((z.fdiv 78).fmod 3).toNat ((z.fdiv 6).fmod 13).toNat else
  if z.fmod 6 = 2 then pcWord (wordsT.getD ((z.fdiv 6).fmod 12).toNat (0, nm "")) else
  if z.fmod 6 = 4 then pcNone else pcSign ((z.fdiv 78).fmod 4).toNat ((z.fdiv 6).fmod 13).toNat
theorem pieceOf_ok (z : Int) : PieceOk (pieceOf z) :=by
  unfold pieceOf
  refine X12 (λk3 h3 e3 =>?_) (fmod_nat (z.fdiv 78) (b := 3) (by decide))
  refine X12 (λk4 h4 e4 =>?_) (fmod_nat (z.fdiv 78) (b := 4) (by decide))
  refine X12 (λk12 h12 e12 =>?_) (fmod_nat (z.fdiv 6) (b := 12) (by decide))
  refine X12 (λn hn en =>?_) (fmod_nat (z.fdiv 6) (b := 13) (by decide))
  have e3 : (z.fdiv 78).fmod 3 = k3 := e3
  have e4 : (z.fdiv 78).fmod 4 = k4 := e4
  have e12 : (z.fdiv 6).fmod 12 = k12 := e12
  have en : (z.fdiv 6).fmod 13 = n := en
  rw [e3, e4, e12, en]
  simp only [Int.toNat_natCast]
  split
  · exact pcOct_ok _
  · split
    · exact pcRow_ok _
    · split
      · exact pieceOk_of (pcZero_ok _ h3 _ hn)
      · split
        · refine pieceOk_of (pcWord_ok _ ?_)
          rw [List.getD_eq_getElem?_getD, List.getElem?_eq_getElem (show k12 < wordsT.length from h12)]
          exact List.getElem_mem _
        · split
          · exact pieceOk_of pcNone_ok
          · have : k4 = 0 ∨ k4 = 1 ∨ k4 = 2 ∨ k4 = 3 := by omega
            rcases this with h | h | h | h <;> subst h
            · exact pieceOk_of (pcPlus_ok _ hn)
            · exact pieceOk_of (pcMinus_ok _ hn)
            · exact pieceOk_of (pcBlank_ok _ hn)
            · exact pieceOk_of (pcTwice_ok _ hn)
theorem beq_f {a b : Int} (h : a ≠ b) : (a == b) = false := beq_eq_false_iff_ne.mpr h
theorem beq_t {a b : Int} (h : a = b) : (a == b) = true := beq_iff_eq.mpr h
theorem piece_at (z : Int) : specA G2 42 [.int z] = some (pcD (pieceOf z)) :=by
  unfold pieceOf
  refine X12 (λk3 h3 e3 =>?_) (fmod_nat (z.fdiv 78) (b := 3) (by decide))
  refine X12 (λk4 h4 e4 =>?_) (fmod_nat (z.fdiv 78) (b := 4) (by decide))
  refine X12 (λk12 h12 e12 =>?_) (fmod_nat (z.fdiv 6) (b := 12) (by decide))
  refine X12 (λn hn en =>?_) (fmod_nat (z.fdiv 6) (b := 13) (by decide))
  have e3 : (z.fdiv 78).fmod 3 = k3 := e3
  have e4 : (z.fdiv 78).fmod 4 = k4 := e4
  have e12 : (z.fdiv 6).fmod 12 = k12 := e12
  have en : (z.fdiv 6).fmod 13 = n := en
  rw [p_unf, en]
  split
  · rename_i h
    rw [run1 (beq_t h)]
  · rename_i h1
    rw [skip1 (beq_f h1)]
    split
    · rename_i h
      rw [run3 (beq_t h)]
    · rename_i h3'
      rw [skip3 (beq_f h3')]
      split
      · rename_i h
        rw [run0 h3 hn (beq_t h) e3, e3, Int.toNat_natCast, Int.toNat_natCast]
      · rename_i h0
        split
        · rename_i h
          rw [run2 h12 (beq_f h0) (beq_t h) e12, e12, Int.toNat_natCast]
        · rename_i h2
          split
          · rename_i h
            rw [run4 (beq_f h0) (beq_f h2) (beq_t h)]
          · rename_i h4'
            rw [run5 h4 hn (beq_f h0) (beq_f h2) (beq_f h4') e4, e4, Int.toNat_natCast, Int.toNat_natCast]
end Mine
end
section
namespace Mine
open PySem PySem.Spec PyProof.Rows PySem.W PySem.Builtin PySem.Builtin.Str
theorem compL_over {α : Type} {D : α → PyData} {b : PyData → Option Loc} {i : Loc → Option Bool} {n : Loc → Option (List PyData)} (f : α → List PyData) : ∀ {as : List α}, (∀ a ∈ as, ((b (D a)).bind fun ρ₁ => (i ρ₁).bind fun ok => if ok then n ρ₁ else some []) = some (f a)) → compL b i n (as.map D) = some (as.flatMap f)
  | [], _ =>rfl
  | a :: r, h =>by
    have h1 := h a List.mem_cons_self
    have ih := compL_over (b := b) (i := i) (n := n) (D := D) f (as := r) λx hx =>h x (List.mem_cons_of_mem _ hx)
    revert h1; refine bsC λρ₁ e1 h1 =>?_
    revert h1; refine bsC λok e2 h1 =>?_
    rw [List.map_cons, compL, e1, Option.bind_some, e2, Option.bind_some, h1, ih]
    rfl
theorem compT_more {α : Type} {D : α → PyData} {V : EvT} {Γ : Sc} {elt : Expr} {g g' : Comprehension} {gs : List Comprehension} {ρ : Loc} {as : List α} (f : α → List PyData) (ha : g.is_async = 0) (hi : iterTup Γ g.iter = false)
    (h : ∀ a ∈ as, ((bindC g.target (D a) Γ ρ).bind λρ₁ =>(allIfs (λc =>V.ts Γ c ρ₁) g.ifs).bind λok =>if ok then ((iterE V Γ g'.iter ρ₁).bind λds' =>compT V Γ elt (g' :: gs) ds' ρ₁) else some []) = some (f a)) : compT V Γ elt (g :: g' :: gs) (as.map D) ρ = some (as.flatMap f) :=by
  rw [compT, if_neg (by simp [ha, hi])]
  exact compL_over f h
theorem compT_last {α : Type} {D : α → PyData} {V : EvT} {Γ : Sc} {elt : Expr} {g : Comprehension} {ρ : Loc} {as : List α} (f : α → List PyData) (ha : g.is_async = 0) (hi : iterTup Γ g.iter = false)
    (h : ∀ a ∈ as, ((bindC g.target (D a) Γ ρ).bind λρ₁ =>(allIfs (λc =>V.ts Γ c ρ₁) g.ifs).bind λok =>if ok then ((V.ev Γ elt ρ₁).bind λd =>some [d]) else some []) = some (f a)) : compT V Γ elt [g] (as.map D) ρ = some (as.flatMap f) :=by
  rw [compT, if_neg (by simp [ha, hi])]
  exact compL_over f h
theorem ev_compT {G : Gl} {n : Nat} {Γ : Sc} {elt : Expr} {g : Comprehension} {gs : List Comprehension} {scope : Scope} {p : Pos} {ρ : Loc} {ds xs : List PyData} (hs : scopeOk Γ scope = true) (hi : iterTup Γ g.iter = false) (ha : (g :: gs).all (fun g => g.is_async == 0) = true) (h1 : iterE (evN G n) Γ g.iter ρ = some ds)
    (h2 : compT (evN G n) (Γ.inner scope) elt (g :: gs) ds (innerLoc Γ scope ρ) = some xs) (hl : xs.length ≤ 100000) : (evN G (n + 1)).ev Γ (.ListComp elt (g :: gs) scope p) ρ = some (.list xs) :=by
  show (compE (evN G n) Γ elt (g :: gs) scope ρ).bind _ = _
  unfold compE
  dsimp only
  rw [if_pos ⟨hs, hi, ha⟩, h1, Option.bind_some, h2, Option.bind_some, if_pos hl]
  rfl
noncomputable def flatW (ps : List Pc) : List Wd := ps.flatMap λp =>flatK p.keys
theorem flatK_len (ks : List Key) : (flatK ks).length = 2 * ks.length :=by
  induction ks with
  | nil =>rfl
  | cons k ks ih =>
    unfold flatK at ih ⊢
    rw [List.flatMap_cons, List.length_append, ih, List.length_cons]
    show 2 + 2 * ks.length = 2 * (ks.length + 1)
    omega
theorem flatW_len {ps : List Pc} (h : ∀ p ∈ ps, p.keys.length ≤ 20) : (flatW ps).length ≤ 40 * ps.length :=by
  induction ps with
  | nil =>exact Nat.le_refl _
  | cons p ps ih =>
    unfold flatW at ih ⊢
    rw [List.flatMap_cons, List.length_append, List.length_cons, flatK_len]
    have h1 := ih λq hq =>h q (List.mem_cons_of_mem _ hq)
    have h2 := h p List.mem_cons_self
    omega
noncomputable def b44E : Expr := retE (at' (fnAt 44).body 0)
noncomputable def ρ44 (ps : List Pc) : Loc := [(nm "pieces", .list (ps.map pcD))]
noncomputable def Γ44 : Sc := (ctxA G0 44).Γ.inner (lcScope b44E)
noncomputable def C44 (k : Nat) (ds : List PyData) (ρ : Loc) : Option (List PyData) := compT (evN G0 39) Γ44 (lcElt b44E) ((lcGens b44E).drop k) ds ρ
theorem c44_2 (ds : List PyData) (p k : PyData) : C44 2 ds [(nm "key", k), (nm "one", p)] = some ds := by
  have := compT_last (D := id) (V := evN G0 39) (Γ := Γ44) (elt := lcElt b44E) (g := (lcGens b44E).getD 2 ⟨ndE, ndE, [], 0⟩) (ρ := [(nm "key", k), (nm "one", p)]) (as := ds) (fun d => [d]) rfl (by decide +kernel) (fun d _ => by kernel_rfl)
  rw [List.map_id, List.flatMap_singleton'] at this
  exact this
theorem c44_1 (ks : List Key) (p : PyData) : C44 1 (ks.map keyD) [(nm "one", p)] = some ((flatK ks).map wdD) := by
  have := compT_more (D := keyD) (V := evN G0 39) (Γ := Γ44) (elt := lcElt b44E) (g := (lcGens b44E).getD 1 ⟨ndE, ndE, [], 0⟩) (g' := (lcGens b44E).getD 2 ⟨ndE, ndE, [], 0⟩) (gs := []) (ρ := [(nm "one", p)]) (as := ks) (fun k => [.int k.1, wdD k.2]) rfl (by decide +kernel)
    (fun k _ => Eq.trans (b := C44 2 [.int k.1, wdD k.2] [(nm "key", keyD k), (nm "one", p)]) (by kernel_rfl) (c44_2 _ _ _))
  refine Eq.trans this (congrArg some ?_)
  unfold flatK
  rw [← flatMap_map']
  rfl
theorem c44_0 (ps : List Pc) : C44 0 (ps.map pcD) [] = some ((flatW ps).map wdD) :=by
  have := compT_more (D := pcD) (V := evN G0 39) (Γ := Γ44) (elt := lcElt b44E) (g := (lcGens b44E).getD 0 ⟨ndE, ndE, [], 0⟩) (g' := (lcGens b44E).getD 1 ⟨ndE, ndE, [], 0⟩) (gs := (lcGens b44E).drop 2) (ρ := []) (as := ps) (fun p => (flatK p.keys).map wdD) rfl (by decide +kernel)
    (fun p _ => Eq.trans (b := C44 1 (p.keys.map keyD) [(nm "one", pcD p)]) (by kernel_rfl) (c44_1 _ _))
  refine Eq.trans this (congrArg some flatMap_map')
theorem flat_unf (ps : List Pc) : specA G0 44 [.list (ps.map pcD)] = retD ((((((C44 0 (ps.map pcD) []).bind fun xs => if xs.length ≤ 100000 then some xs else none).bind fun xs => some (PyData.list xs)).bind fun d => some (Out.ret d, (⟨ρ44 ps, none⟩ : St))).bind fun p => match p.1 with
        | .next =>some (.next, p.2)
        | o =>some (o, p.2))) :=by kernel_rfl
theorem flat_at {ps : List Pc} (hp : ps.length ≤ 1000) (h : ∀ p ∈ ps, p.keys.length ≤ 20) : specA G0 44 [.list (ps.map pcD)] = some (.list ((flatW ps).map wdD)) :=by
  have hlen := flatW_len h
  rw [flat_unf, c44_0, Option.bind_some, if_pos (by rw [List.length_map]; omega)]
  rfl
end Mine
end
section
namespace Mine
open PySem PySem.Spec PyProof.Rows PySem.W PySem.Builtin PySem.Builtin.Str
theorem lay_cons {d : PyData} {ds : List PyData} (h : PyData.canLay0 d = true) (h2 : PyData.canLayAll0 ds = true) : PyData.canLayAll0 (d :: ds) = true :=by
  rw [PyData.canLayAll0, h, h2]; rfl
theorem lay_map {α : Type} {f : α → PyData} : ∀ {as : List α}, (∀ a ∈ as, PyData.canLay0 (f a) = true) → PyData.canLayAll0 (as.map f) = true
  | [], _ =>by rw [List.map_nil, PyData.canLayAll0]
  | a :: as, h =>by rw [List.map_cons]; exact lay_cons (h a List.mem_cons_self) (lay_map λb hb =>h b (List.mem_cons_of_mem _ hb))
theorem lay_wd {w : Wd} (h : wdB w = true) : PyData.canLay0 (wdD w) = true :=by
  cases w with
  | inl n =>show PyData.canLay0 (.int n) = true; rw [PyData.canLay0]
  | inr s =>
    refine low_ok λc hc =>?_
    simp only [wdB, Bool.and_eq_true, List.all_eq_true, decide_eq_true_eq] at h
    exact h.1 c hc
theorem keyB_wd {k : Key} (h : keyB k = true) : wdB k.2 = true :=by
  obtain ⟨r, w⟩ := k
  cases w with
  | inl n =>rfl
  | inr s =>simp only [keyB, Bool.and_eq_true] at h; exact h.2
theorem lay_list {ds : List PyData} (h : PyData.canLayAll0 ds = true) : PyData.canLay0 (.list ds) = true :=by rw [PyData.canLay0]; exact h
theorem lay_tuple {ds : List PyData} (h : PyData.canLayAll0 ds = true) : PyData.canLay0 (.tuple ds) = true :=by rw [PyData.canLay0]; exact h
theorem lay_nil : PyData.canLayAll0 [] = true :=by rw [PyData.canLayAll0]
theorem lay_int (n : Int) : PyData.canLay0 (.int n) = true :=by rw [PyData.canLay0]
theorem lay_key {k : Key} (h : keyB k = true) : PyData.canLay0 (keyD k) = true := lay_tuple (lay_cons (lay_int _) (lay_cons (lay_wd (keyB_wd h)) lay_nil))
theorem lay_num (n : Option Int) : PyData.canLay0 (numD n) = true :=by cases n <;> (unfold numD; rw [PyData.canLay0])
theorem lay_pc {p : Pc} (hl : low p.t) (hk : ∀ k ∈ p.keys, keyB k = true) : PyData.canLay0 (pcD p) = true :=
  lay_tuple (lay_cons (low_ok hl) (lay_cons (low_ok hl) (lay_cons (lay_num _) (lay_cons (lay_list (lay_map λk h =>lay_key (hk k h))) lay_nil))))
theorem okD_nil {a : PyData} (h : PyData.canLay0 a = true) : okD a (.list []) = true :=by
  unfold okD
  rw [h, lay_list lay_nil]
  have : PyData.depth (.list []) = 1 :=by rw [PyData.depth, PyData.depthAll]
  rw [this]
  simp
theorem eq_nil {xs : List PyData} (h : PyData.canLayAll0 xs = true) : cmpD .Eq (.list xs) (.list []) = some xs.isEmpty :=by
  show (if okD (.list xs) (.list []) = true then some (PyData.eqv (.list xs) (.list [])) else none) = _
  rw [if_pos (okD_nil (lay_list h)), PyData.eqv]
  cases xs <;> (rw [PyData.eqvAll]; rfl)
theorem ne_nil {xs : List PyData} (h : PyData.canLayAll0 xs = true) : cmpD .NotEq (.list xs) (.list []) = some (!xs.isEmpty) :=by
  show (if okD (.list xs) (.list []) = true then some (!PyData.eqv (.list xs) (.list [])) else none) = _
  rw [if_pos (okD_nil (lay_list h)), PyData.eqv]
  cases xs <;> (rw [PyData.eqvAll]; rfl)
noncomputable def b45 : List Stmt := (fnAt 45).body
noncomputable def E45 (n : Nat) : Stmt → St → Option (Out × St) := exN (ctxA G1 45) (evN G1 40) n
noncomputable def ρ45 (ps : List Pc) (b : Pc) : Loc := [(nm "pieces", .list (ps.map pcD)), (nm "build", pcD b)]
noncomputable def partsP (ps : List Pc) (b : Pc) : List Pc := ps ++ (if b.t = nm "" then [] else [b])
theorem n_step1 {ps : List Pc} {b : Pc} (hb : low b.t) (hl : ps.length ≤ 1000) : execs (E45 20) b45 ⟨ρ45 ps b, none⟩ = execs (E45 20) (b45.drop 1) ⟨(nm "parts", .list ((partsP ps b).map pcD)) :: ρ45 ps b, none⟩ := by
  have e : execs (E45 20) b45 ⟨ρ45 ps b, none⟩ = (((((cmpD .NotEq (.str b.t) (.str (nm ""))).bind fun c => if c then some (PyData.list [pcD b]) else some (.list [])).bind fun y => binD .Add (.list (ps.map pcD)) y).bind fun d => (some (⟨(nm "parts", d) :: ρ45 ps b, none⟩ : St)).bind fun σ' => some (Out.next, σ'))).bind fun p => match p.1 with
      | .next =>execs (E45 20) (b45.drop 1) p.2
      | o =>some (o, p.2) :=by kernel_rfl
  rw [e, ne_str hb (by unfold low; decide), Option.bind_some]
  unfold partsP
  by_cases q : b.t = nm ""
  · rw [if_pos q, q, beq_self_eq_true]
    show Option.bind (Option.bind (if (ps.map pcD).length + 0 ≤ 100000 then _ else none) _) _ = _
    rw [if_pos (by rw [List.length_map]; omega)]
    simp only [List.append_nil]
    rfl
  · rw [if_neg q, beq_eq_false_iff_ne.mpr q]
    show Option.bind (Option.bind (if (ps.map pcD).length + 1 ≤ 100000 then _ else none) _) _ = _
    rw [if_pos (by rw [List.length_map]; omega), List.map_append]
    rfl
noncomputable def noNum (ps : List Pc) : List Pc := ps.filter λp =>p.num.isNone
noncomputable def if45T : Expr := cmpL (sTest (at' b45 1))
noncomputable def if45B : List Stmt := sBody (at' b45 1)
noncomputable def Γ45 : Sc := (ctxA G1 45).Γ
noncomputable def V1 (n : Nat) : EvT := evN G1 n
noncomputable def CT (V : EvT) (Γ : Sc) (e : Expr) (k : Nat) (ds : List PyData) (ρ : Loc) : Option (List PyData) := compT V (Γ.inner (lcScope e)) (lcElt e) ((lcGens e).drop k) ds ρ
noncomputable def lim (xs : List PyData) : Option (List PyData) := if xs.length ≤ 100000 then some xs else none
theorem flatMap_if {α : Type} {p : α → Bool} {D : α → PyData} : ∀ as : List α, (as.flatMap fun a => if p a then [D a] else []) = (as.filter p).map D
  | [] =>rfl
  | a :: as =>by
    rw [List.flatMap_cons, flatMap_if as, List.filter_cons]
    cases p a <;> rfl
theorem n_filter (qs : List Pc) : CT (V1 38) Γ45 if45T 0 (qs.map pcD) [] = some ((noNum qs).map pcD) :=by
  have := compT_last (D := pcD) (V := V1 38) (Γ := Γ45.inner (lcScope if45T)) (elt := lcElt if45T) (g := gen0 if45T 0) (ρ := []) (as := qs) (fun p => if p.num.isNone then [pcD p] else []) rfl (by decide +kernel)
    (λp _ =>by obtain ⟨t, num, keys⟩ := p; cases num <;> kernel_rfl)
  rw [flatMap_if] at this
  exact this
theorem n_test (qs ps : List Pc) (b : Pc) : (V1 40).ts Γ45 (.Compare if45T [.Eq] [.List [] default] default) ((nm "parts", .list (qs.map pcD)) :: ρ45 ps b) = (((CT (V1 38) Γ45 if45T 0 (qs.map pcD) []).bind lim).bind fun xs => some (PyData.list xs)).bind fun a => cmpD .Eq a (.list []) := by kernel_rfl
end Mine
end
section
namespace Mine
open PySem PySem.Spec PyProof.Rows PySem.W PySem.Builtin PySem.Builtin.Str
noncomputable def lst (r : Option (List PyData)) : Option PyData := (r.bind lim).bind λxs =>some (PyData.list xs)
theorem lst_of {r : Option (List PyData)} {xs : List PyData} (h : r = some xs) (hl : xs.length ≤ 100000) : lst r = some (.list xs) :=by
  unfold lst lim
  rw [h, Option.bind_some, if_pos hl]; rfl
noncomputable def ρp (qs ps : List Pc) (b : Pc) : Loc := (nm "parts", .list (qs.map pcD)) :: ρ45 ps b
theorem n_unf2 (qs ps : List Pc) (b : Pc) : execs (E45 20) (b45.drop 1) ⟨ρp qs ps b, none⟩ = thenS (((lst (CT (V1 38) Γ45 if45T 0 (qs.map pcD) [])).bind λa =>cmpD .Eq a (.list [])).bind λc =>if c then execs (E45 19) if45B ⟨ρp qs ps b, none⟩ else some (.next, ⟨ρp qs ps b, none⟩)) (execs (E45 20) (b45.drop 2)) :=by kernel_rfl
noncomputable def numE : Expr := asgE (if45B.getD 0 (.Pass default))
noncomputable def joinE : Expr := argE ((tupE (retE (if45B.getD 1 (.Pass default)))).getD 0 (.Constant .none 0 default))
noncomputable def absE : Expr := (tupE (retE (if45B.getD 1 (.Pass default)))).getD 1 (.Constant .none 0 default)
noncomputable def join2E : Expr := argE ((tupE (retE ((b45.drop 2).getD 0 (.Pass default)))).getD 0 (.Constant .none 0 default))
theorem n_unf3 (qs ps : List Pc) (b : Pc) : execs (E45 19) if45B ⟨ρp qs ps b, none⟩ = thenS (((((sliceD (.list (qs.map pcD)) none (some (.int 3))).bind itemsD).bind fun ds => (CT (V1 39) Γ45 numE 0 ds []).bind lim).bind fun xs => some (PyData.list xs)).bind fun d => some (.next, ⟨(nm "numbers", d) :: ρp qs ps b, none⟩)) (execs (E45 19) (if45B.drop 1)) := by kernel_rfl
theorem slice3 {xs : List PyData} (h : xs.length ≤ 100000) : sliceD (.list xs) none (some (.int 3)) = some (.list (xs.take 3)) :=by
  show (if (0 : Int) ≤ 3 ∧ xs.length ≤ 100000 then some (PyData.list (xs.take 3)) else none) = _
  rw [if_pos ⟨by decide, h⟩]
theorem n_nums (qs : List Pc) : CT (V1 39) Γ45 numE 0 (qs.map pcD) [] = some (qs.map λp =>numD p.num) :=by
  have := compT_last (D := pcD) (V := V1 39) (Γ := Γ45.inner (lcScope numE)) (elt := lcElt numE) (g := gen0 numE 0) (ρ := []) (as := qs) (λp =>[numD p.num]) rfl (by decide +kernel) (λp _ =>by kernel_rfl)
  rw [← List.map_eq_flatMap] at this
  exact this
theorem n_unf4 (ns : List Int) (qs ps : List Pc) (b : Pc) : retD (execs (E45 19) (if45B.drop 1) ⟨(nm "numbers", .list (ns.map PyData.int)) :: ρp qs ps b, none⟩) = ((((lst (CT (V1 37) Γ45 joinE 0 (ns.map PyData.int) [])).bind fun d => some [d]).bind fun ds => meth0 (.str (nm ".")) (nm "join") ds).bind fun a =>
    ((lst (CT (V1 38) Γ45 absE 0 (ns.map PyData.int) [])).bind λd =>some [d]).bind λds =>some (a :: ds)).bind λds =>some (.tuple ds) :=by
  have e : execs (E45 19) (if45B.drop 1) ⟨(nm "numbers", .list (ns.map PyData.int)) :: ρp qs ps b, none⟩ = thenS ((((((lst (CT (V1 37) Γ45 joinE 0 (ns.map PyData.int) [])).bind fun d => some [d]).bind fun ds => meth0 (.str (nm ".")) (nm "join") ds).bind fun a =>
    ((lst (CT (V1 38) Γ45 absE 0 (ns.map PyData.int) [])).bind fun d => some [d]).bind fun ds => some (a :: ds)).bind fun ds => some (.tuple ds)).bind fun d => some (.ret d, ⟨(nm "numbers", .list (ns.map PyData.int)) :: ρp qs ps b, none⟩)) (fun σ => some (.next, σ)) := by kernel_rfl
  rw [e]
  generalize ((((lst (CT (V1 37) Γ45 joinE 0 (ns.map PyData.int) [])).bind fun d => some [d]).bind fun ds => meth0 (.str (nm ".")) (nm "join") ds).bind fun a =>
    ((lst (CT (V1 38) Γ45 absE 0 (ns.map PyData.int) [])).bind λd =>some [d]).bind λds =>some (a :: ds)) = r
  cases r <;> rfl
theorem log_small {n : Int} (h : n.natAbs < 10000000) : n.natAbs.log2 < 1920 :=by
  rcases Nat.eq_zero_or_pos n.natAbs with e | e
  · rw [e]; decide
  · refine (Nat.log2_lt (by omega)).mpr ?_
    have h3 : (2 : Nat) ^ 24 ≤ 2 ^ 1920 := Nat.pow_le_pow_right (by decide) (by decide)
    exact Nat.lt_of_lt_of_le (Nat.lt_trans h (by decide)) h3
theorem n_strs {ns : List Int} (h : ∀ n ∈ ns, n.natAbs < 10000000) : CT (V1 37) Γ45 joinE 0 (ns.map PyData.int) [] = some ((ns.map strZ).map PyData.str) :=by
  have := compT_last (D := PyData.int) (V := V1 37) (Γ := Γ45.inner (lcScope joinE)) (elt := lcElt joinE) (g := gen0 joinE 0) (ρ := []) (as := ns) (fun n => [.str (strZ n)]) rfl (by decide +kernel) (fun n hn =>
    Eq.trans (b := ((if n.natAbs.log2 < 1920 then some (PyData.str (strZ n)) else none).bind λd =>some [d])) (by kernel_rfl) (by rw [if_pos (log_small (h n hn))]; rfl))
  rw [← List.map_eq_flatMap] at this
  exact this.trans (by rw [List.map_map]; rfl)
noncomputable def absW (n : Int) : List Wd := [.inl 100, .inl (if n < 0 then -n else n)]
theorem n_abs1 (n : Int) : CT (V1 38) Γ45 absE 1 [.int 100, .int (if n < 0 then -n else n)] [(nm "number", .int n)] = some ((absW n).map wdD) := by
  have := compT_last (D := id) (V := V1 38) (Γ := Γ45.inner (lcScope absE)) (elt := lcElt absE) (g := gen0 absE 1) (ρ := [(nm "number", .int n)]) (as := [.int 100, .int (if n < 0 then -n else n)]) (fun d => [d]) rfl (by decide +kernel) (fun d _ => by kernel_rfl)
  rw [List.map_id, List.flatMap_singleton'] at this
  exact this
theorem n_abs (ns : List Int) : CT (V1 38) Γ45 absE 0 (ns.map PyData.int) [] = some ((ns.flatMap absW).map wdD) :=by
  have := compT_more (D := PyData.int) (V := V1 38) (Γ := Γ45.inner (lcScope absE)) (elt := lcElt absE) (g := gen0 absE 0) (g' := gen0 absE 1) (gs := []) (ρ := []) (as := ns) (fun n => (absW n).map wdD) rfl (by decide +kernel)
    (fun n _ => Eq.trans (b := CT (V1 38) Γ45 absE 1 [.int 100, .int (if n < 0 then -n else n)] [(nm "number", .int n)]) (by kernel_rfl) (n_abs1 n))
  exact this.trans (congrArg some flatMap_map')
noncomputable def normT (qs : List Pc) : List Str := if qs.all (λp =>p.num.isSome) then (qs.take 3).map λp =>strZ (p.num.getD 0) else (qs.take 3).map Pc.t
noncomputable def normK (qs : List Pc) : List Wd := if qs.all (λp =>p.num.isSome) then (qs.take 3).flatMap λp =>absW (p.num.getD 0) else flatW (qs.take 3)
noncomputable def slc (qs : List Pc) : Option PyData := sliceD (.list (qs.map pcD)) none (some (.int 3))
theorem n_unf5 (qs ps : List Pc) (b : Pc) : execs (E45 20) (b45.drop 2) ⟨ρp qs ps b, none⟩ = thenS ((((((((((slc qs).bind itemsD).bind fun ds => (CT (V1 37) Γ45 join2E 0 ds []).bind lim).bind fun xs => some (PyData.list xs)).bind fun d => some [d]).bind fun ds => meth0 (.str (nm ".")) (nm "join") ds).bind fun a =>
    (((((slc qs).bind λd =>some [d]).bind λds =>specA G0 44 ds).bind λd =>some [d]).bind λds =>some (a :: ds))).bind λds =>some (.tuple ds)).bind λd =>some (.ret d, ⟨ρp qs ps b, none⟩))) (λσ =>some (.next, σ)) :=by kernel_rfl
theorem n_txts (qs : List Pc) : CT (V1 37) Γ45 join2E 0 (qs.map pcD) [] = some ((qs.map Pc.t).map PyData.str) :=by
  have := compT_last (D := pcD) (V := V1 37) (Γ := Γ45.inner (lcScope join2E)) (elt := lcElt join2E) (g := gen0 join2E 0) (ρ := []) (as := qs) (λp =>[.str p.t]) rfl (by decide +kernel) (λp _ =>by kernel_rfl)
  rw [← List.map_eq_flatMap] at this
  exact this.trans (by rw [List.map_map]; rfl)
theorem nums_all : ∀ qs : List Pc, (noNum qs).isEmpty = qs.all (fun p => p.num.isSome)
  | [] =>rfl
  | p :: qs =>by
    have ih := nums_all qs
    unfold noNum at ih ⊢
    rw [List.filter_cons, List.all_cons]
    cases h : p.num with
    | none =>simp
    | some n =>simp [ih]
theorem nums_int : ∀ qs : List Pc, qs.all (fun p => p.num.isSome) = true → qs.map (fun p => numD p.num) = (qs.map fun p => p.num.getD 0).map PyData.int
  | [], _ =>rfl
  | p :: qs, h =>by
    rw [List.all_cons, Bool.and_eq_true] at h
    rw [List.map_cons, List.map_cons, List.map_cons, nums_int qs h.2]
    obtain ⟨t, num, keys⟩ := p
    cases num with
    | none =>cases h.1
    | some n =>rfl
theorem strZ_neg (m : Nat) : (strZ (Int.negSucc m)).cps.toList = 45 :: (strZ ((m + 1 : Nat) : Int)).cps.toList :=by
  unfold strZ
  rw [KIN.signs_num, signs_ofString]
  show ("-" ++ Nat.repr (m + 1)).toList.map Char.toNat = _
  rw [String.toList_append, List.map_append, Nat.toList_repr]
  rfl
theorem strZ_small {n : Int} (h : n.natAbs < 10000000) : (strZ n).length ≤ 20 :=by
  cases n with
  | ofNat m =>
    have := KT.len_num (n := (m : Int)) (by omega) (by have : m < 10000000 := h; omega)
    exact Nat.le_trans this (by decide)
  | negSucc m =>
    have h' : m + 1 < 10000000 := h
    have := KT.len_num (n := ((m + 1 : Nat) : Int)) (by omega) (by omega)
    have e : (strZ (Int.negSucc m)).length = (strZ ((m + 1 : Nat) : Int)).length + 1 :=by
      show (strZ (Int.negSucc m)).cps.size = (strZ ((m + 1 : Nat) : Int)).cps.size + 1
      rw [← Array.length_toList, ← Array.length_toList, strZ_neg, List.length_cons]
    have e2 : (strZ ((m + 1 : Nat) : Int)).length ≤ 10 := this
    omega
theorem kcW_nat {m : Nat} (h : m < 10000000) : kcW (strZ (m : Int)).cps.toList = [.inl 100, .inl (m : Int)] :=by
  have hr := KIN.num_reads (n := (m : Int)) (by omega) (by omega)
  have hd : ∀ c ∈ (strZ (m : Int)).cps.toList, isDig c = true := λc hc =>by
    unfold strZ at hc
    rw [KIN.signs_num] at hc
    refine X12 (λch hch e =>?_) (List.mem_map.mp hc)
    have r := digit_range (Nat.isDigit_of_mem_toDigits (by decide) (by decide) hch)
    rw [← e]
    exact isDig_iff.mpr r
  have hw : str! (strZ (m : Int)).cps.toList = strZ (m : Int) := Str.ext' (by simp [str!])
  refine kcW_digs hd (λe =>?_) (by rw [hw]; exact hr)
  unfold strZ at e
  rw [KIN.signs_num] at e
  have h := toDigits_len_ge 10 m
  rw [List.map_eq_nil_iff.mp e] at h
  exact absurd h (by decide)
theorem kcW_num {n : Int} (h : n.natAbs < 10000000) : kcW (strZ n).cps.toList = absW n :=by
  cases n with
  | ofNat m =>
    have h : m < 10000000 := h
    show kcW (strZ (m : Int)).cps.toList = absW (m : Int)
    rw [kcW_nat h]
    unfold absW
    rw [if_neg (by omega)]
  | negSucc m =>
    have h : m + 1 < 10000000 := h
    rw [strZ_neg]
    have := kcW_sep (c := 45) (by decide) [] (strZ ((m + 1 : Nat) : Int)).cps.toList
    rw [List.nil_append, kcW_nil, List.nil_append, kcW_nat h] at this
    rw [this]
    unfold absW
    rw [if_pos (by omega)]
    rfl
theorem retD_then {r : Option (Out × St)} {d : PyData} {k : St → Option (Out × St)} (h : retD r = some d) : retD (thenS r k) = some d :=by
  cases r with
  | none =>exact nos h
  | some p =>
    obtain ⟨o, σ⟩ := p
    cases o with
    | ret d' =>exact h
    | _ =>exact nos h
theorem take_ok {P : Pc → Prop} {qs : List Pc} (h : ∀ p ∈ qs, P p) (k : Nat) : ∀ p ∈ qs.take k, P p := λp hp =>h p (List.mem_of_mem_take hp)
theorem lawNorm_at {ps : List Pc} {b : Pc} (hl : ps.length ≤ 100) (hb : low b.t) (hp : ∀ p ∈ partsP ps b, PcOk p) : specA G1 45 [.list (ps.map pcD), pcD b] = some (.tuple [.str (Str.join (nm ".") (normT (partsP ps b))), .list ((normK (partsP ps b)).map wdD)]) := by
  have e0 : specA G1 45 [.list (ps.map pcD), pcD b] = retD (execs (E45 20) b45 ⟨ρ45 ps b, none⟩) := rfl
  have hq : (partsP ps b).length ≤ 101 :=by
    unfold partsP; rw [List.length_append]; split <;> simp <;> omega
  have hd : (nm ".").length = 1 := by decide
  rw [e0, n_step1 hb (by omega)]
  show retD (execs (E45 20) (b45.drop 1) ⟨ρp (partsP ps b) ps b, none⟩) = _
  generalize partsP ps b = qs at hp hq
  have hnn : (noNum qs).length ≤ 100000 := Nat.le_trans (List.length_filter_le _ _) (by omega)
  have hlay : PyData.canLayAll0 ((noNum qs).map pcD) = true := lay_map λp h =>lay_pc (hp p (List.mem_filter.mp h).1).low (hp p (List.mem_filter.mp h).1).kok
  rw [n_unf2, lst_of (n_filter qs) (by rw [List.length_map]; exact hnn), Option.bind_some, eq_nil hlay, Option.bind_some]
  have hie : ((noNum qs).map pcD).isEmpty = qs.all (λp =>p.num.isSome) :=by
    rw [← nums_all]; cases noNum qs <;> rfl
  have hs : slc qs = some (.list ((qs.take 3).map pcD)) :=by
    unfold slc
    rw [slice3 (by rw [List.length_map]; omega), List.map_take]
  have ht : (qs.take 3).length ≤ 3 := List.length_take_le ..
  rw [hie]
  unfold normT normK
  cases hall : qs.all (λp =>p.num.isSome) with
  | true =>
    have hall3 : (qs.take 3).all (λp =>p.num.isSome) = true := List.all_eq_true.mpr λp h =>List.all_eq_true.mp hall p (List.mem_of_mem_take h)
    have hsm : ∀ n ∈ (qs.take 3).map (λp =>p.num.getD 0), n.natAbs < 10000000 := λn hn =>by
      obtain ⟨p, hp', rfl⟩ := List.mem_map.mp hn
      cases hnum : p.num with
      | none =>simp
      | some k =>exact (hp p (List.mem_of_mem_take hp')).small k hnum
    rw [if_pos rfl, if_pos rfl, if_pos rfl, n_unf3]
    have e1 := n_nums (qs.take 3)
    rw [nums_int _ hall3] at e1
    show retD (thenS (thenS (((((slc qs).bind itemsD).bind λds =>(CT (V1 39) Γ45 numE 0 ds []).bind lim).bind λxs =>some (PyData.list xs)).bind _) _) _) = _
    rw [hs]
    show retD (thenS (thenS ((lst (CT (V1 39) Γ45 numE 0 ((qs.take 3).map pcD) [])).bind _) _) _) = _
    rw [lst_of e1 (by rw [List.length_map, List.length_map]; omega)]
    generalize hns : (qs.take 3).map (λp =>p.num.getD 0) = ns at hsm
    have hnl : ns.length ≤ 3 :=by rw [← hns, List.length_map]; exact ht
    show retD (thenS (execs (E45 19) (if45B.drop 1) ⟨(nm "numbers", .list (ns.map PyData.int)) :: ρp qs ps b, none⟩) (execs (E45 20) (b45.drop 2))) = _
    have e2 := n_unf4 ns qs ps b
    have hm : methJoin (nm ".") ((ns.map strZ).map PyData.str) = some (.str (Str.join (nm ".") (ns.map strZ))) :=
      methJoin_at (B := 20) (λt h =>by obtain ⟨n, hn, rfl⟩ := List.mem_map.mp h; exact strZ_small (hsm n hn)) (by rw [hd, List.length_map]; omega)
    have hal : ∀ ns : List Int, ((ns.flatMap absW).map wdD).length = 2 * ns.length := λns =>by
      rw [List.length_map]
      induction ns with
      | nil =>rfl
      | cons n ns ih =>rw [List.flatMap_cons, List.length_append, ih, List.length_cons]; show 2 + 2 * ns.length = 2 * (ns.length + 1); omega
    rw [lst_of (n_strs hsm) (by simp only [List.length_map]; omega), lst_of (n_abs ns) (by rw [hal]; omega)] at e2
    refine retD_then (e2.trans ?_)
    show (((methJoin (nm ".") ((ns.map strZ).map PyData.str)).bind _).bind _) = _
    rw [hm]
    show some (PyData.tuple [.str (Str.join (nm ".") (ns.map strZ)), .list ((ns.flatMap absW).map wdD)]) = _
    rw [← hns, List.map_map, List.flatMap_map]
    rfl
  | false =>
    rw [if_neg Bool.false_ne_true, if_neg Bool.false_ne_true, if_neg Bool.false_ne_true]
    show retD (execs (E45 20) (b45.drop 2) ⟨ρp qs ps b, none⟩) = _
    have hm : methJoin (nm ".") (((qs.take 3).map Pc.t).map PyData.str) = some (.str (Str.join (nm ".") ((qs.take 3).map Pc.t))) :=
      methJoin_at (B := 20) (λt h =>by obtain ⟨p, hp', rfl⟩ := List.mem_map.mp h; exact (hp p (List.mem_of_mem_take hp')).len) (by rw [hd, List.length_map]; omega)
    rw [n_unf5, hs]
    show retD (thenS ((((((lst (CT (V1 37) Γ45 join2E 0 ((qs.take 3).map pcD) [])).bind fun d => some [d]).bind fun ds => meth0 (.str (nm ".")) (nm "join") ds).bind fun a => ((specA G0 44 [.list ((qs.take 3).map pcD)]).bind fun d => some [d]).bind fun ds => some (a :: ds)).bind _).bind _) _) = _
    rw [lst_of (n_txts _) (by simp only [List.length_map]; omega), flat_at (by omega) (λp h =>(hp p (List.mem_of_mem_take h)).klen)]
    show retD (thenS (((((methJoin (nm ".") (((qs.take 3).map Pc.t).map PyData.str)).bind _).bind _).bind _)) _) = _
    rw [hm]
    rfl
end Mine
end
section
namespace Mine
open PySem PySem.Spec PyProof.Rows PySem.W PySem.Builtin PySem.Builtin.Str
noncomputable def b46 : List Stmt := (fnAt 46).body
noncomputable def E46 (n : Nat) : Stmt → St → Option (Out × St) := exN (ctxA G0 46) V4 n
noncomputable def Γ46 : Sc := (ctxA G0 46).Γ
noncomputable def V0 (n : Nat) : EvT := evN G0 n
noncomputable def ρ46 (ps : List Pc) (v : Str) : Loc := [(nm "pieces", .list (ps.map pcD)), (nm "version", .str v)]
noncomputable def ρt (ts : List Str) (ps : List Pc) (v : Str) : Loc := (nm "texts", .list (ts.map PyData.str)) :: ρ46 ps v
noncomputable def txE : Expr := asgE (b46.getD 0 (.Pass default))
noncomputable def if46B : List Stmt := sBody (at' b46 1)
theorem a_txts (ps : List Pc) : CT (V0 39) Γ46 txE 0 (ps.map pcD) [] = some ((ps.map Pc.t).map PyData.str) :=by
  have := compT_last (D := pcD) (V := V0 39) (Γ := Γ46.inner (lcScope txE)) (elt := lcElt txE) (g := gen0 txE 0) (ρ := []) (as := ps) (λp =>[.str p.t]) rfl (by decide +kernel) (λp _ =>by kernel_rfl)
  rw [← List.map_eq_flatMap] at this
  exact this.trans (by rw [List.map_map]; rfl)
theorem a_unf1 (ps : List Pc) (v : Str) : execs (E46 20) b46 ⟨ρ46 ps v, none⟩ = thenS ((lst (CT (V0 39) Γ46 txE 0 (ps.map pcD) [])).bind fun d => some (.next, ⟨(nm "texts", d) :: ρ46 ps v, none⟩)) (execs (E46 20) (b46.drop 1)) := by kernel_rfl
theorem a_unf2 (ts : List Str) (ps : List Pc) (v : Str) : execs (E46 20) (b46.drop 1) ⟨ρt ts ps v, none⟩ = thenS ((((methJoin (nm ".") (ts.map PyData.str)).bind fun d => sliceD d none (some (.int 1))).bind fun a => cmpD .Lt a (.str (nm "5"))).bind fun c => if c then execs (E46 19) if46B ⟨ρt ts ps v, none⟩ else some (.next, ⟨ρt ts ps v, none⟩)) (execs (E46 20) (b46.drop 2)) := by kernel_rfl
theorem a_unf3 (ts : List Str) (ps : List Pc) (v : Str) : execs (E46 19) if46B ⟨ρt ts ps v, none⟩ = thenS (((((methJoin (nm ".") (ts.map PyData.str)).bind fun d => some [d, .str v]).bind fun ds => some (.str (nm "SunOS") :: ds)).bind fun ds => some (.tuple ds)).bind fun d => some (.ret d, ⟨ρt ts ps v, none⟩)) (fun σ => some (.next, σ)) := by kernel_rfl
noncomputable def pieceFirst (p : Pc) : Str := match p.num with
  | none =>p.t
  | some n =>strZ (n - 3)
theorem a_unf4 (t : Str) (ts : List Str) (p : Pc) (ps : List Pc) (v : Str) (ht : t = p.t) (hs : ∀ n, p.num = some n → (n - 3).natAbs.log2 < 1920) : execs (E46 20) (b46.drop 2) ⟨ρt (t :: ts) (p :: ps) v, none⟩ = execs (E46 20) (b46.drop 3) ⟨(nm "first", .str (pieceFirst p)) :: ρt (t :: ts) (p :: ps) v, none⟩ := by
  obtain ⟨u, num, keys⟩ := p
  have ht : u = t := ht.symm
  subst ht
  cases num with
  | none =>kernel_rfl
  | some n =>
    refine Eq.trans (b := thenS ((if (n - 3).natAbs.log2 < 1920 then some (PyData.str (strZ (n - 3))) else none).bind fun d => some (.next, ⟨(nm "first", d) :: ρt (u :: ts) (⟨u, some n, keys⟩ :: ps) v, none⟩)) (execs (E46 20) (b46.drop 3))) (by kernel_rfl) ?_
    rw [if_pos (hs n rfl)]
    rfl
theorem a_unf5 (f : Str) (ts : List Str) (ps : List Pc) (v : Str) : execs (E46 20) (b46.drop 3) ⟨(nm "first", .str f) :: ρt ts ps v, none⟩ = thenS (((((((((sliceD (.list (ts.map PyData.str)) (some (.int 1)) none).bind fun y => binD .Add (.list [.str f]) y).bind fun d => some [d]).bind fun ds => meth0 (.str (nm ".")) (nm "join") ds).bind fun d => some [d, .str v]).bind fun ds => some (.str (nm "Solaris") :: ds)).bind fun ds => some (.tuple ds)).bind fun d => some (.ret d, ⟨(nm "first", .str f) :: ρt ts ps v, none⟩))) (fun σ => some (.next, σ)) := by kernel_rfl
theorem lt_take (x : List Nat) : (x.take 1 < [53]) ↔ (x < [53]) :=by
  cases x with
  | nil =>rfl
  | cons a l =>
    rw [List.take_succ_cons, List.take_zero, List.cons_lt_cons_iff, List.cons_lt_cons_iff]
    simp
theorem sub3_le {n : Int} (h : n.natAbs < 10000000) : (n - 3).natAbs ≤ 10000002 :=by omega
theorem sub3_log {n : Int} (h : n.natAbs < 10000000) : (n - 3).natAbs.log2 < 1920 :=by
  refine Nat.lt_of_le_of_lt (m := 24) ?_ (by decide)
  rcases Nat.eq_zero_or_pos (n - 3).natAbs with e | e
  · rw [e]; decide
  · exact Nat.le_of_lt ((Nat.log2_lt (Nat.ne_of_gt e)).mpr (Nat.lt_of_le_of_lt (sub3_le h) (by decide)))
theorem strZ_le11 : ∀ {z : Int}, z.natAbs ≤ 10000002 → (strZ z).length ≤ 11
  | .ofNat m, h =>Nat.le_trans (KT.len_num (n := (m : Int)) (Int.natCast_nonneg m) (Int.lt_of_lt_of_le (Int.ofNat_lt.mpr (Nat.lt_succ_of_le h)) (by decide))) (by decide)
  | .negSucc m, h =>by
    have e2 := KT.len_num (n := ((m + 1 : Nat) : Int)) (Int.natCast_nonneg _) (Int.lt_of_lt_of_le (Int.ofNat_lt.mpr (Nat.lt_succ_of_le (show m + 1 ≤ 10000002 from h))) (by decide))
    have e : (strZ (Int.negSucc m)).length = (strZ ((m + 1 : Nat) : Int)).length + 1 :=by
      show (strZ (Int.negSucc m)).cps.size = (strZ ((m + 1 : Nat) : Int)).cps.size + 1
      rw [← Array.length_toList, ← Array.length_toList, strZ_neg, List.length_cons]
    rw [e]
    exact Nat.succ_le_succ e2
theorem lawAlias_at {p : Pc} {ps : List Pc} {v : Str} (hl : ps.length ≤ 100) (hp : ∀ q ∈ p :: ps, PcOk q) : specA G0 46 [.list ((p :: ps).map pcD), .str v] =
    some (if (Str.join (nm ".") ((p :: ps).map Pc.t)).cps.toList < (nm "5").cps.toList then .tuple [.str (nm "SunOS"), .str (Str.join (nm ".") ((p :: ps).map Pc.t)), .str v] else .tuple [.str (nm "Solaris"), .str (Str.join (nm ".") (pieceFirst p :: ps.map Pc.t)), .str v]) := by
  have e0 : specA G0 46 [.list ((p :: ps).map pcD), .str v] = retD (execs (E46 20) b46 ⟨ρ46 (p :: ps) v, none⟩) := rfl
  have hd : (nm ".").length = 1 := by decide
  have h5 : (nm "5").cps.toList = [53] := by decide
  have hm : methJoin (nm ".") (((p :: ps).map Pc.t).map PyData.str) = some (.str (Str.join (nm ".") ((p :: ps).map Pc.t))) :=
    methJoin_at (B := 20) (λt h =>by obtain ⟨q, hq, rfl⟩ := List.mem_map.mp h; exact (hp q hq).len) (by rw [hd, List.length_map, List.length_cons]; omega)
  have hJ : (Str.join (nm ".") ((p :: ps).map Pc.t)).length ≤ 100000 := by
    have h1 := PySem.StrLaws.join_length_le (nm ".") ((p :: ps).map Pc.t)
    have h2 := StrLaws.sumLen_le (B := 20) ((p :: ps).map Pc.t) (λt h =>by obtain ⟨q, hq, rfl⟩ := List.mem_map.mp h; exact (hp q hq).len)
    rw [hd, List.length_map, List.length_cons] at h1
    rw [List.length_map, List.length_cons] at h2
    omega
  rw [e0, a_unf1, lst_of (a_txts _) (by simp only [List.length_map, List.length_cons]; omega)]
  show retD (execs (E46 20) (b46.drop 1) ⟨ρt ((p :: ps).map Pc.t) (p :: ps) v, none⟩) = _
  rw [a_unf2, hm, Option.bind_some]
  generalize hD : Str.join (nm ".") ((p :: ps).map Pc.t) = D at hm hJ
  have hs : sliceD (.str D) none (some (.int 1)) = some (.str ⟨(D.cps.toList.take 1).toArray⟩) :=by
    show (if (0 : Int) ≤ 1 ∧ D.length ≤ 100000 then some (PyData.str ⟨(D.cps.toList.take 1).toArray⟩) else _) = _
    rw [if_pos ⟨by decide, hJ⟩]
  rw [hs]
  show retD (thenS ((some (decide ((D.cps.toList.take 1).toArray.toList < (nm "5").cps.toList))).bind _) _) = _
  rw [Option.bind_some, h5]
  have hlt : decide ((D.cps.toList.take 1).toArray.toList < [53]) = decide (D.cps.toList < [53]) := decide_eq_decide.mpr (lt_take _)
  rw [hlt]
  by_cases q : D.cps.toList < [53]
  · rw [decide_eq_true q, if_pos rfl, if_pos q, a_unf3, hm]
    rfl
  · rw [decide_eq_false q, if_neg Bool.false_ne_true, if_neg q]
    show retD (execs (E46 20) (b46.drop 2) ⟨ρt (p.t :: ps.map Pc.t) (p :: ps) v, none⟩) = _
    have hsm : ∀ n, p.num = some n → n.natAbs < 10000000 := (hp p List.mem_cons_self).small
    have hpf : (pieceFirst p).length ≤ 21 :=by
      unfold pieceFirst
      cases hn : p.num with
      | none =>exact Nat.le_trans (hp p List.mem_cons_self).len (by decide)
      | some n =>
        exact Nat.le_trans (strZ_le11 (sub3_le (hsm n hn))) (by decide)
    rw [a_unf4 _ _ _ _ _ rfl (λn hn =>sub3_log (hsm n hn)), a_unf5]
    have hs2 : sliceD (.list ((p.t :: ps.map Pc.t).map PyData.str)) (some (.int 1)) none = some (.list ((ps.map Pc.t).map PyData.str)) :=by
      show (if (0 : Int) ≤ 1 ∧ ((p.t :: ps.map Pc.t).map PyData.str).length ≤ 100000 then some (PyData.list (((p.t :: ps.map Pc.t).map PyData.str).drop 1)) else none) = _
      rw [if_pos ⟨by decide, by simp only [List.length_map, List.length_cons]; omega⟩]
      rfl
    have hm2 : methJoin (nm ".") ((pieceFirst p :: ps.map Pc.t).map PyData.str) = some (.str (Str.join (nm ".") (pieceFirst p :: ps.map Pc.t))) :=
      methJoin_at (B := 21) (λt h =>by
        rcases List.mem_cons.mp h with rfl | h
        · exact hpf
        · obtain ⟨q, hq, rfl⟩ := List.mem_map.mp h; exact Nat.le_trans (hp q (List.mem_cons_of_mem _ hq)).len (by decide)) (by rw [hd, List.length_cons, List.length_map]; omega)
    rw [hs2]
    show retD (thenS ((((((((if 1 + ((ps.map Pc.t).map PyData.str).length ≤ 100000 then some (PyData.list (PyData.str (pieceFirst p) :: (ps.map Pc.t).map PyData.str)) else none).bind _).bind _).bind _).bind _).bind _).bind _)) _) = _
    rw [if_pos (by simp only [List.length_map]; omega)]
    show retD (thenS (((((methJoin (nm ".") ((pieceFirst p :: ps.map Pc.t).map PyData.str)).bind _).bind _).bind _).bind _) _) = _
    rw [hm2]
    rfl
end Mine
end
section
namespace Mine
open PySem PySem.Spec PyProof.Rows PySem.W PySem.Builtin PySem.Builtin.Str
noncomputable def gtWd : Wd → Wd → Bool
  | .inl a, .inl b =>decide (b < a)
  | .inr a, .inr b =>decide (b.cps.toList < a.cps.toList)
  | _, _ =>false
noncomputable def newerB : List Key → List Key → Bool
  | k :: ks, j :: js =>if k.1 = j.1 then (if k.2 = j.2 then newerB ks js else gtWd k.2 j.2) else decide (j.1 < k.1)
  | ks, js =>decide (js.length < ks.length)
theorem same_kind {k j : Key} (hk : keyB k = true) (hj : keyB j = true) (h : k.1 = j.1) : (∃ a b, k.2 = .inl a ∧ j.2 = .inl b) ∨ (∃ a b, k.2 = .inr a ∧ j.2 = .inr b ∧ low a ∧ low b) :=by
  obtain ⟨r, w⟩ := k
  obtain ⟨q, u⟩ := j
  have h : r = q := h
  subst h
  have hl : ∀ s : Str, keyB (r, .inr s) = true → low s := λs hs c hc =>by
    have := keyB_wd hs
    simp only [wdB, Bool.and_eq_true, List.all_eq_true, decide_eq_true_eq] at this
    exact this.1 c hc
  cases w with
  | inl a =>
    cases u with
    | inl b =>exact .inl ⟨a, b, rfl, rfl⟩
    | inr b =>
      simp only [keyB, Bool.and_eq_true, bne_iff_ne, beq_iff_eq] at hk hj
      exact absurd hk hj.1
  | inr a =>
    cases u with
    | inl b =>
      simp only [keyB, Bool.and_eq_true, bne_iff_ne, beq_iff_eq] at hk hj
      exact absurd hj hk.1
    | inr b =>exact .inr ⟨a, b, rfl, rfl, hl a hk, hl b hj⟩
theorem eqLeaf_wd {k j : Key} (hk : keyB k = true) (hj : keyB j = true) (h : k.1 = j.1) : eqLeaf (wdD k.2) (wdD j.2) = some (decide (k.2 = j.2)) :=by
  rcases same_kind hk hj h with ⟨a, b, e1, e2⟩ | ⟨a, b, e1, e2, _, _⟩
  · rw [e1, e2]
    show some (a == b) = _
    by_cases q : a = b
    · rw [q]; simp
    · rw [beq_eq_false_iff_ne.mpr q, decide_eq_false (λh =>q (Sum.inl.inj h))]
  · rw [e1, e2]
    show some (a == b) = _
    by_cases q : a = b
    · rw [q]; simp
    · rw [beq_eq_false_iff_ne.mpr q, decide_eq_false (λh =>q (Sum.inr.inj h))]
theorem gtLeaf_wd {k j : Key} (hk : keyB k = true) (hj : keyB j = true) (h : k.1 = j.1) : gtLeaf (wdD k.2) (wdD j.2) = some (gtWd k.2 j.2) :=by
  rcases same_kind hk hj h with ⟨a, b, e1, e2⟩ | ⟨a, b, e1, e2, _, _⟩ <;> (rw [e1, e2]; rfl)
theorem ne_wd {k j : Key} (hk : keyB k = true) (hj : keyB j = true) (h : k.1 = j.1) : cmpD .NotEq (wdD k.2) (wdD j.2) = some (!decide (k.2 = j.2)) :=by
  rcases same_kind hk hj h with ⟨a, b, e1, e2⟩ | ⟨a, b, e1, e2, l1, l2⟩
  · rw [e1, e2]
    show some (!(a == b)) = _
    by_cases q : a = b
    · rw [q]; simp
    · rw [beq_eq_false_iff_ne.mpr q, decide_eq_false (λh =>q (Sum.inl.inj h))]
  · rw [e1, e2]
    refine (ne_str l1 l2).trans ?_
    by_cases q : a = b
    · rw [q]; simp
    · rw [beq_eq_false_iff_ne.mpr q, decide_eq_false (λh =>q (Sum.inr.inj h))]
theorem gtAll_keys : ∀ (ks js : List Key), (∀ k ∈ ks, keyB k = true) → (∀ k ∈ js, keyB k = true) → gtAllD ((flatK ks).map wdD) ((flatK js).map wdD) = some (newerB ks js)
  | [], js, _, _ =>by
    show some false = _
    cases js <;> rfl
  | k :: ks, [], _, _ =>by
    show some true = _
    simp [newerB]
  | k :: ks, j :: js, hk, hj =>by
    have ih := gtAll_keys ks js (λq h =>hk q (List.mem_cons_of_mem _ h)) (λq h =>hj q (List.mem_cons_of_mem _ h))
    have k1 := hk k List.mem_cons_self
    have j1 := hj j List.mem_cons_self
    have e : ∀ (k : Key) (ks : List Key), (flatK (k :: ks)).map wdD = .int k.1 :: wdD k.2 :: (flatK ks).map wdD := λ_ _ =>rfl
    rw [e, e, gtAllD, newerB]
    show (some (k.1 == j.1)).bind _ = _
    rw [Option.bind_some]
    by_cases h : k.1 = j.1
    · rw [if_pos h, beq_iff_eq.mpr h, if_pos rfl, gtAllD, eqLeaf_wd k1 j1 h, Option.bind_some]
      by_cases q : k.2 = j.2
      · rw [if_pos q, decide_eq_true q, if_pos rfl, ih]
      · rw [if_neg q, decide_eq_false q, if_neg Bool.false_ne_true, gtLeaf_wd k1 j1 h]
    · rw [if_neg h, beq_eq_false_iff_ne.mpr h, if_neg Bool.false_ne_true]
      rfl
noncomputable def b47 : List Stmt := (fnAt 47).body
noncomputable def E47 (n : Nat) : Stmt → St → Option (Out × St) := exN (ctxA G0 47) V4 n
noncomputable def Γ47 : Sc := (ctxA G0 47).Γ
noncomputable def f47T : Expr := sTgt (at' b47 0)
noncomputable def f47B : List Stmt := sBody (at' b47 0)
noncomputable def ρ47 (a b : PyData) : Loc := [(nm "one", a), (nm "two", b)]
noncomputable def loop47 (xs : List PyData) (σ : St) : Option (Out × St) := forD (targetD Γ47 f47T) (execs (E47 19) f47B) (fun σ => some (.next, σ)) [nm "one", nm "two"] xs σ
theorem w_unf (as bs : List PyData) : execs (E47 20) b47 ⟨ρ47 (.list as) (.list bs), none⟩ = thenS (loop47 (zipD as bs) ⟨ρ47 (.list as) (.list bs), none⟩) (execs (E47 20) (b47.drop 1)) :=by kernel_rfl
theorem w_end (as bs : List PyData) : execs (E47 20) (b47.drop 1) ⟨ρ47 (.list as) (.list bs), none⟩ = thenS (((((if as.length ≤ 100000 then some (PyData.int as.length) else none).bind λa =>(if bs.length ≤ 100000 then some (PyData.int bs.length) else none).bind λb =>(cmpD .Gt a b).bind λt =>some (.bool t))).bind λd =>some (.ret d, ⟨ρ47 (.list as) (.list bs), none⟩))) (λσ =>some (.next, σ)) :=by kernel_rfl
noncomputable def ρ47k (r : Int) (w : PyData) (q : Int) (u a b : PyData) : Loc := (nm "that", u) :: (nm "other", .int q) :: (nm "what", w) :: (nm "rank", .int r) :: ρ47 a b
theorem w_turn (r : Int) (w : PyData) (q : Int) (u a b : PyData) (xs : List PyData) : loop47 (.tuple [.tuple [.int r, w], .tuple [.int q, u]] :: xs) ⟨ρ47 a b, none⟩ = (execs (E47 19) f47B ⟨ρ47k r w q u a b, none⟩).bind fun p => match p.1 with
    | .next => loop47 xs (p.2.cut [nm "one", nm "two"])
    | .cont => loop47 xs (p.2.cut [nm "one", nm "two"])
    | .brk => some (.next, p.2.cut [nm "one", nm "two"])
    | .ret d =>some (.ret d, p.2) :=by kernel_rfl
noncomputable def if47B : List Stmt := sBody (at' f47B 0)
noncomputable def f47C : Expr := sTest (at' f47B 0)
noncomputable def orT (t : Bool) (x : Option Bool) : Option Bool := match t with
  | true =>some true
  | false =>x
theorem w_t1 (r : Int) (w : PyData) (q : Int) (u a b : PyData) : (evN G0 39).ts Γ47 ((bvs f47C).getD 0 f47C) (ρ47k r w q u a b) = some (!(r == q)) :=by kernel_rfl
theorem w_t2 (r : Int) (w : PyData) (q : Int) (u a b : PyData) : (evN G0 39).ts Γ47 ((bvs f47C).getD 1 f47C) (ρ47k r w q u a b) = (cmpD .NotEq w u) :=by kernel_rfl
theorem w_t3 (r : Int) (w : PyData) (q : Int) (u a b : PyData) : V4.ts Γ47 f47C (ρ47k r w q u a b) = allT (λe =>(evN G0 39).ts Γ47 e (ρ47k r w q u a b)) .Or (bvs f47C) :=by kernel_rfl
theorem allT_or {ts : Expr → Option Bool} {x y : Expr} {a : Bool} {b : Option Bool} (h1 : ts x = some a) (h2 : ts y = b) : allT ts .Or [x, y] = orT a b :=by
  refine (congrArg (λo =>Option.bind o λt =>bif stops .Or t then some t else allT ts .Or [y]) h1).trans ?_
  cases a with
  | true =>rfl
  | false =>
    refine (congrArg (λo =>Option.bind o λt =>bif stops .Or t then some t else some false) h2).trans ?_
    cases b with
    | none =>rfl
    | some c =>cases c <;> rfl
theorem w_test (r : Int) (w : PyData) (q : Int) (u a b : PyData) : V4.ts Γ47 f47C (ρ47k r w q u a b) = orT (!(r == q)) (cmpD .NotEq w u) :=by
  rw [w_t3]
  exact allT_or (w_t1 r w q u a b) (w_t2 r w q u a b)
theorem w_body (r : Int) (w : PyData) (q : Int) (u a b : PyData) : execs (E47 19) f47B ⟨ρ47k r w q u a b, none⟩ = thenS ((V4.ts Γ47 f47C (ρ47k r w q u a b)).bind λc =>if c then execs (E47 18) if47B ⟨ρ47k r w q u a b, none⟩ else some (.next, ⟨ρ47k r w q u a b, none⟩)) (λσ =>some (.next, σ)) :=by kernel_rfl
noncomputable def r47 : Expr := retE (if47B.getD 0 (.Pass default))
theorem w_ret (r : Int) (w : PyData) (q : Int) (u a b : PyData) : execs (E47 18) if47B ⟨ρ47k r w q u a b, none⟩ = thenS ((V4.ev Γ47 r47 (ρ47k r w q u a b)).bind λd =>some (.ret d, ⟨ρ47k r w q u a b, none⟩)) (λσ =>some (.next, σ)) :=by kernel_rfl
theorem w_r1 (r : Int) (w : PyData) (q : Int) (u a b : PyData) : V4.ev Γ47 r47 (ρ47k r w q u a b) = boolV (evN G0 39) Γ47 .Or (ρ47k r w q u a b) (bvs r47) :=by kernel_rfl
theorem w_r2 (r : Int) (w : PyData) (q : Int) (u a b : PyData) : (evN G0 39).ev Γ47 ((bvs r47).getD 0 r47) (ρ47k r w q u a b) = some (.bool (decide (q < r))) :=by kernel_rfl
theorem w_r3 (r : Int) (w : PyData) (q : Int) (u a b : PyData) : (evN G0 39).ev Γ47 ((bvs r47).getD 1 r47) (ρ47k r w q u a b) = boolV (evN G0 38) Γ47 .And (ρ47k r w q u a b) (bvs ((bvs r47).getD 1 r47)) :=by kernel_rfl
theorem w_r4 (r : Int) (w : PyData) (q : Int) (u a b : PyData) : (evN G0 38).ev Γ47 ((bvs ((bvs r47).getD 1 r47)).getD 0 r47) (ρ47k r w q u a b) = some (.bool (r == q)) :=by kernel_rfl
theorem w_r5 (r : Int) (w : PyData) (q : Int) (u a b : PyData) : (evN G0 38).ev Γ47 ((bvs ((bvs r47).getD 1 r47)).getD 1 r47) (ρ47k r w q u a b) = (cmpD .Gt w u).bind λt =>some (.bool t) :=by kernel_rfl
theorem boolV_or {V : EvT} {Γ : Sc} {ρ : Loc} {x y : Expr} {a : Bool} {b : Option PyData} (h1 : V.ev Γ x ρ = some (.bool a)) (h2 : V.ev Γ y ρ = b) : boolV V Γ .Or ρ [x, y] = if a then some (.bool true) else b :=by
  refine (congrArg (λo =>Option.bind o λv =>(truthyD v).bind λt =>bif stops .Or t then some v else V.ev Γ y ρ) h1).trans ?_
  cases a with
  | true =>rfl
  | false =>exact h2
theorem boolV_and {V : EvT} {Γ : Sc} {ρ : Loc} {x y : Expr} {a : Bool} {b : Option PyData} (h1 : V.ev Γ x ρ = some (.bool a)) (h2 : V.ev Γ y ρ = b) : boolV V Γ .And ρ [x, y] = if a then b else some (.bool false) :=by
  refine (congrArg (λo =>Option.bind o λv =>(truthyD v).bind λt =>bif stops .And t then some v else V.ev Γ y ρ) h1).trans ?_
  cases a with
  | false =>rfl
  | true =>exact h2
theorem w_val (r : Int) (w : PyData) (q : Int) (u a b : PyData) : V4.ev Γ47 r47 (ρ47k r w q u a b) = if decide (q < r) then some (.bool true) else if r == q then (cmpD .Gt w u).bind λt =>some (.bool t) else some (.bool false) :=by
  rw [w_r1]
  exact boolV_or (w_r2 r w q u a b) ((w_r3 r w q u a b).trans (boolV_and (w_r4 r w q u a b) (w_r5 r w q u a b)))
theorem w_run (a b : PyData) : ∀ (ks js : List Key), (∀ k ∈ ks, keyB k = true) → (∀ k ∈ js, keyB k = true) → ∃ o σ, loop47 (zipD (ks.map keyD) (js.map keyD)) ⟨ρ47 a b, none⟩ = some (o, σ) ∧
    ((o = .ret (.bool (newerB ks js))) ∨ (o = .next ∧ σ = ⟨ρ47 a b, none⟩ ∧ newerB ks js = decide (js.length < ks.length)))
  | [], js, _, _ =>⟨.next, ⟨ρ47 a b, none⟩, rfl, .inr ⟨rfl, rfl, by cases js <;> rfl⟩⟩
  | k :: ks, [], _, _ =>⟨.next, ⟨ρ47 a b, none⟩, rfl, .inr ⟨rfl, rfl, rfl⟩⟩
  | k :: ks, j :: js, hk, hj =>by
    have ih := w_run a b ks js (λq h =>hk q (List.mem_cons_of_mem _ h)) (λq h =>hj q (List.mem_cons_of_mem _ h))
    have k1 := hk k List.mem_cons_self
    have j1 := hj j List.mem_cons_self
    have e : loop47 (zipD ((k :: ks).map keyD) ((j :: js).map keyD)) ⟨ρ47 a b, none⟩ = loop47 (.tuple [.tuple [.int k.1, wdD k.2], .tuple [.int j.1, wdD j.2]] :: zipD (ks.map keyD) (js.map keyD)) ⟨ρ47 a b, none⟩ := rfl
    have hv := w_val k.1 (wdD k.2) j.1 (wdD j.2) a b
    rw [e, w_turn, w_body, w_test, newerB]
    by_cases h : k.1 = j.1
    · rw [if_pos h, beq_iff_eq.mpr h, ne_wd k1 j1 h]
      by_cases q : k.2 = j.2
      · rw [if_pos q, decide_eq_true q]
        revert ih; refine X22 λo σ h1 h2 =>?_
        refine ⟨o, σ, h1, ?_⟩
        rcases h2 with h2 | ⟨h2, h3, h4⟩
        · exact .inl h2
        · refine .inr ⟨h2, h3, h4.trans ?_⟩
          simp only [List.length_cons, Nat.add_lt_add_iff_right]
      · rw [if_neg q, decide_eq_false q]
        rw [beq_iff_eq.mpr h, if_pos rfl, if_neg (by simp [h])] at hv
        have hg : cmpD .Gt (wdD k.2) (wdD j.2) = some (gtWd k.2 j.2) :=by
          rw [← gtLeaf_wd k1 j1 h]
          rcases same_kind k1 j1 h with ⟨a, b, e1, e2⟩ | ⟨a, b, e1, e2, _, _⟩ <;> (rw [e1, e2]; rfl)
        rw [hg] at hv
        refine ⟨.ret (.bool (gtWd k.2 j.2)), ⟨ρ47k k.1 (wdD k.2) j.1 (wdD j.2) a b, none⟩, ?_, .inl rfl⟩
        show Option.bind (thenS (execs (E47 18) if47B ⟨ρ47k k.1 (wdD k.2) j.1 (wdD j.2) a b, none⟩) _) _ = _
        rw [w_ret, hv]
        rfl
    · rw [if_neg h, beq_eq_false_iff_ne.mpr h]
      rw [beq_eq_false_iff_ne.mpr h] at hv
      refine ⟨.ret (.bool (decide (j.1 < k.1))), ⟨ρ47k k.1 (wdD k.2) j.1 (wdD j.2) a b, none⟩, ?_, .inl rfl⟩
      show Option.bind (thenS (execs (E47 18) if47B ⟨ρ47k k.1 (wdD k.2) j.1 (wdD j.2) a b, none⟩) _) _ = _
      have hv2 : V4.ev Γ47 r47 (ρ47k k.1 (wdD k.2) j.1 (wdD j.2) a b) = some (.bool (decide (j.1 < k.1))) :=by
        rw [hv]; cases decide (j.1 < k.1) <;> rfl
      rw [w_ret, hv2]
      rfl
theorem newer_at {ks js : List Key} (hk : ∀ k ∈ ks, keyB k = true) (hj : ∀ k ∈ js, keyB k = true) (l1 : ks.length ≤ 1000) (l2 : js.length ≤ 1000) : specA G0 47 [.list (ks.map keyD), .list (js.map keyD)] = some (.bool (newerB ks js)) :=by
  have e0 : specA G0 47 [.list (ks.map keyD), .list (js.map keyD)] = retD (execs (E47 20) b47 ⟨ρ47 (.list (ks.map keyD)) (.list (js.map keyD)), none⟩) := rfl
  refine X22 (λo σ h1 h2 =>?_) (w_run (.list (ks.map keyD)) (.list (js.map keyD)) ks js hk hj)
  rw [e0, w_unf, h1]
  rcases h2 with h2 | ⟨h2, h3, h4⟩
  · subst h2; rfl
  · subst h2; subst h3
    show retD (execs (E47 20) (b47.drop 1) ⟨ρ47 (.list (ks.map keyD)) (.list (js.map keyD)), none⟩) = _
    rw [w_end, if_pos (by rw [List.length_map]; omega), if_pos (by rw [List.length_map]; omega), h4, List.length_map, List.length_map]
    show some (PyData.bool (decide ((js.length : Int) < ks.length))) = _
    congr 2
    exact decide_eq_decide.mpr (by omega)
end Mine
end
section
namespace Mine
open PySem PySem.Spec PyProof.Rows PySem.W PySem.Builtin PySem.Builtin.Str
structure Fl where
  m : Int
  ps : List Pc
  b : Pc
  s : Str
noncomputable def fileD (f : Fl) : PyData := .tuple [.int f.m, .list (f.ps.map pcD), pcD f.b, .str f.s]
noncomputable def buildsT : List Pc := pcBuild0 :: pcBuilds
noncomputable def signsT : List Str := [nm "-", nm "+", nm "_"]
noncomputable def fileOf (m : Int) (c : List Int) : Fl :=
  ⟨m, (c.map pieceOf).take (1 + (c.sum.fmod 7).fmod 4).toNat, buildsT.getD ((c.sum.fmod 11).fmod 4).toNat pcBuild0, signsT.getD ((c.sum.fmod 17).fmod 3).toNat (nm "-")⟩
noncomputable def b43 : List Stmt := (fnAt 43).body
noncomputable def E43 (n : Nat) : Stmt → St → Option (Out × St) := exN (ctxA G3 43) (evN G3 40) n
noncomputable def Γ43 : Sc := (ctxA G3 43).Γ
noncomputable def f43T : Expr := sTgt (at' b43 1)
noncomputable def f43B : List Stmt := sBody (at' b43 1)
noncomputable def ρ43 (ns : List Int) : Loc := [(nm "cells", .list (ns.map PyData.int))]
noncomputable def loop43 (xs : List PyData) (σ : St) : Option (Out × St) := forD (targetD Γ43 f43T) (execs (E43 19) f43B) (fun σ => some (.next, σ)) [nm "cells"] xs σ
noncomputable def ω43 (fs : List PyData) : Option (Str × List PyData) := some (nm "files", fs)
theorem f_unf0 (ns : List Int) : execs (E43 20) b43 ⟨ρ43 ns, none⟩ = thenS ((((((if (ns.map PyData.int).length ≤ 100000 then some (PyData.int (ns.map PyData.int).length) else none).bind λa =>binD .Sub a (.int 3)).bind λd =>some [d, .int 4]).bind λds =>some (.int 0 :: ds)).bind rangeA).bind λxs =>loop43 xs ⟨ρ43 ns, ω43 []⟩) (execs (E43 20) (b43.drop 2)) :=by kernel_rfl
theorem f_end (ns : List Int) (fs : List PyData) : execs (E43 20) (b43.drop 2) ⟨ρ43 ns, ω43 fs⟩ = some (.ret (.list fs), (⟨ρ43 ns, ω43 fs⟩ : St).freeze) :=by kernel_rfl
theorem f_turn (ns : List Int) (t : Int) (fs xs : List PyData) : loop43 (.int t :: xs) ⟨ρ43 ns, ω43 fs⟩ = (execs (E43 19) f43B ⟨(nm "t", .int t) :: ρ43 ns, ω43 fs⟩).bind fun p => match p.1 with
    | .next => loop43 xs (p.2.cut [nm "cells"])
    | .cont => loop43 xs (p.2.cut [nm "cells"])
    | .brk => some (.next, p.2.cut [nm "cells"])
    | .ret d =>some (.ret d, p.2) :=by kernel_rfl
noncomputable def lcP : Expr := subV (asgE (f43B.getD 1 (.Pass default)))
section
variable (ns : List Int) (t : Int) (fs : List PyData)
noncomputable def slT : Option PyData := sliceD (.list (ns.map PyData.int)) (some (.int t)) (some (.int (t + 4)))
theorem f_unf1 : execs (E43 19) f43B ⟨(nm "t", .int t) :: ρ43 ns, ω43 fs⟩ = thenS ((((slT ns t).bind fun d => some [d]).bind fun ds => call0 (nm "sum") ds).bind fun d => some (.next, ⟨(nm "total", d) :: (nm "t", .int t) :: ρ43 ns, ω43 fs⟩)) (execs (E43 19) (f43B.drop 1)) := by kernel_rfl
noncomputable def ρ43a (total : Int) : Loc := (nm "total", .int total) :: (nm "t", .int t) :: ρ43 ns
theorem f_unf2 (total : Int) : execs (E43 19) (f43B.drop 1) ⟨ρ43a ns t total, ω43 fs⟩ = thenS ((((((slT ns t).bind itemsD).bind fun ds => (CT (evN G3 38) Γ43 lcP 0 ds []).bind lim).bind fun xs => some (PyData.list xs)).bind fun d => sliceD d none (some (.int (1 + (total.fmod 7).fmod 4)))).bind fun d => some (.next, ⟨(nm "pieces", d) :: ρ43a ns t total, ω43 fs⟩)) (execs (E43 19) (f43B.drop 2)) := by kernel_rfl
noncomputable def ρ43b (total : Int) (P : PyData) : Loc := (nm "pieces", P) :: ρ43a ns t total
noncomputable def bldD (p : Pc) : PyData := .tuple [.str p.t, numD p.num, .list (p.keys.map keyD)]
theorem f_unf3 (total : Int) (P : PyData) : execs (E43 19) (f43B.drop 2) ⟨ρ43b ns t total P, ω43 fs⟩ = thenS ((idxList (buildsT.map bldD) ((total.fmod 11).fmod 4)).bind fun d => (targetD Γ43 (.Tuple [.Name (nm "text") default, .Name (nm "number") default, .Name (nm "keys") default] 0 default) d ⟨ρ43b ns t total P, ω43 fs⟩).bind fun σ' => some (.next, σ')) (execs (E43 19) (f43B.drop 3)) := by kernel_rfl
noncomputable def ρ43c (total : Int) (P : PyData) (b : Pc) : Loc := (nm "keys", .list (b.keys.map keyD)) :: (nm "number", numD b.num) :: (nm "text", .str b.t) :: ρ43b ns t total P
theorem f_unf4 (total : Int) (P : PyData) (b : Pc) : execs (E43 19) (f43B.drop 3) ⟨ρ43c ns t total P b, ω43 fs⟩ = thenS ((((((idxList (ns.map PyData.int) t).bind fun d => some [d]).bind fun ds => specA G0 40 ds).bind fun m => ((((idxStr (nm "-+_") ((total.fmod 17).fmod 3)).bind fun d => some [d]).bind fun ds => some (pcD b :: ds)).bind fun ds => some (P :: ds)).bind fun ds => some (m :: ds)).bind fun ds => some (PyData.tuple ds)).bind fun d => if fs.length ≤ 100000 then some (.next, ⟨ρ43c ns t total P b, ω43 (fs ++ [d])⟩) else none) (fun σ => some (.next, σ)) := by kernel_rfl
end
theorem intsD_of : ∀ ns : List Int, intsD (ns.map PyData.int) = some ns
  | [] =>rfl
  | n :: ns =>by
    show (intsD (ns.map PyData.int)).bind _ = _
    rw [intsD_of ns]; rfl
theorem f_pieces (c : List Int) : CT (evN G3 38) Γ43 lcP 0 (c.map PyData.int) [] = some ((c.map pieceOf).map pcD) :=by
  have := compT_last (D := PyData.int) (V := evN G3 38) (Γ := Γ43.inner (lcScope lcP)) (elt := lcElt lcP) (g := gen0 lcP 0) (ρ := []) (as := c) (fun z => [pcD (pieceOf z)]) rfl (by decide +kernel) (fun z _ =>
    Eq.trans (b := (specA G2 42 [.int z]).bind λd =>some [d]) (by kernel_rfl) (by rw [piece_at]; rfl))
  rw [← List.map_eq_flatMap] at this
  exact this.trans (by rw [List.map_map]; rfl)
noncomputable def chunk (ns : List Int) (t : Nat) : List Int := (ns.take (t + 4)).drop t
noncomputable def fileAt (ns : List Int) (t : Nat) : Fl := fileOf (modeI (ns.getD t 0)) (chunk ns t)
theorem builds_idx {k : Nat} (h : k < 4) : idxList (buildsT.map bldD) (k : Int) = some (bldD (buildsT.getD k pcBuild0)) :=by
  have : k = 0 ∨ k = 1 ∨ k = 2 ∨ k = 3 :=by omega
  rcases this with h | h | h | h <;> subst h <;> rfl
theorem signs_idx {k : Nat} (h : k < 3) : idxStr (nm "-+_") (k : Int) = some (.str (signsT.getD k (nm "-"))) := by
  have : k = 0 ∨ k = 1 ∨ k = 2 :=by omega
  rcases this with h | h | h <;> subst h <;> kernel_rfl
theorem f_step {ns : List Int} {t : Nat} {fs xs : List PyData} (ht : t + 4 ≤ ns.length) (hl : ns.length ≤ 100) (hf : fs.length ≤ 100) : loop43 (.int t :: xs) ⟨ρ43 ns, ω43 fs⟩ = loop43 xs ⟨ρ43 ns, ω43 (fs ++ [fileD (fileAt ns t)])⟩ :=by
  have hs : slT ns t = some (.list ((chunk ns t).map PyData.int)) :=by
    show (if (0 : Int) ≤ t ∧ (t : Int) ≤ (t : Int) + 4 ∧ (ns.map PyData.int).length ≤ 100000 then some (PyData.list (((ns.map PyData.int).take ((t : Int) + 4).toNat).drop (t : Int).toNat)) else none) = _
    rw [if_pos ⟨Int.natCast_nonneg t, Int.le_add_of_nonneg_right (by decide), (List.length_map _).symm ▸ Nat.le_trans hl (by decide)⟩]
    have e1 : ((t : Int) + 4).toNat = t + 4 := rfl
    have e2 : (t : Int).toNat = t := rfl
    rw [e1, e2, ← List.map_take, ← List.map_drop]
    rfl
  have hc : (chunk ns t).length ≤ 100 :=by
    unfold chunk
    rw [List.length_drop, List.length_take, Nat.min_eq_left ht, Nat.add_sub_cancel_left]; decide
  unfold fileAt
  generalize chunk ns t = c at hs hc
  rw [f_turn, f_unf1, hs]
  show Option.bind (thenS (((intsD (c.map PyData.int)).bind _).bind _) _) _ = _
  rw [intsD_of]
  show Option.bind (execs (E43 19) (f43B.drop 1) ⟨ρ43a ns t c.sum, ω43 fs⟩) _ = _
  rw [f_unf2, hs]
  show Option.bind (thenS (((lst (CT (evN G3 38) Γ43 lcP 0 (c.map PyData.int) [])).bind _).bind _) _) _ = _
  rw [lst_of (f_pieces c) (by rw [List.length_map, List.length_map]; exact Nat.le_trans hc (by decide))]
  refine X12 (λk7 h7 e7 =>?_) (fmod_nat (c.sum.fmod 7) (b := 4) (by decide))
  refine X12 (λk11 h11 e11 =>?_) (fmod_nat (c.sum.fmod 11) (b := 4) (by decide))
  refine X12 (λk17 h17 e17 =>?_) (fmod_nat (c.sum.fmod 17) (b := 3) (by decide))
  have e7 : (c.sum.fmod 7).fmod 4 = k7 := e7
  have e11 : (c.sum.fmod 11).fmod 4 = k11 := e11
  have e17 : (c.sum.fmod 17).fmod 3 = k17 := e17
  have hP : sliceD (.list ((c.map pieceOf).map pcD)) none (some (.int (1 + (c.sum.fmod 7).fmod 4))) = some (.list (((c.map pieceOf).take (1 + (c.sum.fmod 7).fmod 4).toNat).map pcD)) :=by
    show (if (0 : Int) ≤ 1 + (c.sum.fmod 7).fmod 4 ∧ ((c.map pieceOf).map pcD).length ≤ 100000 then some (PyData.list (((c.map pieceOf).map pcD).take (1 + (c.sum.fmod 7).fmod 4).toNat)) else none) = _
    rw [e7, if_pos ⟨Int.add_nonneg (by decide) (Int.natCast_nonneg k7), by rw [List.length_map, List.length_map]; exact Nat.le_trans hc (by decide)⟩, List.map_take]
  show Option.bind (thenS ((sliceD (.list ((c.map pieceOf).map pcD)) none (some (.int (1 + (c.sum.fmod 7).fmod 4)))).bind _) _) _ = _
  rw [hP]
  unfold fileOf
  generalize (c.map pieceOf).take (1 + (c.sum.fmod 7).fmod 4).toNat = qs
  show Option.bind (execs (E43 19) (f43B.drop 2) ⟨ρ43b ns t c.sum (.list (qs.map pcD)), ω43 fs⟩) _ = _
  rw [f_unf3, e11, builds_idx h11, Int.toNat_natCast]
  generalize buildsT.getD k11 pcBuild0 = b
  show Option.bind (execs (E43 19) (f43B.drop 3) ⟨ρ43c ns t c.sum (.list (qs.map pcD)) b, ω43 fs⟩) _ = _
  have hi : idxList (ns.map PyData.int) t = some (.int (ns.getD t 0)) :=by
    have ht' : t < ns.length := Nat.lt_of_lt_of_le (Nat.lt_add_of_pos_right (by decide)) ht
    exact idx_at ht' (Nat.le_trans (Nat.le_of_lt ht') (Nat.le_trans hl (by decide)))
  rw [f_unf4, hi, e17, signs_idx h17, Int.toNat_natCast]
  show Option.bind (thenS ((((specA G0 40 [.int (ns.getD t 0)]).bind _).bind _).bind _) _) _ = _
  rw [mode_at]
  show Option.bind (thenS (if fs.length ≤ 100000 then _ else none) _) _ = _
  rw [if_pos (Nat.le_trans hf (by decide))]
  rfl
noncomputable def filesOf (ns : List Int) : List Fl := (List.range (ns.length / 4)).map λi =>fileAt ns (4 * i)
theorem f_loop {ns : List Int} (hl : ns.length ≤ 100) : ∀ (n i : Nat) (fs : List PyData), 4 * (i + n) ≤ ns.length → fs.length ≤ i → loop43 ((List.range' i n).map fun i => .int ((4 * i : Nat) : Int)) ⟨ρ43 ns, ω43 fs⟩ = some (.next, ⟨ρ43 ns, ω43 (fs ++ (List.range' i n).map fun i => fileD (fileAt ns (4 * i)))⟩)
  | 0, i, fs, _, _ =>by rw [List.range'_zero, List.map_nil, List.map_nil, List.append_nil]; rfl
  | n + 1, i, fs, h, hf =>by
    rw [List.range'_succ, List.map_cons, List.map_cons, f_step (by omega) hl (by omega), f_loop hl n (i + 1) _ (by omega) (by rw [List.length_append]; show fs.length + 1 ≤ i + 1; omega), List.append_assoc]
    rfl
theorem f_range {L : Nat} (h4 : 4 ≤ L) (hl : L ≤ 100) : rangeD 0 ((L : Int) - 3) 4 = some ((List.range' 0 (L / 4)).map λi =>PyData.int ((4 * i : Nat) : Int)) :=by
  unfold rangeD
  rw [if_pos ⟨by decide, by decide, by decide, by omega, by omega, by decide⟩, if_pos (by omega)]
  have e : (((L : Int) - 3 - 0 - 1) / 4 + 1).toNat = L / 4 :=by omega
  rw [e, List.range_eq_range']
  congr 2
  funext i
  congr 1
  omega
theorem files_at {ns : List Int} (h4 : 4 ≤ ns.length) (hl : ns.length ≤ 100) : specA G3 43 [.list (ns.map PyData.int)] = some (.list ((filesOf ns).map fileD)) :=by
  have e0 : specA G3 43 [.list (ns.map PyData.int)] = retD (execs (E43 20) b43 ⟨ρ43 ns, none⟩) := rfl
  rw [e0, f_unf0, List.length_map, if_pos (by omega)]
  show retD (thenS ((rangeD 0 ((ns.length : Int) - 3) 4).bind λxs =>loop43 xs ⟨ρ43 ns, ω43 []⟩) (execs (E43 20) (b43.drop 2))) = _
  rw [f_range h4 hl, Option.bind_some, f_loop hl _ 0 [] (by omega) (Nat.le_refl _), List.nil_append]
  show retD (execs (E43 20) (b43.drop 2) ⟨ρ43 ns, ω43 ((List.range' 0 (ns.length / 4)).map λi =>fileD (fileAt ns (4 * i)))⟩) = _
  rw [f_end]
  unfold filesOf
  rw [List.map_map, List.range_eq_range']
  rfl
end Mine
end
section
namespace Mine
open PySem PySem.Spec PyProof.Rows PySem.W
theorem strLt_irr (x : Str) : ¬ x.cps.toList < x.cps.toList := List.lt_irrefl _
theorem strLt_trans {x y z : Str} (h1 : x.cps.toList < y.cps.toList) (h2 : y.cps.toList < z.cps.toList) : x.cps.toList < z.cps.toList := List.lt_trans h1 h2
theorem strLt_tri {x y : Str} (h1 : ¬ x.cps.toList < y.cps.toList) (h2 : ¬ y.cps.toList < x.cps.toList) : x = y :=by
  refine Str.ext' (Array.toList_inj.mp ?_)
  exact List.le_antisymm (List.not_lt.mp h2) (List.not_lt.mp h1)
theorem gtWd_irr (w : Wd) : gtWd w w = false :=by
  cases w with
  | inl a =>exact decide_eq_false (by omega)
  | inr a =>exact decide_eq_false (strLt_irr a)
theorem gtWd_trans {a b c : Wd} (h1 : gtWd a b = true) (h2 : gtWd b c = true) : gtWd a c = true :=by
  cases a <;> cases b <;> cases c <;> first | (exact fnt h1; done) | (exact fnt h2; done) | skip
  · have h1 := of_decide_eq_true h1
    have h2 := of_decide_eq_true h2
    exact decide_eq_true (by omega)
  · have h1 := of_decide_eq_true h1
    have h2 := of_decide_eq_true h2
    exact decide_eq_true (strLt_trans h2 h1)
theorem gtWd_tri {k j : Key} (hk : keyB k = true) (hj : keyB j = true) (h : k.1 = j.1) (h1 : gtWd k.2 j.2 = false) (h2 : gtWd j.2 k.2 = false) : k.2 = j.2 :=by
  rcases same_kind hk hj h with ⟨a, b, e1, e2⟩ | ⟨a, b, e1, e2, _, _⟩
  · rw [e1, e2] at h1 h2 ⊢
    have h1 := of_decide_eq_false h1
    have h2 := of_decide_eq_false h2
    congr 1
    omega
  · rw [e1, e2] at h1 h2 ⊢
    have h1 := of_decide_eq_false h1
    have h2 := of_decide_eq_false h2
    congr 1
    exact strLt_tri h2 h1
abbrev KeysOk (ks : List Key) : Prop := ∀ k ∈ ks, keyB k = true
theorem newer_irr : ∀ ks : List Key, newerB ks ks = false
  | [] =>rfl
  | k :: ks =>by rw [newerB, if_pos rfl, if_pos rfl, newer_irr ks]
theorem newer_tri : ∀ {a b : List Key}, KeysOk a → KeysOk b → newerB a b = false → newerB b a = false → a = b
  | [], [], _, _, _, _ =>rfl
  | [], j :: js, _, _, _, h =>by simp [newerB] at h
  | k :: ks, [], _, _, h, _ =>by simp [newerB] at h
  | k :: ks, j :: js, ha, hb, h1, h2 =>by
    have k1 := ha k List.mem_cons_self
    have j1 := hb j List.mem_cons_self
    rw [newerB] at h1 h2
    by_cases e : k.1 = j.1
    · rw [if_pos e] at h1
      rw [if_pos e.symm] at h2
      by_cases q : k.2 = j.2
      · rw [if_pos q] at h1
        rw [if_pos q.symm] at h2
        rw [newer_tri (λx hx =>ha x (List.mem_cons_of_mem _ hx)) (λx hx =>hb x (List.mem_cons_of_mem _ hx)) h1 h2, Prod.ext e q]
      · rw [if_neg q] at h1
        rw [if_neg λh =>q h.symm] at h2
        exact absurd (gtWd_tri k1 j1 e h1 h2) q
    · rw [if_neg e] at h1
      rw [if_neg λh =>e h.symm] at h2
      have h1 := of_decide_eq_false h1
      have h2 := of_decide_eq_false h2
      omega
theorem newer_trans : ∀ {a b c : List Key}, newerB a b = true → newerB b c = true → newerB a c = true
  | [], [], c, h1, h2 =>by cases c <;> simp [newerB] at h1 h2
  | [], j :: js, c, h1, h2 =>by simp [newerB] at h1
  | k :: ks, [], c, h1, h2 =>by cases c <;> simp [newerB] at h2
  | k :: ks, j :: js, [], h1, h2 =>by simp [newerB]
  | k :: ks, j :: js, i :: is, h1, h2 =>by
    rw [newerB] at h1 h2 ⊢
    by_cases e : k.1 = j.1
    · rw [if_pos e] at h1
      by_cases f : j.1 = i.1
      · rw [if_pos f] at h2
        rw [if_pos (e.trans f)]
        by_cases q : k.2 = j.2
        · rw [if_pos q] at h1
          by_cases r : j.2 = i.2
          · rw [if_pos r] at h2
            rw [if_pos (q.trans r)]
            exact newer_trans h1 h2
          · rw [if_neg r] at h2
            rw [if_neg λh =>r (q.symm.trans h), q]
            exact h2
        · rw [if_neg q] at h1
          by_cases r : j.2 = i.2
          · rw [if_neg fun h => q (h.trans r.symm), ← r]
            exact h1
          · rw [if_neg r] at h2
            have h3 := gtWd_trans h1 h2
            rw [if_neg λh =>?_]
            · exact h3
            · rw [h, gtWd_irr] at h3; exact fnt h3
      · rw [if_neg f] at h2
        rw [if_neg λh =>f (e.symm.trans h), e]
        exact h2
    · rw [if_neg e] at h1
      have h1 := of_decide_eq_true h1
      by_cases f : j.1 = i.1
      · rw [if_neg (by omega), decide_eq_true (by omega)]
      · rw [if_neg f] at h2
        have h2 := of_decide_eq_true h2
        rw [if_neg (by omega), decide_eq_true (by omega)]
noncomputable def bestStep (A : Nat → Bool) (gt : Nat → Nat → Bool) (i : Nat) (best : Option Nat) : Option Nat :=
  if A i && (match best with | none =>true | some b =>gt i b) then some i else best
noncomputable def BestAt (A : Nat → Bool) (gt : Nat → Nat → Bool) (i : Nat) : Option Nat → Prop
  | none =>∀ k, k < i → A k = false
  | some b =>b < i ∧ A b = true ∧ (∀ k, k < i → A k = true → gt k b = false) ∧ ∀ k, k < b → A k = true → gt b k = true
noncomputable def best (A : Nat → Bool) (gt : Nat → Nat → Bool) : Nat → Option Nat
  | 0 =>none
  | i + 1 =>bestStep A gt i (best A gt i)
theorem best_at {A : Nat → Bool} {gt : Nat → Nat → Bool} {n : Nat} (irr : ∀ k, gt k k = false) (tr : ∀ {a b c}, gt a b = true → gt b c = true → gt a c = true) (tri : ∀ {a b c}, a < n → b < n → c < n → gt a b = false → gt b a = false → gt c a = gt c b) : ∀ i, i ≤ n → BestAt A gt i (best A gt i)
  | 0, _ =>λk h =>absurd h (Nat.not_lt_zero k)
  | i + 1, hi =>by
    have ih := best_at (A := A) irr tr tri i (by omega)
    rw [best]
    unfold bestStep
    cases hA : A i with
    | false =>
      rw [Bool.false_and, if_neg Bool.false_ne_true]
      cases hb : best A gt i with
      | none =>
        rw [hb] at ih
        intro k hk
        rcases Nat.lt_succ_iff_lt_or_eq.mp hk with h | h
        · exact ih k h
        · rw [h]; exact hA
      | some b =>
        rw [hb] at ih
        revert ih; refine X04 λh1 h2 h3 h4 =>?_
        refine ⟨by omega, h2, λk hk ha =>?_, h4⟩
        rcases Nat.lt_succ_iff_lt_or_eq.mp hk with h | h
        · exact h3 k h ha
        · rw [h, hA] at ha; exact fnt ha
    | true =>
      rw [Bool.true_and]
      cases hb : best A gt i with
      | none =>
        rw [hb] at ih
        dsimp only
        rw [if_pos rfl]
        refine ⟨by omega, hA, λk hk ha =>?_, λk hk ha =>?_⟩
        · rcases Nat.lt_succ_iff_lt_or_eq.mp hk with h | h
          · rw [ih k h] at ha; exact fnt ha
          · rw [h]; exact irr i
        · rw [ih k hk] at ha; exact fnt ha
      | some b =>
        rw [hb] at ih
        revert ih; refine X04 λh1 h2 h3 h4 =>?_
        dsimp only
        by_cases hg : gt i b = true
        · rw [if_pos hg]
          refine ⟨by omega, hA, λk hk ha =>?_, λk hk ha =>?_⟩
          · rcases Nat.lt_succ_iff_lt_or_eq.mp hk with h | h
            · cases hq : gt k i with
              | false =>rfl
              | true =>
                have := tr hq hg
                rw [h3 k h ha] at this; exact fnt this
            · rw [h]; exact irr i
          · have hkb := h3 k hk ha
            cases hq : gt b k with
            | true =>exact tr hg hq
            | false =>rw [tri (a := k) (b := b) (c := i) (by omega) (by omega) (by omega) hkb hq]; exact hg
        · rw [if_neg hg]
          refine ⟨by omega, h2, λk hk ha =>?_, h4⟩
          rcases Nat.lt_succ_iff_lt_or_eq.mp hk with h | h
          · exact h3 k h ha
          · rw [h]; exact Bool.eq_false_iff.mpr hg
noncomputable def alikes (A : Nat → Bool) (n : Nat) : List Nat := (List.range n).filter A
theorem alikes_mem {A : Nat → Bool} {n k : Nat} : k ∈ alikes A n ↔ k < n ∧ A k = true :=by
  unfold alikes
  rw [List.mem_filter, List.mem_range]
theorem first_best {A : Nat → Bool} {gt : Nat → Nat → Bool} {n : Nat} {b : Option Nat} (h : BestAt A gt n b) : ((alikes A n).filter λk =>((alikes A n).filter λj =>gt j k).isEmpty).take 1 = b.toList :=by
  cases b with
  | none =>
    have : alikes A n = [] := List.eq_nil_iff_forall_not_mem.mpr λk hk =>by
      refine X02 (λh1 h2 =>?_) (alikes_mem.mp hk)
      rw [h k h1] at h2; exact fnt h2
    rw [this]; rfl
  | some b =>
    revert h; refine X04 λh1 h2 h3 h4 =>?_
    have hmax : ((alikes A n).filter λj =>gt j b).isEmpty = true :=by
      rw [List.isEmpty_iff, List.filter_eq_nil_iff]
      intro k hk
      refine X02 (λq1 q2 =>?_) (alikes_mem.mp hk)
      rw [h3 k q1 q2]; exact Bool.false_ne_true
    have hlow : ∀ k, k < b → A k = true → ((alikes A n).filter λj =>gt j k).isEmpty = false := λk hk ha =>by
      cases hq : ((alikes A n).filter λj =>gt j k).isEmpty with
      | false =>rfl
      | true =>
        rw [List.isEmpty_iff, List.filter_eq_nil_iff] at hq
        exact absurd (h4 k hk ha) (hq b (alikes_mem.mpr ⟨h1, h2⟩))
    have hsplit : alikes A n = (List.range b).filter A ++ b :: (List.range' (b + 1) (n - b - 1)).filter A :=by
      unfold alikes
      have e := List.range'_append_1 (s := 0) (m := b) (n := n - b)
      rw [Nat.zero_add, show b + (n - b) = n by omega, show n - b = (n - b - 1) + 1 by omega, List.range'_succ, ← List.range_eq_range', ← List.range_eq_range'] at e
      rw [← e, List.filter_append, List.filter_cons_of_pos h2]
    generalize hP : (λk =>((alikes A n).filter λj =>gt j k).isEmpty) = P
    have hPb : P b = true :=by rw [← hP]; exact hmax
    have hPl : ∀ k ∈ (List.range b).filter A, ¬ P k = true := λk hk =>by
      rw [List.mem_filter, List.mem_range] at hk
      rw [← hP]
      dsimp only
      rw [hlow k hk.1 hk.2]; exact Bool.false_ne_true
    rw [hsplit, List.filter_append, List.filter_eq_nil_iff.mpr hPl, List.nil_append, List.filter_cons_of_pos hPb]
    rfl
end Mine
end
section
namespace Mine
open PySem PySem.Spec PyProof.Rows PySem.W PySem.Builtin PySem.Builtin.Str
noncomputable def b49 : List Stmt := (fnAt 49).body
noncomputable def E49 (n : Nat) : Stmt → St → Option (Out × St) := exC (lawK G4) (evN G4 40) n
noncomputable def V5 (n : Nat) : EvT := evN G4 n
noncomputable def Γ49 : Sc := (lawK G4).C.Γ
noncomputable def f49T : Expr := sTgt (at' b49 3)
noncomputable def f49B : List Stmt := sBody (at' b49 3)
noncomputable def namesT : List Str := [nm "win32", nm "win16", nm "Solaris", nm "Darwin", nm "Linux", nm "Java", nm "dos", nm ""]
noncomputable def ρ49 (F S : PyData) : Loc := [(nm "names", .list (namesT.map PyData.str)), (nm "files", F), (nm "script", S)]
noncomputable def n49 : List Str := [nm "names", nm "files", nm "script"]
noncomputable def ω49 (hs : List PyData) : Option (Str × List PyData) := some (nm "heads", hs)
noncomputable def loop49 (xs : List PyData) (σ : St) : Option (Out × St) := forD (targetD Γ49 f49T) (execs (E49 19) f49B) (λσ =>some (.next, σ)) n49 xs σ
noncomputable def tailL : List PyData := [.int 48, .int 99141, .int 248, .int 0, .int 672, .int 23665, .int 54, .int 1974]
theorem l_unf0 (S : PyData) : execs (E49 20) b49 ⟨[(nm "script", S)], none⟩ = thenS (((((sliceD S none (some (.int 8))).bind fun a => binD .Add a (.list tailL)).bind fun d => some [d]).bind fun ds => specA G3 43 ds).bind fun d => some (.next, ⟨[(nm "files", d), (nm "script", S)], none⟩)) (execs (E49 20) (b49.drop 1)) := by kernel_rfl
theorem l_unf1 (F S : PyData) : execs (E49 20) (b49.drop 1) ⟨[(nm "files", F), (nm "script", S)], none⟩ = execs (E49 20) (b49.drop 3) ⟨ρ49 F S, ω49 []⟩ := by kernel_rfl
theorem l_unf2 (xs : List PyData) (S : PyData) : execs (E49 20) (b49.drop 3) ⟨ρ49 (.list xs) S, ω49 []⟩ = thenS (loop49 xs ⟨ρ49 (.list xs) S, ω49 []⟩) (execs (E49 20) (b49.drop 4)) :=by kernel_rfl
section
variable (F S : PyData) (f : Fl) (hs : List PyData)
noncomputable def ρf : Loc := (nm "sign", .str f.s) :: (nm "build", pcD f.b) :: (nm "pieces", .list (f.ps.map pcD)) :: (nm "mode", .int f.m) :: ρ49 F S
theorem l_turn (xs : List PyData) : loop49 (fileD f :: xs) ⟨ρ49 F S, ω49 hs⟩ = (execs (E49 19) f49B ⟨ρf F S f, ω49 hs⟩).bind fun p => match p.1 with
    | .next =>loop49 xs (p.2.cut n49)
    | .cont =>loop49 xs (p.2.cut n49)
    | .brk =>some (.next, p.2.cut n49)
    | .ret d =>some (.ret d, p.2) :=by kernel_rfl
noncomputable def tx49 : Expr := asgE (f49B.getD 0 (.Pass default))
theorem t_unf0 : execs (E49 19) f49B ⟨ρf F S f, ω49 hs⟩ = thenS ((lst (CT (V5 39) Γ49 tx49 0 (f.ps.map pcD) [])).bind fun d => some (.next, ⟨(nm "texts", d) :: ρf F S f, ω49 hs⟩)) (execs (E49 19) (f49B.drop 1)) := by kernel_rfl
theorem t_txts (ps : List Pc) : CT (V5 39) Γ49 tx49 0 (ps.map pcD) [] = some ((ps.map Pc.t).map PyData.str) :=by
  have := compT_last (D := pcD) (V := V5 39) (Γ := Γ49.inner (lcScope tx49)) (elt := lcElt tx49) (g := gen0 tx49 0) (ρ := []) (as := ps) (λp =>[.str p.t]) rfl (by decide +kernel) (λp _ =>by kernel_rfl)
  rw [← List.map_eq_flatMap] at this
  exact this.trans (by rw [List.map_map]; rfl)
variable (ts : List Str)
noncomputable def ρf1 : Loc := (nm "texts", .list (ts.map PyData.str)) :: ρf F S f
theorem t_unf1 : execs (E49 19) (f49B.drop 1) ⟨ρf1 F S f ts, ω49 hs⟩ = thenS ((methJoin (nm ".") (ts.map PyData.str)).bind fun d => some (.next, ⟨(nm "dotted", d) :: ρf1 F S f ts, ω49 hs⟩)) (execs (E49 19) (f49B.drop 2)) := by kernel_rfl
variable (D : Str)
noncomputable def ρf2 : Loc := (nm "dotted", .str D) :: ρf1 F S f ts
theorem t_unf2 : execs (E49 19) (f49B.drop 2) ⟨ρf2 F S f ts D, ω49 hs⟩ = thenS ((specC G0 4 [.str D]).bind fun d => some (.next, ⟨(nm "told", d) :: ρf2 F S f ts D, ω49 hs⟩)) (execs (E49 19) (f49B.drop 3)) := by kernel_rfl
variable (ws : List Wd)
noncomputable def ρf3 : Loc := (nm "told", .list (ws.map wdD)) :: ρf2 F S f ts D
noncomputable def t3E : Expr := sTest (at' f49B 3)
noncomputable def ifB (k : Nat) : List Stmt := sBody (at' f49B k)
theorem t_unf3 : execs (E49 19) (f49B.drop 3) ⟨ρf3 F S f ts D ws, ω49 hs⟩ = thenS (((V5 40).ts Γ49 t3E (ρf3 F S f ts D ws)).bind λc =>if c then execs (E49 18) (ifB 3) ⟨ρf3 F S f ts D ws, ω49 hs⟩ else some (.next, ⟨ρf3 F S f ts D ws, ω49 hs⟩)) (execs (E49 19) (f49B.drop 4)) :=by kernel_rfl
theorem t_t3 : (V5 40).ts Γ49 t3E (ρf3 F S f ts D ws) = allT (λe =>(V5 39).ts Γ49 e (ρf3 F S f ts D ws)) .Or (bvs t3E) :=by kernel_rfl
theorem t_t3a : (V5 39).ts Γ49 ((bvs t3E).getD 0 t3E) (ρf3 F S f ts D ws) = (specA G0 44 [.list (f.ps.map pcD)]).bind λb =>cmpD .NotEq (.list (ws.map wdD)) b :=by kernel_rfl
theorem t_t3b : (V5 39).ts Γ49 ((bvs t3E).getD 1 t3E) (ρf3 F S f ts D ws) = (lst (CT (V5 37) Γ49 (cmpL ((bvs t3E).getD 1 t3E)) 0 (ws.map wdD) [])).bind λa =>cmpD .NotEq a (.list []) :=by kernel_rfl
theorem t_bool (ws : List Wd) : CT (V5 37) Γ49 (cmpL ((bvs t3E).getD 1 t3E)) 0 (ws.map wdD) [] = some [] :=by
  have := compT_last (D := wdD) (V := V5 37) (Γ := Γ49.inner (lcScope (cmpL ((bvs t3E).getD 1 t3E)))) (elt := lcElt (cmpL ((bvs t3E).getD 1 t3E))) (g := gen0 (cmpL ((bvs t3E).getD 1 t3E)) 0) (ρ := []) (as := ws) (λw =>[]) rfl (by decide +kernel) (λw _ =>by cases w <;> kernel_rfl)
  refine this.trans (congrArg some ?_)
  induction ws with
  | nil =>rfl
  | cons w ws ih =>rw [List.flatMap_cons, List.nil_append]; exact List.flatMap_eq_nil_iff.mpr λ_ _ =>rfl
theorem t_unf4 : execs (E49 19) (f49B.drop 4) ⟨ρf3 F S f ts D ws, ω49 hs⟩ = thenS ((((methJoin f.s (ts.map PyData.str)).bind λd =>some [d]).bind λds =>specC G0 4 ds).bind λx =>(cmpD .NotEq x (.list (ws.map wdD))).bind λc =>if c then execs (E49 18) (ifB 4) ⟨ρf3 F S f ts D ws, ω49 hs⟩ else some (.next, ⟨ρf3 F S f ts D ws, ω49 hs⟩)) (execs (E49 19) (f49B.drop 5)) :=by kernel_rfl
theorem t_unf5 : execs (E49 19) (f49B.drop 5) ⟨ρf3 F S f ts D ws, ω49 hs⟩ = thenS ((specC G0 5 [.str D, .str f.b.t]).bind fun d => some (.next, ⟨(nm "norm", d) :: ρf3 F S f ts D ws, ω49 hs⟩)) (execs (E49 19) (f49B.drop 6)) := by kernel_rfl
variable (N : Str)
noncomputable def ρf4 : Loc := (nm "norm", .str N) :: ρf3 F S f ts D ws
theorem t_unf6 : execs (E49 19) (f49B.drop 6) ⟨ρf4 F S f ts D ws N, ω49 hs⟩ = thenS (((specC G0 4 [.str N]).bind λy =>some (PyData.tuple [.str N, y])).bind λx =>(specA G1 45 [.list (f.ps.map pcD), pcD f.b]).bind λy =>(cmpD .NotEq x y).bind λc =>if c then execs (E49 18) (ifB 6) ⟨ρf4 F S f ts D ws N, ω49 hs⟩ else some (.next, ⟨ρf4 F S f ts D ws N, ω49 hs⟩)) (execs (E49 19) (f49B.drop 7)) :=by kernel_rfl
theorem t_unf7 : execs (E49 19) (f49B.drop 7) ⟨ρf4 F S f ts D ws N, ω49 hs⟩ = thenS ((specC G0 6 [.str (nm "SunOS"), .str D, .str N]).bind fun x => (specA G0 46 [.list (f.ps.map pcD), .str N]).bind fun y => (cmpD .NotEq x y).bind fun c => if c then execs (E49 18) (ifB 7) ⟨ρf4 F S f ts D ws N, ω49 hs⟩ else some (.next, ⟨ρf4 F S f ts D ws N, ω49 hs⟩)) (execs (E49 19) (f49B.drop 8)) := by kernel_rfl
noncomputable def aliasL (D N : Str) : List PyData := ([nm "Windows", nm "Windows", nm "Solaris", nm "Darwin", nm "Linux", nm "Java", nm "dos", nm ""] : List Str).map fun x => .tuple [.str x, .str D, .str N]
theorem t_unf8 : execs (E49 19) (f49B.drop 8) ⟨ρf4 F S f ts D ws N, ω49 hs⟩ = thenS ((cmpD .NotEq (.list (aliasL D N)) (.list (aliasL D N))).bind λc =>if c then execs (E49 18) (ifB 8) ⟨ρf4 F S f ts D ws N, ω49 hs⟩ else some (.next, ⟨ρf4 F S f ts D ws N, ω49 hs⟩)) (execs (E49 19) (f49B.drop 9)) :=by kernel_rfl
theorem t_unf9 : execs (E49 19) (f49B.drop 9) ⟨ρf4 F S f ts D ws N, ω49 hs⟩ = thenS (((((if 1000 < (ts.map PyData.str).length then none else specP (ts.map PyData.str)).bind λd =>some [d]).bind λds =>specC G0 4 ds).bind λd =>if hs.length ≤ 100000 then some (.next, ⟨ρf4 F S f ts D ws N, ω49 (hs ++ [d])⟩) else none)) (λσ =>some (.next, σ)) :=by kernel_rfl
end
end Mine
end
section
namespace Mine
open PySem PySem.Spec PyProof.Rows PySem.W PySem.Builtin PySem.Builtin.Str
theorem join_inj {c : Nat} : ∀ {as bs : List Str}, as ≠ [] → bs ≠ [] → (∀ a ∈ as, c ∉ a.cps.toList) → (∀ b ∈ bs, c ∉ b.cps.toList) → Str.join ⟨#[c]⟩ as = Str.join ⟨#[c]⟩ bs → as = bs :=by
  have key : ∀ (x y u v : List Nat), c ∉ x → c ∉ y → x ++ c :: u = y ++ c :: v → x = y ∧ u = v :=by
    intro x
    induction x with
    | nil =>
      intro y u v hx hy h
      cases y with
      | nil =>exact ⟨rfl, by simpa using h⟩
      | cons b y =>
        rw [List.nil_append, List.cons_append, List.cons.injEq] at h
        exact absurd (h.1 ▸ List.mem_cons_self) hy
    | cons a x ih =>
      intro y u v hx hy h
      cases y with
      | nil =>
        rw [List.nil_append, List.cons_append, List.cons.injEq] at h
        exact absurd (h.1 ▸ List.mem_cons_self) hx
      | cons b y =>
        rw [List.cons_append, List.cons_append, List.cons.injEq] at h
        refine X02 (λh1 h2 =>?_) (ih y u v (λm =>hx (List.mem_cons_of_mem _ m)) (λm =>hy (List.mem_cons_of_mem _ m)) h.2)
        exact ⟨by rw [h.1, h1], h2⟩
  have cons2 : ∀ (x y : Str) (r : List Str), (Str.join ⟨#[c]⟩ (x :: y :: r)).cps.toList = x.cps.toList ++ c :: (Str.join ⟨#[c]⟩ (y :: r)).cps.toList :=by
    intro x y r
    rw [join_cons, toList_app, toList_app, List.append_assoc]; rfl
  intro as
  induction as with
  | nil =>intro bs h; exact absurd rfl h
  | cons a as ih =>
    intro bs _ hb ha hbs h
    cases bs with
    | nil =>exact absurd rfl hb
    | cons b bs =>
      have h' := congrArg (λx : Str =>x.cps.toList) h
      cases as with
      | nil =>
        cases bs with
        | nil =>
          have : a = b := h
          rw [this]
        | cons b2 bs =>
          rw [cons2] at h'
          exact absurd (show c ∈ a.cps.toList by have h' : a.cps.toList = _ := h'; rw [h']; simp) (ha a List.mem_cons_self)
      | cons a2 as =>
        cases bs with
        | nil =>
          rw [cons2] at h'
          exact absurd (show c ∈ b.cps.toList by have h' : _ = b.cps.toList := h'; rw [← h']; simp) (hbs b List.mem_cons_self)
        | cons b2 bs =>
          rw [cons2, cons2] at h'
          refine X02 (λh1 h2 =>?_) (key _ _ _ _ (ha a List.mem_cons_self) (hbs b List.mem_cons_self) h')
          have e1 : a = b := Str.ext' (Array.toList_inj.mp h1)
          have e2 : Str.join ⟨#[c]⟩ (a2 :: as) = Str.join ⟨#[c]⟩ (b2 :: bs) := Str.ext' (Array.toList_inj.mp h2)
          rw [e1, ih (by simp) (by simp) (λx hx =>ha x (List.mem_cons_of_mem _ hx)) (λx hx =>hbs x (List.mem_cons_of_mem _ hx)) e2]
theorem split_join {c : Nat} {ts : List Str} (hne : ts ≠ []) (h : ∀ t ∈ ts, c ∉ t.cps.toList) : Txt.split (Str.join ⟨#[c]⟩ ts) ⟨#[c]⟩ = ts :=by
  refine join_inj (c := c) ?_ hne (StrLaws.split_free _ c) h (StrLaws.join_split _ _)
  intro e
  have := split_pos (Str.join ⟨#[c]⟩ ts) ⟨#[c]⟩
  rw [e] at this
  exact absurd this (by decide)
theorem depthAll_le {n : Nat} : ∀ {ds : List PyData}, (∀ d ∈ ds, PyData.depth d ≤ n) → PyData.depthAll ds ≤ n
  | [], _ =>by rw [PyData.depthAll]; exact Nat.zero_le _
  | d :: ds, h =>by
    rw [PyData.depthAll]
    exact Nat.max_le.mpr ⟨h d List.mem_cons_self, depthAll_le λx hx =>h x (List.mem_cons_of_mem _ hx)⟩
theorem depth_list {n : Nat} {ds : List PyData} (h : PyData.depthAll ds ≤ n) : PyData.depth (.list ds) ≤ n + 1 :=by rw [PyData.depth]; exact Nat.succ_le_succ h
theorem depth_tuple {n : Nat} {ds : List PyData} (h : PyData.depthAll ds ≤ n) : PyData.depth (.tuple ds) ≤ n + 1 :=by rw [PyData.depth]; exact Nat.succ_le_succ h
theorem depth_wd (w : Wd) : PyData.depth (wdD w) ≤ 0 :=by cases w <;> (unfold wdD; rw [PyData.depth]; exact Nat.le_refl _)
theorem depth_str (s : Str) : PyData.depth (.str s) ≤ 0 :=by rw [PyData.depth]; exact Nat.le_refl _
theorem ne_self {d : PyData} (h : PyData.canLay0 d = true) (hd : PyData.depth d ≤ 64) : cmpD .NotEq d d = some false :=by
  have : okD d d = true :=by unfold okD; rw [h, decide_eq_true hd]; rfl
  show (if okD d d = true then some (!PyData.eqv d d) else none) = _
  rw [if_pos this, SeqAt.eqv_refl d h]; rfl
theorem depth_wds (ws : List Wd) : PyData.depth (.list (ws.map wdD)) ≤ 1 := depth_list (depthAll_le λd hd =>by obtain ⟨w, _, rfl⟩ := List.mem_map.mp hd; exact depth_wd w)
theorem lay_wds {ws : List Wd} (h : ∀ w ∈ ws, wdB w = true) : PyData.canLay0 (.list (ws.map wdD)) = true := lay_list (lay_map λw hw =>lay_wd (h w hw))
theorem flatK_wds {ks : List Key} (h : KeysOk ks) : ∀ w ∈ flatK ks, wdB w = true := λw hw =>by
  unfold flatK at hw
  refine X12 (λk hk hw =>?_) (List.mem_flatMap.mp hw)
  simp only [List.mem_cons, List.not_mem_nil, or_false] at hw
  rcases hw with rfl | rfl
  · rfl
  · exact keyB_wd (h k hk)
theorem flatW_wds {ps : List Pc} (h : ∀ p ∈ ps, KeysOk p.keys) : ∀ w ∈ flatW ps, wdB w = true := λw hw =>by
  unfold flatW at hw
  refine X12 (λp hp hw =>?_) (List.mem_flatMap.mp hw)
  exact flatK_wds (h p hp) w hw
end Mine
end
section
namespace Mine
open PySem PySem.Spec PyProof.Rows PySem.W PySem.Builtin PySem.Builtin.Str
structure FlOk (f : Fl) : Prop where
  ne : f.ps ≠ []
  len : f.ps.length ≤ 4
  ps : ∀ p ∈ f.ps, PieceOk p
  b : f.b = pcBuild0 ∨ f.b ∈ pcBuilds
  s : f.s ∈ signsT
noncomputable def txts (f : Fl) : List Str := f.ps.map Pc.t
noncomputable def dotT (f : Fl) : Str := Str.join (nm ".") (txts f)
noncomputable def partsF (f : Fl) : List Pc := partsP f.ps f.b
noncomputable def normS (f : Fl) : Str := Str.join (nm ".") (normT (partsF f))
noncomputable def pkeys (f : Fl) : List Key := (f.ps.flatMap Pc.keys).filter λk =>decide (k ≠ blankK)
theorem nm_dot : nm "." = ⟨#[46]⟩ := by decide
theorem kc_join {c : Nat} (hc : isSep c = true) {ps : List Pc} (h : ∀ p ∈ ps, PcOk p) : kcW (Str.join ⟨#[c]⟩ (ps.map Pc.t)).cps.toList = flatW ps :=by
  rw [kcW_join hc, List.flatMap_map]
  unfold flatW
  induction ps with
  | nil =>rfl
  | cons p ps ih =>
    rw [List.flatMap_cons, List.flatMap_cons, (h p List.mem_cons_self).keys, ih λq hq =>h q (List.mem_cons_of_mem _ hq)]
theorem asc_join {s : Str} {ts : List Str} (hs : low s) (h1 : s.length ≤ 1) (h : ∀ t ∈ ts, low t ∧ t.length ≤ 20) (hl : ts.length ≤ 4) : Asc (Str.join s ts) 640 :=by
  refine ⟨λc hc =>?_, ?_⟩
  · rcases mem_join hc with h' | ⟨t, ht, h'⟩
    · exact hs c h'
    · exact (h t ht).1 c h'
  · have h2 := PySem.StrLaws.join_length_le s ts
    have h3 := StrLaws.sumLen_le (B := 20) ts λt ht =>(h t ht).2
    have h4 : ts.length * s.length ≤ ts.length * 1 := Nat.mul_le_mul_left _ h1
    omega
theorem comp_wd {x : Str} (h : Asc x 640) : specC G0 4 [.str x] = some (.list ((kcW x.cps.toList).map wdD)) :=by rw [comp_at h, compW_eq]
section
variable {f : Fl} (O : FlOk f)
include O
theorem fo_pc : ∀ p ∈ f.ps, PcOk p := λp hp =>(O.ps p hp).toPcOk
theorem fo_txt : ∀ t ∈ txts f, low t ∧ t.length ≤ 20 := λt ht =>by
  obtain ⟨p, hp, rfl⟩ := List.mem_map.mp ht
  exact ⟨(O.ps p hp).low, (O.ps p hp).len⟩
theorem fo_tl : (txts f).length ≤ 4 :=by unfold txts; rw [List.length_map]; exact O.len
theorem fo_asc : Asc (dotT f) 640 := asc_join (by unfold low; decide) (by decide) (fo_txt O) (fo_tl O)
theorem fo_kc : kcW (dotT f).cps.toList = flatW f.ps :=by unfold dotT txts; rw [nm_dot]; exact kc_join (by decide) (fo_pc O)
theorem fo_split : Txt.split (dotT f) (nm ".") = txts f := by
  unfold dotT
  rw [nm_dot]
  refine split_join ?_ λt ht =>?_
  · unfold txts
    intro e
    exact O.ne (List.map_eq_nil_iff.mp e)
  · obtain ⟨p, hp, rfl⟩ := List.mem_map.mp ht
    exact (O.ps p hp).nodot
theorem fo_sign : low f.s ∧ f.s.length ≤ 1 ∧ ∃ c, isSep c = true ∧ f.s = ⟨#[c]⟩ :=by
  have := O.s
  simp only [signsT, List.mem_cons, List.not_mem_nil, or_false] at this
  rcases this with h | h | h
  · rw [h]; exact ⟨by unfold low; decide, by decide, 45, by decide, by decide⟩
  · rw [h]; exact ⟨by unfold low; decide, by decide, 43, by decide, by decide⟩
  · rw [h]; exact ⟨by unfold low; decide, by decide, 95, by decide, by decide⟩
theorem fo_b : low f.b.t ∧ f.b.t.length ≤ 20 ∧ (f.b.t ≠ nm "" → PcOk f.b) := by
  rcases O.b with h | h
  · rw [h]; exact ⟨by unfold low; decide, by decide, λq =>absurd rfl q⟩
  · have g := pcOk_of (pcBuilds_ok _ h)
    exact ⟨g.low, g.len, λ_ =>g⟩
theorem fo_parts : ∀ p ∈ partsF f, PcOk p := λp hp =>by
  unfold partsF partsP at hp
  rcases List.mem_append.mp hp with h | h
  · exact fo_pc O p h
  · split at h
    · cases h
    · rename_i q
      rw [List.mem_singleton.mp h]
      exact (fo_b O).2.2 q
theorem fo_partsOf : partsOf (dotT f) f.b.t = (partsF f).map Pc.t :=by
  unfold partsOf partsF partsP
  rw [fo_split O, List.map_append]
  unfold txts
  congr 1
  by_cases q : f.b.t = nm ""
  · rw [if_pos q, q]; rfl
  · rw [if_neg q, if_neg ?_]
    · rfl
    · intro e
      refine q (Str.ext' ?_)
      have : f.b.t.cps.size = 0 := e
      rw [Array.size_eq_zero_iff.mp this]; rfl
theorem fo_plen : (partsF f).length ≤ 5 :=by
  have := O.len
  unfold partsF partsP
  rw [List.length_append]
  split
  · simp only [List.length_nil]; omega
  · simp only [List.length_cons, List.length_nil]; omega
end
theorem num_isSome : ∀ {qs : List Pc}, (∀ p ∈ qs, PcOk p) → (qs.map Pc.t).all (fun x => (PySem.intText? x).isSome) = qs.all (fun p => p.num.isSome)
  | [], _ =>rfl
  | p :: qs, h =>by rw [List.map_cons, List.all_cons, List.all_cons, (h p List.mem_cons_self).num, num_isSome λq hq =>h q (List.mem_cons_of_mem _ hq)]
theorem strs_norm {qs : List Pc} (h : ∀ p ∈ qs, PcOk p) : (strsN (qs.map Pc.t)).take 3 = normT qs :=by
  unfold strsN normT
  rw [num_isSome h]
  split
  · rw [List.map_map, ← List.map_take]
    refine List.map_congr_left λp hp =>?_
    show Str.ofString (toString ((PySem.intText? p.t).getD 0)) = strZ (p.num.getD 0)
    rw [(h p (List.mem_of_mem_take hp)).num]; rfl
  · rw [← List.map_take]
theorem low_strZ {n : Int} (h : n.natAbs < 10000000) : low (strZ n) :=by
  have nat : ∀ m : Nat, low (strZ (m : Int)) := λm c hc =>by
    unfold strZ at hc
    rw [KIN.signs_num] at hc
    refine X12 (λch hch e =>?_) (List.mem_map.mp hc)
    have r := digit_range (Nat.isDigit_of_mem_toDigits (by decide) (by decide) hch)
    rw [← e]; omega
  cases n with
  | ofNat m =>exact nat m
  | negSucc m =>
    intro c hc
    rw [strZ_neg] at hc
    rcases List.mem_cons.mp hc with rfl | hc
    · decide
    · exact nat _ c hc
theorem normT_ok {qs : List Pc} (h : ∀ p ∈ qs, PcOk p) : (∀ t ∈ normT qs, low t ∧ t.length ≤ 20) ∧ (normT qs).length ≤ 3 :=by
  unfold normT
  split
  · refine ⟨fun t ht => ?_, by rw [List.length_map]; exact List.length_take_le ..⟩
    obtain ⟨p, hp, rfl⟩ := List.mem_map.mp ht
    have hs : (p.num.getD 0).natAbs < 10000000 :=by
      cases hn : p.num with
      | none =>decide
      | some n =>exact (h p (List.mem_of_mem_take hp)).small n hn
    exact ⟨low_strZ hs, strZ_small hs⟩
  · refine ⟨fun t ht => ?_, by rw [List.length_map]; exact List.length_take_le ..⟩
    obtain ⟨p, hp, rfl⟩ := List.mem_map.mp ht
    exact ⟨(h p (List.mem_of_mem_take hp)).low, (h p (List.mem_of_mem_take hp)).len⟩
theorem normK_eq {qs : List Pc} (h : ∀ p ∈ qs, PcOk p) : kcW (Str.join (nm ".") (normT qs)).cps.toList = normK qs := by
  rw [nm_dot]
  unfold normT normK
  split
  · rw [kcW_join (by decide), List.flatMap_map]
    have : ∀ ps : List Pc, (∀ p ∈ ps, PcOk p) → (ps.flatMap λp =>kcW (strZ (p.num.getD 0)).cps.toList) = ps.flatMap λp =>absW (p.num.getD 0) :=by
      intro ps hp
      induction ps with
      | nil =>rfl
      | cons p ps ih =>
        have hs : (p.num.getD 0).natAbs < 10000000 :=by
          cases hn : p.num with
          | none =>decide
          | some n =>exact (hp p List.mem_cons_self).small n hn
        rw [List.flatMap_cons, List.flatMap_cons, kcW_num hs, ih λq hq =>hp q (List.mem_cons_of_mem _ hq)]
    exact this _ λp hp =>h p (List.mem_of_mem_take hp)
  · exact kc_join (by decide) λp hp =>h p (List.mem_of_mem_take hp)
theorem normK_wds {qs : List Pc} (h : ∀ p ∈ qs, PcOk p) : ∀ w ∈ normK qs, wdB w = true := λw hw =>by
  unfold normK at hw
  split at hw
  · refine X12 (fun p hp hw => ?_) (List.mem_flatMap.mp hw)
    unfold absW at hw
    simp only [List.mem_cons, List.not_mem_nil, or_false] at hw
    rcases hw with rfl | rfl <;> rfl
  · exact flatW_wds (λp hp =>(h p (List.mem_of_mem_take hp)).kok) w hw
end Mine
end
section
namespace Mine
open PySem PySem.Spec PyProof.Rows PySem.W PySem.Builtin PySem.Builtin.Str
theorem asc_ascii {x : Str} (h1 : low x) (h2 : x.length ≤ 20) : asciiD x = true := Asc.ascii (n := 20) ⟨h1, h2⟩ (by decide)
section
variable {f : Fl} (O : FlOk f)
include O
theorem fo_norm : specC G0 5 [.str (dotT f), .str f.b.t] = some (.str (normS f)) :=by
  have hP := fo_parts O
  have hl : (dotT f).length ≤ 640 := (fo_asc O).2
  have hb : f.b.t.length ≤ 20 := (fo_b O).2.1
  have := norm_at (x := dotT f) (b := f.b.t) (B := 20) (by omega) (by omega) (by rw [fo_split O]; exact Nat.le_trans (fo_tl O) (by decide)) (λt ht =>?_) ?_ (by decide)
  · rw [this, fo_partsOf O, strs_norm hP]; rfl
  · rw [fo_partsOf O] at ht
    obtain ⟨p, hp, rfl⟩ := List.mem_map.mp ht
    have g := hP p hp
    unfold okN
    rw [asc_ascii g.low g.len, g.num]
    cases hn : p.num with
    | none =>rfl
    | some n =>exact decide_eq_true (log_small (g.small n hn))
  · rw [fo_partsOf O, strs_norm hP]
    exact λt ht =>((normT_ok hP).1 t ht).2
theorem fo_nasc : Asc (normS f) 640 := asc_join (by unfold low; decide) (by decide) (normT_ok (fo_parts O)).1 (Nat.le_trans (normT_ok (fo_parts O)).2 (by decide))
theorem fo_alias : specC G0 6 [.str (nm "SunOS"), .str (dotT f), .str (normS f)] = specA G0 46 [.list (f.ps.map pcD), .str (normS f)] := by
  have hP := fo_pc O
  have hl : (dotT f).length ≤ 640 := (fo_asc O).2
  cases hps : f.ps with
  | nil =>exact absurd hps O.ne
  | cons p ps =>
    have hlen : ps.length ≤ 100 :=by have := O.len; rw [hps, List.length_cons] at this; omega
    have hP' : ∀ q ∈ p :: ps, PcOk q := λq hq =>hP q (hps ▸ hq)
    have hD : Str.join (nm ".") ((p :: ps).map Pc.t) = dotT f := by unfold dotT txts; rw [hps]
    have hs : Txt.split (dotT f) (nm ".") = p.t :: ps.map Pc.t := by rw [fo_split O]; unfold txts; rw [hps]; rfl
    have g := hP' p List.mem_cons_self
    rw [lawAlias_at hlen hP', hD]
    by_cases q : (dotT f).cps.toList < (nm "5").cps.toList
    · rw [if_pos q, alias_low q]
    · rw [if_neg q]
      cases hn : p.num with
      | none =>
        rw [alias_word q (by omega) hs (by rw [List.length_map]; omega) (asc_ascii g.low g.len) (by rw [g.num, hn])]
        unfold pieceFirst
        rw [hn]
        show _ = some (PyData.tuple [_, .str (Str.join (nm ".") ((p :: ps).map Pc.t)), _])
        rw [hD]
      | some n =>
        have hsm := g.small n hn
        have hj : methJoin (nm ".") (.str (Str.ofString (toString (n - 3))) :: (ps.map Pc.t).map PyData.str) = some (.str (Str.join (nm ".") (Str.ofString (toString (n - 3)) :: ps.map Pc.t))) := by
          have hd : (nm ".").length = 1 := by decide
          refine methJoin_at (B := 1000) (ts := Str.ofString (toString (n - 3)) :: ps.map Pc.t) (λt ht =>?_) (by rw [hd, List.length_cons, List.length_map]; have := O.len; rw [hps, List.length_cons] at this; omega)
          rcases List.mem_cons.mp ht with rfl | ht
          · exact Nat.le_trans (strZ_le11 (sub3_le hsm)) (by decide)
          · obtain ⟨r, hr, rfl⟩ := List.mem_map.mp ht
            exact Nat.le_trans (hP' r (List.mem_cons_of_mem _ hr)).len (by decide)
        rw [alias_num q (by omega) hs (by rw [List.length_map]; omega) (asc_ascii g.low g.len) (by rw [g.num, hn]) (sub3_log hsm) hj]
        unfold pieceFirst
        rw [hn]
        rfl
theorem fo_alias3 : ∃ a b : Str, low a ∧ low b ∧ specA G0 46 [.list (f.ps.map pcD), .str (normS f)] = some (.tuple [.str a, .str b, .str (normS f)]) :=by
  have hP := fo_pc O
  cases hps : f.ps with
  | nil =>exact absurd hps O.ne
  | cons p ps =>
    have hlen : ps.length ≤ 100 :=by have := O.len; rw [hps, List.length_cons] at this; omega
    have hP' : ∀ q ∈ p :: ps, PcOk q := λq hq =>hP q (hps ▸ hq)
    have hD : Str.join (nm ".") ((p :: ps).map Pc.t) = dotT f := by unfold dotT txts; rw [hps]
    rw [lawAlias_at hlen hP', hD]
    split
    · exact ⟨_, _, by unfold low; decide, (fo_asc O).1, rfl⟩
    · refine ⟨_, _, by unfold low; decide, fun c hc => ?_, rfl⟩
      rcases mem_join hc with h | ⟨t, ht, h⟩
      · have : low (nm ".") := by unfold low; decide
        exact this c h
      · rcases List.mem_cons.mp ht with rfl | ht
        · unfold pieceFirst at h
          cases hn : p.num with
          | none =>rw [hn] at h; exact (hP' p List.mem_cons_self).low c h
          | some n =>
            rw [hn] at h
            have hsm := (hP' p List.mem_cons_self).small n hn
            have nat : ∀ m : Nat, low (strZ (m : Int)) := λm c hc =>by
              unfold strZ at hc
              rw [KIN.signs_num] at hc
              refine X12 (λch hch e =>?_) (List.mem_map.mp hc)
              have r := digit_range (Nat.isDigit_of_mem_toDigits (by decide) (by decide) hch)
              rw [← e]; omega
            have h : c ∈ (strZ (n - 3)).cps.toList := h
            generalize n - 3 = k at h
            cases k with
            | ofNat m =>exact nat m c h
            | negSucc m =>
              rw [strZ_neg] at h
              rcases List.mem_cons.mp h with rfl | h
              · decide
              · exact nat _ c h
        · obtain ⟨r, hr, rfl⟩ := List.mem_map.mp ht
          exact (hP' r (List.mem_cons_of_mem _ hr)).low c h
theorem fo_plat : ∃ y : Str, specP ((txts f).map PyData.str) = some (.str y) ∧ specC G0 4 [.str y] = some (.list ((flatK (pkeys f)).map wdD)) :=by
  refine X13 (λy h1 h2 h3 =>?_) (plat_at (xs := txts f) (fo_tl O) λt ht =>by
    obtain ⟨p, hp, rfl⟩ := List.mem_map.mp ht
    exact (O.ps p hp).plat)
  refine ⟨y, h1, ?_⟩
  rw [comp_at h3, h2]
  congr 2
  unfold txts pkeys
  rw [List.flatMap_map]
  have : ∀ ps : List Pc, (∀ p ∈ ps, PieceOk p) → (ps.flatMap λp =>compW (Txt.strip p.t).cps.toList) = (flatK ((ps.flatMap Pc.keys).filter λk =>decide (k ≠ blankK))).map wdD :=by
    intro ps hp
    induction ps with
    | nil =>rfl
    | cons p ps ih =>
      rw [List.flatMap_cons, List.flatMap_cons, List.filter_append, compW_eq, (hp p List.mem_cons_self).pkeys, ih λq hq =>hp q (List.mem_cons_of_mem _ hq)]
      unfold flatK
      rw [List.flatMap_append, List.map_append]
  exact this _ O.ps
theorem pkeys_ok : KeysOk (pkeys f) := λk hk =>by
  unfold pkeys at hk
  refine X12 (λp hp h =>?_) (List.mem_flatMap.mp (List.mem_filter.mp hk).1)
  exact (O.ps p hp).kok k h
theorem pkeys_len : (pkeys f).length ≤ 80 :=by
  unfold pkeys
  refine Nat.le_trans (List.length_filter_le _ _) ?_
  have : ∀ ps : List Pc, (∀ p ∈ ps, PieceOk p) → (ps.flatMap Pc.keys).length ≤ 20 * ps.length :=by
    intro ps hp
    induction ps with
    | nil =>exact Nat.le_refl _
    | cons p ps ih =>
      have h1 := (hp p List.mem_cons_self).klen
      have h2 := ih λq hq =>hp q (List.mem_cons_of_mem _ hq)
      rw [List.flatMap_cons, List.length_append, List.length_cons]
      omega
  have h1 := this _ O.ps
  have h2 := O.len
  omega
theorem l_file {F S : PyData} {hs xs : List PyData} (hh : hs.length ≤ 100) : loop49 (fileD f :: xs) ⟨ρ49 F S, ω49 hs⟩ = loop49 xs ⟨ρ49 F S, ω49 (hs ++ [.list ((flatK (pkeys f)).map wdD)])⟩ :=by
  have hP := fo_pc O
  have hQ := fo_parts O
  have hd : (nm ".").length = 1 := by decide
  have hA := fo_asc O
  have hl5 := fo_plen O
  have hkl : ∀ p ∈ f.ps, p.keys.length ≤ 20 := λp hp =>(hP p hp).klen
  have hWl := flatW_len hkl
  have hl4 := O.len
  have hW := flatW_wds (ps := f.ps) λp hp =>(hP p hp).kok
  have hN := fo_nasc O
  have htl := fo_tl O
  rw [l_turn, t_unf0, lst_of (t_txts f.ps) (by simp only [List.length_map]; omega)]
  show Option.bind (execs (E49 19) (f49B.drop 1) ⟨ρf1 F S f (txts f), ω49 hs⟩) _ = _
  rw [t_unf1, methJoin_at (B := 20) (λt ht =>(fo_txt O t ht).2) (by rw [hd]; omega)]
  show Option.bind (execs (E49 19) (f49B.drop 2) ⟨ρf2 F S f (txts f) (dotT f), ω49 hs⟩) _ = _
  rw [t_unf2, comp_wd hA, fo_kc O]
  show Option.bind (execs (E49 19) (f49B.drop 3) ⟨ρf3 F S f (txts f) (dotT f) (flatW f.ps), ω49 hs⟩) _ = _
  have h3 : (V5 40).ts Γ49 t3E (ρf3 F S f (txts f) (dotT f) (flatW f.ps)) = some false :=by
    rw [t_t3]
    refine (allT_or (a := false) (b := some false) ?_ ?_).trans rfl
    · refine (t_t3a F S f (txts f) (dotT f) (flatW f.ps)).trans ?_
      rw [flat_at (by omega) hkl, Option.bind_some]
      exact ne_self (lay_wds hW) (Nat.le_trans (depth_wds _) (by decide))
    · refine (t_t3b F S f (txts f) (dotT f) (flatW f.ps)).trans ?_
      rw [lst_of (t_bool _) (by decide), Option.bind_some, ne_nil lay_nil]; rfl
  rw [t_unf3, h3]
  show Option.bind (execs (E49 19) (f49B.drop 4) ⟨ρf3 F S f (txts f) (dotT f) (flatW f.ps), ω49 hs⟩) _ = _
  obtain ⟨s1, s2, c, s3, s4⟩ := fo_sign O
  have hJ : specC G0 4 [.str (Str.join f.s (txts f))] = some (.list ((flatW f.ps).map wdD)) :=by
    rw [comp_wd (asc_join s1 s2 (fo_txt O) htl), s4]
    unfold txts
    rw [kc_join s3 hP]
  have hne : cmpD .NotEq (.list ((flatW f.ps).map wdD)) (.list ((flatW f.ps).map wdD)) = some false := ne_self (lay_wds hW) (Nat.le_trans (depth_wds _) (by decide))
  rw [t_unf4, methJoin_at (B := 20) (λt ht =>(fo_txt O t ht).2) (by have : (txts f).length * f.s.length ≤ 4 * 1 := Nat.mul_le_mul htl s2; omega)]
  show Option.bind (thenS ((specC G0 4 [.str (Str.join f.s (txts f))]).bind _) _) _ = _
  rw [hJ, Option.bind_some, hne]
  show Option.bind (execs (E49 19) (f49B.drop 5) ⟨ρf3 F S f (txts f) (dotT f) (flatW f.ps), ω49 hs⟩) _ = _
  rw [t_unf5, fo_norm O]
  show Option.bind (execs (E49 19) (f49B.drop 6) ⟨ρf4 F S f (txts f) (dotT f) (flatW f.ps) (normS f), ω49 hs⟩) _ = _
  have hK : specC G0 4 [.str (normS f)] = some (.list ((normK (partsF f)).map wdD)) :=by
    rw [comp_wd hN]
    unfold normS
    rw [normK_eq hQ]
  have hlN : PyData.canLay0 (.tuple [.str (normS f), .list ((normK (partsF f)).map wdD)]) = true := lay_tuple (lay_cons (low_ok hN.1) (lay_cons (lay_wds (normK_wds hQ)) lay_nil))
  have hdN : PyData.depth (.tuple [.str (normS f), .list ((normK (partsF f)).map wdD)]) ≤ 2 := depth_tuple (depthAll_le λd hd =>by
    simp only [List.mem_cons, List.not_mem_nil, or_false] at hd
    rcases hd with rfl | rfl
    · exact Nat.le_trans (depth_str _) (by decide)
    · exact depth_wds _)
  rw [t_unf6, hK, lawNorm_at (by omega) (fo_b O).1 hQ]
  show Option.bind (thenS ((cmpD .NotEq (.tuple [.str (normS f), .list ((normK (partsF f)).map wdD)]) (.tuple [.str (normS f), .list ((normK (partsF f)).map wdD)])).bind _) _) _ = _
  rw [ne_self hlN (Nat.le_trans hdN (by decide))]
  show Option.bind (execs (E49 19) (f49B.drop 7) ⟨ρf4 F S f (txts f) (dotT f) (flatW f.ps) (normS f), ω49 hs⟩) _ = _
  refine X23 (λa b la lb hX =>?_) (fo_alias3 O)
  have hlay3 : ∀ {a b c : Str}, low a → low b → low c → PyData.canLay0 (.tuple [.str a, .str b, .str c]) = true := λh1 h2 h3 =>lay_tuple (lay_cons (low_ok h1) (lay_cons (low_ok h2) (lay_cons (low_ok h3) lay_nil)))
  have hdep3 : ∀ a b c : Str, PyData.depth (.tuple [.str a, .str b, .str c]) ≤ 1 := λa b c =>depth_tuple (depthAll_le λd hd =>by
    simp only [List.mem_cons, List.not_mem_nil, or_false] at hd
    rcases hd with rfl | rfl | rfl <;> exact depth_str _)
  rw [t_unf7, fo_alias O, hX, Option.bind_some, Option.bind_some, ne_self (hlay3 la lb hN.1) (Nat.le_trans (hdep3 _ _ _) (by decide))]
  show Option.bind (execs (E49 19) (f49B.drop 8) ⟨ρf4 F S f (txts f) (dotT f) (flatW f.ps) (normS f), ω49 hs⟩) _ = _
  have hal : PyData.canLay0 (.list (aliasL (dotT f) (normS f))) = true := lay_list (lay_map fun x hx => hlay3 ((by unfold low; decide : ∀ x ∈ ([nm "Windows", nm "Windows", nm "Solaris", nm "Darwin", nm "Linux", nm "Java", nm "dos", nm ""] : List Str), low x) x hx) hA.1 hN.1)
  have had : PyData.depth (.list (aliasL (dotT f) (normS f))) ≤ 2 := depth_list (depthAll_le λd hd =>by
    obtain ⟨x, _, rfl⟩ := List.mem_map.mp hd
    exact hdep3 _ _ _)
  rw [t_unf8, ne_self hal (Nat.le_trans had (by decide))]
  show Option.bind (execs (E49 19) (f49B.drop 9) ⟨ρf4 F S f (txts f) (dotT f) (flatW f.ps) (normS f), ω49 hs⟩) _ = _
  refine X12 (λy y1 y2 =>?_) (fo_plat O)
  rw [t_unf9, if_neg (by rw [List.length_map]; omega), y1]
  show Option.bind (thenS ((specC G0 4 [.str y]).bind _) _) _ = _
  rw [y2, Option.bind_some, if_pos (by omega)]
  rfl
end
end Mine
end
section
namespace Mine
open PySem PySem.Spec PyProof.Rows PySem.W PySem.Builtin PySem.Builtin.Str
theorem eqv_wd (u v : Wd) : PyData.eqv (wdD u) (wdD v) = decide (u = v) :=by
  cases u with
  | inl a =>
    cases v with
    | inl b =>
      show PyData.eqv (.int a) (.int b) = _
      rw [PyData.eqv]
      by_cases q : a = b
      · rw [q]; simp
      · rw [beq_eq_false_iff_ne.mpr q, decide_eq_false (λh =>q (Sum.inl.inj h))]
    | inr b =>rw [decide_eq_false (λh =>by cases h)]; show PyData.eqv (.int a) (.str b) = _; rw [PyData.eqv]
  | inr a =>
    cases v with
    | inl b =>rw [decide_eq_false (λh =>by cases h)]; show PyData.eqv (.str a) (.int b) = _; rw [PyData.eqv]
    | inr b =>
      show PyData.eqv (.str a) (.str b) = _
      rw [PyData.eqv]
      by_cases q : a = b
      · rw [q]; simp
      · rw [beq_eq_false_iff_ne.mpr q, decide_eq_false (λh =>q (Sum.inr.inj h))]
theorem eqv_key (k j : Key) : PyData.eqv (keyD k) (keyD j) = decide (k = j) :=by
  obtain ⟨a, u⟩ := k
  obtain ⟨b, v⟩ := j
  show PyData.eqv (.tuple [.int a, wdD u]) (.tuple [.int b, wdD v]) = _
  rw [PyData.eqv, PyData.eqvAll, PyData.eqvAll, PyData.eqvAll, eqv_wd, PyData.eqv]
  by_cases q : a = b
  · by_cases r : u = v
    · rw [q, r]; simp
    · rw [decide_eq_false r, decide_eq_false (λh =>r (congrArg Prod.snd h))]; simp
  · rw [beq_eq_false_iff_ne.mpr q, decide_eq_false (λh =>q (congrArg Prod.fst h))]; rfl
theorem depth_key (k : Key) : PyData.depth (keyD k) ≤ 1 := depth_tuple (depthAll_le λd hd =>by
  simp only [List.mem_cons, List.not_mem_nil, or_false] at hd
  rcases hd with rfl | rfl
  · rw [PyData.depth]; exact Nat.le_refl _
  · exact depth_wd _)
theorem ne_key {k j : Key} (hk : keyB k = true) (hj : PyData.canLay0 (keyD j) = true) : cmpD .NotEq (keyD k) (keyD j) = some (decide (k ≠ j)) :=by
  have : okD (keyD k) (keyD j) = true :=by
    unfold okD
    rw [lay_key hk, hj, decide_eq_true (Nat.le_trans (depth_key k) (by decide))]; rfl
  show (if okD (keyD k) (keyD j) = true then some (!PyData.eqv (keyD k) (keyD j)) else none) = _
  rw [if_pos this, eqv_key]
  by_cases q : k = j <;> simp [q]
theorem lay_blank : PyData.canLay0 (keyD blankK) = true := lay_tuple (lay_cons (lay_int _) (lay_cons (low_ok (by unfold low; decide)) lay_nil))
noncomputable def keysE : Expr := asgE ((b49.drop 4).getD 0 (.Pass default))
noncomputable def flagsE : Expr := asgE ((b49.drop 5).getD 0 (.Pass default))
noncomputable def ΓK : Sc := Γ49.inner (lcScope keysE)
theorem k_turn (p : PyData) (ks : List Key) (hk : KeysOk ks) : CT (V5 38) ΓK (lcElt keysE) 1 (ks.map keyD) [(nm "one", p)] = some ((ks.filter fun k => decide (k ≠ blankK)).map keyD) := by
  have := compT_last (D := keyD) (V := V5 38) (Γ := ΓK.inner (lcScope (lcElt keysE))) (elt := lcElt (lcElt keysE)) (g := gen0 (lcElt keysE) 1) (ρ := [(nm "one", p)]) (as := ks) (fun k => if decide (k ≠ blankK) then [keyD k] else []) rfl (by decide +kernel)
    (λk hm =>Eq.trans (b := ((cmpD .NotEq (keyD k) (keyD blankK)).bind λok =>if ok then some true else some false).bind λok =>if ok then some [keyD k] else some []) (by kernel_rfl) (by rw [ne_key (hk k hm) lay_blank, Option.bind_some]; cases decide (k ≠ blankK) <;> rfl))
  rw [flatMap_if] at this
  exact this
theorem k_inner (ps : List Pc) (h : ∀ p ∈ ps, KeysOk p.keys) : CT (V5 38) ΓK (lcElt keysE) 0 (ps.map pcD) [] = some (((ps.flatMap Pc.keys).filter λk =>decide (k ≠ blankK)).map keyD) :=by
  have := compT_more (D := pcD) (V := V5 38) (Γ := ΓK.inner (lcScope (lcElt keysE))) (elt := lcElt (lcElt keysE)) (g := gen0 (lcElt keysE) 0) (g' := gen0 (lcElt keysE) 1) (gs := []) (ρ := []) (as := ps) (fun p => (p.keys.filter fun k => decide (k ≠ blankK)).map keyD) rfl (by decide +kernel)
    (fun p hp => Eq.trans (b := CT (V5 38) ΓK (lcElt keysE) 1 (p.keys.map keyD) [(nm "one", pcD p)]) (by kernel_rfl) (k_turn _ _ (h p hp)))
  refine this.trans (congrArg some ?_)
  rw [flatMap_map']
  congr 1
  clear this h
  induction ps with
  | nil =>rfl
  | cons p ps ih =>rw [List.flatMap_cons, List.flatMap_cons, List.filter_append, ih]
noncomputable def pkeysD (f : Fl) : PyData := .list ((pkeys f).map keyD)
theorem k_all (fs : List Fl) (h : ∀ f ∈ fs, FlOk f) : CT (V5 39) Γ49 keysE 0 (fs.map fileD) [] = some (fs.map pkeysD) :=by
  have := compT_last (D := fileD) (V := V5 39) (Γ := Γ49.inner (lcScope keysE)) (elt := lcElt keysE) (g := gen0 keysE 0) (ρ := []) (as := fs) (fun f => [pkeysD f]) rfl (by decide +kernel)
    (λf hf =>Eq.trans (b := (lst (CT (V5 38) ΓK (lcElt keysE) 0 (f.ps.map pcD) [])).bind λd =>some [d]) (by kernel_rfl) (by rw [lst_of (k_inner f.ps λp hp =>((h f hf).ps p hp).kok) (by rw [List.length_map]; exact Nat.le_trans (pkeys_len (h f hf)) (by decide))]; rfl))
  rw [← List.map_eq_flatMap] at this
  exact this
noncomputable def kindsT : List Int := [32768, 16384, 40960, 8192, 24576, 4096, 49152]
noncomputable def flagsD (f : Fl) : PyData := .list (kindsT.map λb =>.bool (Builtin.bitAnd f.m 61440 == b))
theorem flags_all (fs : List Fl) : CT (V5 39) Γ49 flagsE 0 (fs.map fileD) [] = some (fs.map flagsD) :=by
  have := compT_last (D := fileD) (V := V5 39) (Γ := Γ49.inner (lcScope flagsE)) (elt := lcElt flagsE) (g := gen0 flagsE 0) (ρ := []) (as := fs) (fun f => [flagsD f]) rfl (by decide +kernel)
    (λf hf =>Eq.trans (b := (specA G2 48 [.int f.m]).bind λd =>some [d]) (by kernel_rfl) (by rw [flags_run]; rfl))
  rw [← List.map_eq_flatMap] at this
  exact this
noncomputable def headsD (f : Fl) : PyData := .list ((flatK (pkeys f)).map wdD)
noncomputable def ρK (fs : List Fl) (S : PyData) : Loc := (nm "keys", .list (fs.map pkeysD)) :: ρ49 (.list (fs.map fileD)) S
theorem k_unf4 (fs : List Fl) (S : PyData) (hs : List PyData) : execs (E49 20) (b49.drop 4) ⟨ρ49 (.list (fs.map fileD)) S, ω49 hs⟩ = thenS ((lst (CT (V5 39) Γ49 keysE 0 (fs.map fileD) [])).bind fun d => some (.next, ⟨(nm "keys", d) :: ρ49 (.list (fs.map fileD)) S, ω49 hs⟩)) (execs (E49 20) (b49.drop 5)) := by kernel_rfl
theorem k_unf5 (fs : List Fl) (S : PyData) (hs : List PyData) : execs (E49 20) (b49.drop 5) ⟨ρK fs S, ω49 hs⟩ = thenS ((lst (CT (V5 39) Γ49 flagsE 0 (fs.map fileD) [])).bind fun d => some (.next, ⟨(nm "flags", d) :: ρK fs S, ω49 hs⟩)) (execs (E49 20) (b49.drop 6)) := by kernel_rfl
noncomputable def ρL0 (fs : List Fl) (S : PyData) : Loc := (nm "flags", .list (fs.map flagsD)) :: ρK fs S
noncomputable def ρL (fs : List Fl) (S : PyData) : Loc := (nm "heads", .list (fs.map headsD)) :: ρL0 fs S
noncomputable def kT : Expr := sTgt (at' b49 6)
noncomputable def kB : List Stmt := sBody (at' b49 6)
noncomputable def n5 : List Str := [nm "heads", nm "flags", nm "keys", nm "names", nm "files", nm "script"]
noncomputable def loopK (xs : List PyData) (σ : St) : Option (Out × St) := forD (targetD Γ49 kT) (execs (E49 19) kB) (λσ =>some (.next, σ)) n5 xs σ
theorem k_unf6 (fs : List Fl) (S : PyData) : execs (E49 20) (b49.drop 6) ⟨ρL0 fs S, ω49 (fs.map headsD)⟩ = thenS (loopK [.int 0, .int 1, .int 2, .int 3, .int 4, .int 5, .int 6] ⟨ρL fs S, none⟩) (execs (E49 20) (b49.drop 7)) :=by kernel_rfl
theorem k_unf7 (fs : List Fl) (S : PyData) : execs (E49 20) (b49.drop 7) ⟨ρL fs S, none⟩ = some (.ret (.bool true), ⟨ρL fs S, none⟩) :=by kernel_rfl
section
variable (fs : List Fl) (S : PyData) (kd : Int)
noncomputable def ρM : Loc := (nm "kind", .int kd) :: ρL fs S
theorem k_turn0 (xs : List PyData) : loopK (.int kd :: xs) ⟨ρL fs S, none⟩ = (execs (E49 19) kB ⟨ρM fs S kd, none⟩).bind fun p => match p.1 with
    | .next =>loopK xs (p.2.cut n5)
    | .cont =>loopK xs (p.2.cut n5)
    | .brk =>some (.next, p.2.cut n5)
    | .ret d =>some (.ret d, p.2) :=by kernel_rfl
noncomputable def bestD : Option Nat → PyData
  | none =>.list []
  | some b =>.list [.int (b : Int)]
noncomputable def ρB (b : Option Nat) : Loc := (nm "best", bestD b) :: ρM fs S kd
theorem b_unf0 : execs (E49 19) kB ⟨ρM fs S kd, none⟩ = execs (E49 19) (kB.drop 1) ⟨ρB fs S kd none, none⟩ :=by kernel_rfl
noncomputable def bT : Expr := sTgt (at' kB 1)
noncomputable def bB : List Stmt := sBody (at' kB 1)
noncomputable def n7b : List Str := nm "best" :: nm "kind" :: n5
noncomputable def loopB (xs : List PyData) (σ : St) : Option (Out × St) := forD (targetD Γ49 bT) (execs (E49 18) bB) (λσ =>some (.next, σ)) n7b xs σ
noncomputable def lenF (xs : List PyData) : Option PyData := if xs.length ≤ 100000 then some (PyData.int xs.length) else none
theorem b_unf1 : execs (E49 19) (kB.drop 1) ⟨ρB fs S kd none, none⟩ = thenS ((((lenF (fs.map fileD)).bind λd =>some [d]).bind rangeA).bind λxs =>loopB xs ⟨ρB fs S kd none, none⟩) (execs (E49 19) (kB.drop 2)) :=by kernel_rfl
variable (k : Int) (b : Option Nat)
noncomputable def ρBk : Loc := (nm "k", .int k) :: ρB fs S kd b
theorem b_turn (xs : List PyData) : loopB (.int k :: xs) ⟨ρB fs S kd b, none⟩ = (execs (E49 18) bB ⟨ρBk fs S kd k b, none⟩).bind fun p => match p.1 with
    | .next =>loopB xs (p.2.cut n7b)
    | .cont =>loopB xs (p.2.cut n7b)
    | .brk =>some (.next, p.2.cut n7b)
    | .ret d =>some (.ret d, p.2) :=by kernel_rfl
noncomputable def bC : Expr := sTest (at' bB 0)
theorem b_body : execs (E49 18) bB ⟨ρBk fs S kd k b, none⟩ = thenS (((V5 40).ts Γ49 bC (ρBk fs S kd k b)).bind fun c => if c then some (.next, ⟨(nm "k", .int k) :: (nm "best", .list [.int k]) :: ρM fs S kd, none⟩) else some (.next, ⟨ρBk fs S kd k b, none⟩)) (fun σ => some (.next, σ)) := by kernel_rfl
theorem b_t : (V5 40).ts Γ49 bC (ρBk fs S kd k b) = allT (λe =>(V5 39).ts Γ49 e (ρBk fs S kd k b)) .And (bvs bC) :=by kernel_rfl
theorem b_t1 : (V5 39).ts Γ49 ((bvs bC).getD 0 bC) (ρBk fs S kd k b) = ((idxList (fs.map flagsD) k).bind λd =>idxD d (.int kd)).bind λa =>cmpD .Is a (.bool true) :=by kernel_rfl
noncomputable def bC2 : Expr := (bvs bC).getD 1 bC
theorem b_t2 : (V5 39).ts Γ49 bC2 (ρBk fs S kd k b) = allT (λe =>(V5 38).ts Γ49 e (ρBk fs S kd k b)) .Or (bvs bC2) :=by kernel_rfl
theorem b_t2a : (V5 38).ts Γ49 ((bvs bC2).getD 0 bC2) (ρBk fs S kd k b) = cmpD .Eq (bestD b) (.list []) :=by kernel_rfl
theorem b_t2b : (V5 38).ts Γ49 ((bvs bC2).getD 1 bC2) (ρBk fs S kd k b) = (idxList (fs.map headsD) k).bind λx =>((idxD (bestD b) (.int 0)).bind λi =>idxD (.list (fs.map headsD)) i).bind λy =>cmpD .Gt x y :=by kernel_rfl
end
end Mine
end
section
namespace Mine
open PySem PySem.Spec PyProof.Rows PySem.W PySem.Builtin PySem.Builtin.Str
noncomputable def codesT : List Int := [8, 4, 10, 2, 6, 1, 12]
section
variable (fs : List Fl) (S : PyData) (kd : Int) (b : Option Nat)
noncomputable def alE : Expr := asgE ((kB.drop 2).getD 0 (.Pass default))
noncomputable def ρa : Loc := [(nm "kind", .int kd), (nm "files", .list (fs.map fileD))]
theorem a49_unf : execs (E49 19) (kB.drop 2) ⟨ρB fs S kd b, none⟩ = thenS ((((((lenF (fs.map fileD)).bind fun d => some [d]).bind rangeA).bind fun ds => (CT (V5 39) Γ49 alE 0 ds (ρa fs kd)).bind lim).bind fun xs => some (PyData.list xs)).bind fun d => some (.next, ⟨(nm "alike", d) :: ρB fs S kd b, none⟩)) (execs (E49 19) (kB.drop 3)) := by kernel_rfl
variable (as : List Nat)
noncomputable def intsL (as : List Nat) : List PyData := as.map λ(i : Nat) =>PyData.int (i : Int)
noncomputable def ρA : Loc := (nm "alike", .list (intsL as)) :: ρB fs S kd b
noncomputable def zR : Expr := subV (cmpR (sTest (at' kB 3)))
noncomputable def zB : List Stmt := sBody (at' kB 3)
noncomputable def ρz : Loc := [(nm "alike", .list (intsL as)), (nm "keys", .list (fs.map pkeysD))]
theorem z49_unf : execs (E49 19) (kB.drop 3) ⟨ρA fs S kd b as, none⟩ = thenS ((((lst (CT (V5 37) Γ49 zR 0 (intsL as) (ρz fs as))).bind λd =>sliceD d none (some (.int 1))).bind λy =>cmpD .NotEq (bestD b) y).bind λc =>if c then execs (E49 18) zB ⟨ρA fs S kd b as, none⟩ else some (.next, ⟨ρA fs S kd b as, none⟩)) (λσ =>some (.next, σ)) :=by kernel_rfl
noncomputable def zC : Expr := cmpL ((gen0 zR 0).ifs.getD 0 ndE)
noncomputable def Γz : Sc := Γ49.inner (lcScope zR)
variable (k j : Nat)
noncomputable def ρz2 : Loc := [(nm "k", .int k), (nm "keys", .list (fs.map pkeysD))]
theorem z_item : (((bindC (gen0 zR 0).target (.int (k : Int)) Γz (ρz fs as)).bind fun ρ₁ => (allIfs (fun c => (V5 37).ts Γz c ρ₁) (gen0 zR 0).ifs).bind fun ok => if ok then (((V5 37).ev Γz (lcElt zR) ρ₁).bind fun d => some [d]) else some [])) =
    (((lst (CT (V5 35) Γz zC 0 (intsL as) (ρz2 fs k))).bind λa =>cmpD .Eq a (.list [])).bind λok =>if ok then some true else some false).bind λok =>if ok then some [PyData.int (k : Int)] else some [] :=by kernel_rfl
theorem z_item2 : (((bindC (gen0 zC 0).target (.int (j : Int)) (Γz.inner (lcScope zC)) (ρz2 fs k)).bind fun ρ₁ => (allIfs (fun c => (V5 35).ts (Γz.inner (lcScope zC)) c ρ₁) (gen0 zC 0).ifs).bind fun ok => if ok then (((V5 35).ev (Γz.inner (lcScope zC)) (lcElt zC) ρ₁).bind fun d => some [d]) else some [])) =
    (((((idxList (fs.map pkeysD) j).bind λa =>((idxList (fs.map pkeysD) k).bind λb =>some [b]).bind λbs =>some (a :: bs)).bind λds =>specA G0 47 ds).bind truthyD).bind λok =>if ok then some true else some false).bind λok =>if ok then some [PyData.int (j : Int)] else some [] :=by kernel_rfl
theorem a_item : (((bindC (gen0 alE 0).target (.int (k : Int)) (Γ49.inner (lcScope alE)) (ρa fs kd)).bind fun ρ₁ => (allIfs (fun c => (V5 39).ts (Γ49.inner (lcScope alE)) c ρ₁) (gen0 alE 0).ifs).bind fun ok => if ok then (((V5 39).ev (Γ49.inner (lcScope alE)) (lcElt alE) ρ₁).bind fun d => some [d]) else some [])) =
    ((((((idxList (fs.map fileD) k).bind λd =>idxD d (.int 0)).bind λa =>binD .FloorDiv a (.int 4096)).bind λa =>binD .Mod a (.int 16)).bind λa =>(idxList (codesT.map PyData.int) kd).bind λb =>cmpD .Eq a b).bind λok =>if ok then some true else some false).bind λok =>if ok then some [PyData.int (k : Int)] else some [] :=by kernel_rfl
end
end Mine
end
section
namespace Mine
open PySem PySem.Spec PyProof.Rows PySem.W PySem.Builtin PySem.Builtin.Str
noncomputable def fl0 : Fl := ⟨0, [], pcBuild0, nm "-"⟩
noncomputable def getF (fs : List Fl) (k : Nat) : Fl := fs.getD k fl0
theorem idx_map {α : Type} {g : α → PyData} {xs : List α} {k : Nat} (d : α) (h : k < xs.length) (hl : xs.length ≤ 100) : idxList (xs.map g) (k : Int) = some (g (xs.getD k d)) :=by
  unfold idxList
  rw [if_pos ⟨by omega, by omega⟩, Int.toNat_natCast, List.getElem?_map, List.getD_eq_getElem?_getD, List.getElem?_eq_getElem h]
  rfl
noncomputable def isKind (fs : List Fl) (kd : Nat) (k : Nat) : Bool := (Builtin.bitAnd (getF fs k).m 61440 == kindsT.getD kd 0)
noncomputable def gtF (fs : List Fl) (k j : Nat) : Bool := newerB (pkeys (getF fs k)) (pkeys (getF fs j))
theorem getF_ok {fs : List Fl} (h : ∀ f ∈ fs, FlOk f) {k : Nat} (hk : k < fs.length) : FlOk (getF fs k) :=by
  unfold getF
  rw [List.getD_eq_getElem?_getD, List.getElem?_eq_getElem hk]
  exact h _ (List.getElem_mem _)
theorem c4 (a b : Int) : a = b ↔ 4096 * a = 4096 * b := ⟨congrArg _, Int.eq_of_mul_eq_mul_left (by decide)⟩
theorem flag_idx {f : Fl} {kd : Nat} (h : kd < 7) : idxD (flagsD f) (.int (kd : Int)) = some (.bool (Builtin.bitAnd f.m 61440 == kindsT.getD kd 0)) :=
  ltC (P := λkd =>idxD (flagsD f) (.int (kd : Int)) = some (.bool (Builtin.bitAnd f.m 61440 == kindsT.getD kd 0))) (ltC (ltC (ltC (ltC (ltC (ltC lt0 rfl) rfl) rfl) rfl) rfl) rfl) rfl kd h
theorem code_idx {kd : Nat} (h : kd < 7) : idxList (codesT.map PyData.int) (kd : Int) = some (.int (codesT.getD kd 0)) := idx_at h (Nat.le_trans (Nat.le_of_lt h) (by decide))
theorem code_flag {m : Int} {kd : Nat} (h : kd < 7) : ((m.fdiv 4096).fmod 16 == codesT.getD kd 0) = (Builtin.bitAnd m 61440 == kindsT.getD kd 0) :=by
  rw [and_ifmt, fd _ (by decide), fm _ (by decide), Bool.eq_iff_iff, beq_iff_eq, beq_iff_eq]
  exact ltC (P := λkd =>m / 4096 % 16 = codesT.getD kd 0 ↔ 4096 * (m / 4096 % 16) = kindsT.getD kd 0) (ltC (ltC (ltC (ltC (ltC (ltC lt0 (c4 _ _)) (c4 _ _)) (c4 _ _)) (c4 _ _)) (c4 _ _)) (c4 _ _)) (c4 _ _) kd h
theorem allT_and {ts : Expr → Option Bool} {x y : Expr} {a b : Bool} (h1 : ts x = some a) (h2 : ts y = some b) : allT ts .And [x, y] = some (a && b) :=by
  refine (congrArg (λo =>Option.bind o λt =>bif stops .And t then some t else allT ts .And [y]) h1).trans ?_
  cases a with
  | false =>rfl
  | true =>
    refine (congrArg (λo =>Option.bind o λt =>bif stops .And t then some t else some true) h2).trans ?_
    cases b <;> rfl
theorem allT_or2 {ts : Expr → Option Bool} {x y : Expr} {a : Bool} {b : Bool} (h1 : ts x = some a) (h2 : a = false → ts y = some b) : allT ts .Or [x, y] = some (a || b) :=by
  refine (congrArg (λo =>Option.bind o λt =>bif stops .Or t then some t else allT ts .Or [y]) h1).trans ?_
  cases a with
  | true =>rfl
  | false =>
    refine (congrArg (λo =>Option.bind o λt =>bif stops .Or t then some t else some false) (h2 rfl)).trans ?_
    cases b <;> rfl
theorem lay_ints (as : List Nat) : PyData.canLayAll0 (intsL as) = true := lay_map λ_ _ =>lay_int _
noncomputable def gtO (gt : Nat → Nat → Bool) (i : Nat) : Option Nat → Bool
  | none =>true
  | some j =>gt i j
theorem bestStep_eq (A : Nat → Bool) (gt : Nat → Nat → Bool) (i : Nat) (b : Option Nat) : bestStep A gt i b = if (A i && gtO gt i b) = true then some i else b :=by cases b <;> rfl
theorem bestD_eq (b : Option Nat) : bestD b = .list (intsL b.toList) :=by cases b <;> rfl
section
variable {fs : List Fl} {S : PyData} {kd : Nat} (O : ∀ f ∈ fs, FlOk f) (hn : fs.length ≤ 100) (hkd : kd < 7)
include O hn hkd
theorem best_test {k : Nat} {b : Option Nat} (hk : k < fs.length) (hb : ∀ j, b = some j → j < fs.length) : (V5 40).ts Γ49 bC (ρBk fs S kd k b) = some (isKind fs kd k && gtO (gtF fs) k b) :=by
  rw [b_t]
  refine allT_and (x := (bvs bC).getD 0 bC) (y := bC2) ?_ ?_
  · refine (b_t1 fs S kd k b).trans ?_
    rw [idx_map fl0 hk hn, Option.bind_some, flag_idx hkd, Option.bind_some]
    show some (_ == true) = _
    rw [beq_true]; rfl
  · refine (b_t2 fs S kd k b).trans ?_
    have h1 := b_t2a fs S kd k b
    rw [bestD_eq, eq_nil (lay_ints _)] at h1
    have h2 := b_t2b fs S kd k b
    cases b with
    | none =>exact (allT_or2 (b := true) h1 (λh =>by exact tnf h)).trans rfl
    | some j =>
      refine (allT_or2 (b := gtF fs k j) h1 λ_ =>?_).trans rfl
      refine h2.trans ?_
      rw [idx_map fl0 hk hn, Option.bind_some]
      show ((idxList (fs.map headsD) (j : Int)).bind λy =>cmpD .Gt (headsD (fs.getD k fl0)) y) = _
      rw [idx_map fl0 (hb j rfl) hn, Option.bind_some]
      exact gtAll_keys _ _ (pkeys_ok (getF_ok O hk)) (pkeys_ok (getF_ok O (hb j rfl)))
theorem best_bound : ∀ i, i ≤ fs.length → ∀ j, best (isKind fs kd) (gtF fs) i = some j → j < fs.length
  | 0, _, j, h =>by exact nos h
  | i + 1, hi, j, h =>by
    rw [best, bestStep_eq] at h
    revert h; refine iteC (λ_ h =>?_) λ_ h =>?_
    · replace h := Option.some.inj h; subst h; omega
    · exact best_bound i (by omega) j h
theorem best_loop : ∀ (m i : Nat), i + m = fs.length → loopB ((List.range' i m).map fun (i : Nat) => PyData.int (i : Int)) ⟨ρB fs S kd (best (isKind fs kd) (gtF fs) i), none⟩ = some (.next, ⟨ρB fs S kd (best (isKind fs kd) (gtF fs) (i + m)), none⟩)
  | 0, i, _ =>rfl
  | m + 1, i, h =>by
    rw [List.range'_succ, List.map_cons, b_turn, b_body, best_test O hn hkd (by omega) (λj hj =>best_bound O hn hkd i (by omega) j hj), Option.bind_some]
    have ih := best_loop m (i + 1) (by omega)
    have e : best (isKind fs kd) (gtF fs) (i + 1) = bestStep (isKind fs kd) (gtF fs) i (best (isKind fs kd) (gtF fs) i) := rfl
    rw [show i + (m + 1) = i + 1 + m by omega, ← ih, e]
    rw [bestStep_eq]
    generalize best (isKind fs kd) (gtF fs) i = b
    by_cases hc : (isKind fs kd i && gtO (gtF fs) i b) = true
    · rw [if_pos hc, if_pos hc]; rfl
    · rw [if_neg hc, if_neg hc]; rfl
end
end Mine
end
section
namespace Mine
open PySem PySem.Spec PyProof.Rows PySem.W PySem.Builtin PySem.Builtin.Str
theorem flatMap_ints {p : Nat → Bool} (as : List Nat) : (as.flatMap λk =>if p k then [PyData.int (k : Int)] else []) = intsL (as.filter p) := flatMap_if (D := λ(k : Nat) =>PyData.int (k : Int)) as
theorem range_n {n : Nat} (h : n ≤ 100) : rangeD 0 (n : Int) 1 = some (intsL (List.range n)) :=by
  unfold rangeD
  rw [if_pos ⟨by decide, by decide, by decide, by omega, by omega, by decide⟩]
  have e : (if (0 : Int) < (n : Int) then (((n : Int) - 0 - 1) / 1 + 1).toNat else 0) = n :=by
    split
    · have : (((n : Int) - 0 - 1) / 1 + 1) = n := by rw [Int.ediv_one]; omega
      rw [this]; omega
    · omega
  rw [e]
  unfold intsL
  congr 2
  funext i
  congr 1
  omega
section
variable {fs : List Fl} {S : PyData} {kd : Nat} (O : ∀ f ∈ fs, FlOk f) (hn : fs.length ≤ 100) (hkd : kd < 7)
include O hn hkd
omit O in
theorem al_all : CT (V5 39) Γ49 alE 0 (intsL (List.range fs.length)) (ρa fs kd) = some (intsL (alikes (isKind fs kd) fs.length)) :=by
  have := compT_last (D := fun (k : Nat) => PyData.int (k : Int)) (V := V5 39) (Γ := Γ49.inner (lcScope alE)) (elt := lcElt alE) (g := gen0 alE 0) (ρ := ρa fs kd) (as := List.range fs.length) (fun k => if isKind fs kd k then [PyData.int (k : Int)] else []) rfl (by decide +kernel)
    (λk hk =>(a_item fs kd k).trans (by
      rw [idx_map fl0 (List.mem_range.mp hk) hn, Option.bind_some]
      show ((((((some (PyData.int (getF fs k).m)).bind λa =>binD .FloorDiv a (.int 4096)).bind λa =>binD .Mod a (.int 16)).bind λa =>(idxList (codesT.map PyData.int) (kd : Int)).bind λb =>cmpD .Eq a b).bind _).bind _) = _
      rw [code_idx hkd]
      show ((some (((getF fs k).m.fdiv 4096).fmod 16 == codesT.getD kd 0)).bind _).bind _ = _
      rw [code_flag hkd, Option.bind_some]
      unfold isKind
      cases (Builtin.bitAnd (getF fs k).m 61440 == kindsT.getD kd 0) <;> rfl))
  rw [flatMap_ints] at this
  exact this
omit hkd in
theorem z_all2 {as : List Nat} (ha : ∀ a ∈ as, a < fs.length) {k : Nat} (hk : k < fs.length) : CT (V5 35) Γz zC 0 (intsL as) (ρz2 fs k) = some (intsL (as.filter λj =>gtF fs j k)) :=by
  have := compT_last (D := fun (k : Nat) => PyData.int (k : Int)) (V := V5 35) (Γ := Γz.inner (lcScope zC)) (elt := lcElt zC) (g := gen0 zC 0) (ρ := ρz2 fs k) (as := as) (fun j => if gtF fs j k then [PyData.int (j : Int)] else []) rfl (by decide +kernel)
    (λj hj =>(z_item2 fs k j).trans (by
      rw [idx_map fl0 (ha j hj) hn, idx_map fl0 hk hn]
      show (((specA G0 47 [pkeysD (getF fs j), pkeysD (getF fs k)]).bind _).bind _).bind _ = _
      have e := newer_at (pkeys_ok (getF_ok O (ha j hj))) (pkeys_ok (getF_ok O hk)) (Nat.le_trans (pkeys_len (getF_ok O (ha j hj))) (by decide)) (Nat.le_trans (pkeys_len (getF_ok O hk)) (by decide))
      unfold pkeysD
      rw [e, Option.bind_some]
      show ((some (gtF fs j k)).bind _).bind _ = _
      cases gtF fs j k <;> rfl))
  rw [flatMap_ints] at this
  exact this
omit hkd in
theorem z_all {as : List Nat} (ha : ∀ a ∈ as, a < fs.length) (hl : as.length ≤ 100) : CT (V5 37) Γ49 zR 0 (intsL as) (ρz fs as) = some (intsL (as.filter λk =>(as.filter λj =>gtF fs j k).isEmpty)) :=by
  have := compT_last (D := fun (k : Nat) => PyData.int (k : Int)) (V := V5 37) (Γ := Γ49.inner (lcScope zR)) (elt := lcElt zR) (g := gen0 zR 0) (ρ := ρz fs as) (as := as) (fun k => if (as.filter fun j => gtF fs j k).isEmpty then [PyData.int (k : Int)] else []) rfl (by decide +kernel)
    (λk hk =>(z_item fs as k).trans (by
      rw [lst_of (z_all2 O hn ha (ha k hk)) (by unfold intsL; rw [List.length_map]; exact Nat.le_trans (List.length_filter_le _ _) (by omega)), Option.bind_some, eq_nil (lay_ints _), Option.bind_some]
      unfold intsL
      rw [List.isEmpty_map]
      cases (as.filter λj =>gtF fs j k).isEmpty <;> rfl))
  rw [flatMap_ints] at this
  exact this
theorem kind_turn {xs : List PyData} : loopK (.int (kd : Int) :: xs) ⟨ρL fs S, none⟩ = loopK xs ⟨ρL fs S, none⟩ :=by
  have hlen : lenF (fs.map fileD) = some (.int (fs.length : Int)) :=by
    unfold lenF
    rw [List.length_map, if_pos (by omega)]
  have hal : (alikes (isKind fs kd) fs.length).length ≤ 100 :=by
    unfold alikes
    refine Nat.le_trans (List.length_filter_le _ _) ?_
    rw [List.length_range]; exact hn
  have hbest := best_at (A := isKind fs kd) (gt := gtF fs) (n := fs.length) (λk =>newer_irr _) (λh1 h2 =>newer_trans h1 h2) (λ{a b c} ha hb hc h1 h2 =>by
    have := newer_tri (pkeys_ok (getF_ok O ha)) (pkeys_ok (getF_ok O hb)) h1 h2
    unfold gtF
    rw [this]) fs.length (Nat.le_refl _)
  have hfirst := first_best hbest
  rw [k_turn0, b_unf0, b_unf1, hlen]
  show Option.bind (thenS ((rangeD 0 (fs.length : Int) 1).bind λxs =>loopB xs ⟨ρB fs S kd none, none⟩) _) _ = _
  rw [range_n hn, Option.bind_some]
  have hb0 := best_loop (S := S) O hn hkd fs.length 0 (by omega)
  rw [Nat.zero_add, ← List.range_eq_range'] at hb0
  have hb1 : loopB (intsL (List.range fs.length)) ⟨ρB fs S kd none, none⟩ = some (.next, ⟨ρB fs S kd (best (isKind fs kd) (gtF fs) fs.length), none⟩) := hb0
  rw [hb1]
  generalize best (isKind fs kd) (gtF fs) fs.length = b at hfirst
  show Option.bind (execs (E49 19) (kB.drop 2) ⟨ρB fs S kd b, none⟩) _ = _
  rw [a49_unf, hlen]
  show Option.bind (thenS ((((rangeD 0 (fs.length : Int) 1).bind λds =>(CT (V5 39) Γ49 alE 0 ds (ρa fs kd)).bind lim).bind λxs =>some (PyData.list xs)).bind _) _) _ = _
  rw [range_n hn, Option.bind_some]
  show Option.bind (thenS ((lst (CT (V5 39) Γ49 alE 0 (intsL (List.range fs.length)) (ρa fs kd))).bind _) _) _ = _
  rw [lst_of (al_all hn hkd) (by unfold intsL; rw [List.length_map]; omega)]
  have hmem : ∀ a ∈ alikes (isKind fs kd) fs.length, a < fs.length := λa ha =>(alikes_mem.mp ha).1
  generalize alikes (isKind fs kd) fs.length = as at hfirst hmem hal
  show Option.bind (execs (E49 19) (kB.drop 3) ⟨ρA fs S kd b as, none⟩) _ = _
  rw [z49_unf, lst_of (z_all O hn hmem hal) (by unfold intsL; rw [List.length_map]; exact Nat.le_trans (List.length_filter_le _ _) (by omega))]
  have hsl : sliceD (.list (intsL (as.filter λk =>(as.filter λj =>gtF fs j k).isEmpty))) none (some (.int 1)) = some (.list (intsL b.toList)) :=by
    show (if (0 : Int) ≤ 1 ∧ (intsL (as.filter λk =>(as.filter λj =>gtF fs j k).isEmpty)).length ≤ 100000 then some (PyData.list ((intsL (as.filter λk =>(as.filter λj =>gtF fs j k).isEmpty)).take 1)) else none) = _
    rw [if_pos ⟨by decide, by unfold intsL; rw [List.length_map]; exact Nat.le_trans (List.length_filter_le _ _) (by omega)⟩]
    unfold intsL
    rw [← List.map_take, hfirst]
  rw [Option.bind_some, hsl, Option.bind_some, bestD_eq, ne_self (lay_list (lay_ints _)) (Nat.le_trans (depth_list (n := 0) (depthAll_le λd hd =>by
    obtain ⟨x, _, rfl⟩ := List.mem_map.mp hd
    rw [PyData.depth]; exact Nat.le_refl _)) (by decide))]
  rfl
end
theorem fileAt_ok (ns : List Int) {t : Nat} (h : t + 4 ≤ ns.length) : FlOk (fileAt ns t) :=by
  unfold fileAt fileOf
  have hc : (chunk ns t).length = 4 :=by unfold chunk; rw [List.length_drop, List.length_take, Nat.min_eq_left h, Nat.add_sub_cancel_left]
  generalize chunk ns t = c at hc
  refine X12 (λk7 h7 e7 =>?_) (fmod_nat (c.sum.fmod 7) (b := 4) (by decide))
  refine X12 (λk11 h11 e11 =>?_) (fmod_nat (c.sum.fmod 11) (b := 4) (by decide))
  refine X12 (λk17 h17 e17 =>?_) (fmod_nat (c.sum.fmod 17) (b := 3) (by decide))
  have e7 : (c.sum.fmod 7).fmod 4 = k7 := e7
  have e11 : (c.sum.fmod 11).fmod 4 = k11 := e11
  have e17 : (c.sum.fmod 17).fmod 3 = k17 := e17
  rw [e7, e11, e17]
  have e1 : (1 + (k7 : Int)).toNat = 1 + k7 := rfl
  rw [e1, Int.toNat_natCast, Int.toNat_natCast]
  refine ⟨?_, ?_, λp hp =>?_, ?_, ?_⟩
  · intro e
    have : ((c.map pieceOf).take (1 + k7)).length = 0 :=by rw [show (c.map pieceOf).take (1 + k7) = [] from e]; rfl
    rw [List.length_take, List.length_map, hc] at this
    exact absurd this (Nat.ne_of_gt (Nat.lt_min.mpr ⟨Nat.lt_of_lt_of_le Nat.zero_lt_one (Nat.le_add_right 1 k7), by decide⟩))
  · show ((c.map pieceOf).take (1 + k7)).length ≤ 4
    rw [List.length_take, List.length_map]; exact Nat.le_trans (Nat.min_le_right _ _) (Nat.le_of_eq hc)
  · have hp : p ∈ (c.map pieceOf).take (1 + k7) := hp
    obtain ⟨z, _, rfl⟩ := List.mem_map.mp (List.mem_of_mem_take hp)
    exact pieceOf_ok z
  · show buildsT.getD k11 pcBuild0 = pcBuild0 ∨ buildsT.getD k11 pcBuild0 ∈ pcBuilds
    exact ltC (P := λk =>buildsT.getD k pcBuild0 = pcBuild0 ∨ buildsT.getD k pcBuild0 ∈ pcBuilds) (ltC (ltC (ltC lt0 (.inl rfl)) (.inr List.mem_cons_self)) (.inr (List.mem_cons_of_mem _ List.mem_cons_self))) (.inr (List.mem_cons_of_mem _ (List.mem_cons_of_mem _ List.mem_cons_self))) k11 h11
  · show signsT.getD k17 (nm "-") ∈ signsT
    exact ltC (P := fun k => signsT.getD k (nm "-") ∈ signsT) (ltC (ltC lt0 List.mem_cons_self) (List.mem_cons_of_mem _ List.mem_cons_self)) (List.mem_cons_of_mem _ (List.mem_cons_of_mem _ List.mem_cons_self)) k17 h17
theorem filesOf_ok (ns : List Int) : ∀ f ∈ filesOf ns, FlOk f := λf hf =>by
  unfold filesOf at hf
  obtain ⟨i, hi, rfl⟩ := List.mem_map.mp hf
  have := List.mem_range.mp hi
  exact fileAt_ok ns (by omega)
theorem files_loop {F S : PyData} : ∀ (fs : List Fl) (hs : List PyData), (∀ f ∈ fs, FlOk f) → hs.length + fs.length ≤ 100 → loop49 (fs.map fileD) ⟨ρ49 F S, ω49 hs⟩ = some (.next, ⟨ρ49 F S, ω49 (hs ++ fs.map headsD)⟩)
  | [], hs, _, _ =>by rw [List.map_nil, List.map_nil, List.append_nil]; rfl
  | f :: fs, hs, O, h =>by
    rw [List.length_cons] at h
    rw [List.map_cons, l_file (O f List.mem_cons_self) (by omega), files_loop fs _ (λg hg =>O g (List.mem_cons_of_mem _ hg)) (by rw [List.length_append]; simp only [List.length_cons, List.length_nil]; omega), List.append_assoc]
    rfl
noncomputable def extraT : List Int := [48, 99141, 248, 0, 672, 23665, 54, 1974]
theorem lawTrue (ns : List Int) (h : ns.length ≤ 63) : runC (lawK G4) 49 [.list (ns.map .int)] = some (.bool true) :=by
  have e0 : runC (lawK G4) 49 [.list (ns.map .int)] = retD (execs (E49 20) b49 ⟨[(nm "script", .list (ns.map PyData.int))], none⟩) := rfl
  have hs : sliceD (.list (ns.map PyData.int)) none (some (.int 8)) = some (.list ((ns.take 8).map PyData.int)) :=by
    show (if (0 : Int) ≤ 8 ∧ (ns.map PyData.int).length ≤ 100000 then some (PyData.list ((ns.map PyData.int).take 8)) else none) = _
    rw [if_pos ⟨by decide, by rw [List.length_map]; omega⟩, List.map_take]
  rw [e0, l_unf0, hs]
  have ht : (ns.take 8).length ≤ 8 := List.length_take_le ..
  generalize ns.take 8 = u at ht
  have hlen : (u ++ extraT).length = u.length + 8 :=by rw [List.length_append]; rfl
  show retD (thenS ((((if (u.map PyData.int).length + 8 ≤ 100000 then some (PyData.list (u.map PyData.int ++ extraT.map PyData.int)) else none).bind _).bind _).bind _) _) = _
  rw [if_pos (by rw [List.length_map]; omega), ← List.map_append]
  show retD (thenS ((specA G3 43 [.list ((u ++ extraT).map PyData.int)]).bind _) _) = _
  rw [files_at (by omega) (by omega), Option.bind_some]
  generalize hS : PyData.list (ns.map PyData.int) = S
  have O := filesOf_ok (u ++ extraT)
  have hn : (filesOf (u ++ extraT)).length ≤ 50 :=by unfold filesOf; rw [List.length_map, List.length_range]; omega
  generalize filesOf (u ++ extraT) = fs at O hn
  show retD (execs (E49 20) (b49.drop 1) ⟨[(nm "files", .list (fs.map fileD)), (nm "script", S)], none⟩) = _
  rw [l_unf1, l_unf2, files_loop fs [] O (by simp only [List.length_nil]; omega), List.nil_append]
  show retD (execs (E49 20) (b49.drop 4) ⟨ρ49 (.list (fs.map fileD)) S, ω49 (fs.map headsD)⟩) = _
  rw [k_unf4, lst_of (k_all fs O) (by rw [List.length_map]; omega)]
  show retD (execs (E49 20) (b49.drop 5) ⟨ρK fs S, ω49 (fs.map headsD)⟩) = _
  rw [k_unf5, lst_of (flags_all fs) (by rw [List.length_map]; omega)]
  show retD (execs (E49 20) (b49.drop 6) ⟨ρL0 fs S, ω49 (fs.map headsD)⟩) = _
  have hn' : fs.length ≤ 100 :=by omega
  have hK : loopK [.int 0, .int 1, .int 2, .int 3, .int 4, .int 5, .int 6] ⟨ρL fs S, none⟩ = some (.next, ⟨ρL fs S, none⟩) :=by
    refine (kind_turn (kd := 0) O hn' (by decide)).trans ?_
    refine (kind_turn (kd := 1) O hn' (by decide)).trans ?_
    refine (kind_turn (kd := 2) O hn' (by decide)).trans ?_
    refine (kind_turn (kd := 3) O hn' (by decide)).trans ?_
    refine (kind_turn (kd := 4) O hn' (by decide)).trans ?_
    refine (kind_turn (kd := 5) O hn' (by decide)).trans ?_
    refine (kind_turn (kd := 6) O hn' (by decide)).trans ?_
    rfl
  rw [k_unf6, hK]
  show retD (execs (E49 20) (b49.drop 7) ⟨ρL fs S, none⟩) = _
  rw [k_unf7]
  rfl
end Mine
end
section
namespace Mine
open PySem PySem.Spec PySem.Calls PyProof.Rows PySem.W
theorem mg_of {h : Heap} {a : Addr} {mg : Str → Option Value} {o : Obj} {es ep} (T : h.Ns a mg) (ho : h.get? a = some o) (hd : o.data = .dict es ep) (name : Str) : mg name = nsFind es name :=by
  revert T; refine X34 λo' es' ep' h1 h2 u1 h4 =>?_
  rw [ho] at h1; replace h1 := Option.some.inj h1; subst h1
  rw [hd] at h2; cases h2
  exact (h4 name).symm
structure FnLike (fd : FuncData) (i c : Nat) : Prop where
  code : fd.code = .ref c
  body : fd.body = .stmts (fnAt i).body
  closure : fd.closure = []
  globals : fd.globals = mainGlobals
  builtins : fd.builtins = builtinsNs
  kind : fd.scope.kind = .function
  names : fd.scope.names = (fnAt i).scope.names
  co : fd.scope.isCoroutine = false
  gen : fd.scope.isGenerator = false
theorem defsAt_of {X : Cx} {i a c : Nat} {o oc : Obj} {fd : FuncData} {vc : Array Value} {t : Tok} (hg : X.mg (fnAt i).name = some (.ref a)) (ho : X.h₁.get? a = some o) (haP : a ≠ X.P) (hd : o.data = .func fd)
    (F : FnLike fd i c) (hoc : X.h₁.get? c = some oc) (hcP : c ≠ X.P) (hcd : oc.data = .fields vc) (hq : vc[1]? = some (.str fd.qualname t))
    (hbind : ∀ vals : List Value, vals.length = (fnPs i).length → bindArgs fd ⟨vals, []⟩ = pure ((fnPs i).zip vals)) : DefsAt X i :=
  ⟨a, o, fd, .inl hg, ho, haP, hd, ⟨c, oc, vc, t, F.code, hoc, hcd, hq⟩, (fun c' e => by rw [F.code] at e; cases e; exact hcP), F.body, F.closure, F.globals, F.builtins, F.kind, F.names, F.co, F.gen,
    λvals _ hl hQ =>by rw [hbind vals hl]; exact wpAny_pure hQ⟩
theorem defsAtD_of {X : Cx} {i a c D : Nat} {o oc od : Obj} {fd : FuncData} {vc items : Array Value} {n : Nat} {t : Tok} (hg : X.mg (fnAt i).name = some (.ref a)) (ho : X.h₁.get? a = some o) (haP : a ≠ X.P) (hd : o.data = .func fd)
    (F : FnLike fd i c) (hoc : X.h₁.get? c = some oc) (hcP : c ≠ X.P) (hcd : oc.data = .fields vc) (hq : vc[1]? = some (.str fd.qualname t))
    (hdf : fd.defaults = .ref D) (hod : X.h₁.get? D = some od) (hDP : D ≠ X.P) (hs : od.data = .seq items n)
    (hbind : ∀ vals : List Value, vals.length = (fnPs i).length → ∃ k : Option (Array Value) → Sem (List (Str × Value)), bindArgs fd ⟨vals, []⟩ = seqItems? fd.defaults >>= k ∧ k (some items) = pure ((fnPs i).zip vals)) : DefsAt X i :=
  ⟨a, o, fd, .inl hg, ho, haP, hd, ⟨c, oc, vc, t, F.code, hoc, hcd, hq⟩, (fun c' e => by rw [F.code] at e; cases e; exact hcP), F.body, F.closure, F.globals, F.builtins, F.kind, F.names, F.co, F.gen,
    λvals g hl hQ =>by
      refine X12 (λk h1 h2 =>?_) (hbind vals hl)
      exact BindsTo.of_defaults hdf (g.base D od hDP hod) hs h1 h2 _ _ _ _ hQ⟩
noncomputable def EntsOk (w : World) : List DictEntry → List (Str × Int) → Prop
  | [], [] =>True
  | e :: es, p :: ps =>(∃ t t', e = ⟨hashStr w p.1, .str p.1 t, .int p.2 t'⟩) ∧ EntsOk w es ps
  | _, _ =>False
theorem EntsOk.tab {w : World} {prog : Program} : ∀ {es : List DictEntry} {ps : List (Str × Int)}, EntsOk w es ps →
    ∃ kvs : List (Str × Value), Pairs (strKind prog w) es kvs ∧ kvs.map (·.1) = ps.map (·.1) ∧ PyProof.V.FlatPairs PyData.str kvs (ps.map λp =>(PyData.str p.1, PyData.int p.2)) ∧ ∀ e ∈ es, ∃ k, (strKind prog w).is k e.key = true ∧ e.hash = (strKind prog w).hash k
  | [], [], _ =>⟨[], .nil, rfl, .nil, λ_ h =>by cases h⟩
  | e :: es, p :: ps, h =>by
    obtain ⟨⟨t, t', rfl⟩, h2⟩ := h
    refine X14 (λkvs a b c d =>?_) (EntsOk.tab (prog := prog) h2)
    refine ⟨(p.1, .int p.2 t') :: kvs, .cons (strKind_is prog w p.1 t) rfl a, by simp [b], .cons (.int _ _) c, λe he =>?_⟩
    rcases List.mem_cons.mp he with rfl | he
    · exact ⟨p.1, strKind_is prog w p.1 t, rfl⟩
    · exact d e he
  | [], _ :: _, h =>h.elim
  | _ :: _, [], h =>h.elim
theorem stages_of {X : Cx} {D : Addr} {o : Obj} {es ep} {kvs : List (Str × Int)} (ho : X.h₁.get? D = some o) (hDP : D ≠ X.P) (hD1 : (D == sysModules) = false) (hx : o.ExactDict) (hd : o.data = .dict es ep) (he : EntsOk X.w es.toList kvs) (hn : (kvs.map (·.1)).Nodup) : StagesAt X D kvs :=by
  refine ⟨o, ho, hDP, λh hh =>?_⟩
  refine X14 (λks a b c d =>?_) (EntsOk.tab (prog := PySem.Challenge.pw_mr0260_01) he)
  exact ⟨hD1, ks, ⟨o, es, ep, hh, hx, hd, λe he =>d e (Array.mem_toList_iff.mpr he), a, by rw [b]; exact hn⟩, c⟩
end Mine
end
section
namespace Mine
open PySem PySem.Spec PySem.Calls PyProof.Rows PySem.W
noncomputable def S0of (K : Frag) (so : Obj) : Store := λa =>if 130 ≤ a ∧ a ≤ 162 then K.lookup a else if a = 228 then some so else none
noncomputable def mkX (w : World) (s₁ : Shared) (mg mb : Str → Option Value) (K : Frag) (so : Obj) : Cx :=
  { w, h₁ := s₁.heap, os₁ := s₁.os, P := 61, mg, mb, S₀ := S0of K so, Tab := λh =>∃ ps, h.IsCode 65 61 ps ∧ h.TableAt 65 61 ps }
noncomputable def seqB (o : Option Obj) : Bool := match o with
  | some o =>(match o.data with | .seq .. =>true | _ =>false)
  | none =>false
theorem seqB_ex {o : Obj} (h : seqB (some o) = true) : ∃ vs n, o.data = .seq vs n :=by
  obtain ⟨c, d, da, sl⟩ := o
  cases da <;> first | exact ⟨_, _, rfl⟩ | (exact absurd h (by intro q; exact fnt q))
section
variable {w : World} {s₁ : Shared} {mg mb : Str → Option Value} {K : Frag} {so : Obj}
theorem neP {a : Addr} (h : Nat.beq a 61 = false) : a ≠ (mkX w s₁ mg mb K so).P := Nat.ne_of_beq_eq_false h
theorem mkX_tabOk (h65 : ∃ o, s₁.heap.get? 65 = some o) (h61 : ∃ o, s₁.heap.get? 61 = some o) : (mkX w s₁ mg mb K so).TabOk :=by
  refine ⟨λ{h h'} t k =>?_⟩
  revert t; refine X12 λps hc ht =>?_
  refine ⟨ps, hc.at2 (λo e =>k _ o e (.inl h65)) (λo e =>k _ o e (.inl h61)), ?_⟩
  obtain ⟨⟨o, vs, a, b, c, d⟩, e⟩ := ht
  exact ⟨⟨o, vs, k _ o a (.inl h65), b, c, d⟩, k _ _ e (.inl h61)⟩
theorem S0_at {a : Addr} {o : Obj} (h1 : 130 ≤ a ∧ a ≤ 162) (h2 : K.lookup a = some o) : S0of K so a = some o :=by
  unfold S0of; rw [if_pos h1]; exact h2
theorem rdTup {a : Addr} {o : Obj} {vs : Array Value} {n : Nat} {xs : List PyData} (h1 : Nat.ble 130 a = true) (h2 : Nat.ble a 162 = true) (hk : K.lookup a = some o) (ho : o = tupO vs n) (r : RdAll (mkX w s₁ mg mb K so).S₀ vs.toList xs) : Rd (mkX w s₁ mg mb K so).S₀ (.ref a) (.tuple xs) :=
  .tuple (S0_at ⟨Nat.le_of_ble_eq_true h1, Nat.le_of_ble_eq_true h2⟩ (hk.trans (congrArg some ho))) r
theorem mkX_gd (KX : K.In s₁.heap) (hso : s₁.heap.get? 228 = some so) (hsq : seqB (some so) = true) (hall : (List.range' 130 33).all (fun a => seqB (K.lookup a)) = true)
    (h61 : ∃ o, s₁.heap.get? 61 = some o) (hg : s₁.gens = #[]) (ht : 0 < s₁.toks) (hic : s₁.heap.IsCode 65 61 #[]) (hta : s₁.heap.TableAt 65 61 #[]) : Gd (mkX w s₁ mg mb K so) (S0of K so) s₁ where
  inn := λa o e =>by
    unfold S0of at e
    revert e; refine iteC (λ_ e =>?_) λ_ e =>?_
    · exact KX a o e
    · revert e; refine iteC (fun _ e => ?_) fun _ e => ?_
      · rename_i q; subst q; replace e := Option.some.inj e; subst e; exact hso
      · exact nos e
  s0 := .refl _
  base := λ_ _ _ e =>e
  isSeq := λa o e =>by
    unfold S0of at e
    revert e; refine iteC (λ_ e =>?_) λ_ e =>?_
    · rename_i q
      have := List.all_eq_true.mp hall a (List.mem_range'_1.mpr ⟨q.1, Nat.lt_of_le_of_lt q.2 (by decide)⟩)
      rw [e] at this
      exact seqB_ex this
    · revert e; refine iteC (fun _ e => ?_) fun _ e => ?_
      · replace e := Option.some.inj e; subst e
        exact seqB_ex hsq
      · exact nos e
  sP := rfl
  p1 := h61
  pH := h61
  bare := .of_eq hg
  tab := ⟨_, hic, hta⟩
  os := rfl
  tp := ht
theorem oldK_of {S : Store} {s' : Shared} (g : Gd (mkX w s₁ mg mb K so) S s') (hta : s₁.heap.TableAt 65 61 #[]) : OldK s₁.heap s'.heap :=by
  refine X12 (λps u1 ht =>?_) g.tab
  refine ⟨λb o e =>?_, λb o e =>?_⟩
  · by_cases hb : b = 61
    · subst hb
      have : o = { cls := .none, data := .fields #[] } := Option.some.inj (e.symm.trans hta.2)
      subst this
      exact .inr (.inl ⟨hta.isCodeTable, rfl, #[], ps, rfl, by rw [ht.2]; simp⟩)
    · exact .inl (g.base b o hb e)
  · by_cases hb : b = 61
    · exact ⟨_, hb ▸ ht.2⟩
    · exact ⟨o, g.base b o hb e⟩
end
end Mine
end
section
namespace Mine
open PySem PySem.Spec PySem.Calls PyProof.Rows PySem.W
theorem rdInts {S : Store} : ∀ {vs : List Value} {ns : List Int}, IntsAre vs ns → RdAll S vs (ns.map PyData.int)
  | _, _, .nil =>.nil
  | _, _, .cons n t r =>.cons (.int n t) (rdInts r)
theorem room5 : Room callerA 5 := ⟨rfl, rfl, ⟨[], rfl⟩, by decide +kernel, by decide +kernel⟩
theorem law_end {w : World} {s₀ s₁ : Shared} {mg mb : Str → Option Value} {K : Frag} {ns : List Int} {its : List Value} {fa : Addr} (A : AllAt (mkX w s₁ mg mb K (listO its.toArray 0))) (G : Gd (mkX w s₁ mg mb K (listO its.toArray 0)) (S0of K (listO its.toArray 0)) s₁)
    (hI : IntsAre its ns) (hmg : mg (fnAt 49).name = some (.ref fa)) (hrun : runC (lawK G4) 49 [.list (ns.map .int)] = some (.bool true)) (hta : s₁.heap.TableAt 65 61 #[]) {args : List WData}
    (hraise : ∀ cls, (PySem.Challenge.rw_mr0260_01.row.claim).raises args cls = false) (hpost : (PySem.Challenge.rw_mr0260_01.row.claim).post args (.bool true) args = true) :
    wpC (model PySem.Challenge.rw_mr0260_01.row.prog w) callerA (call (.ref fa) [.ref 228]) (fun v s' => GoodWG PySem.Challenge.rw_mr0260_01.row.claim (classAt s₀.heap) (ExcName.means s₀.heap) args s₁ (.ok (.ret v)) s')
      (λe s' =>GoodWG PySem.Challenge.rw_mr0260_01.row.claim (classAt s₀.heap) (ExcName.means s₀.heap) args s₁ (.error e) s') s₁ :=by
  obtain ⟨a, o, fd, h1, u1, u2, u3, h5⟩ := lawRuns A hrun
  have ea : a = fa :=by
    rcases h1 with h1 | ⟨h1, _⟩
    · exact (Value.ref.inj (Option.some.inj (h1.symm.trans hmg)))
    · rw [show (mkX w s₁ mg mb K (listO its.toArray 0)).mg (fnAt 49).name = some (.ref fa) from hmg] at h1; exact son h1
  subst ea
  refine h5 room5 ⟨[], rfl, trivial⟩ G (.cons (.list (a := 228) (vs := its.toArray) (n := 0) rfl (rdInts hI)) .nil) λv S' s' st rv =>?_
  have := rv.bool_inv
  subst this
  exact ⟨.inl ⟨_, .bool true, [], rfl, hraise, .bool true, hpost, λ_ =>⟨List.nodup_nil, λ_ h =>by cases h⟩⟩, oldK_of st.gd hta, st.gd.os, st.gd.bare⟩
theorem post1 (d : WData) : (PySem.Challenge.rw_mr0260_01.row.claim).post [d] (.bool true) [d] = true :=by
  kernel_rfl
end Mine
end
section
namespace Mine
open PySem PySem.Spec PySem.Calls PyProof.Rows PySem.W
noncomputable def objK (K : Frag) (a : Addr) : Obj := (K.lookup a).getD { cls := .none, data := .fields #[] }
noncomputable def fdOf : Data → FuncData
  | .func fd =>fd
  | _ =>default
noncomputable def fldOf : Data → Array Value
  | .fields vs =>vs
  | _ =>#[]
noncomputable def entOf : Data → Array DictEntry × Nat
  | .dict es n =>(es, n)
  | _ =>(#[], 0)
noncomputable def tokOf : Option Value → Tok
  | some (.str _ t) =>t
  | _ =>0
noncomputable def lookK (K : Frag) (x : Str) : Option Value := nsFind (entOf (objK K 3).data).1 x
noncomputable def lhsD (K : Frag) (p : Nat × Nat × Nat) := (K.lookup p.2.1, K.lookup p.2.2, lookK K (fnAt p.1).name, (objK K p.2.1).data, (objK K p.2.2).data, (fdOf (objK K p.2.1).data).code, (fdOf (objK K p.2.1).data).body, (fdOf (objK K p.2.1).data).closure, (fdOf (objK K p.2.1).data).globals,
  (fdOf (objK K p.2.1).data).builtins, (fdOf (objK K p.2.1).data).scope.kind, (fdOf (objK K p.2.1).data).scope.names, (fdOf (objK K p.2.1).data).scope.isCoroutine, (fdOf (objK K p.2.1).data).scope.isGenerator, (fldOf (objK K p.2.2).data)[1]?)
noncomputable def rhsD (K : Frag) (p : Nat × Nat × Nat) := (some (objK K p.2.1), some (objK K p.2.2), some (Value.ref p.2.1), Data.func (fdOf (objK K p.2.1).data), Data.fields (fldOf (objK K p.2.2).data), Value.ref p.2.2, FuncBody.stmts (fnAt p.1).body, ([] : List (Str × Addr)), mainGlobals,
  builtinsNs, ScopeKind.function, (fnAt p.1).scope.names, false, false, some (Value.str (fdOf (objK K p.2.1).data).qualname (tokOf (fldOf (objK K p.2.2).data)[1]?)))
noncomputable def bindL3 (K : Frag) (p : Nat × Nat × Nat) (v u t : Value) : Sem (List (Str × Value)) := bindArgs (fdOf (objK K p.2.1).data) ⟨[v, u, t].take (fnPs p.1).length, []⟩
noncomputable def bindR3 (p : Nat × Nat × Nat) (v u t : Value) : Sem (List (Str × Value)) := pure ((fnPs p.1).zip ([v, u, t].take (fnPs p.1).length))
theorem three {vals : List Value} (h : vals.length ≤ 3) : ∃ v u t, vals = [v, u, t].take vals.length :=by
  cases vals with
  | nil =>exact ⟨.none, .none, .none, rfl⟩
  | cons v l =>
    cases l with
    | nil =>exact ⟨v, .none, .none, rfl⟩
    | cons u l =>
      cases l with
      | nil =>exact ⟨v, u, .none, rfl⟩
      | cons t l =>
        cases l with
        | nil =>exact ⟨v, u, t, rfl⟩
        | cons _ l =>exact absurd h (Nat.not_le.mpr (Nat.le_add_left 4 l.length))
theorem defsK {w : World} {s₁ : Shared} {mg mb : Str → Option Value} {K : Frag} {so : Obj} {p : Nat × Nat × Nat} (KX : K.In s₁.heap) (mgl : ∀ x, mg x = lookK K x) (h : lhsD K p = rhsD K p) (hb : bindL3 K p = bindR3 p) (hn : (Nat.beq p.2.1 61 || Nat.beq p.2.2 61 || Nat.blt 3 (fnPs p.1).length) = false) : DefsAt (mkX w s₁ mg mb K so) p.1 :=by
  have n1 := Bool.or_eq_false_iff.mp hn
  have n2 := Bool.or_eq_false_iff.mp n1.1
  refine defsAt_of (a := p.2.1) (c := p.2.2) ((mgl _).trans (congrArg (λt =>t.2.2.1) h)) (KX _ _ (congrArg (λt =>t.1) h)) (neP n2.1) (congrArg (λt =>t.2.2.2.1) h) ⟨(congrArg (λt =>t.2.2.2.2.2.1) h), (congrArg (λt =>t.2.2.2.2.2.2.1) h), (congrArg (λt =>t.2.2.2.2.2.2.2.1) h), (congrArg (λt =>t.2.2.2.2.2.2.2.2.1) h), (congrArg (λt =>t.2.2.2.2.2.2.2.2.2.1) h), (congrArg (λt =>t.2.2.2.2.2.2.2.2.2.2.1) h), (congrArg (λt =>t.2.2.2.2.2.2.2.2.2.2.2.1) h), (congrArg (λt =>t.2.2.2.2.2.2.2.2.2.2.2.2.1) h), (congrArg (λt =>t.2.2.2.2.2.2.2.2.2.2.2.2.2.1) h)⟩ (KX _ _ (congrArg (λt =>t.2.1) h)) (neP n2.2) (congrArg (λt =>t.2.2.2.2.1) h) (congrArg (λt =>t.2.2.2.2.2.2.2.2.2.2.2.2.2.2) h) λvals hl =>?_
  refine X31 (λv u t e =>?_) (three (Nat.not_lt.mp λq =>tnf ((Nat.ble_eq_true_of_le (hl ▸ q)).symm.trans n1.2)))
  rw [e, hl]; exact congrFun (congrFun (congrFun hb v) u) t
end Mine
end
section
open PySem PySem.Spec PySem.Calls PySem.W PyProof.Rows PySem.W.X
namespace Mine.Top2
noncomputable def defTab : List (Nat × Nat × Nat) := [(4, 44, 43), (6, 59, 58), (9, 73, 72), (10, 80, 79), (18, 87, 86), (19, 94, 93), (20, 101, 100), (21, 108, 107), (22, 115, 114), (23, 122, 121), (24, 129, 128), (38, 169, 168), (40, 176, 175), (41, 183, 182), (42, 188, 187), (43, 193, 192), (44, 198, 197), (45, 203, 202), (46, 208, 207), (47, 215, 214), (48, 222, 221), (49, 227, 226)]
theorem ixOf : ∀ i ∈ defIx, i = 5 ∨ i ∈ defTab.map (·.1) :=by decide
theorem defPlaces : ∀ p ∈ defTab, (Nat.beq p.2.1 61 || Nat.beq p.2.2 61 || Nat.blt 3 (fnPs p.1).length) = false :=by decide +kernel
theorem defRows (P : Params) : defTab.map (lhsD (fragT P)) = defTab.map (rhsD (fragT P)) :=by kernel_rfl
theorem defBinds (P : Params) : defTab.map (bindL3 (fragT P)) = defTab.map bindR3 :=by kernel_rfl
theorem bindTwo {fd : FuncData} {ps : List Str} {items : Array Value} (h : ∀ v u, ∃ k : Option (Array Value) → Sem (List (Str × Value)), bindArgs fd ⟨[v, u], []⟩ = seqItems? fd.defaults >>= k ∧ k (some items) = pure (ps.zip [v, u])) (vals : List Value) (hl : vals.length = 2) : ∃ k : Option (Array Value) → Sem (List (Str × Value)), bindArgs fd ⟨vals, []⟩ = seqItems? fd.defaults >>= k ∧ k (some items) = pure (ps.zip vals) :=
  (len2 hl).elim λv e =>e.elim λu e =>e ▸ h v u
set_option maxHeartbeats 0 in
theorem walkH : WalkH :=by
  intro w s₀ s₁ mg mb ns its bm ob fa d S
  have KX := S.kx
  have M := S.bm
  have hta : s₁.heap.TableAt 65 61 #[] := ⟨⟨_, _, KX 65 _ rfl, rfl, rfl, rfl⟩, KX 61 _ rfl⟩
  have hic : s₁.heap.IsCode 65 61 #[] := ⟨_, _, _, _, _, _, _, _, _, _, KX 65 _ rfl, rfl, rfl, rfl, rfl, rfl, rfl, KX 61 _ rfl, rfl, trivial, by decide⟩
  refine law_end (mb := mb) (mg := mg) (K := fragT w.params) ?_ (mkX_gd KX S.so rfl (by rfl) ⟨_, KX 61 _ rfl⟩ S.gens S.tk hic hta) S.hI S.fn (lawTrue ns S.len) hta ?_ ?_
  rotate_left
  · intro cls; rfl
  · exact post1 _
  have mgl : ∀ x, mg x = lookK (fragT w.params) x := mg_of S.g (KX 3 (objK (fragT w.params) 3) rfl) (es := (entOf (objK (fragT w.params) 3).data).1) (ep := (entOf (objK (fragT w.params) 3).data).2) rfl
  have hbm : bm ≠ 61 :=by
    have e : some (Value.ref bm) = some (Value.ref 4) := (M.name.symm.trans (mgl _)).trans (by rfl)
    cases e; decide
  refine ⟨⟨⟨mkX_tabOk ⟨_, KX _ _ rfl⟩ ⟨_, KX _ _ rfl⟩, S.g, S.b, neP rfl, neP rfl, S.lim, neP rfl, S.bi, S.sm⟩, ?_, ?_, ?_, ⟨66, _, _, .inl ((mgl _).trans (by rfl)), KX _ _ rfl, neP rfl, rfl⟩⟩, ?_, ?_, ?_⟩
  · intro x d h
    have hm := PySem.mem_of_lookup h
    simp only [globT, List.mem_cons, List.not_mem_nil, or_false, Prod.mk.injEq] at hm
    rcases hm with ⟨rfl, rfl⟩ | ⟨rfl, rfl⟩ | ⟨rfl, rfl⟩ | ⟨rfl, rfl⟩ | ⟨rfl, rfl⟩ | ⟨rfl, rfl⟩ | ⟨rfl, rfl⟩ | ⟨rfl, rfl⟩ | ⟨rfl, rfl⟩
    · exact ⟨_, .inl ((mgl _).trans (by rfl)), .int _ _⟩
    · exact ⟨_, .inl ((mgl _).trans (by rfl)), .int _ _⟩
    · exact ⟨_, .inl ((mgl _).trans (by rfl)), .int _ _⟩
    · exact ⟨_, .inl ((mgl _).trans (by rfl)), .int _ _⟩
    · exact ⟨_, .inl ((mgl _).trans (by rfl)), .int _ _⟩
    · exact ⟨_, .inl ((mgl _).trans (by rfl)), .int _ _⟩
    · exact ⟨_, .inl ((mgl _).trans (by rfl)), .int _ _⟩
    · exact ⟨_, .inl ((mgl _).trans (by rfl)), .opq 36⟩
    · refine ⟨_, .inl ((mgl _).trans (by rfl)), ?_⟩
      unfold fmT
      repeat' first | exact Rd.int _ _ | exact Rd.str _ _ | exact RdAll.nil | refine RdAll.cons ?_ ?_ | refine rdTup rfl rfl rfl rfl ?_
  · exact ⟨_, _, _, 35, _, _, KX 36 _ rfl, neP rfl, rfl, rfl, rfl, rfl, rfl, rfl, KX 35 _ rfl, neP rfl, rfl, by decide +kernel⟩
  · intro x hx
    simp only [List.mem_cons, List.not_mem_nil, or_false] at hx
    rcases hx with rfl | rfl | rfl | rfl | rfl | rfl | rfl | rfl | rfl | rfl | rfl | rfl | rfl | rfl <;> exact (mgl _).trans (by rfl)
  · refine ⟨37, stages_of (KX 37 _ rfl) (neP rfl) (by decide) ⟨rfl, rfl, rfl⟩ rfl ?_ (by decide), .inl ((mgl _).trans (by rfl))⟩
    exact ⟨⟨_, _, rfl⟩, ⟨_, _, rfl⟩, ⟨_, _, rfl⟩, ⟨_, _, rfl⟩, ⟨_, _, rfl⟩, ⟨_, _, rfl⟩, ⟨_, _, rfl⟩, ⟨_, _, rfl⟩, ⟨_, _, rfl⟩, ⟨_, _, rfl⟩, trivial⟩
  · intro i hi
    refine (ixOf i hi).elim (λe =>?_) λh =>?_
    · subst e
      exact defsAtD_of ((mgl _).trans (by rfl)) (KX 52 (objK (fragT w.params) 52) rfl) (neP rfl) (fd := fdOf (objK (fragT w.params) 52).data) rfl ⟨rfl, rfl, rfl, rfl, rfl, rfl, rfl, rfl, rfl⟩ (KX 51 (objK (fragT w.params) 51) rfl) (neP rfl) (vc := fldOf (objK (fragT w.params) 51).data) rfl (t := tokOf (fldOf (objK (fragT w.params) 51).data)[1]?) rfl rfl (KX 45 _ rfl) (neP rfl) rfl (bindTwo λv u =>⟨_, rfl, rfl⟩)
    · exact (List.mem_map.mp h).elim λp h =>h.2 ▸ defsK KX mgl (List.map_inj_left.mp (defRows w.params) p h.1) (List.map_inj_left.mp (defBinds w.params) p h.1) (defPlaces p h.1)
  · refine ⟨65, ⟨⟨bm, ob, M, hbm⟩, fun t => t, fun _ _ _ a b => ⟨_, a, b⟩⟩, ?_⟩
    exact ⟨66, _, _, .inl ((mgl _).trans (by rfl)), KX 66 _ rfl, neP rfl, rfl, ⟨65, _, _, _, rfl, KX 65 _ rfl, rfl, rfl⟩, rfl, neP rfl, rfl, rfl, rfl, rfl, rfl, rfl, rfl, rfl, λvals =>match vals with | [] =>rfl | _ :: _ =>rfl⟩
theorem holds : PySem.Challenge.rw_mr0260_01.Holds :=
  have : HasWalk := ⟨walkH⟩
  Mine.Top3.headed
end Mine.Top2
end
theorem PySem.Challenge.cw_mr0260_01_holds : PySem.Challenge.rw_mr0260_01.Holds :=
  Mine.Top2.holds
