import PyProof.Rows.All
import Wide.All
import OpenK.AllK
import Wide.FinOn
import PyProof.FactsAll.range_2
import PyProof.RangeIter
import KE.KMinBuiltin
import KE.KRevIter
import KE.KxDecode
import PySem.Challenge.RW_eh5017_01
open PySem PySem.W PyProof.Rows PySem.Calls
set_option maxRecDepth 100000
set_option maxHeartbeats 8000000
set_option Elab.async false
namespace Mine
-- part G
/-- a code that holds no buffer as a decoder does -/
def clean (c : Code) : Bool := match c with
  | .builtin id _ => !Builtin.Bytes.decodersThatHold.contains id
  | _ => true
def good (Γ : Ctx) : Prop := clean Γ.code = true ∧ ∀ x ∈ Γ.below, clean x.1 = true

def gAny {α : Type} (M : Model) (A : Around) (t : Sem α) (Q : α → Shared → Prop) (E : Value → Shared → Prop) (s : Shared) : Prop :=
  ∀ Γ p, Γ.In A → good Γ → Sem.wp M Γ t (fun a _ s' => Q a s') (fun e _ s' => E e s') p s
def gCode (M : Model) (A : Around) (c : Code) (R : Result → Shared → Prop) (s : Shared) : Prop :=
  ∀ Γ p, Γ.code = c → Γ.Below A → (∀ x ∈ Γ.below, clean x.1 = true) → wpCode M Γ R p s

section
variable {α β : Type} {M : Model} {A : Around} {E : Value → Shared → Prop} {s : Shared}
theorem g_of {t : Sem α} {Q : α → Shared → Prop} (h : wpAny M A t Q E s) : gAny M A t Q E s := fun Γ p hΓ _ => h Γ p hΓ
theorem gCode_of {c : Code} {R : Result → Shared → Prop} (h : codeAny M A c R s) : gCode M A c R s := fun Γ p hc hΓ _ => h Γ p hc hΓ
theorem g_mono {t : Sem α} {Q Q' : α → Shared → Prop} {E' : Value → Shared → Prop} (h : gAny M A t Q E s) (hQ : ∀ a s, Q a s → Q' a s) (hE : ∀ e s, E e s → E' e s) : gAny M A t Q' E' s :=
  fun Γ p hΓ hg => Sem.wp_mono M Γ t (fun a _ s => hQ a s) (fun e _ s => hE e s) p s (h Γ p hΓ hg)
theorem g_bind {m : Sem α} {f : α → Sem β} {Q : β → Shared → Prop} (h : gAny M A m (fun a s' => gAny M A (f a) Q E s') E s) : gAny M A (m >>= f) Q E s := fun Γ p hΓ hg => by
  rw [Sem.wp_bind']
  exact Sem.wp_mono M Γ m (fun a p' s' h' => h' Γ p' hΓ hg) (fun _ _ _ h' => h') p s (h Γ p hΓ hg)
theorem g_bindL {m : Sem α} {f : α → Sem β} {Q : β → Shared → Prop} (h : wpAny M A m (fun a s' => gAny M A (f a) Q E s') E s) : gAny M A (m >>= f) Q E s := g_bind (g_of h)
theorem g_pure {a : α} {Q : α → Shared → Prop} (h : Q a s) : gAny M A (pure a) Q E s := g_of (wpAny_pure h)
theorem g_tryCatch {m : Sem α} {k : Value → Sem α} {Q : α → Shared → Prop} (h : gAny M A m Q (fun e s' => gAny M A (k e) Q E s') s) : gAny M A (tryCatch m k) Q E s := fun Γ p hΓ hg => by
  rw [Sem.wp_tryCatch']
  exact Sem.wp_mono M Γ m (fun _ _ _ h' => h') (fun e p' s' h' => h' Γ p' hΓ hg) p s (h Γ p hΓ hg)
theorem g_onRaise {m : Sem α} {k : Value → Sem Unit} {Q : α → Shared → Prop} (h : gAny M A m Q (fun e s' => wpAny M A (k e) (fun _ s'' => E e s'') E s') s) : gAny M A (m.onRaise k) Q E s := fun Γ p hΓ hg => by
  rw [Sem.wp_onRaise]
  exact Sem.wp_mono M Γ m (fun _ _ _ h' => h') (fun e p' s' h' => h' Γ p' hΓ) p s (h Γ p hΓ hg)
theorem g_attempt {m : Sem α} {Q : Except Value α → Shared → Prop} (h : gAny M A m (fun a => Q (.ok a)) (fun e => Q (.error e)) s) : gAny M A m.attempt Q E s := fun Γ p hΓ hg => by
  rw [Sem.wp_attempt]; exact h Γ p hΓ hg
theorem g_holding {vs : List Value} {m : Sem α} {Q : α → Shared → Prop} (h : gAny M A m Q E s) : gAny M A (holding vs m) Q E s := fun Γ p hΓ hg => by rw [Sem.wp_holding]; exact h Γ p hΓ hg
theorem g_keep {vs : List Value} {m : Sem α} {Q : α → Shared → Prop} (h : gAny M A m Q E s) : gAny M A (m.keep vs) Q E s := fun Γ p hΓ hg => by rw [Sem.wp_keep]; exact h Γ p hΓ hg

theorem good_enter {Γ : Ctx} {p : Pos} (h : good Γ) (c : Code) (hd : Option Value) : ∀ x ∈ (Γ.enter c hd p).below, clean x.1 = true := fun x hx => by
  rcases List.mem_cons.mp hx with rfl | hx
  · exact h.1
  · exact h.2 x hx
theorem g_run {c : Code} {h : Option Value} {Q : Flow → Shared → Prop} (hc : gCode M (A.mark h) c (fun r s' => match r with | .ok f => Q f s' | .error e => E e s') s) (hnb : h ≠ some byPass := by intro x; cases x) : gAny M A (run c h) Q E s :=
  fun Γ p hΓ hg => by rw [Sem.wp_run]; exact hc _ p rfl (hΓ.enter c h p hnb) (good_enter hg c h)
theorem g_runValue {c : Code} {Q : Value → Shared → Prop} (hc : gCode M A c (fun r s' => match r with | .ok (.ret v) => Q v s' | .ok _ => False | .error e => E e s') s) : gAny M A (runValue c) Q E s :=
  fun Γ p hΓ hg => by rw [Sem.wp_runValue]; exact hc _ p rfl (hΓ.enter c none p (by intro x; cases x)) (good_enter hg c none)
theorem g_call {f : Value} {pos : List Value} {kw : List (Str × Value)} {Q : Value → Shared → Prop}
    (hc : gCode M A (.call f ⟨pos, kw⟩) (fun r s' => match r with | .ok (.ret v) => Q v s' | .ok _ => False | .error e => E e s') s) : gAny M A (call f pos kw) Q E s := g_runValue hc
theorem gCode_mono {c : Code} {R R' : Result → Shared → Prop} (h : gCode M A c R s) (hR : ∀ r s, R r s → R' r s) : gCode M A c R' s := fun Γ p hc hΓ hg => wpCode_mono hR (h Γ p hc hΓ hg)
theorem gCode_of_tree {c : Code} {R : Result → Shared → Prop} (hcl : clean c = true)
    (h : gAny M (A.under c) (M.den c) (fun fin s' => match fin with | .done f => R (.ok f) s' | .again c' => c'.quiet = true ∧ gCode M A c' R s') (fun e s' => R (.error e) s') s) : gCode M A c R s := fun Γ p hc hΓ hg => by
  rw [wpCode_iff_wp, hc]
  refine Sem.wp_mono M Γ _ (fun fin p' s' h' => ?_) (fun _ _ _ h' => h') p s (h Γ p (hc ▸ hΓ.in) ⟨hc ▸ hcl, hg⟩)
  cases fin with
  | done f => exact h'
  | again c' => exact ⟨h'.1, h'.2 (Γ.goto c') p' rfl (hΓ.goto c') hg⟩
theorem gCode_loop {c : Code} {R : Result → Shared → Prop} (hcl : clean c = true) (hq : c.quiet = true) (I : Nat → Shared → Prop)
    (turn : ∀ n s, I n s → gAny M (A.under c) (M.den c) (fun fin s' => match fin with | .done f => R (.ok f) s' | .again c' => c' = c ∧ ∃ m, m < n ∧ I m s') (fun e s' => R (.error e) s') s)
    (n : Nat) (h : I n s) : gCode M A c R s := by
  induction n using Nat.strongRecOn generalizing s with
  | ind n ih =>
    refine gCode_of_tree hcl (g_mono (turn n s h) (fun fin s' hf => ?_) fun _ _ h' => h')
    cases fin with
    | done f => exact hf
    | again c' => obtain ⟨rfl, m, hm, hI⟩ := hf; exact ⟨hq, ih m hm hI⟩

/-- what the stack tells a buffer's owner: none of those codes stands on it -/
theorem g_stackAny_false {f : Code × Pos → Bool} {g : List Code} {Q : Bool → Shared → Prop} (hg : A.guards = some g) (hf : ∀ c p, clean c = true → c.isGuard = false → f (c, p) = false)
    (hno : ∀ c ∈ g, ∀ p, f (c, p) = false) (h : Q false s) : gAny M A (do return (← stack).any f) Q E s := fun Γ p hΓ hG => by
  show Q (((Γ.code, p) :: Γ.below).any f) s
  have hgs := hΓ.2.2.2.1 g hg
  have key : ((Γ.code, p) :: Γ.below).any f = false := by
    rw [List.any_eq_false]
    rintro ⟨c, p'⟩ hx
    have hcl : clean c = true := by
      rcases List.mem_cons.mp hx with e | hx
      · have : c = Γ.code := congrArg Prod.fst e
        rw [this]; exact hG.1
      · exact hG.2 _ hx
    cases hi : c.isGuard with
    | false => rw [hf c p' hcl hi]; decide
    | true =>
      have hm : c ∈ g := by
        rw [← hgs, ← guardsOf_cons Γ.code p]
        exact List.mem_filter.mpr ⟨List.mem_map.mpr ⟨(c, p'), hx, rfl⟩, hi⟩
      rw [hno c hm p']; decide
  rw [key]; exact h
end

section
variable {prog : Program} {w : World} {A : Around} {E : Value → Shared → Prop} {s : Shared} {R : Result → Shared → Prop}
theorem gCode_builtin {id : String} {args : Args} {b : Builtin} (hcl : clean (.builtin id args) = true) (hb : entryFor table id = some b)
    (h : gAny (model prog w) (A.under (.builtin id args)) (b args) (fun fin s' => match fin with | .done f => R (.ok f) s' | .again c' => c'.quiet = true ∧ gCode (model prog w) A c' R s') (fun e s' => R (.error e) s') s) :
    gCode (model prog w) A (.builtin id args) R s := by
  refine gCode_of_tree hcl ?_
  show gAny _ _ (match entryFor table id with | some b => b args | none => unsupported ((withoutEnding? id "#data").getD id)) _ _ s
  rw [hb]; exact h
theorem gCode_func {body : List Stmt} {env : Env}
    (h : gAny (model prog w) (A.deeper env) (execs body env) (fun f s' => R (.ok (.ret (match f with | .ret v => v | _ => .none))) s')
      (fun e s' => wpAny (model prog w) (A.deeper env) (leaving env e) (fun _ s'' => R (.error e) s'') (fun e' s'' => R (.error e') s'') s') s) : gCode (model prog w) A (.func body env) R s := by
  refine gCode_of_tree rfl ?_
  show gAny _ (A.deeper env) (do point; match ← (execs body env).onRaise (leaving env) with | .ret v => ret v | _ => ret .none) _ _ s
  refine g_bindL (wpAny_point (g_bind (g_onRaise (g_mono h (fun f s' h' => ?_) fun _ _ h' => h'))))
  cases f <;> exact g_pure h'
theorem gCode_call_function {a : Addr} {args : Args} {o : Obj} {fd : FuncData} {body : List Stmt} (hroom : A.depth < recursionLimit) (ho : s.heap.get? a = some o) (hd' : o.data = .func fd)
    (hco : fd.scope.isCoroutine = false) (hgen : fd.scope.isGenerator = false) (hbody : fd.body = .stmts body) (hcd : s.heap.CodeRec fd.code fd.qualname)
    (h : wpAny (model prog w) A.in1 (bindArgs fd args) (fun binds s₁ =>
      wpAny (model prog w) A.in1 (newFunctionEnv fd.scope fd.globals fd.closure binds (fd.qualname ++ ".<locals>.") (some a) fd.code none fd.builtins)
        (fun env s₂ => s₂.heap.NoLimit ∧ gCode (model prog w) A (.func body env) R s₂) (fun e s' => R (.error e) s') s₁) (fun e s' => R (.error e) s') s) :
    gCode (model prog w) A (.call (.ref a) args) R s := by
  refine gCode_of_tree rfl (g_of ?_)
  show wpAny _ A.in1 (callAny (.ref a) args) _ _ s
  simp only [callAny]
  refine wpAny_bind (wpAny_load ho ?_)
  obtain ⟨c, oc, vs, tq, hc, hoc, hdc, hq⟩ := hcd
  simp only [hd', callFunction, hco, hgen, hbody, hc]
  rw [hc] at h
  refine wpAny_bind (m := field (.ref c) 1) (wpAny_field hoc hdc hq (wpAny_bind (wpAny_pure ?_)))
  exact wpAny_bind (wpAny_mono h (fun binds s₁ h₁ => wpAny_bind (wpAny_mono h₁ (fun env s₂ h₂ => wpAny_bind (wpAny_enterFrame h₂.1 hroom
    (wpAny_pure (And.intro rfl h₂.2)))) fun _ _ h' => h')) fun _ _ h' => h')
theorem gCode_call_def {a : Addr} {o : Obj} {fd : FuncData} {body : List Stmt} {args : Args} {binds : List (Str × Value)}
    (hroom : A.depth < recursionLimit) (ho : s.heap.get? a = some o) (hdata : o.data = .func fd) (hlim : s.heap.NoLimit) (hcd : s.heap.CodeRec fd.code fd.qualname)
    (hbody : fd.body = .stmts body) (hbind : BindsTo s fd args binds)
    (hcell : ∀ x ∈ fd.scope.names, x.2 ≠ .cell) (hloc : ∀ x ∈ binds, fd.scope.names.lookup x.1 = some .local)
    (h : ∀ h₀, h₀.Ns s.heap.objs.size (fun x => binds.reverse.lookup x) → (∀ b o, s.heap.get? b = some o → h₀.get? b = some o) →
      gAny (model prog w) (A.deeper (callEnv fd s.heap.objs.size a)) (execs body (callEnv fd s.heap.objs.size a)) (fun f s' => R (.ok (.ret (match f with | .ret v => v | _ => .none))) s')
        (fun e s' => wpAny (model prog w) (A.deeper (callEnv fd s.heap.objs.size a)) (leaving (callEnv fd s.heap.objs.size a) e) (fun _ s'' => R (.error e) s'') (fun e' s'' => R (.error e') s'') s')
        { s with heap := h₀, toks := s.toks + binds.length })
    (hco : fd.scope.isCoroutine = false := by rfl) (hgen : fd.scope.isGenerator = false := by rfl) (hk : fd.scope.kind = .function := by rfl) :
    gCode (model prog w) A (.call (.ref a) args) R s := by
  refine gCode_call_function hroom ho hdata hco hgen hbody hcd (hbind _ _ _ _ ?_)
  refine wpAny_newFunctionEnv hcell hloc (fun h₀ hns₀ hsb₀ => ⟨hlim.fresh _ hsb₀, gCode_func (h h₀ hns₀ fun b o e => ?_)⟩) hk
  exact hsb₀.extBut b o (Nat.ne_of_lt (Heap.lt_size e)) (Heap.get?_push_of_some _ e)
end
-- part G2
section
variable {prog : Program} {w : World} {A : Around} {E : Value → Shared → Prop} {s : Shared}
theorem g_ite_false {α : Type} {M : Model} {c : Prop} [Decidable c] {a b : Sem α} {Q : α → Shared → Prop} (hc : ¬ c) (h : gAny M A b Q E s) : gAny M A (if c then a else b) Q E s := by rw [if_neg hc]; exact h
theorem g_ite_true {α : Type} {M : Model} {c : Prop} [Decidable c] {a b : Sem α} {Q : α → Shared → Prop} (hc : c) (h : gAny M A a Q E s) : gAny M A (if c then a else b) Q E s := by rw [if_pos hc]; exact h
theorem gCode_call_builtin {id : String} {args : Args} {b : Builtin} {R : Result → Shared → Prop} (hq : Code.quiet (.builtin id args) = true) (hcl : clean (.builtin id args) = true) (hb : entryFor table id = some b)
    (h : wpAny (model prog w) A.in1 (checkBuiltinCall id args) (fun _ s' => gAny (model prog w) (A.under (.builtin id args)) (b args) (fun fin s' => match fin with | .done f => R (.ok f) s' | .again c' => c'.quiet = true ∧ gCode (model prog w) A c' R s') (fun e s' => R (.error e) s') s')
      (fun e s' => R (.error e) s') s) : gCode (model prog w) A (.call (.builtin id) args) R s := by
  refine gCode_of_tree rfl (g_of ?_)
  show wpAny _ A.in1 (do checkBuiltinCall id args; again (.builtin id args)) _ _ s
  exact wpAny_bind (wpAny_mono h (fun _ s' h' => wpAny_pure ⟨hq, gCode_builtin hcl hb h'⟩) fun _ _ x => x)

theorem g_callType {T newId initId : String} {Bi : Builtin} {args : List Value} {Q Q₁ : Value → Shared → Prop} (ft : TypeCalled T newId initId)
    (hct : checkTypeCall T ⟨args, []⟩ = pure ()) (entryI : entryFor table initId = some Bi) (hcl : ∀ a, clean (.builtin initId a) = true)
    (hnew : codeAny (model prog w) A.in1 (.call (.builtin newId) ⟨.type T :: args, []⟩) (wants Q₁ E) s)
    (hnext : ∀ obj s₁, Q₁ obj s₁ → s₁.TypeIs obj T ∧ argsOk initId ⟨obj :: args, []⟩ ∧
      gAny (model prog w) A.in1.in1 (Bi ⟨obj :: args, []⟩)
        (fun fin s' => match fin with | .done f => wants (fun r s₂ => r = .none ∧ Q obj s₂) E (.ok f) s' | .again c' => c'.quiet = true ∧ gCode (model prog w) A.in1 c' (wants (fun r s₂ => r = .none ∧ Q obj s₂) E) s')
        (fun e s' => wants (fun r s₂ => r = .none ∧ Q obj s₂) E (.error e) s') s₁) :
    gAny (model prog w) A (call (.type T) args) Q E s := by
  obtain ⟨c, tl, hmro⟩ := ft.mro
  have hmade := ft.made
  have hsub := ft.sub
  refine g_call (gCode_of_tree rfl (g_of ?_))
  show wpAny _ _ (callAny (.type T) _) _ _ _
  refine wpAny_pure ⟨Code.quiet_builtin _ (by decide +kernel), gCode_builtin (by rfl) F.entry_type_call ?_⟩
  rw [Around.under_plain (weight_type_call_type T args []) rfl]
  have h1 := ft.notType
  have h2 := ft.canCreate
  unfold Builtin.«type.__call__»
  dsimp only
  refine g_ite_false (by rw [h1]; decide) ?_
  refine g_ite_false (by rw [h2]; decide) ?_
  refine g_bindL (wpAny_of_eq hct ?_)
  refine g_bindL (wpAny_of_eq hmro ?_)
  refine g_ite_false (by simp) ?_
  refine g_bindL (wpAny_of_eq hmade ?_)
  refine g_bindL (wpAny_pure ?_)
  refine g_bindL (wpAny_holding (wpAny_call (codeAny_mono hnew fun r s₁ hr => ?_)))
  cases r with
  | error e => exact hr
  | ok fl =>
    cases fl with
    | ret obj =>
      obtain ⟨hT, hok, hsi⟩ := hnext _ _ hr
      refine g_bindL (wpAny_isInstance hT hsub ?_)
      refine g_ite_false (by decide) ?_
      refine g_bind (g_holding ?_)
      unfold callSpecial?
      refine g_bindL (wpAny_specialOf hT ft.init.lookup ?_)
      refine g_holding (g_bindL (wpAny_of_eq (ft.init.bind obj) ?_))
      refine g_bind (g_call (gCode_mono (R := wants (fun r s₂ => r = .none ∧ Q obj s₂) E) (gCode_call_builtin (plainId_quiet ft.init.plain _) (hcl _) entryI (ft.init.check _ _ _ _ _ _ _ _ hT hok (by rw [Around.under_plainId ft.init.plain _]; exact hsi))) fun r s₂ hr₂ => ?_))
      rcases r with e | (v | _ | _ | _) <;> first | exact hr₂ | exact hr₂.elim | skip
      obtain ⟨rfl, hq⟩ := hr₂
      refine g_pure ?_
      dsimp only
      exact g_ite_false (by decide) (g_pure hq)
    | _ => exact hr.elim
end
-- part P1
section
open PySem.Builtin PySem.Builtin.Bytes
theorem ba_mro : mroOf (.type "bytearray") = pure [.type "bytearray", .type "object"] := by rw [mroOf_type]; kernel_rfl
theorem ba_lookup_new : typeLookup (.type "bytearray") "__new__" = pure (some (.builtin "bytearray.__new__")) := by rw [typeLookup_type, builtinLookup_eq_fast]; kernel_rfl
theorem ba_slot_init : Slot "bytearray" "__init__" "bytearray.__init__" :=
  .of (owner := "bytearray") (n := "__init__") (by rw [typeLookup_type, builtinLookup_eq_fast]; kernel_rfl) (by decide +kernel) (by decide +kernel) (by decide +kernel)
    (by first | exact .inl (by decide +kernel) | exact .inr (by decide +kernel)) (by rw [isSubtype_type]; kernel_rfl)
theorem ba_called : TypeCalled "bytearray" "bytearray.__new__" "bytearray.__init__" :=
  ⟨by decide +kernel, by decide +kernel, ⟨_, _, ba_mro⟩, madeBy_type ba_mro ba_lookup_new (by decide +kernel), by decide +kernel, by rw [isSubtype_type]; kernel_rfl, ba_slot_init⟩
theorem ba_typeCall (a : Value) : checkTypeCall "bytearray" ⟨[a], []⟩ = pure () := by kernel_rfl
theorem ba_newCall (a : Value) : checkBuiltinCall "bytearray.__new__" ⟨[.type "bytearray", a], []⟩ = pure () := by kernel_rfl
theorem ba_plain : plainId "bytearray.__new__" = true := by decide +kernel
theorem ba_entry_new : entryFor table "bytearray.__new__" = some Builtin.«list.__new__» := entryFor_alias (id' := "list.__new__") (by kernel_rfl) (by decide +kernel) (by decide +kernel) (by kernel_rfl)
theorem ba_entry_init : entryFor table "bytearray.__init__" = some Builtin.«bytearray.__init__» := by first | exact entryFor_of_fast (by kernel_rfl) | exact entryFor_of_tree (by kernel_rfl)
theorem ba_args_init (a b : Value) : argsOk "bytearray.__init__" ⟨[a, b], []⟩ := by unfold argsOk; kernel_rfl
theorem ba_sub : isSubtype (.type "bytearray") (.type "bytearray") = pure true := by rw [isSubtype_type]; kernel_rfl
theorem ba_release : typeLookup (.type "bytearray") "__release_buffer__" = pure (some (.builtin "bytearray.__release_buffer__")) := by rw [typeLookup_type, builtinLookup_eq_fast]; kernel_rfl
theorem ba_bind (v : Value) : Bytes.bindOptional "bytearray.__init__" "bytearray" ["source", "encoding", "errors"] [v] [] = pure [some v, none, none] := by kernel_rfl
theorem ba_owner : ("bytearray.__new__".splitOn ".__new__").headD "" = "bytearray" := by simp +decide [String.splitOn, String.splitOnAux]

abbrev baObj (b : Array UInt8) : Obj := { cls := .type "bytearray", data := .bytearray b }
section
variable {prog : Program} {w : World} {A : Around} {E : Value → Shared → Prop} {s : Shared}
theorem code_ba_new (a : Value) {Q₁ : Value → Shared → Prop} (h : Q₁ (.ref s.heap.objs.size) { s with heap := s.heap.push (baObj #[]) }) :
    codeAny (model prog w) A (.call (.builtin "bytearray.__new__") ⟨[.type "bytearray", a], []⟩) (wants Q₁ E) s := by
  refine codeAny_of_tree ?_
  show wpAny _ A.in1 (do checkBuiltinCall "bytearray.__new__" ⟨[.type "bytearray", a], []⟩; again (.builtin "bytearray.__new__" ⟨[.type "bytearray", a], []⟩)) _ _ s
  refine wpAny_bind (wpAny_of_eq (ba_newCall a) (wpAny_pure ⟨plainId_quiet ba_plain _, codeAny_builtin_stack ba_entry_new rfl fun p st => ?_⟩))
  rw [Around.under_plainId ba_plain _]
  have hsub := ba_sub
  have hown := ba_owner
  obtain ⟨hp, g, d, tk, os⟩ := s
  simp only [hown]
  wp_walk
  exact h

/-- nothing on the stack holds it -/
theorem g_exported {x : Addr} {Q : Bool → Shared → Prop} (hg : A.guards = some []) (h : Q false s) : gAny (model prog w) A (exported (.ref x)) Q E s := by
  refine g_stackAny_false hg (fun c p hc hi => ?_) (fun c hc => nomatch hc) h
  cases c with
  | builtin id args => 
    simp only [clean, Bool.not_eq_true'] at hc
    simp only [Code.isGuard] at hi
    split
    all_goals (try (simp_all [guardIds]; done))
  | _ => rfl
end
end
-- part P2
section
open PySem.Builtin PySem.Builtin.Bytes
section
variable {prog : Program} {w : World} {A : Around} {E : Value → Shared → Prop} {s : Shared}
theorem ba_typeIs {h : Heap} {x : Addr} {b : Array UInt8} {g d t o} (e : h.get? x = some (baObj b)) : Shared.TypeIs ⟨h, g, d, t, o⟩ (.ref x) "bytearray" := ⟨_, e, rfl⟩
theorem ba_ownRelease {x : Addr} {Q : Bool → Shared → Prop} (hT : s.TypeIs (.ref x) "bytearray") (h : Q false s) : wpAny (model prog w) A (ownRelease (.ref x)) Q E s := by
  unfold ownRelease slotIsOwn
  refine wpAny_bind (wpAny_bind (wpAny_specialOf hT ba_release ?_))
  dsimp only
  refine wpAny_ite ?_
  rw [if_neg (by decide +kernel)]
  refine wpAny_isInstance hT (b := true) ?_ (wpAny_pure h)
  rw [show ("bytearray.__release_buffer__".dropRight ("__release_buffer__".length + 1)) = "bytearray" from by decide +kernel]
  exact ba_sub
theorem updateBa {x : Addr} {b : Array UInt8} {f : Array UInt8 → Array UInt8} {Q : Unit → Shared → Prop} (e : s.heap.get? x = some (baObj b)) (hz : (f b).size ≤ sizeLine)
    (h : Q () { s with heap := s.heap.update x (Obj.mapBytearray f) }) : wpAny (model prog w) A (write (.ref x) f) Q E s := by
  show wpAny _ _ (updateBytearray x f) _ _ _
  unfold updateBytearray
  refine wpAny_bind (wpAny_load e ?_)
  show wpAny _ _ (update x (Obj.mapBytearray f) >>= fun _ => lookBehind x) _ _ _
  refine wpAny_bind (wpAny_update e ?_)
  have e2 : (s.heap.update x (Obj.mapBytearray f)).get? x = some (baObj (f b)) := Heap.get?_update_self (Obj.mapBytearray f) e rfl
  refine wpAny_lookBehind e2 ?_ h
  show (if (f b).size > sizeLine then some "bytearray:memory" else none) = none
  rw [if_neg (by omega)]

theorem ba_init_int {x : Addr} {n : Int} {t : Tok} {R : Result → Shared → Prop} {P : Code → Shared → Prop} (hg : A.guards = some []) (e : s.heap.get? x = some (baObj #[])) (h0 : 0 ≤ n) (hn : n ≤ 16777216)
    (h : ∀ h', (∀ b o, b ≠ x → s.heap.get? b = some o → h'.get? b = some o) → h'.get? x = some (baObj (Array.replicate n.toNat 0)) → R (.ok (.ret .none)) { s with heap := h' }) :
    gAny (model prog w) A (Builtin.«bytearray.__init__» ⟨[.ref x, .int n t], []⟩) (fun fin s' => match fin with | .done f => R (.ok f) s' | .again c' => P c' s') (fun e s' => R (.error e) s') s := by
  have hT : s.TypeIs (.ref x) "bytearray" := ⟨_, e, rfl⟩
  unfold Builtin.«bytearray.__init__»
  refine g_bindL (ba_ownRelease hT ?_)
  refine g_ite_false (by decide) ?_
  refine g_bindL (wpAny_of_eq (ba_bind _) ?_)
  refine g_bindL (wpAny_of_eq (a := ()) rfl ?_)
  refine g_bindL (wpAny_of_eq (a := ()) rfl ?_)
  refine g_bind ?_
  show gAny _ _ (orM (exported (.ref x)) (exportsOf (.ref x) >>= fun n => pure (decide (n > 0)))) _ _ _
  unfold orM
  refine g_bind (g_exported hg (g_of ?_))
  show wpAny _ _ (exportsOf (.ref x) >>= fun n => pure (decide (n > 0))) _ _ _
  refine wpAny_bind ?_
  unfold exportsOf
  refine wpAny_bind (wpAny_load e (wpAny_pure (wpAny_pure ?_)))
  refine g_of ?_
  refine PySem.bm_if_false rfl ?_
  refine wpAny_bind (updateBa e (Nat.zero_le _) ?_)
  have e1 : (s.heap.update x (Obj.mapBytearray fun _ => #[])).get? x = some (baObj #[]) := Heap.get?_update_self (Obj.mapBytearray fun _ => #[]) e rfl
  have k1 : ∀ b o, b ≠ x → s.heap.get? b = some o → (s.heap.update x (Obj.mapBytearray fun _ => #[])).get? b = some o := fun b o hb q => (Heap.get?_update_other _ _ (Ne.symm hb)).trans q
  dsimp only
  refine wpAny_bind (wpAny_of_eq (a := none) rfl ?_)
  refine PySem.bm_if_false rfl ?_
  refine wpAny_bind (wpAny_of_eq (a := ()) rfl ?_)
  refine wpAny_bind (wpAny_specialOf (T := "int") (typeIs_int _ _ _) F.slot_int_index.lookup ?_)
  refine PySem.bm_if_true rfl ?_
  refine wpAny_bind (wpAny_attempt (wpAny_of_eq (a := n) rfl ?_))
  dsimp only
  refine PySem.bm_if_false (by simp [fitsIndex]; omega) ?_
  refine wpAny_ite ?_
  rw [if_neg (by omega)]
  refine PySem.bm_if_false (by simp; omega) ?_
  refine PySem.bm_if_false (by simp [tooLong, sizeLine]; omega) ?_
  refine wpAny_bind (wpAny_rule ?_)
  refine wpAny_ite ?_
  split
  · rename_i hpos
    have hz : (Array.replicate n.toNat (0 : UInt8)).size ≤ sizeLine := by simp [sizeLine]; omega
    refine wpAny_bind (updateBa (s := { s with heap := s.heap.update x (Obj.mapBytearray fun _ => #[]) }) e1 hz ?_)
    refine wpAny_pure (h _ (fun b o hb q => (Heap.get?_update_other _ _ (Ne.symm hb)).trans (k1 b o hb q)) ?_)
    exact Heap.get?_update_self (Obj.mapBytearray fun _ => Array.replicate n.toNat 0) e1 rfl
  · have : n = 0 := by omega
    subst this
    exact wpAny_pure (h _ k1 e1)

theorem g_bytearray_int {n : Int} {t : Tok} {Q : Value → Shared → Prop} (hg : A.guards = some []) (h0 : 0 ≤ n) (hn : n ≤ 16777216)
    (h : ∀ h', (∀ b o, s.heap.get? b = some o → h'.get? b = some o) → h'.get? s.heap.objs.size = some (baObj (Array.replicate n.toNat 0)) → Q (.ref s.heap.objs.size) { s with heap := h' }) :
    gAny (model prog w) A (call (.type "bytearray") [.int n t]) Q E s := by
  refine g_callType (Q₁ := fun obj s₁ => obj = .ref s.heap.objs.size ∧ s₁ = { s with heap := s.heap.push (baObj #[]) }) ba_called (ba_typeCall _) ba_entry_init (fun _ => rfl) (code_ba_new _ ⟨rfl, rfl⟩) fun obj s₁ h₁ => ?_
  obtain ⟨rfl, rfl⟩ := h₁
  have e1 : (s.heap.push (baObj #[])).get? s.heap.objs.size = some (baObj #[]) := Heap.get?_push_size _ rfl
  exact ⟨⟨_, e1, rfl⟩, ba_args_init _ _, ba_init_int (A := A.in1.in1) (R := wants (fun r s₂ => r = .none ∧ Q (.ref s.heap.objs.size) s₂) E) hg e1 h0 hn fun h' k e => ⟨rfl, h h' (fun b o q => k b o (Nat.ne_of_lt (Heap.lt_size q)) (Heap.get?_push_of_some _ q)) e⟩⟩
end
end
-- part P3
section
open PySem.Builtin PySem.Builtin.Bytes
theorem ba_look_buffer : typeLookup (.type "bytearray") "__buffer__" = pure (some (.builtin "bytearray.__buffer__")) := by rw [typeLookup_type, builtinLookup_eq_fast]; kernel_rfl
theorem ba_no_bytes : typeLookup (.type "bytearray") "__bytes__" = pure none := by rw [typeLookup_type, builtinLookup_eq_fast]; kernel_rfl
theorem ba_no_index : typeLookup (.type "bytearray") "__index__" = pure none := by rw [typeLookup_type, builtinLookup_eq_fast]; kernel_rfl
theorem bytes_no_index : typeLookup (.type "bytes") "__index__" = pure none := by rw [typeLookup_type, builtinLookup_eq_fast]; kernel_rfl
theorem bytes_no_int : typeLookup (.type "bytes") "__int__" = pure none := by rw [typeLookup_type, builtinLookup_eq_fast]; kernel_rfl
theorem bytes_no_float : typeLookup (.type "bytes") "__float__" = pure none := by rw [typeLookup_type, builtinLookup_eq_fast]; kernel_rfl
theorem bytes_sub_ba : isSubtype (.type "bytes") (.type "bytearray") = pure false := by rw [isSubtype_type]; kernel_rfl
theorem bytes_sub_complex : isSubtype (.type "bytes") (.type "complex") = pure false := by rw [isSubtype_type]; kernel_rfl
theorem ba_slot_len : Slot "bytearray" "__len__" "bytearray.__len__" :=
  .of (owner := "bytearray") (n := "__len__") (by rw [typeLookup_type, builtinLookup_eq_fast]; kernel_rfl) (by decide +kernel) (by decide +kernel) (by decide +kernel)
    (by first | exact .inl (by decide +kernel) | exact .inr (by decide +kernel)) (by rw [isSubtype_type]; kernel_rfl)
theorem ba_entry_len : entryFor table "bytearray.__len__" = some Builtin.«bytearray.__len__» := by first | exact entryFor_of_fast (by kernel_rfl) | exact entryFor_of_tree (by kernel_rfl)
theorem ba_args_len (a : Value) : argsOk "bytearray.__len__" ⟨[a], []⟩ := by unfold argsOk; kernel_rfl
theorem ba_slot_get : Slot "bytearray" "__getitem__" "bytearray.__getitem__" :=
  .of (owner := "bytearray") (n := "__getitem__") (by rw [typeLookup_type, builtinLookup_eq_fast]; kernel_rfl) (by decide +kernel) (by decide +kernel) (by decide +kernel)
    (by first | exact .inl (by decide +kernel) | exact .inr (by decide +kernel)) (by rw [isSubtype_type]; kernel_rfl)
theorem ba_entry_get : entryFor table "bytearray.__getitem__" = some Builtin.«bytearray.__getitem__» := by first | exact entryFor_of_fast (by kernel_rfl) | exact entryFor_of_tree (by kernel_rfl)
theorem ba_args_get (a b : Value) : argsOk "bytearray.__getitem__" ⟨[a, b], []⟩ := by unfold argsOk; kernel_rfl
theorem ba_slot_set : Slot "bytearray" "__setitem__" "bytearray.__setitem__" :=
  .of (owner := "bytearray") (n := "__setitem__") (by rw [typeLookup_type, builtinLookup_eq_fast]; kernel_rfl) (by decide +kernel) (by decide +kernel) (by decide +kernel)
    (by first | exact .inl (by decide +kernel) | exact .inr (by decide +kernel)) (by rw [isSubtype_type]; kernel_rfl)
theorem ba_entry_set : entryFor table "bytearray.__setitem__" = some Builtin.«bytearray.__setitem__» := by first | exact entryFor_of_fast (by kernel_rfl) | exact entryFor_of_tree (by kernel_rfl)
theorem ba_args_set (a b c : Value) : argsOk "bytearray.__setitem__" ⟨[a, b, c], []⟩ := by unfold argsOk; kernel_rfl
section
variable {prog : Program} {w : World} {M : Model} {A : Around} {E : Value → Shared → Prop} {s : Shared} {x : Addr} {b : Array UInt8}
theorem ba_payload {Q : Array UInt8 → Shared → Prop} (e : s.heap.get? x = some (baObj b)) (h : Q b s) : wpAny M A (payload (.ref x)) Q E s := by
  unfold payload payload?
  refine wpAny_bind (wpAny_bind (wpAny_load e ?_))
  exact wpAny_pure (wpAny_pure h)
theorem ba_ownBuffer {Q : Bool → Shared → Prop} (hT : s.TypeIs (.ref x) "bytearray") (h : Q true s) : wpAny M A (slotIsOwn (.ref x) "__buffer__") Q E s := by
  unfold slotIsOwn
  refine wpAny_bind (wpAny_specialOf hT ba_look_buffer ?_)
  dsimp only
  refine wpAny_ite ?_
  rw [if_neg (by decide +kernel)]
  refine wpAny_isInstance hT (b := true) ?_ h
  rw [show ("bytearray.__buffer__".dropRight ("__buffer__".length + 1)) = "bytearray" from by decide +kernel]
  exact ba_sub
theorem ba_ownRelease' {Q : Bool → Shared → Prop} (hT : s.TypeIs (.ref x) "bytearray") (h : Q false s) : wpAny M A (ownRelease (.ref x)) Q E s := by
  unfold ownRelease slotIsOwn
  refine wpAny_bind (wpAny_bind (wpAny_specialOf hT ba_release ?_))
  dsimp only
  refine wpAny_ite ?_
  rw [if_neg (by decide +kernel)]
  refine wpAny_isInstance hT (b := true) ?_ (wpAny_pure h)
  rw [show ("bytearray.__release_buffer__".dropRight ("__release_buffer__".length + 1)) = "bytearray" from by decide +kernel]
  exact ba_sub
theorem ba_buffer {id : String} {full : Bool} {Q : Option (Array UInt8) → Shared → Prop} (e : s.heap.get? x = some (baObj b)) (h : Q (some b) s) : wpAny M A (buffer? id (.ref x) full) Q E s := by
  have hT : s.TypeIs (.ref x) "bytearray" := ⟨_, e, rfl⟩
  unfold buffer?
  refine wpAny_bind (wpAny_specialOf hT ba_look_buffer ?_)
  dsimp only
  refine wpAny_bind (ba_ownBuffer hT ?_)
  refine PySem.bm_if_false rfl ?_
  refine wpAny_bind (wpAny_specialOf hT ba_look_buffer ?_)
  show wpAny _ _ (ownRelease (.ref x) >>= _) _ _ _
  refine wpAny_bind (ba_ownRelease' hT ?_)
  refine PySem.bm_if_false rfl ?_
  refine wpAny_bind (ba_payload e ?_)
  exact wpAny_pure h
end
section
variable {prog : Program} {w : World} {A : Around} {E : Value → Shared → Prop} {s : Shared} {x : Addr} {b : Array UInt8}
theorem ba_len_meets (x : Addr) (b : Array UInt8) : Meets (Builtin.«bytearray.__len__» ⟨[.ref x], []⟩) (fun _ R s => s.heap.get? x = some (baObj b) ∧ R (.ok (.ret (.int b.size s.toks))) { s with toks := s.toks + 1 }) := by
  refine .of_wp fun prog w A R s hS => ?_
  obtain ⟨e, h⟩ := hS
  show wpAny _ _ (payload (.ref x) >>= fun r => retInt r.size) _ _ s
  refine wpAny_bind (ba_payload e ?_)
  exact wpAny_bind (wpAny_mkInt (wpAny_pure ⟨_, rfl, h⟩))
theorem ba_len {Q : Value → Shared → Prop} (e : s.heap.get? x = some (baObj b)) (hz : b.size ≤ 16777216) (h : Q (.int b.size (s.toks + 1)) { s with toks := s.toks + 1 + 1 }) :
    wpAny (model prog w) A (call (.builtin "len") [.ref x]) Q E s :=
  call_len_meets ⟨_, e, rfl⟩ ba_slot_len ba_entry_len (ba_args_len _) (ba_len_meets x b) (by omega) (by omega) (fun Q' h' => ⟨e, h'⟩) h

theorem bytes_of_ba {Q : Value → Shared → Prop} (e : s.heap.get? x = some (baObj b)) (hz : b.size ≤ 16777216) (h : ∀ t k, Q (.bytes b t) { s with toks := k }) : wpAny (model prog w) A (call (.type "bytes") [.ref x]) Q E s := by
  have hT : s.TypeIs (.ref x) "bytearray" := ⟨_, e, rfl⟩
  refine callType_codes (Q₁ := fun obj s₁ => s₁.TypeIs obj "bytes" ∧ Q obj s₁) F.bm_called (F.bm_typeCall _) F.entry_object_init ?_ fun obj s₁ h₁ =>
    ⟨h₁.1, F.args_object_init_2 obj _, object_init_meets F.bm_called.init.lookup F.bm_called.made (by decide) prog w A.in1 _ s₁ ⟨h₁.1, rfl, h₁.2⟩⟩
  refine codeAny_of_tree ?_
  show wpAny _ A.in1.in1 (do checkBuiltinCall "bytes.__new__" ⟨[.type "bytes", .ref x], []⟩; again (.builtin "bytes.__new__" ⟨[.type "bytes", .ref x], []⟩)) _ _ s
  refine wpAny_bind (wpAny_of_eq (F.bm_newCall _) (wpAny_pure ⟨plainId_quiet F.bm_plain _, codeAny_builtin F.bm_entry ?_⟩))
  rw [Around.under_plainId F.bm_plain _]
  unfold Builtin.«bytes.__new__»
  refine wpAny_bind (wpAny_of_eq (a := true) rfl ?_)
  refine bm_if_false rfl ?_
  refine wpAny_bind (wpAny_of_eq F.bm_sub ?_)
  refine bm_if_false rfl ?_
  refine wpAny_bind (wpAny_of_eq (F.bm_bind _) ?_)
  refine wpAny_bind (wpAny_of_eq (a := ()) rfl ?_)
  refine wpAny_bind (wpAny_of_eq (a := ()) rfl ?_)
  refine bm_if_false rfl ?_
  refine wpAny_bind (wpAny_specialOf hT ba_no_bytes ?_)
  refine wpAny_bind (wpAny_bind ?_)
  show wpAny _ _ (load x >>= _) _ _ _
  refine wpAny_bind (wpAny_load e ?_)
  refine wpAny_pure (wpAny_pure ?_)
  refine bm_if_false rfl ?_
  refine wpAny_bind (wpAny_specialOf hT ba_no_index ?_)
  refine bm_if_true rfl ?_
  show wpAny _ _ (buffer? "bytes.__new__" (.ref x) true >>= _) _ _ _
  refine wpAny_bind (ba_buffer e ?_)
  refine wpAny_bind (wpAny_rule ?_)
  refine wpAny_bind (wpAny_mkBytes ?_ (by rw [sizeLine_eq]; omega))
  show wpAny _ _ (if (Value.type "bytes" == Value.type "bytes") = true then _ else _) _ _ _
  refine bm_if_true (by decide) ?_
  first
    | exact wpAny_pure ⟨PySem.W.typeIs_bytes _ _ _, h _ _⟩
    | exact wpAny_bind (wpAny_pure (wpAny_pure ⟨PySem.W.typeIs_bytes _ _ _, h _ _⟩))
end
end
-- part P4
section
open PySem.Builtin PySem.Builtin.Bytes
section
variable {M : Model} {A : Around} {E : Value → Shared → Prop} {s : Shared}
theorem sliceParts_of {sl : Addr} {l u : Value} {lo hi : Option Int} {Q : Value × Value × Value → Shared → Prop} (hS : s.heap.IsSliceOf sl l u .none) (hl : IsPart l lo) (hu : IsPart u hi)
    (h : Q (rawPart lo, rawPart hi, rawPart none) s) : wpAny M A (sliceParts (.ref sl)) Q E s := by
  obtain ⟨o, ho, hc, hd⟩ := hS
  unfold sliceParts
  refine wpAny_bind (wpAny_field (x := .none) ho hd rfl ?_)
  refine wpAny_bind (wpAny_of_eq (a := Value.none) rfl ?_)
  refine PySem.bm_if_false rfl ?_
  refine wpAny_bind (wpAny_field (x := l) ho hd rfl ?_)
  have part : ∀ {v : Value} {p : Option Int} {R : Value → Shared → Prop}, IsPart v p → R (rawPart p) s →
      wpAny M A (if (v == Value.none) = true then pure Value.none else do
        if (← specialOf v "__index__").isNone = true then do
          rule "bytes.slice.part-no-index"; raiseErrorWords "TypeError" "slice indices must be integers or None or have an __index__ method"
        return rawInt (← asIndex v)) R E s := by
    intro v p R hv hR
    cases hv with
    | none => exact PySem.bm_if_true rfl (wpAny_pure hR)
    | int i t =>
      refine PySem.bm_if_false rfl ?_
      refine wpAny_bind (wpAny_specialOf (T := "int") (typeIs_int _ _ _) F.slot_int_index.lookup ?_)
      refine PySem.bm_if_false rfl ?_
      exact wpAny_bind (wpAny_of_eq (a := i) rfl (wpAny_pure hR))
  refine wpAny_bind ?_
  refine part hl ?_
  refine wpAny_bind (wpAny_field (x := u) ho hd rfl ?_)
  refine wpAny_bind ?_
  refine part hu ?_
  exact wpAny_pure h
theorem slice_typeIs {sl : Addr} {l u : Value} (hS : s.heap.IsSliceOf sl l u .none) : s.TypeIs (.ref sl) "slice" := by
  obtain ⟨o, ho, hc, hd⟩ := hS
  exact ⟨o, ho, hc⟩
theorem subscript_slice {sl : Addr} {l u : Value} {Q : Option Int → Shared → Prop} (hS : s.heap.IsSliceOf sl l u .none) (h : Q none s) : wpAny M A (subscript? (.ref sl)) Q E s := by
  unfold subscript?
  refine wpAny_bind (wpAny_specialOf (slice_typeIs hS) slice_no_index ?_)
  exact PySem.bm_if_true rfl (wpAny_pure h)
end
theorem ba_get_meets (x : Addr) (b : Array UInt8) (sl : Addr) {l u : Value} {lo hi : Option Int} (hl : IsPart l lo) (hu : IsPart u hi) :
    Meets (Builtin.«bytearray.__getitem__» ⟨[.ref x, .ref sl], []⟩) (fun _ R s => s.heap.get? x = some (baObj b) ∧ s.heap.IsSliceOf sl l u .none ∧ (KBy.picked b lo hi).size ≤ sizeLine ∧
      R (.ok (.ret (.ref s.heap.objs.size))) { s with heap := s.heap.push (baObj (KBy.picked b lo hi)) }) := by
  refine .of_wp fun prog w A R s hS => ?_
  obtain ⟨e, hsl, hz, h⟩ := hS
  show wpAny _ _ (subscript? (.ref sl) >>= _) _ _ s
  refine wpAny_bind (subscript_slice hsl ?_)
  dsimp only
  refine wpAny_bind (wpAny_typeOf (slice_typeIs hsl) ?_)
  refine PySem.bm_if_false rfl ?_
  refine wpAny_bind (sliceParts_of hsl hl hu ?_)
  dsimp only
  refine wpAny_bind (ba_payload e ?_)
  refine wpAny_bind (wpAny_of_eq (sliceIndices_raw lo hi none b.size (fun e => nomatch e)) ?_)
  refine wpAny_bind ?_
  unfold newBytearray
  exact wpAny_newObj_type (wpAny_pure ⟨_, rfl, h⟩) hz
theorem pick_range (b : Array UInt8) (a : Nat) : ∀ c, a + c ≤ b.size → ((List.range c).map fun (k : Nat) => a + k).filterMap (b[·]?) = (b.toList.drop a).take c
  | 0, _ => by simp
  | c + 1, h => by
    rw [List.range_succ, List.map_append, List.filterMap_append, pick_range b a c (by omega), List.take_add_one]
    congr 1
    simp [List.getElem?_drop]
    have : a + c < b.size := by omega
    simp [this]
theorem sliced_from (b : Array UInt8) (a n : Nat) (hn : n ≤ b.size) : Bytes.sliced b a n 1 = b.extract a n := by
  have key : sliceRange (a : Int) (n : Int) 1 = (List.range (n - a)).map fun (k : Nat) => a + k := by
    unfold sliceRange
    have hc : (if (1 : Int) > 0 then (if (a : Int) < n then ((n : Int) - a + 1 - 1) / 1 else 0) else (if (a : Int) > n then ((a : Int) - n - 1 - 1) / (-1) else 0)).toNat = n - a := by
      rw [if_pos (by decide)]
      split <;> omega
    simp only [hc]
    refine List.map_congr_left fun k _ => ?_
    omega
  unfold Bytes.sliced
  rw [key]
  by_cases h : a ≤ n
  · rw [pick_range b a (n - a) (by omega)]
    apply Array.ext'
    simp
  · have h0 : n - a = 0 := by omega
    rw [h0]
    apply Array.ext'
    simp [h0]
theorem picked_from (b : Array UInt8) (a : Int) (h0 : 0 ≤ a) : KBy.picked b (some a) none = b.extract a.toNat b.size := by
  unfold KBy.picked sliceBounds
  have e1 : (max 0 (min a (b.size : Int))) = ((min a.toNat b.size : Nat) : Int) := by omega
  have hn : ¬ a < 0 := by omega
  simp only [Option.getD_none, hn, if_false, gt_iff_lt, Int.zero_lt_one, if_true, e1]
  rw [sliced_from b _ _ (Nat.le_refl _)]
  by_cases h : a.toNat ≤ b.size
  · rw [Nat.min_eq_left h]
  · rw [Nat.min_eq_right (by omega)]
    apply Array.ext'
    simp
    omega

section
variable {prog : Program} {w : World} {A : Around} {E : Value → Shared → Prop} {s : Shared} {x : Addr} {b : Array UInt8} {value slice : PySem.Expr} {h₀ : Heap} {L : Addr} {m : PySem.Str → Option Value} {news : List (Addr × Obj)} {l u : Value} {lo hi : Option Int} {Q : Value → Shared → Prop}
/-- a cut of a bytearray is a new one -/
theorem ba_slice (hF : Fr h₀ L s.heap m) (hN : News h₀ L s.heap news) (hm : (x, baObj b) ∈ news) (hl : IsPart l lo) (hu : IsPart u hi) (hz : (KBy.picked b lo hi).size ≤ 16777216)
    (h : ∀ D h', Fr h₀ L h' m → News h₀ L h' ((D, baObj (KBy.picked b lo hi)) :: news) → (∀ p ∈ news, p.1 < D) → Q (.ref D) { s with heap := h' })
    (hs : subscripted slice false (.ref x) (.ref s.heap.objs.size) = operate [.ref s.heap.objs.size, .ref x] (getItem (.ref x) (.ref s.heap.objs.size)) := by with_unfolding_all rfl)
    (ht : ∀ r, letTemporaryGo value (.ref x) r = pure () := by intro _; with_unfolding_all rfl) :
    wpAny (model prog w) A (subscriptTail value slice (.ref x) (.ref s.heap.objs.size)) Q E { s with heap := s.heap.push { cls := .type "slice", data := .fields #[l, u, .none] } } := by
  have e1 := Heap.get?_push_of_some { cls := .type "slice", data := .fields #[l, u, .none] } (hN.get hm)
  have hF1 := hF.push { cls := .type "slice", data := .fields #[l, u, .none] }
  have hN1 := News.pushKeep (o := { cls := .type "slice", data := .fields #[l, u, .none] }) hN
  refine tail_of_ItemOn ⟨"bytearray", _, ba_slot_get.lookup, ⟨_, e1, rfl⟩, getItem_meets ⟨_, e1, rfl⟩ (by decide) ba_slot_get ba_entry_get (ba_args_get _ _) (ba_get_meets x b _ hl hu)
    ⟨e1, Heap.IsSliceOf.new _ _ _ _, by rw [sizeLine_eq]; exact hz, ?_⟩⟩ hs ht
  refine h _ _ (hF1.push _) (News.push hF1 hN1 _) fun p hp => ?_
  rw [Heap.size_push]
  exact Nat.lt_succ_of_lt (Heap.lt_size (hN p hp).1)
end
end
-- part P5
section
open PySem.Builtin PySem.Builtin.Bytes
/-- b with the places from st up to sp overwritten by c -/
def overwritten (b c : Array UInt8) (st sp : Int) : Array UInt8 := b.extract 0 st.toNat ++ c ++ b.extract (max st sp).toNat b.size
section
variable {prog : Program} {w : World} {A : Around} {E : Value → Shared → Prop} {s : Shared}
/-- the last part of a slice's store -/
theorem ba_set_tail {M : Model} {x : Addr} {b c : Array UInt8} {st sp k : Int} {X F : Sem PySem.Fin} {Q : PySem.Fin → Shared → Prop} (hk : k = 1) (e : s.heap.get? x = some (baObj b))
    (hc : (c.size : Int) = max st sp - st) (hz : (overwritten b c st sp).size ≤ sizeLine) (h : Q (.done (.ret .none)) { s with heap := s.heap.update x (Obj.mapBytearray fun b => overwritten b c st sp) }) :
    wpAny M A (if (k == 1) = true then rule "bytearray.__setitem__.slice" >>= fun _ =>
      (if ((c.size : Int) != max st sp - st) = true then X else write (.ref x) (fun b => b.extract 0 st.toNat ++ c ++ b.extract (max st sp).toNat) >>= fun _ => ret .none)
    else F) Q E s := by
  subst hk
  refine PySem.bm_if_true rfl ?_
  refine wpAny_bind (wpAny_rule ?_)
  have hne : ((c.size : Int) != max st sp - st) = false := by rw [hc]; simp
  refine PySem.bm_if_false hne ?_
  refine wpAny_bind ?_
  show wpAny _ _ (updateBytearray x fun b => overwritten b c st sp) _ _ _
  unfold updateBytearray
  refine wpAny_bind (wpAny_load e ?_)
  show wpAny _ _ (update x (Obj.mapBytearray fun b => overwritten b c st sp) >>= fun _ => lookBehind x) _ _ _
  refine wpAny_bind (wpAny_update e ?_)
  have e2 : (s.heap.update x (Obj.mapBytearray fun b => overwritten b c st sp)).get? x = some (baObj (overwritten b c st sp)) := Heap.get?_update_self (Obj.mapBytearray _) e rfl
  refine wpAny_lookBehind e2 ?_ (wpAny_pure h)
  show (if (overwritten b c st sp).size > sizeLine then some "bytearray:memory" else none) = none
  rw [if_neg (by omega)]

/-- a slice's store of another bytearray of the same size -/
theorem ba_set_ba_meets (x y sl : Addr) (b c : Array UInt8) {l u : Value} {lo hi : Option Int} (hl : IsPart l lo) (hu : IsPart u hi) (hxy : x ≠ y)
    (hc : (c.size : Int) = max (sliceBounds lo hi none b.size).1 (sliceBounds lo hi none b.size).2.1 - (sliceBounds lo hi none b.size).1)
    (hz : (overwritten b c (sliceBounds lo hi none b.size).1 (sliceBounds lo hi none b.size).2.1).size ≤ sizeLine) :
    Meets (Builtin.«bytearray.__setitem__» ⟨[.ref x, .ref sl, .ref y], []⟩) (fun _ R s => s.heap.get? x = some (baObj b) ∧ s.heap.get? y = some (baObj c) ∧ s.heap.IsSliceOf sl l u .none ∧
      R (.ok (.ret .none)) { s with heap := s.heap.update x (Obj.mapBytearray fun b' => overwritten b' c (sliceBounds lo hi none b.size).1 (sliceBounds lo hi none b.size).2.1) }) := by
  refine .of_wp fun prog w A R s hS => ?_
  obtain ⟨e, ey, hsl, h⟩ := hS
  unfold Builtin.«bytearray.__setitem__»
  refine PySem.bm_if_false rfl ?_
  dsimp only
  refine wpAny_bind (subscript_slice hsl ?_)
  dsimp only
  refine wpAny_bind (wpAny_typeOf (slice_typeIs hsl) ?_)
  refine PySem.bm_if_false rfl ?_
  refine wpAny_bind (sliceParts_of hsl hl hu ?_)
  refine PySem.bm_if_false (show (x == y) = false from by simpa using hxy) ?_
  refine wpAny_bind (wpAny_isInstance (T := "bytearray") ⟨_, ey, rfl⟩ ba_sub ?_)
  refine PySem.bm_if_false rfl ?_
  refine wpAny_bind (ba_payload ey ?_)
  refine wpAny_bind (ba_payload e ?_)
  refine wpAny_bind (wpAny_of_eq (sliceIndices_raw lo hi none b.size (fun e => nomatch e)) ?_)
  exact ba_set_tail rfl e hc hz ⟨_, rfl, h⟩
end
end
-- part P6
section
open PySem.Builtin PySem.Builtin.Bytes
section
variable {prog : Program} {w : World} {A : Around} {E : Value → Shared → Prop} {s : Shared}
theorem ba_init_bytes {x : Addr} {c : Array UInt8} {t : Tok} {R : Result → Shared → Prop} {P : Code → Shared → Prop} (hg : A.guards = some []) (e : s.heap.get? x = some (baObj #[])) (hn : c.size ≤ 16777216)
    (h : ∀ h', (∀ b o, b ≠ x → s.heap.get? b = some o → h'.get? b = some o) → h'.get? x = some (baObj c) → R (.ok (.ret .none)) { s with heap := h' }) :
    gAny (model prog w) A (Builtin.«bytearray.__init__» ⟨[.ref x, .bytes c t], []⟩) (fun fin s' => match fin with | .done f => R (.ok f) s' | .again c' => P c' s') (fun e s' => R (.error e) s') s := by
  have hT : s.TypeIs (.ref x) "bytearray" := ⟨_, e, rfl⟩
  unfold Builtin.«bytearray.__init__»
  refine g_bindL (ba_ownRelease hT ?_)
  refine g_ite_false (by decide) ?_
  refine g_bindL (wpAny_of_eq (ba_bind _) ?_)
  refine g_bindL (wpAny_of_eq (a := ()) rfl ?_)
  refine g_bindL (wpAny_of_eq (a := ()) rfl ?_)
  refine g_bind ?_
  show gAny _ _ (orM (exported (.ref x)) (exportsOf (.ref x) >>= fun n => pure (decide (n > 0)))) _ _ _
  unfold orM
  refine g_bind (g_exported hg (g_of ?_))
  show wpAny _ _ (exportsOf (.ref x) >>= fun n => pure (decide (n > 0))) _ _ _
  refine wpAny_bind ?_
  unfold exportsOf
  refine wpAny_bind (wpAny_load e (wpAny_pure (wpAny_pure ?_)))
  refine g_of ?_
  refine PySem.bm_if_false rfl ?_
  refine wpAny_bind (updateBa e (Nat.zero_le _) ?_)
  have e1 : (s.heap.update x (Obj.mapBytearray fun _ => #[])).get? x = some (baObj #[]) := Heap.get?_update_self (Obj.mapBytearray fun _ => #[]) e rfl
  have k1 : ∀ b o, b ≠ x → s.heap.get? b = some o → (s.heap.update x (Obj.mapBytearray fun _ => #[])).get? b = some o := fun b o hb q => (Heap.get?_update_other _ _ (Ne.symm hb)).trans q
  dsimp only
  refine wpAny_bind (wpAny_of_eq (a := none) rfl ?_)
  refine PySem.bm_if_false rfl ?_
  refine wpAny_bind (wpAny_of_eq (a := ()) rfl ?_)
  refine wpAny_bind (wpAny_specialOf (T := "bytes") (PySem.W.typeIs_bytes _ _ _) bytes_no_index ?_)
  refine PySem.bm_if_false rfl ?_
  refine wpAny_bind (wpAny_of_eq KBy.buffer_eq ?_)
  dsimp only
  refine wpAny_bind (wpAny_rule ?_)
  refine wpAny_bind (updateBa (s := { s with heap := s.heap.update x (Obj.mapBytearray fun _ => #[]) }) e1 (by rw [sizeLine_eq]; exact hn) ?_)
  refine wpAny_pure (h _ (fun b o hb q => (Heap.get?_update_other _ _ (Ne.symm hb)).trans (k1 b o hb q)) ?_)
  exact Heap.get?_update_self (Obj.mapBytearray fun _ => c) e1 rfl

theorem g_bytearray_bytes {c : Array UInt8} {t : Tok} {Q : Value → Shared → Prop} (hg : A.guards = some []) (hn : c.size ≤ 16777216)
    (h : ∀ h', (∀ b o, s.heap.get? b = some o → h'.get? b = some o) → h'.get? s.heap.objs.size = some (baObj c) → Q (.ref s.heap.objs.size) { s with heap := h' }) :
    gAny (model prog w) A (call (.type "bytearray") [.bytes c t]) Q E s := by
  refine g_callType (Q₁ := fun obj s₁ => obj = .ref s.heap.objs.size ∧ s₁ = { s with heap := s.heap.push (baObj #[]) }) ba_called (ba_typeCall _) ba_entry_init (fun _ => rfl) (code_ba_new _ ⟨rfl, rfl⟩) fun obj s₁ h₁ => ?_
  obtain ⟨rfl, rfl⟩ := h₁
  have e1 : (s.heap.push (baObj #[])).get? s.heap.objs.size = some (baObj #[]) := Heap.get?_push_size _ rfl
  exact ⟨⟨_, e1, rfl⟩, ba_args_init _ _, ba_init_bytes (A := A.in1.in1) (R := wants (fun r s₂ => r = .none ∧ Q (.ref s.heap.objs.size) s₂) E) hg e1 hn fun h' k e => ⟨rfl, h h' (fun b o q => k b o (Nat.ne_of_lt (Heap.lt_size q)) (Heap.get?_push_of_some _ q)) e⟩⟩

/-- a slice's store of bytes: a bytearray of them is made first -/
theorem g_ba_set_bytes {x sl : Addr} {b c : Array UInt8} {t : Tok} {l u : Value} {lo hi : Option Int} {Q : PySem.Fin → Shared → Prop} (hg : A.guards = some []) (hl : IsPart l lo) (hu : IsPart u hi) (hn : c.size ≤ 16777216)
    (e : s.heap.get? x = some (baObj b)) (hsl : s.heap.IsSliceOf sl l u .none)
    (hc : (c.size : Int) = max (sliceBounds lo hi none b.size).1 (sliceBounds lo hi none b.size).2.1 - (sliceBounds lo hi none b.size).1)
    (hz : (overwritten b c (sliceBounds lo hi none b.size).1 (sliceBounds lo hi none b.size).2.1).size ≤ sizeLine)
    (h : ∀ h', (∀ b o, b ≠ x → s.heap.get? b = some o → h'.get? b = some o) → h'.get? x = some (baObj (overwritten b c (sliceBounds lo hi none b.size).1 (sliceBounds lo hi none b.size).2.1)) → Q (.done (.ret .none)) { s with heap := h' }) :
    gAny (model prog w) A (Builtin.«bytearray.__setitem__» ⟨[.ref x, .ref sl, .bytes c t], []⟩) Q E s := by
  unfold Builtin.«bytearray.__setitem__»
  refine g_ite_false (by exact Bool.false_ne_true) ?_
  dsimp only
  refine g_bindL (subscript_slice hsl ?_)
  dsimp only
  refine g_bindL (wpAny_typeOf (slice_typeIs hsl) ?_)
  refine g_ite_false (by decide) ?_
  refine g_bindL (sliceParts_of hsl hl hu ?_)
  refine g_ite_false (by exact Bool.false_ne_true) ?_
  refine g_bindL (wpAny_isInstance (T := "bytes") (PySem.W.typeIs_bytes _ _ _) bytes_sub_ba ?_)
  refine g_ite_true (by decide) ?_
  refine g_bindL (wpAny_of_eq (a := false) ?_ ?_)
  · have e4 : isInstance (.bytes c t) (.type "complex") = pure false := by
      show isSubtype (.type "bytes") (.type "complex") = pure false
      exact bytes_sub_complex
    rw [KBy.special_eq bytes_no_index, KBy.special_eq bytes_no_int, KBy.special_eq bytes_no_float, e4]
    rfl
  refine g_bindL (wpAny_of_eq (a := none) rfl ?_)
  refine g_ite_false (by decide) ?_
  refine g_bindL (wpAny_rule ?_)
  refine g_bind (g_bytearray_bytes hg hn fun h' k e' => ?_)
  have ex := k _ _ e
  obtain ⟨osl, hosl, c1, c2⟩ := hsl
  have hsl' : h'.IsSliceOf sl l u .none := ⟨osl, k _ _ hosl, c1, c2⟩
  refine g_bindL (wpAny_holding (sliceParts_of hsl' hl hu ?_))
  refine g_bindL (ba_payload e' ?_)
  refine g_bindL (ba_payload ex ?_)
  refine g_bindL (wpAny_of_eq (sliceIndices_raw lo hi none b.size (fun e => nomatch e)) ?_)
  refine g_of (ba_set_tail rfl ex hc hz ?_)
  refine h _ (fun b' o hb q => (Heap.get?_update_other _ _ (Ne.symm hb)).trans (k _ _ q)) ?_
  exact Heap.get?_update_self (Obj.mapBytearray _) ex rfl
theorem g_setItem_ba_bytes {x sl : Addr} {b c : Array UInt8} {t : Tok} {l u : Value} {lo hi : Option Int} {Q : Unit → Shared → Prop} (hg : A.guards = some []) (hl : IsPart l lo) (hu : IsPart u hi) (hn : c.size ≤ 16777216)
    (e : s.heap.get? x = some (baObj b)) (hsl : s.heap.IsSliceOf sl l u .none)
    (hc : (c.size : Int) = max (sliceBounds lo hi none b.size).1 (sliceBounds lo hi none b.size).2.1 - (sliceBounds lo hi none b.size).1)
    (hz : (overwritten b c (sliceBounds lo hi none b.size).1 (sliceBounds lo hi none b.size).2.1).size ≤ sizeLine)
    (h : ∀ h', (∀ b o, b ≠ x → s.heap.get? b = some o → h'.get? b = some o) → h'.get? x = some (baObj (overwritten b c (sliceBounds lo hi none b.size).1 (sliceBounds lo hi none b.size).2.1)) → Q () { s with heap := h' }) :
    gAny (model prog w) A (setItem (.ref x) (.ref sl) (.bytes c t)) Q E s := by
  have hT : s.TypeIs (.ref x) "bytearray" := ⟨_, e, rfl⟩
  unfold setItem
  refine g_holding (g_bindL ?_)
  unfold sequenceKey
  refine wpAny_bind (wpAny_typeOf hT ?_)
  dsimp only
  refine PySem.bm_if_true (by decide) (wpAny_pure ?_)
  refine g_bind ?_
  unfold callSpecial?
  refine g_bindL (wpAny_specialOf hT ba_slot_set.lookup ?_)
  refine g_holding (g_bindL (wpAny_of_eq (ba_slot_set.bind _) ?_))
  refine g_bind (g_call (gCode_call_builtin (plainId_quiet ba_slot_set.plain _) rfl ba_entry_set (ba_slot_set.check _ _ _ _ _ _ _ _ hT (ba_args_set _ _ _) ?_)))
  rw [Around.under_plainId ba_slot_set.plain _]
  refine g_ba_set_bytes (A := A.in1) hg hl hu hn e hsl hc hz fun h' k e' => ?_
  exact g_pure (g_pure (h h' k e'))
theorem setItem_ba_ba {x y sl : Addr} {b c : Array UInt8} {l u : Value} {lo hi : Option Int} {Q : Unit → Shared → Prop} (hl : IsPart l lo) (hu : IsPart u hi) (hxy : x ≠ y)
    (e : s.heap.get? x = some (baObj b)) (ey : s.heap.get? y = some (baObj c)) (hsl : s.heap.IsSliceOf sl l u .none)
    (hc : (c.size : Int) = max (sliceBounds lo hi none b.size).1 (sliceBounds lo hi none b.size).2.1 - (sliceBounds lo hi none b.size).1)
    (hz : (overwritten b c (sliceBounds lo hi none b.size).1 (sliceBounds lo hi none b.size).2.1).size ≤ sizeLine)
    (h : ∀ h', (∀ b o, b ≠ x → s.heap.get? b = some o → h'.get? b = some o) → h'.get? x = some (baObj (overwritten b c (sliceBounds lo hi none b.size).1 (sliceBounds lo hi none b.size).2.1)) → Q () { s with heap := h' }) :
    wpAny (model prog w) A (setItem (.ref x) (.ref sl) (.ref y)) Q E s := by
  have hT : s.TypeIs (.ref x) "bytearray" := ⟨_, e, rfl⟩
  unfold setItem
  refine wpAny_holding (wpAny_bind ?_)
  unfold sequenceKey
  refine wpAny_bind (wpAny_typeOf hT ?_)
  dsimp only
  refine PySem.bm_if_true (by decide) (wpAny_pure ?_)
  refine wpAny_bind ?_
  unfold callSpecial?
  refine wpAny_bind (wpAny_specialOf hT ba_slot_set.lookup ?_)
  refine wpAny_holding (wpAny_bind (wpAny_of_eq (ba_slot_set.bind _) ?_))
  refine wpAny_bind (call_meets ba_slot_set hT ba_entry_set (ba_args_set _ _ _) (ba_set_ba_meets x y sl b c hl hu hxy hc hz) ⟨e, ey, hsl, ?_⟩)
  exact wpAny_pure (wpAny_pure (h _ (fun b' o hb q => (Heap.get?_update_other _ _ (Ne.symm hb)).trans q) (Heap.get?_update_self (Obj.mapBytearray _) e rfl)))
end
end
-- part S0
section
open PySem.Builtin PySem.Builtin.Bytes PySem.Builtin.Struct
def fmtOf (c : Char) (wd : Nat) : Format := { bigEndian := false, native := false, codes := [⟨c, 1, 0, wd⟩], size := wd, items := 1 }
theorem parse_B : parse #[60, 66] = pure (fmtOf 'B' 1) := by kernel_rfl
theorem parse_b : parse #[60, 98] = pure (fmtOf 'b' 1) := by kernel_rfl
theorem parse_H : parse #[60, 72] = pure (fmtOf 'H' 2) := by kernel_rfl
theorem parse_h : parse #[60, 104] = pure (fmtOf 'h' 2) := by kernel_rfl
theorem parse_I : parse #[60, 73] = pure (fmtOf 'I' 4) := by kernel_rfl
theorem parse_i : parse #[60, 105] = pure (fmtOf 'i' 4) := by kernel_rfl
theorem parse_Q : parse #[60, 81] = pure (fmtOf 'Q' 8) := by kernel_rfl
theorem parse_q : parse #[60, 113] = pure (fmtOf 'q' 8) := by kernel_rfl

theorem st_slot : Slot "_struct.Struct" "pack_into" "_struct.Struct.pack_into" :=
  .of (owner := "_struct.Struct") (n := "pack_into") (by rw [typeLookup_type, builtinLookup_eq_fast]; kernel_rfl) (by decide +kernel) (by decide +kernel) (by decide +kernel)
    (by first | exact .inl (by decide +kernel) | exact .inr (by decide +kernel)) (by rw [isSubtype_type]; kernel_rfl)
theorem st_attrs : PlainAttrs "_struct.Struct" := ⟨⟨"_struct.Struct.__getattribute__", by rw [typeLookup_type, builtinLookup_eq_fast]; kernel_rfl, by decide +kernel⟩, by rw [typeLookup_type, builtinLookup_eq_fast]; kernel_rfl⟩
theorem st_type : typeOf (.builtin "_struct.Struct.pack_into") = pure (.type "method_descriptor") := by show builtinType _ = _; rw [builtinType_eq_fast]; kernel_rfl
theorem st_entry : entryFor table "_struct.Struct.pack_into" = some Builtin.«_struct.Struct.pack_into» := by first | exact entryFor_of_fast (by kernel_rfl) | exact entryFor_of_tree (by kernel_rfl)
theorem st_entry_held : entryFor table "_struct.pack_into.held" = some Builtin.«_struct.pack_into.held» := by first | exact entryFor_of_fast (by kernel_rfl) | exact entryFor_of_tree (by kernel_rfl)
theorem st_args (a b c d : Value) : argsOk "_struct.Struct.pack_into" ⟨[a, b, c, d], []⟩ := by unfold argsOk; kernel_rfl
end
-- part S1
section
open PySem.Builtin PySem.Builtin.Bytes PySem.Builtin.Struct
def FmtOk (f : Array UInt8) (c : Char) (wd : Nat) (lo hi : Int) : Prop :=
  parse f = pure (fmtOf c wd) ∧ ∀ (M : Model) (A : Around) (E : Value → Shared → Prop) (s : Shared) (n : Int) (t : Tok) (put : Unit → Nat → Array UInt8 → Sem Unit) (source : Value → Nat → Nat → Sem Unit) (id : String) (Q : Unit → Shared → Prop),
    lo ≤ n → n ≤ hi → wpAny M A (put () 0 (intBytes false wd n)) Q E s → wpAny M A (packEach id (fmtOf c wd) [.int n t] () put source) Q E s

theorem fmtOk_B : FmtOk #[60, 66] 'B' 1 (0) (2 ^ (8 * 1) - 1) := by
  refine ⟨parse_B, fun M A E s n t put source id Q h0 h1 h => ?_⟩
  unfold packEach fmtOf
  simp only [List.forIn_cons, List.forIn_nil]
  refine wpAny_bind (wpAny_bind ?_)
  refine PySem.bm_if_false (by decide) ?_
  refine PySem.bm_if_false (by decide) ?_
  simp only [Std.Legacy.Range.forIn_eq_forIn_range', Std.Legacy.Range.size, List.range'_one, Nat.sub_zero, Nat.add_sub_cancel, Nat.div_one, List.forIn_cons, List.forIn_nil]
  refine wpAny_bind (wpAny_bind (wpAny_bind (wpAny_of_eq (a := intBytes false 1 n) ?_ ?_)))
  · show (if (decide (n < (if Char.isLower 'B' = true then -(2 ^ (8 * 1 - 1)) else 0 : Int)) || decide (n > ((if Char.isLower 'B' = true then 2 ^ (8 * 1 - 1) else 2 ^ (8 * 1) : Int) - 1))) = true then _ else pure (intBytes false 1 n)) = _
    rw [if_neg]
    rw [if_neg (by decide), if_neg (by decide)]
    simp only [Bool.or_eq_true, decide_eq_true_eq]
    omega
  refine wpAny_bind (wpAny_mono h (fun r s' h' => ?_) fun _ _ e => e)
  exact wpAny_pure (wpAny_pure (wpAny_pure (wpAny_pure (wpAny_pure h'))))

theorem fmtOk_b : FmtOk #[60, 98] 'b' 1 (-(2 ^ (8 * 1 - 1))) (2 ^ (8 * 1 - 1) - 1) := by
  refine ⟨parse_b, fun M A E s n t put source id Q h0 h1 h => ?_⟩
  unfold packEach fmtOf
  simp only [List.forIn_cons, List.forIn_nil]
  refine wpAny_bind (wpAny_bind ?_)
  refine PySem.bm_if_false (by decide) ?_
  refine PySem.bm_if_false (by decide) ?_
  simp only [Std.Legacy.Range.forIn_eq_forIn_range', Std.Legacy.Range.size, List.range'_one, Nat.sub_zero, Nat.add_sub_cancel, Nat.div_one, List.forIn_cons, List.forIn_nil]
  refine wpAny_bind (wpAny_bind (wpAny_bind (wpAny_of_eq (a := intBytes false 1 n) ?_ ?_)))
  · show (if (decide (n < (if Char.isLower 'b' = true then -(2 ^ (8 * 1 - 1)) else 0 : Int)) || decide (n > ((if Char.isLower 'b' = true then 2 ^ (8 * 1 - 1) else 2 ^ (8 * 1) : Int) - 1))) = true then _ else pure (intBytes false 1 n)) = _
    rw [if_neg]
    rw [if_pos (by decide), if_pos (by decide)]
    simp only [Bool.or_eq_true, decide_eq_true_eq]
    omega
  refine wpAny_bind (wpAny_mono h (fun r s' h' => ?_) fun _ _ e => e)
  exact wpAny_pure (wpAny_pure (wpAny_pure (wpAny_pure (wpAny_pure h'))))

theorem fmtOk_H : FmtOk #[60, 72] 'H' 2 (0) (2 ^ (8 * 2) - 1) := by
  refine ⟨parse_H, fun M A E s n t put source id Q h0 h1 h => ?_⟩
  unfold packEach fmtOf
  simp only [List.forIn_cons, List.forIn_nil]
  refine wpAny_bind (wpAny_bind ?_)
  refine PySem.bm_if_false (by decide) ?_
  refine PySem.bm_if_false (by decide) ?_
  simp only [Std.Legacy.Range.forIn_eq_forIn_range', Std.Legacy.Range.size, List.range'_one, Nat.sub_zero, Nat.add_sub_cancel, Nat.div_one, List.forIn_cons, List.forIn_nil]
  refine wpAny_bind (wpAny_bind (wpAny_bind (wpAny_of_eq (a := intBytes false 2 n) ?_ ?_)))
  · show (if (decide (n < (if Char.isLower 'H' = true then -(2 ^ (8 * 2 - 1)) else 0 : Int)) || decide (n > ((if Char.isLower 'H' = true then 2 ^ (8 * 2 - 1) else 2 ^ (8 * 2) : Int) - 1))) = true then _ else pure (intBytes false 2 n)) = _
    rw [if_neg]
    rw [if_neg (by decide), if_neg (by decide)]
    simp only [Bool.or_eq_true, decide_eq_true_eq]
    omega
  refine wpAny_bind (wpAny_mono h (fun r s' h' => ?_) fun _ _ e => e)
  exact wpAny_pure (wpAny_pure (wpAny_pure (wpAny_pure (wpAny_pure h'))))

theorem fmtOk_h : FmtOk #[60, 104] 'h' 2 (-(2 ^ (8 * 2 - 1))) (2 ^ (8 * 2 - 1) - 1) := by
  refine ⟨parse_h, fun M A E s n t put source id Q h0 h1 h => ?_⟩
  unfold packEach fmtOf
  simp only [List.forIn_cons, List.forIn_nil]
  refine wpAny_bind (wpAny_bind ?_)
  refine PySem.bm_if_false (by decide) ?_
  refine PySem.bm_if_false (by decide) ?_
  simp only [Std.Legacy.Range.forIn_eq_forIn_range', Std.Legacy.Range.size, List.range'_one, Nat.sub_zero, Nat.add_sub_cancel, Nat.div_one, List.forIn_cons, List.forIn_nil]
  refine wpAny_bind (wpAny_bind (wpAny_bind (wpAny_of_eq (a := intBytes false 2 n) ?_ ?_)))
  · show (if (decide (n < (if Char.isLower 'h' = true then -(2 ^ (8 * 2 - 1)) else 0 : Int)) || decide (n > ((if Char.isLower 'h' = true then 2 ^ (8 * 2 - 1) else 2 ^ (8 * 2) : Int) - 1))) = true then _ else pure (intBytes false 2 n)) = _
    rw [if_neg]
    rw [if_pos (by decide), if_pos (by decide)]
    simp only [Bool.or_eq_true, decide_eq_true_eq]
    omega
  refine wpAny_bind (wpAny_mono h (fun r s' h' => ?_) fun _ _ e => e)
  exact wpAny_pure (wpAny_pure (wpAny_pure (wpAny_pure (wpAny_pure h'))))

theorem fmtOk_I : FmtOk #[60, 73] 'I' 4 (0) (2 ^ (8 * 4) - 1) := by
  refine ⟨parse_I, fun M A E s n t put source id Q h0 h1 h => ?_⟩
  unfold packEach fmtOf
  simp only [List.forIn_cons, List.forIn_nil]
  refine wpAny_bind (wpAny_bind ?_)
  refine PySem.bm_if_false (by decide) ?_
  refine PySem.bm_if_false (by decide) ?_
  simp only [Std.Legacy.Range.forIn_eq_forIn_range', Std.Legacy.Range.size, List.range'_one, Nat.sub_zero, Nat.add_sub_cancel, Nat.div_one, List.forIn_cons, List.forIn_nil]
  refine wpAny_bind (wpAny_bind (wpAny_bind (wpAny_of_eq (a := intBytes false 4 n) ?_ ?_)))
  · show (if (decide (n < (if Char.isLower 'I' = true then -(2 ^ (8 * 4 - 1)) else 0 : Int)) || decide (n > ((if Char.isLower 'I' = true then 2 ^ (8 * 4 - 1) else 2 ^ (8 * 4) : Int) - 1))) = true then _ else pure (intBytes false 4 n)) = _
    rw [if_neg]
    rw [if_neg (by decide), if_neg (by decide)]
    simp only [Bool.or_eq_true, decide_eq_true_eq]
    omega
  refine wpAny_bind (wpAny_mono h (fun r s' h' => ?_) fun _ _ e => e)
  exact wpAny_pure (wpAny_pure (wpAny_pure (wpAny_pure (wpAny_pure h'))))

theorem fmtOk_i : FmtOk #[60, 105] 'i' 4 (-(2 ^ (8 * 4 - 1))) (2 ^ (8 * 4 - 1) - 1) := by
  refine ⟨parse_i, fun M A E s n t put source id Q h0 h1 h => ?_⟩
  unfold packEach fmtOf
  simp only [List.forIn_cons, List.forIn_nil]
  refine wpAny_bind (wpAny_bind ?_)
  refine PySem.bm_if_false (by decide) ?_
  refine PySem.bm_if_false (by decide) ?_
  simp only [Std.Legacy.Range.forIn_eq_forIn_range', Std.Legacy.Range.size, List.range'_one, Nat.sub_zero, Nat.add_sub_cancel, Nat.div_one, List.forIn_cons, List.forIn_nil]
  refine wpAny_bind (wpAny_bind (wpAny_bind (wpAny_of_eq (a := intBytes false 4 n) ?_ ?_)))
  · show (if (decide (n < (if Char.isLower 'i' = true then -(2 ^ (8 * 4 - 1)) else 0 : Int)) || decide (n > ((if Char.isLower 'i' = true then 2 ^ (8 * 4 - 1) else 2 ^ (8 * 4) : Int) - 1))) = true then _ else pure (intBytes false 4 n)) = _
    rw [if_neg]
    rw [if_pos (by decide), if_pos (by decide)]
    simp only [Bool.or_eq_true, decide_eq_true_eq]
    omega
  refine wpAny_bind (wpAny_mono h (fun r s' h' => ?_) fun _ _ e => e)
  exact wpAny_pure (wpAny_pure (wpAny_pure (wpAny_pure (wpAny_pure h'))))

theorem fmtOk_Q : FmtOk #[60, 81] 'Q' 8 (0) (2 ^ (8 * 8) - 1) := by
  refine ⟨parse_Q, fun M A E s n t put source id Q h0 h1 h => ?_⟩
  unfold packEach fmtOf
  simp only [List.forIn_cons, List.forIn_nil]
  refine wpAny_bind (wpAny_bind ?_)
  refine PySem.bm_if_false (by decide) ?_
  refine PySem.bm_if_false (by decide) ?_
  simp only [Std.Legacy.Range.forIn_eq_forIn_range', Std.Legacy.Range.size, List.range'_one, Nat.sub_zero, Nat.add_sub_cancel, Nat.div_one, List.forIn_cons, List.forIn_nil]
  refine wpAny_bind (wpAny_bind (wpAny_bind (wpAny_of_eq (a := intBytes false 8 n) ?_ ?_)))
  · show (if (decide (n < (if Char.isLower 'Q' = true then -(2 ^ (8 * 8 - 1)) else 0 : Int)) || decide (n > ((if Char.isLower 'Q' = true then 2 ^ (8 * 8 - 1) else 2 ^ (8 * 8) : Int) - 1))) = true then _ else pure (intBytes false 8 n)) = _
    rw [if_neg]
    rw [if_neg (by decide), if_neg (by decide)]
    simp only [Bool.or_eq_true, decide_eq_true_eq]
    omega
  refine wpAny_bind (wpAny_mono h (fun r s' h' => ?_) fun _ _ e => e)
  exact wpAny_pure (wpAny_pure (wpAny_pure (wpAny_pure (wpAny_pure h'))))

theorem fmtOk_q : FmtOk #[60, 113] 'q' 8 (-(2 ^ (8 * 8 - 1))) (2 ^ (8 * 8 - 1) - 1) := by
  refine ⟨parse_q, fun M A E s n t put source id Q h0 h1 h => ?_⟩
  unfold packEach fmtOf
  simp only [List.forIn_cons, List.forIn_nil]
  refine wpAny_bind (wpAny_bind ?_)
  refine PySem.bm_if_false (by decide) ?_
  refine PySem.bm_if_false (by decide) ?_
  simp only [Std.Legacy.Range.forIn_eq_forIn_range', Std.Legacy.Range.size, List.range'_one, Nat.sub_zero, Nat.add_sub_cancel, Nat.div_one, List.forIn_cons, List.forIn_nil]
  refine wpAny_bind (wpAny_bind (wpAny_bind (wpAny_of_eq (a := intBytes false 8 n) ?_ ?_)))
  · show (if (decide (n < (if Char.isLower 'q' = true then -(2 ^ (8 * 8 - 1)) else 0 : Int)) || decide (n > ((if Char.isLower 'q' = true then 2 ^ (8 * 8 - 1) else 2 ^ (8 * 8) : Int) - 1))) = true then _ else pure (intBytes false 8 n)) = _
    rw [if_neg]
    rw [if_pos (by decide), if_pos (by decide)]
    simp only [Bool.or_eq_true, decide_eq_true_eq]
    omega
  refine wpAny_bind (wpAny_mono h (fun r s' h' => ?_) fun _ _ e => e)
  exact wpAny_pure (wpAny_pure (wpAny_pure (wpAny_pure (wpAny_pure h'))))

/-- c laid over b from place p -/
def putAt (b : Array UInt8) (p : Nat) (c : Array UInt8) : Array UInt8 := b.extract 0 p ++ c ++ b.extract (p + c.size) b.size
theorem putAt_size {b c : Array UInt8} {p : Nat} (h : p + c.size ≤ b.size) : (putAt b p c).size = b.size := by
  unfold putAt; simp; omega
theorem place_get (c : List UInt8) : ∀ (k p : Nat) (b : Array UInt8), p + k + c.length ≤ b.size → ∀ i, ((c.zipIdx k).foldl (fun (out : Array UInt8) (x : UInt8 × Nat) => out.setIfInBounds (p + x.2) x.1) b)[i]? = if p + k ≤ i ∧ i < p + k + c.length then c[i - (p + k)]? else b[i]? := by
  induction c with
  | nil => intro k p b _ i; simp; intro h1 h2; omega
  | cons x r ih =>
    intro k p b hb i
    simp only [List.length_cons] at hb
    rw [List.zipIdx_cons, List.foldl_cons, ih (k + 1) p _ (by simp; omega) i]
    by_cases h1 : p + (k + 1) ≤ i ∧ i < p + (k + 1) + r.length
    · rw [if_pos h1, if_pos (by simp only [List.length_cons]; omega)]
      rw [show i - (p + k) = (i - (p + (k + 1))) + 1 from by omega, List.getElem?_cons_succ]
    · rw [if_neg h1, Array.getElem?_setIfInBounds]
      by_cases h2 : p + k = i
      · subst h2
        rw [if_pos rfl, if_pos (by omega), if_pos (by simp only [List.length_cons]; omega), Nat.sub_self, List.getElem?_cons_zero]
      · rw [if_neg h2, if_neg (by simp only [List.length_cons]; omega)]
theorem putAt_get (b c : Array UInt8) (p : Nat) (h : p + c.size ≤ b.size) (i : Nat) : (putAt b p c)[i]? = if p ≤ i ∧ i < p + c.size then c[i - p]? else b[i]? := by
  unfold putAt
  have hp : (b.extract 0 p).size = p := by simp; omega
  have hp2 : (b.extract 0 p ++ c).size = p + c.size := by rw [Array.size_append, hp]
  rw [Array.getElem?_append, Array.getElem?_append, hp, hp2]
  by_cases h1 : i < p
  · have a1 : i < p + c.size := by omega
    have a2 : ¬(p ≤ i ∧ i < p + c.size) := by omega
    rw [if_pos a1, if_pos h1, if_neg a2, Array.getElem?_extract]
    have a3 : i < min p b.size - 0 := by omega
    rw [if_pos a3, Nat.zero_add]
  · by_cases h2 : i < p + c.size
    · have a2 : p ≤ i ∧ i < p + c.size := by omega
      rw [if_pos h2, if_neg h1, if_pos a2]
    · have a2 : ¬(p ≤ i ∧ i < p + c.size) := by omega
      rw [if_neg h2, if_neg a2, Array.getElem?_extract]
      by_cases h3 : i < b.size
      · have a3 : i - (p + c.size) < min b.size b.size - (p + c.size) := by omega
        rw [if_pos a3, show p + c.size + (i - (p + c.size)) = i from by omega]
      · have a3 : ¬ i - (p + c.size) < min b.size b.size - (p + c.size) := by omega
        rw [if_neg a3]
        simp; omega
theorem place_eq (b c : Array UInt8) (p : Nat) (h : p + c.size ≤ b.size) : c.toList.zipIdx.foldl (fun (out : Array UInt8) (x : UInt8 × Nat) => out.setIfInBounds (p + x.2) x.1) b = putAt b p c := by
  apply Array.ext_getElem?
  intro i
  rw [place_get c.toList 0 p b (by simpa using h) i, putAt_get b c p h]
  simp only [Nat.add_zero, Array.length_toList, Array.getElem?_toList]
theorem putAt_twice (b c d : Array UInt8) (p : Nat) (h : p + c.size ≤ b.size) (hd : d.size = c.size) : putAt (putAt b p d) p c = putAt b p c := by
  apply Array.ext_getElem?
  intro i
  rw [putAt_get _ c p (by rw [putAt_size (by omega)]; exact h), putAt_get b c p h, putAt_get b d p (by omega), hd]
  split <;> rfl
end
-- part S2
section
open PySem.Builtin PySem.Builtin.Bytes PySem.Builtin.Struct
theorem toLE_size : ∀ (n v : Nat), (Memoryview.toLittleEndian n v).size = n := by
  intro n v
  unfold Memoryview.toLittleEndian
  simp
theorem intBytes_size (wd : Nat) (n : Int) : (intBytes false wd n).size = wd := by
  unfold intBytes
  simp [toLE_size]
theorem ba_look_buf : typeLookup (.type "bytearray") "__buffer__" = pure (some (.builtin "bytearray.__buffer__")) := ba_look_buffer
section
variable {prog : Program} {w : World} {A : Around} {E : Value → Shared → Prop} {s : Shared}
theorem held_run {R : Result → Shared → Prop} {P : PySem.Code → Shared → Prop} {f : Array UInt8} {c : Char} {wd : Nat} {lo hi : Int} (K : FmtOk f c wd lo hi) {pk x : Addr} {b : Array UInt8} {hd n : Int} {th tn tk : Tok}
    (e : s.heap.get? x = some (baObj b)) (h0 : 0 ≤ hd) (h1 : hd.toNat + wd ≤ b.size) (hz : b.size ≤ 16777216) (hlo : lo ≤ n) (hhi : n ≤ hi)
    (h : ∀ h', (∀ b o, b ≠ x → s.heap.get? b = some o → h'.get? b = some o) → h'.get? x = some (baObj (putAt b hd.toNat (intBytes false wd n))) → R (.ok (.ret .none)) { s with heap := h' }) :
    wpAny (model prog w) A (Builtin.«_struct.pack_into.held» ⟨[.ref x, .ref x, rawInt (0 : Nat), rawInt b.size, .ref pk, .bytes f tk, .int hd th, .int n tn], []⟩)
      (fun fin s' => match fin with | .done f => R (.ok f) s' | .again c' => P c' s') (fun e s' => R (.error e) s') s := by
  unfold Builtin.«_struct.pack_into.held»
  dsimp only [rawInt]
  refine wpAny_bind (wpAny_of_eq (a := f) rfl ?_)
  refine wpAny_bind (wpAny_of_eq K.1 ?_)
  unfold packHeld
  refine wpAny_bind (wpAny_of_eq (a := hd) rfl ?_)
  have hf : fitsIndex hd = true := by simp [fitsIndex]; omega
  refine PySem.bm_if_false (by rw [hf]; rfl) ?_
  have hpl : placeIn "pack_into" "packing" "no space to pack" (fmtOf c wd) (Int.toNat (b.size : Int)) hd = pure hd.toNat := by
    unfold placeIn
    have hn : ¬ hd < 0 := by omega
    simp only [hn, if_false]
    show (if ((Int.toNat (b.size : Int) : Nat) : Int) - hd < (wd : Nat) then _ else pure hd.toNat) = _
    rw [if_neg (by omega)]
  refine wpAny_bind (wpAny_of_eq hpl ?_)
  dsimp only
  have q0 : putAt b hd.toNat (Array.replicate wd 0) = (Array.replicate wd (0 : UInt8)).toList.zipIdx.foldl (fun (out : Array UInt8) (x : UInt8 × Nat) => out.setIfInBounds (hd.toNat + x.2) x.1) b :=
    (place_eq b (Array.replicate wd 0) hd.toNat (by simpa using h1)).symm
  have z0 : (0 : Int).toNat + hd.toNat = hd.toNat := by simp
  have s0 : (putAt b hd.toNat (Array.replicate wd 0)).size ≤ sizeLine := by rw [putAt_size (by simpa using h1), sizeLine_eq]; exact hz
  have w1 : ∀ (b : Array UInt8) (p : Nat) (c : Array UInt8), c.toList.zipIdx.foldl (fun (out : Array UInt8) (x : UInt8 × Nat) => out.setIfInBounds (p + x.2) x.1) b = c.toList.zipIdx.foldl (fun (out : Array UInt8) (x : UInt8 × Nat) => out.setIfInBounds (p + x.2) x.1) b := fun _ _ _ => rfl
  refine wpAny_bind (updateBa (b := b) (f := fun b' => (Array.replicate wd (0 : UInt8)).toList.zipIdx.foldl (fun (out : Array UInt8) (x : UInt8 × Nat) => out.setIfInBounds ((0 : Int).toNat + hd.toNat + x.2) x.1) b') e ?_ ?_)
  · rw [z0, ← q0]; exact s0
  have g1 : (s.heap.update x (Obj.mapBytearray fun b' => (Array.replicate wd (0 : UInt8)).toList.zipIdx.foldl (fun (out : Array UInt8) (x : UInt8 × Nat) => out.setIfInBounds ((0 : Int).toNat + hd.toNat + x.2) x.1) b')).get? x = some (baObj (putAt b hd.toNat (Array.replicate wd 0))) := by
    have := Heap.get?_update_self (Obj.mapBytearray fun b' => (Array.replicate wd (0 : UInt8)).toList.zipIdx.foldl (fun (out : Array UInt8) (x : UInt8 × Nat) => out.setIfInBounds ((0 : Int).toNat + hd.toNat + x.2) x.1) b') e rfl
    rw [q0]
    rw [z0] at this ⊢
    exact this
  refine wpAny_bind (K.2 _ _ _ _ n tn _ _ _ _ hlo hhi ?_)
  have q1 : putAt b hd.toNat (intBytes false wd n) = (intBytes false wd n).toList.zipIdx.foldl (fun (out : Array UInt8) (x : UInt8 × Nat) => out.setIfInBounds (hd.toNat + x.2) x.1) (putAt b hd.toNat (Array.replicate wd 0)) := by
    rw [place_eq _ _ _ (by rw [putAt_size (by simpa using h1), intBytes_size]; exact h1), putAt_twice _ _ _ _ (by rw [intBytes_size]; exact h1) (by rw [intBytes_size]; simp)]
  have s1 : (putAt b hd.toNat (intBytes false wd n)).size ≤ sizeLine := by rw [putAt_size (by rw [intBytes_size]; exact h1), sizeLine_eq]; exact hz
  have z1 : (0 : Int).toNat + hd.toNat + 0 = hd.toNat := by simp
  refine updateBa (s := { s with heap := _ }) (b := putAt b hd.toNat (Array.replicate wd 0)) (f := fun b' => (intBytes false wd n).toList.zipIdx.foldl (fun (out : Array UInt8) (x : UInt8 × Nat) => out.setIfInBounds ((0 : Int).toNat + hd.toNat + 0 + x.2) x.1) b') g1 ?_ ?_
  · rw [z1, ← q1]; exact s1
  refine wpAny_pure (h _ (fun b' o hb q => (Heap.get?_update_other _ _ (Ne.symm hb)).trans ((Heap.get?_update_other _ _ (Ne.symm hb)).trans q)) ?_)
  have := Heap.get?_update_self (Obj.mapBytearray fun b' => (intBytes false wd n).toList.zipIdx.foldl (fun (out : Array UInt8) (x : UInt8 × Nat) => out.setIfInBounds ((0 : Int).toNat + hd.toNat + 0 + x.2) x.1) b') g1 rfl
  rw [q1]
  rw [z1] at this ⊢
  exact this

theorem pack_into {f : Array UInt8} {c : Char} {wd : Nat} {lo hi : Int} (K : FmtOk f c wd lo hi) {pk x : Addr} {o : Obj} {b : Array UInt8} {hd n : Int} {th tn tk : Tok} {Q : Value → Shared → Prop}
    (ho : s.heap.get? pk = some o) (hoc : o.cls = .type "_struct.Struct") (hod : o.data = .fields #[.bytes f tk])
    (e : s.heap.get? x = some (baObj b)) (h0 : 0 ≤ hd) (h1 : hd.toNat + wd ≤ b.size) (hz : b.size ≤ 16777216) (hlo : lo ≤ n) (hhi : n ≤ hi)
    (h : ∀ h', (∀ b o, b ≠ x → s.heap.get? b = some o → h'.get? b = some o) → h'.get? x = some (baObj (putAt b hd.toNat (intBytes false wd n))) → Q .none { s with heap := h' }) :
    wpAny (model prog w) A (call (.builtin "_struct.Struct.pack_into") [.ref pk, .ref x, .int hd th, .int n tn]) Q E s := by
  have hT : s.TypeIs (.ref pk) "_struct.Struct" := ⟨o, ho, hoc⟩
  have hTx : s.TypeIs (.ref x) "bytearray" := ⟨_, e, rfl⟩
  refine wpAny_call (codeAny_call_builtin st_slot.plain st_entry (st_slot.check _ _ _ _ _ _ _ _ hT (st_args _ _ _ _) ?_))
  unfold Builtin.«_struct.Struct.pack_into»
  refine wpAny_bind (wpAny_of_eq (a := ()) rfl ?_)
  dsimp only
  refine wpAny_bind ?_
  unfold structFormat
  refine wpAny_bind (wpAny_field ho hod rfl ?_)
  refine PySem.bm_if_false rfl ?_
  refine wpAny_bind (wpAny_of_eq (a := f) rfl ?_)
  refine wpAny_bind (wpAny_of_eq K.1 (wpAny_pure ?_))
  refine wpAny_bind (wpAny_field ho hod rfl ?_)
  unfold packInto
  refine PySem.bm_if_false (by rfl) ?_
  dsimp only
  refine wpAny_bind (wpAny_specialOf hTx ba_look_buffer ?_)
  refine wpAny_bind (ba_payload e ?_)
  refine wpAny_bind (wpAny_pure ?_)
  refine wpAny_pure ⟨Code.quiet_builtin _ (by decide +kernel), codeAny_builtin st_entry_held ?_⟩
  exact held_run (R := fun r s' => match r with | .ok (.ret v) => Q v s' | .ok _ => False | .error e => E e s') K e h0 h1 hz hlo hhi fun h' k e' => h h' k e'
theorem struct_method {pk : Addr} {o : Obj} {pl : Sem Bool} {Q : Value × List Value → Shared → Prop} (ho : s.heap.get? pk = some o) (hoc : o.cls = .type "_struct.Struct") (hod : o.dict = none)
    (h : Q (.builtin "_struct.Struct.pack_into", [.ref pk]) s) : wpAny (model prog w) A (getMethod (.ref pk) "pack_into" pl) Q E s :=
  getMethod_builtin ⟨o, ho, hoc⟩ st_attrs st_slot st_type (fun a q => by cases q; exact ⟨o, ho, hod⟩) h
end
end
-- part G3
/-- the callee's end: what it kept, what it turned, and the rest of the ledger beside -/
def LeaveG (h₀ : Heap) (L : Addr) (m : Str → Option Value) (rest : List (Addr × Obj)) (g : Heap) (R : Result → Shared → Prop) (v : Value) (s' : Shared) : Prop :=
  ∃ L' m' news', Fr g L' s'.heap m' ∧ News g L' s'.heap news' ∧ (Fr h₀ L s'.heap m → News h₀ L s'.heap (news' ++ rest) → (∀ p ∈ rest, ∀ q ∈ news', p.1 ≠ q.1) → R (.ok (.ret v)) s')
theorem leaveG_ {h₀ g : Heap} {L L' : Addr} {m m' : Str → Option Value} {rest news' : List (Addr × Obj)} {R : Result → Shared → Prop} {v : Value} {s' : Shared} (F' : Fr g L' s'.heap m') (N' : News g L' s'.heap news')
    (k : Fr h₀ L s'.heap m → News h₀ L s'.heap (news' ++ rest) → (∀ p ∈ rest, ∀ q ∈ news', p.1 ≠ q.1) → R (.ok (.ret v)) s') : LeaveG h₀ L m rest g R v s' := ⟨L', m', news', F', N', k⟩
section
variable {prog : Program} {w : World} {A A₀ : Around} {E : Value → Shared → Prop} {s : Shared} {K : Frag} {L : Addr} {h₀ base : Heap} {m mg mb : Str → Option Value} {news rest : List (Addr × Obj)} {p : Program} {loose : List Str} {mean : ExcName → Option Value}
theorem rest_kept {g : Heap} {L' : Addr} {m' : Str → Option Value} {h' : Heap} {news' : List (Addr × Obj)} (e : g = hideAll s.heap (news.map (·.1))) (Nr : News h₀ L s.heap rest) (hd : ∀ p ∈ rest, ∀ q ∈ news, p.1 ≠ q.1)
    (F' : Fr g L' h' m') (N' : News g L' h' news') : News h₀ L h' rest ∧ (∀ p ∈ rest, ∀ q ∈ news', p.1 ≠ q.1) := by
  subst e
  have hg : ∀ p ∈ rest, (hideAll s.heap (news.map (·.1))).get? p.1 = some p.2 := fun p hp => hideAll_get _ (Nr p hp).1 fun hm => by
    obtain ⟨q, hq, e⟩ := List.mem_map.mp hm
    exact hd p hp q hq e.symm
  refine ⟨fun p hp => ⟨F'.keep _ _ (hg p hp), (Nr p hp).2⟩, fun p hp q hq e => ?_⟩
  have := (N' q hq).2.2
  rw [← e, hg p hp] at this
  cases this
theorem g_code_def {env : Env} {outer : List Env} {R : Result → Shared → Prop} {name qual : Str} {params : Arguments} {body : List Stmt} {scope : Scope} {dV kV doc pm cdv ct oc : Value} {an od : Option Addr} {osl : Array (Option Value)} {f : Addr} {args : Args} {binds : List (Str × Value)}
    (B : Below A₀ base outer h₀) (F : Fr h₀ L s.heap m) (X₀ : K.In h₀) (N : News h₀ L s.heap news) (Nr : News h₀ L s.heap rest) (hd : ∀ p ∈ rest, ∀ q ∈ news, p.1 ≠ q.1) (T : Top p loose mean mg mb h₀)
    (hA : A.frames = some (env :: outer)) (hf : env.frame = some L) (hke : env.scope.kind = .function)
    (ho : K.lookup f = some ⟨oc, od, .func (fnOf name qual params body scope dV kV doc pm an cdv ct), osl⟩) (hcd : codeIn K cdv qual = true) (hroom : A.depth < recursionLimit)
    (hbind : BindsTo s (fnOf name qual params body scope dV kV doc pm an cdv ct) args binds) (hloc : ∀ y ∈ binds, scope.names.lookup y.1 = some .local)
    (h : ∀ g L' h₁, Fr h₀ L g m → Fr g L' h₁ (fun y => binds.reverse.lookup y) → News g L' h₁ news → Below A base (env :: outer) g → K.In g → Top p loose mean mg mb g →
      gAny (model prog w) (A.deeper (envOf qual scope L' f cdv)) (execs body (envOf qual scope L' f cdv))
        (fun fl s' => LeaveG h₀ L m rest g R (match fl with | .ret v => v | _ => .none) s')
        (fun e s' => wpAny (model prog w) (A.deeper (envOf qual scope L' f cdv)) (leaving (envOf qual scope L' f cdv) e) (fun _ s'' => R (.error e) s'') (fun e' s'' => R (.error e') s'') s')
        { s with heap := h₁, toks := s.toks + binds.length })
    (hco : scope.isCoroutine = false) (hgen : scope.isGenerator = false) (hk : scope.kind = .function)
    (hcell : ∀ x ∈ scope.names, x.2 ≠ .cell) : gCode (model prog w) A (.call (.ref f) args) R s := by
  obtain ⟨FG, BG, st, _⟩ := groundX (R := R) B F N hA hf hke
  refine gCode_call_def (fd := fnOf name qual params body scope dV kV doc pm an cdv ct) (body := body) (binds := binds) hroom ((X₀.keeps F.keep) _ _ ho) rfl (T.nolimit.keeps F.keep) (codeRec_of (X₀.keeps F.keep) hcd) rfl hbind hcell hloc (fun h₁ hns hk₁ => ?_) hco hgen hk
  refine g_mono (h _ s.heap.objs.size h₁ FG ⟨hns, fun b o e => hk₁ b o (of_hideAll _ e), Nat.le_of_eq (hideAll_size _ _)⟩
    (fun p hp => ⟨hk₁ _ _ (N p hp).1, Nat.ne_of_lt (Heap.lt_size (N p hp).1), hideAll_none _ (List.mem_map_of_mem hp)⟩) BG (X₀.keeps st) (T.keeps st)) (fun fl s' hl => ?_) fun _ _ y => y
  obtain ⟨L', m', news', F', N', k⟩ := hl
  obtain ⟨k1, k2⟩ := rest_kept rfl Nr hd F' N'
  obtain ⟨_, _, _, lv⟩ := groundX (R := fun r s'' => r = .ok (.ret (match fl with | .ret v => v | _ => .none)) ∧ Fr h₀ L s''.heap m ∧ News h₀ L s''.heap news') B F N hA hf hke
  obtain ⟨_, F2, N2⟩ := lv _ s' ⟨L', m', news', F', N', fun a b => ⟨rfl, a, b⟩⟩
  exact k F2 (fun p hp => (List.mem_append.mp hp).elim (N2 p) (k1 p)) k2
end

section
variable {M : Model} {A : Around} {E : Value → Shared → Prop} {s : Shared} {env : Env}
theorem g_nil {Q : Flow → Shared → Prop} (h : Q .next s) : gAny M A (execs [] env) Q E s := g_of (wpAny_execs_nil h)
theorem g_cons {st : Stmt} {rest : List Stmt} {Q : Flow → Shared → Prop} (h : gAny M A (exec st env) (fun f s' => match f with | .next => gAny M A (execs rest env) Q E s' | f => Q f s') E s) : gAny M A (execs (st :: rest) env) Q E s := by
  rw [execs_cons]
  refine g_bind (g_mono h (fun f s' h' => ?_) fun _ _ x => x)
  cases f <;> first | exact h' | exact g_pure h'
theorem g_consL {st : Stmt} {rest : List Stmt} {Q : Flow → Shared → Prop} (h : wpAny M A (exec st env) (fun f s' => match f with | .next => gAny M A (execs rest env) Q E s' | f => Q f s') E s) : gAny M A (execs (st :: rest) env) Q E s := g_cons (g_of h)
theorem g_Expr {e : PySem.Expr} {pos : Pos} {prog : Program} {w : World} {Q : Flow → Shared → Prop} (h : gAny (model prog w) A (eval e env) (fun _ => Q .next) E s)
    (hi : interactive env = false := by rfl) (hs : swapsWith e none pos.line env = pure false := by rfl) : gAny (model prog w) A (exec (.Expr e pos) env) Q E s := by
  rw [exec_Expr env e pos hi hs]
  exact g_bindL (wpAny_standAt (g_bind (g_mono h (fun v s' h' => g_of (wpAny_dropValue h')) fun _ _ x => x)))
theorem g_Return {e : PySem.Expr} {pos : Pos} {Q : Flow → Shared → Prop} (h : gAny M A (eval e env) (fun v => Q (.ret v)) E s) : gAny M A (exec (.Return (some e) pos) env) Q E s := by
  rw [exec_Return_some]
  exact g_bindL (wpAny_standAt (g_bind (g_mono h (fun v s' h' => g_pure h') fun _ _ x => x)))
theorem g_If {test : PySem.Expr} {body orelse : List Stmt} {pos : Pos} {Q : Flow → Shared → Prop} (h : wpAny M A (isTrue test env (eval test env)) (fun b s' => if b = true then gAny M A (execs body env) Q E s' else gAny M A (execs orelse env) Q E s') E s) :
    gAny M A (exec (.If test body orelse pos) env) Q E s := by
  rw [exec_If]
  refine g_bindL (wpAny_standAt (g_bindL (wpAny_mono h (fun b s' h' => ?_) fun _ _ x => x)))
  cases b <;> exact h'
theorem g_IfG {test : PySem.Expr} {body orelse : List Stmt} {pos : Pos} {Q : Flow → Shared → Prop} (h : gAny M A (isTrue test env (eval test env)) (fun b s' => if b = true then gAny M A (execs body env) Q E s' else gAny M A (execs orelse env) Q E s') E s) :
    gAny M A (exec (.If test body orelse pos) env) Q E s := by
  rw [exec_If]
  refine g_bindL (wpAny_standAt (g_bind (g_mono h (fun b s' h' => ?_) fun _ _ x => x)))
  cases b <;> exact h'
theorem g_AssignName {x : Str} {pos' pos : Pos} {value : PySem.Expr} {Q : Flow → Shared → Prop} (h : gAny M A (eval value env) (fun v s' => wpAny M A (bindName env x v) (fun _ => Q .next) E s') E s)
    (hs : swapsWith value (some (.Name x pos')) pos.line env = pure false := by rfl) : gAny M A (exec (.Assign [.Name x pos'] value pos) env) Q E s := by
  rw [exec_Assign_Name env x pos' value pos hs]
  exact g_bindL (wpAny_standAt (g_bind (g_mono h (fun v s' h' => g_bindL (wpAny_standAt (g_bindL (wpAny_mono h' (fun _ _ x => g_pure x) fun _ _ x => x)))) fun _ _ x => x)))
theorem g_AssignAttr {o : PySem.Expr} {attr : Str} {pos' pos : Pos} {value : PySem.Expr} {Q : Flow → Shared → Prop}
    (h : gAny M A (eval value env) (fun v s₁ => wpAny M A (eval o env) (fun ov s₂ => wpAny M A (setAttr ov attr v) (fun _ => Q .next) E s₂) E s₁) E s)
    (hs : swapsWith value (some (.Attribute o attr pos')) pos.line env = pure false := by rfl) : gAny M A (exec (.Assign [.Attribute o attr pos'] value pos) env) Q E s := fun Γ p hΓ hg => by
  simp only [plainObj_exec_Assign_Attribute o attr pos' value pos hs, assign_Attribute, Sem.wp_bind', Sem.wp_holding, Sem.wp_cmd_standAt, Sem.wp_release, Sem.wp_pure']
  exact Sem.wp_mono M Γ _ (fun v p₁ s₁ h₁ => Sem.wp_mono M Γ _ (fun ov _ s₂ h₂ => h₂ Γ _ hΓ) (fun _ _ _ h' => h') _ _ (h₁ Γ p₁ hΓ)) (fun _ _ _ h' => h') _ _ (h Γ _ hΓ hg)
theorem g_AssignSub {o i : PySem.Expr} {pos' pos : Pos} {value : PySem.Expr} {Q : Flow → Shared → Prop}
    (h : wpAny M A (eval value env) (fun v s₁ => wpAny M A (eval o env) (fun ov s₂ => wpAny M A (eval i env) (fun iv s₃ => gAny M A (setItem ov iv v) (fun _ => Q .next) E s₃) E s₂) E s₁) E s)
    (hs : swapsWith value (some (.Subscript o i pos')) pos.line env = pure false := by rfl) : gAny M A (exec (.Assign [.Subscript o i pos'] value pos) env) Q E s := fun Γ p hΓ hg => by
  simp only [exec_Assign_Subscript o i pos' value pos hs, assign_Subscript, Sem.wp_bind', Sem.wp_holding, Sem.wp_cmd_standAt, Sem.wp_release, Sem.wp_pure']
  exact Sem.wp_mono M Γ _ (fun v p₁ s₁ h₁ => Sem.wp_mono M Γ _ (fun ov p₂ s₂ h₂ => Sem.wp_mono M Γ _ (fun iv p₃ s₃ h₃ => h₃ Γ _ hΓ hg) (fun _ _ _ h' => h') _ _ (h₂ Γ p₂ hΓ)) (fun _ _ _ h' => h') _ _ (h₁ Γ p₁ hΓ)) (fun _ _ _ h' => h') _ _ (h Γ _ hΓ)
theorem g_Method {o : PySem.Expr} {name : Str} {apos pos : Pos} {args : List PySem.Expr} {kws : List Keyword} {pl : Sem Bool} {Q : Value → Shared → Prop}
    (h : wpAny M A (eval o env) (fun ov s₁ => wpAny M A (getMethod ov name pl) (fun fx s₂ => gAny M A (callWith pos fx.1 fx.2 (backTo pos (starEach args env)) (backToKw pos (keywordEach kws env))) Q E s₂) E s₁) E s)
    (he : eval (.Call (.Attribute o name apos) args kws pos) env = (do
      let ov ← eval o env
      standAt apos.atName
      let (f, first) ← holding [ov] (getMethod ov name pl)
      callWith pos f first (backTo pos (starEach args env)) (backToKw pos (keywordEach kws env))) := by rfl) :
    gAny M A (eval (.Call (.Attribute o name apos) args kws pos) env) Q E s := by
  rw [he]
  exact g_bindL (wpAny_mono h (fun ov s₁ h₁ => g_bindL (wpAny_standAt (g_bindL (wpAny_holding (wpAny_mono h₁ (fun fx s₂ h₂ => h₂) fun _ _ x => x))))) fun _ _ x => x)
theorem g_CallName {func : PySem.Expr} {args : List PySem.Expr} {pos : Pos} {Q : Value → Shared → Prop}
    (h : wpAny M A (eval func env) (fun f s₁ => gAny M A (callWith pos f [] (backTo pos (starEach args env)) []) Q E s₁) E s)
    (he : eval (.Call func args [] pos) env = (do callWith pos (← eval func env) [] (backTo pos (starEach args env)) (backToKw pos (keywordEach [] env))) := by rfl) :
    gAny M A (eval (.Call func args [] pos) env) Q E s := by
  rw [he]; exact g_bindL h
theorem g_callWith_of {pos : Pos} {f : Value} {first : List Value} {Q : Value → Shared → Prop} {P : Heap → Prop} {args : List (Bool × Sem Value)} {keywords : List (Option Str × Sem Value)} (hplain : (args.any (·.1) || keywords.any (·.1.isNone)) = false)
    (hk : ∀ h, P h → ∃ k, (k = Keeper.frame ∨ k = Keeper.machine ∨ k = Keeper.boundFrame) ∧ Looks M h (keeperOf f) k)
    (h : wpAny M A (evalArgs f true args keywords) (fun a s₁ => P s₁.heap ∧ gAny M A (call f (first ++ a.pos) a.kw) Q E s₁) E s) : gAny M A (callWith pos f first args keywords) Q E s := by
  unfold callWith
  refine g_bindL (wpAny_holding (wpAny_mono h (fun a s₁ h₁ => g_bindL (wpAny_standAt ?_)) fun _ _ x => x))
  obtain ⟨k, hk', L⟩ := hk _ h₁.1
  simp only [hplain]
  refine g_bindL (L.here ?_)
  have tail : ∀ {t : Sem Value}, gAny M A t Q E s₁ → gAny M A (t >>= fun r => holding [r] point >>= fun _ => pure r) Q E s₁ :=
    fun ht => g_bind (g_mono ht (fun r s₂ hr => g_bindL (wpAny_holding (wpAny_point (g_pure hr)))) fun _ _ x => x)
  have marked (mk : Value) : gAny M A (callMarked mk f (first ++ a.pos) a.kw) Q E s₁ := by unfold callMarked; exact g_keep h₁.2
  rcases hk' with rfl | rfl | rfl <;> dsimp only <;> first | exact tail h₁.2 | (split <;> first | exact tail h₁.2 | exact tail (marked _))
theorem g_callWith_K {K : Frag} {h₀ : Heap} {pos : Pos} {f : Value} {first : List Value} {Q : Value → Shared → Prop} {e : PySem.Expr} {rest : List PySem.Expr} (_X : K.In h₀) (hk : keepIn K f = true)
    (h : wpAny M A (spliced (backTo pos (starEach (e :: rest) env))) (fun vs s₁ => K.In s₁.heap ∧ gAny M A (call f (first ++ vs)) Q E s₁) E s)
    (he : starEach (e :: rest) env = (false, eval e env) :: starEach rest env := by rfl) (hplain : (backTo pos (starEach rest env)).any (·.1) = false := by rfl) :
    gAny M A (callWith pos f first (backTo pos (starEach (e :: rest) env)) []) Q E s := by
  rw [he] at h ⊢
  exact g_callWith_of (by show ((false || (backTo pos (starEach rest env)).any (·.1)) || false) = false; rw [hplain]; rfl) (keeps_K hk) (evalArgs_plain h)
theorem g_callWith_K0 {K : Frag} {pos : Pos} {f : Value} {first : List Value} {Q : Value → Shared → Prop} (X : K.In s.heap) (hk : keepIn K f = true) (h : gAny M A (call f (first ++ [])) Q E s) : gAny M A (callWith pos f first (backTo pos (starEach [] env)) []) Q E s :=
  g_callWith_of rfl (keeps_K hk) (evalArgs_nil3 ⟨X, h⟩)
theorem g_callWith_KW {K : Frag} {h₀ : Heap} {pos : Pos} {f : Value} {first : List Value} {Q : Value → Shared → Prop} {e : PySem.Expr} {rest : List PySem.Expr} {kws : List Keyword} (_X : K.In h₀) (hk : keepIn K f = true) (hall : (backToKw pos (keywordEach kws env)).all (·.1.isSome) = true)
    (h : wpAny M A (spliced (backTo pos (starEach (e :: rest) env))) (fun vs s₁ => wpAny M A (evalAll ((backToKw pos (keywordEach kws env)).map (·.2)))
      (fun ks s₂ => K.In s₂.heap ∧ gAny M A (call f (first ++ vs) (((backToKw pos (keywordEach kws env)).filterMap (·.1)).zip ks)) Q E s₂) E s₁) E s)
    (hplain : ((backTo pos (starEach (e :: rest) env)).any (·.1) || (backToKw pos (keywordEach kws env)).any (·.1.isNone)) = false := by rfl) (he : starEach (e :: rest) env = (false, eval e env) :: starEach rest env := by rfl) :
    gAny M A (callWith pos f first (backTo pos (starEach (e :: rest) env)) (backToKw pos (keywordEach kws env))) Q E s := by
  refine g_callWith_of hplain (keeps_K hk) ?_
  rw [he] at h ⊢
  exact evalArgs_kw hall h
/-- a call of a built-in type from a def -/
theorem g_callWith_type {pos : Pos} {T : String} {first : List Value} {args : List (Bool × Sem Value)} {Q : Value → Shared → Prop} (hplain : args.any (·.1) = false)
    (h : wpAny M A (evalArgs (.type T) true args []) (fun a s₁ => gAny M A (call (.type T) (first ++ a.pos) a.kw) Q E s₁) E s) : gAny M A (callWith pos (.type T) first args []) Q E s := by
  unfold callWith
  refine g_bindL (wpAny_holding (wpAny_mono h (fun a s₁ h₁ => g_bindL (wpAny_standAt ?_)) fun _ _ x => x))
  simp only [hplain, List.any_nil, Bool.or_false]
  refine g_bindL (wpAny_pure ?_)
  exact g_bind (g_mono h₁ (fun r s₂ hr => g_bindL (wpAny_holding (wpAny_point (g_pure hr)))) fun _ _ x => x)
theorem g_callWith_type1 {pos : Pos} {T : String} {e : PySem.Expr} {Q : Value → Shared → Prop}
    (h : wpAny M A (spliced (backTo pos (starEach [e] env))) (fun vs s₁ => gAny M A (call (.type T) vs) Q E s₁) E s) (he : starEach [e] env = [(false, eval e env)] := by rfl) :
    gAny M A (callWith pos (.type T) [] (backTo pos (starEach [e] env)) []) Q E s := by
  refine g_callWith_type (by rw [he]; rfl) ?_
  rw [he] at h ⊢
  exact evalArgs_plain h
end
-- part HG
/-- the caller's own place: nothing below it -/
theorem caller_good : good ⟨.builtin "claim.caller" {}, none, none, [], none⟩ := ⟨rfl, fun _ h => nomatch h⟩
section
variable {prog : Program} {w : World} {t : Sem Fin} {s : Shared} {R : Result → Shared → Prop}
theorem g_ends (hreg : s.asleep)
    (h : gAny (model prog w) callerA t (fun fin s' => ∃ f, fin = .done f ∧ (R (.ok f) s' ∧ leftWithCleanup s'.gens = false)) (fun e s' => R (.error e) s' ∧ leftWithCleanup s'.gens = false) s) :
    ∃ n r s' s'', runN (denote table) prog w n s ⟨t, .builtin "claim.caller" {}, default, []⟩ = .halted (outcomeOf r) s' ∧
      schedN (denote table) prog w n (.single s ⟨t, .builtin "claim.caller" {}, default, []⟩) = .halted (outcomeOf r) s' ∧ s'.forget = s''.forget ∧ R r s'' := by
  have h1 : Sem.wp (model prog w) ⟨.builtin "claim.caller" {}, none, none, [], none⟩ t (Sem.finPost (model prog w) ⟨.builtin "claim.caller" {}, none, none, [], none⟩ fun r s' => R r s' ∧ leftWithCleanup s'.gens = false)
      (fun e _ s' => R (.error e) s' ∧ leftWithCleanup s'.gens = false) default s := by
    refine Sem.wp_mono _ _ t (fun fin p' s' h' => ?_) (fun _ _ _ h' => h') default s (h _ default caller_in caller_good)
    obtain ⟨f, rfl, hf⟩ := h'
    exact hf
  obtain ⟨n, r, s₁, s₂, hs, hn, hfo, hR⟩ := wp_halts_full (M := model prog w) (R := R) hreg h1
  exact ⟨n, r, s₂, s₁, hn, hs, hfo, hR⟩
end
theorem g_callFrom {c : ClaimW} {tree : List Value → Sem Fin} {w : World} {s : Shared} {free : Addr → Prop} {gens : Prop} {kept : Heap → Prop} (hz : s.asleep) (hgens : s.gens = #[])
    (hspec : ∀ args, c.pre args = true → WData.layableAll args = true → ∀ ord : List DictEntry → List DictEntry, (∀ l, (ord l).Perm l) →
      ∃ vs s₁, layAllW c.records (classAt s.heap) w.params ord args s = some (vs, s₁) ∧
        gAny (model c.prog w) callerA (tree vs) (fun fin s' => ∃ f, fin = .done f ∧ (c.Ends s args vs s₁ (.ok f) s' ∧ s'.os = s.os ∧ AllBare s'.gens ∧ kept s'.heap))
          (fun e s' => c.Ends s args vs s₁ (.error e) s' ∧ s'.os = s.os ∧ AllBare s'.gens ∧ kept s'.heap) s₁) :
    c.CallFrom (fun vs => ⟨tree vs, .builtin "claim.caller" {}, default, []⟩) w free gens kept s := by
  intro args hpre hlay ord hord
  obtain ⟨vs, s₁, hlaid, hcode⟩ := hspec args hpre hlay ord hord
  have hal := layAllW_rest _ _ _ hlaid
  have bare {fin : Fin} {s' : Shared} (h : ∃ f, fin = .done f ∧ (c.Ends s args vs s₁ (.ok f) s' ∧ s'.os = s.os ∧ AllBare s'.gens ∧ kept s'.heap)) :
      ∃ f, fin = .done f ∧ ((c.Ends s args vs s₁ (.ok f) s' ∧ s'.os = s.os ∧ kept s'.heap) ∧ leftWithCleanup s'.gens = false) :=
    let ⟨f, e, a, b, d, k⟩ := h
    ⟨f, e, ⟨a, b, k⟩, leftWithCleanup_false_of_bare d⟩
  obtain ⟨k, r, s', s'', hrun, hsched, hfo, hcase, hos, hkp⟩ := g_ends (R := fun r s' => c.Ends s args vs s₁ r s' ∧ s'.os = s.os ∧ kept s'.heap) (Shared.asleep_of_life hal.2.2.2 hz)
    (g_mono hcode (fun fin s' h => bare h) fun e s' h => ⟨⟨h.1, h.2.1, h.2.2.2⟩, leftWithCleanup_false_of_bare h.2.2.1⟩)
  obtain ⟨eh, _, _, eo, _⟩ := Shared.forget_eq hfo
  have hcase := hcase.congr eh
  have hkp : kept s'.heap := by rw [eh]; exact hkp
  have hlife : s'.heap.life = s.heap.life := (runN_life _ _ _ hrun).trans hal.2.2.2
  refine ⟨vs, s₁, hlaid, k, _, s', hsched, ?_, (fun _ i x hx => by rw [hgens] at hx; simp at hx), hkp, by rw [hlife], Shared.rest_eq (eo.trans hos)⟩
  rcases hcase with ⟨v, rfl, d1, d2, d3, d4, d5⟩ | ⟨e, ob, cls, rfl, d1, d2, d3, d4, d5⟩
  · exact .inl ⟨v, rfl, d1, d2, d3, fun b o y _ => d4 b o y, d5⟩
  · exact .inr ⟨e, ob, cls, rfl, d1, d2, d3, d4, fun b o y _ => d5 b o y⟩

/-- what is asked of the call: the walk in the logic that knows the stack -/
def WalkG (q : Program) (loose : List Str) (XP : (Str → Option Value) → Heap → Prop) (YP : World → Heap → Prop) (r : RowW) (d : DefRec) (kwd : List (Str × PySem.Expr)) : Prop :=
  ∀ (w : World) (s₀ s₁ : Shared) (mg mb : Str → Option Value), Ground q loose r.records XP w s₀ mg mb s₁.heap → YP w s₁.heap → ∀ (a : Addr) (o : Obj) (pm cd doc dV kV : Value), s₁.heap.get? a = some o →
    o.data = .func { docDef d.name d.params d.body d.scope pm cd doc with defaults := dV, kwdefaults := kV } → s₁.heap.CodeRec cd d.name → Dflts mg s₁.heap d.params kwd dV kV → mg d.name = some (.ref a) → s₁.gens = #[] →
    ∀ (args : List WData) (vals : List Value) (as : List Addr), r.claim.pre args = true → WData.layableAll args = true → ReadsAllW r.records (classAt s₀.heap) s₁.heap vals args as → WellAll w.params s₁.heap vals args → (∀ a ∈ as, (a == sysModules) = false) →
      gAny (model r.prog w) callerA (PySem.call (.ref a) vals) (fun v s' => GoodWG r.claim (classAt s₀.heap) (ExcName.means s₀.heap) args s₁ (.ok (.ret v)) s')
        (fun e s' => GoodWG r.claim (classAt s₀.heap) (ExcName.means s₀.heap) args s₁ (.error e) s') s₁

theorem PySem.W.holds_open {r : OpenRow} {q : Program} {loose : List Str} {Xt : Shared → Bool} {XP : (Str → Option Value) → Heap → Prop} {α : Type} {Yf : Shared → α} {Ya : World → α} {YP : World → Heap → Prop} {d : DefRec} {kwd : List (Str × PySem.Expr)} {N : Nat}
    (left : LeftO r.prog q loose Xt Yf Ya N) (hY : ∀ w s, Yf s = Ya w → YP w s.heap) (hYk : ∀ w h h', YP w h → (∀ b o, h.get? b = some o → h'.get? b = some o) → YP w h')
    (hX : ∀ s, Xt s = true → XP (s.heap.nsMap mainGlobals) s.heap) (hXk : ∀ mg h h', XP mg h → (∀ b o, h.get? b = some o → h'.get? b = some o) → XP mg h')
    (hdef : defOf q r.name = some (d, kwd)) (hp : r.prog.theDef r.name = some (d.params, d.body, d.scope)) (hk : kwWritten? d.params.kwonlyargs d.params.kw_defaults = some kwd) (hRf : ∀ s, Xt s = true → RecFacts r.records s.heap) (hwr : (!r.writes || r.records.isEmpty) = true)
    (k1 : r.wellSaid = true) (ok : (chainsOk q && opensWell r.prog && (frees r.toRowW && r.within.isEmpty)) = true) (hb : r.prog.bare) (hw : r.toRowW.promised)
    (call : WalkG q loose XP YP r.toRowW d kwd) : r.Holds := by
  refine ⟨k1, hw, ?_⟩
  obtain ⟨ok, k5⟩ := Bool.and_eq_true_iff.mp ok
  obtain ⟨hch, o1⟩ := Bool.and_eq_true_iff.mp ok
  obtain ⟨k5, k6⟩ := Bool.and_eq_true_iff.mp k5
  obtain ⟨hsame, hu, ha, hap, hm⟩ := frees_parts k5
  refine ⟨⟨hb, o1, by show r.toRowW.makers.map _ = []; rw [hm]; rfl⟩, hw.witness, fun w => ⟨(left.behind hX hch w).1, fun s' hs' => ?_⟩⟩
  obtain ⟨s₀, hf, hg0, s, hT, hz, hgens, hg, G00, y⟩ := (left.behind (XP := fun mg h => XP mg h ∧ RecFacts r.records h) (fun s hs => ⟨hX s hs, hRf s hs⟩) hch w).2 s' hs'
  have G0 : Ground q loose [] XP w s (s.heap.nsMap mainGlobals) (s.heap.nsMap builtinsNs) s.heap := ⟨G00.T, G00.B, G00.D, G00.TE, G00.TD, G00.W, G00.X.1, G00.cls, G00.has, G00.apart, G00.once, G00.K⟩
  have RF := G00.X.2
  refine ⟨s₀, hf, hg0, s, hT, fun n hn => ?_, RF.1, RF.2.1, ?_⟩
  · obtain rfl : n = r.name := by split at hn <;> simp_all
    exact pinned_of_view hg G0 hdef hp hk
  have hgens' : s.gens = #[] := Array.eq_empty_of_size_eq_zero (beq_iff_eq.mp hgens)
  have G : Ground q loose r.records XP w s _ _ s.heap := RF.ground G0
  refine g_callFrom (c := r.toRowW.claim) hz hgens' fun args hpre hlay ord hord => ?_
  obtain ⟨⟨vs, s₁⟩, hlaid⟩ := Option.isSome_iff_exists.mp (layAllW_isSome (P := w.params) (ord := ord) G.has args r.args s (pre_splitW hpre).1)
  have keeps := layAllW_keeps _ _ _ hlaid
  have hal := layAllW_rest _ _ _ hlaid
  obtain ⟨as, hrd, hin, hold⟩ := reads_layAllW hord _ _ _ hlaid hlay s₁.heap (fun _ _ e => e)
  have L : Laid r.records w s s₁ args vs as := ⟨⟨ord, hord, hlaid⟩, hrd, hin, hold, keeps, hal.1.trans hgens', hal.2.2.1⟩
  have G₁ := G.keeps hXk keeps
  obtain ⟨a, o, pm, cd, doc, dV, kV, h1, h2, h3, h4, h5⟩ := G₁.fn hdef
  have z := call w s s₁ _ _ G₁ (hYk _ _ _ (hY w s y) keeps) a o pm cd doc dV kV h2 h3 h4 h5 (defOf_name hdef ▸ h1) L.gens args vs as hpre hlay L.reads L.well (L.low G.low)
  have hi := ident_freeW hu ha hap
  have hwi : r.toRowW.claim.within = [] := List.isEmpty_iff.mp k6
  refine ⟨vs, s₁, hlaid, ?_⟩
  show gAny _ _ (nsGet mainNs r.name >>= fun x => match x with
      | some f => do ret (← PySem.call f vs)
      | none => unsupported "claim.caller:no-such-global") _ _ _
  refine g_bindL (wpAny_nsGet G₁.T.g ?_)
  rw [h1]
  refine g_bind (g_mono z (fun v s' g => g_pure ⟨_, rfl, ?_⟩) fun e s' g => ?_)
  · have z := g.laid (c := r.toRowW.claim) hsame hwi hi L
    exact ⟨z.1, z.2.1, z.2.2, fun q => ⟨namesKept_of hT hg r.keeps keeps g.2.1.old, noTable hwr q⟩⟩
  · have z := g.laid (c := r.toRowW.claim) hsame hwi hi L
    exact ⟨z.1, z.2.1, z.2.2, fun q => ⟨namesKept_of hT hg r.keeps keeps g.2.1.old, noTable hwr q⟩⟩
-- part Hd
open_top hd for PySem.Challenge.rw_eh5017_01
-- part C0
abbrev PR : Program := PySem.Challenge.rw_eh5017_01.row.prog
/-- the builder as it lies -/
abbrev bObj (dx vt ba : Addr) (hv : Int) (th : Tok) (ma : Int) (tm : Tok) (fin : Bool) : Obj :=
  { cls := .ref 673, dict := some dx, data := .plain, slots := [some (.ref ba), some .none, some (.bool fin), some (.bool false), some (.int hv th), some (.int ma tm), some (.bool false), some .none, some .none, none, some (.ref vt)].toArray }
abbrev led (bx dx vt ba : Addr) (b : Array UInt8) (hv : Int) (th : Tok) (ma : Int) (tm : Tok) (fin : Bool) : List (Addr × Obj) :=
  [(bx, bObj dx vt ba hv th ma tm fin), (dx, dictOf [] 0), (ba, baObj b)]
theorem fill : PySem.Challenge.rw_eh5017_01 = PySem.Challenge.rw_eh5017_01 ∧ Mine.hd.heap_39 = Mine.hd.heap_39 := by k_fill; exact ⟨rfl, rfl⟩

/-- a ledger in two parts: what the callee turns, and the rest -/
structure Sub (h₀ : Heap) (L : Addr) (h : Heap) (news rest : List (Addr × Obj)) : Prop where
  N : News h₀ L h news
  R : News h₀ L h rest
  D : ∀ p ∈ rest, ∀ q ∈ news, p.1 ≠ q.1
theorem Sub.news {h₀ : Heap} {L : Addr} {h : Heap} {news rest : List (Addr × Obj)} (S : Sub h₀ L h news rest) : News h₀ L h (news ++ rest) := fun p hp => (List.mem_append.mp hp).elim (S.N p) (S.R p)
theorem Sub.of {h₀ : Heap} {L : Addr} {h : Heap} {all news rest : List (Addr × Obj)} (N : News h₀ L h all) (h1 : ∀ p ∈ news, p ∈ all) (h2 : ∀ p ∈ rest, p ∈ all) (D : ∀ p ∈ rest, ∀ q ∈ news, p.1 ≠ q.1) : Sub h₀ L h news rest :=
  ⟨fun p hp => N p (h1 p hp), fun p hp => N p (h2 p hp), D⟩
theorem Sub.nil {h₀ : Heap} {L : Addr} {h : Heap} {news : List (Addr × Obj)} (N : News h₀ L h news) : Sub h₀ L h news [] := ⟨N, News.nil, fun _ h => nomatch h⟩

def LeaveS2 (h₀ : Heap) (L : Addr) (m : Str → Option Value) (rest : List (Addr × Obj)) (g : Heap) (R : Result → Shared → Prop) (v : Value) (s' : Shared) : Prop :=
  ∃ L' m' news', Fr g L' s'.heap m' ∧ News g L' s'.heap news' ∧ (Fr h₀ L s'.heap m → Sub h₀ L s'.heap news' rest → R (.ok (.ret v)) s')
theorem leaveS2_ {h₀ g : Heap} {L L' : Addr} {m m' : Str → Option Value} {rest news' : List (Addr × Obj)} {R : Result → Shared → Prop} {v : Value} {s' : Shared} (F' : Fr g L' s'.heap m') (N' : News g L' s'.heap news')
    (k : Fr h₀ L s'.heap m → Sub h₀ L s'.heap news' rest → R (.ok (.ret v)) s') : LeaveS2 h₀ L m rest g R v s' := ⟨L', m', news', F', N', k⟩
section
variable {prog : Program} {w : World} {A A₀ : Around} {E : Value → Shared → Prop} {s : Shared} {K : Frag} {L : Addr} {h₀ base : Heap} {m mg mb : Str → Option Value} {news rest : List (Addr × Obj)} {p : Program} {loose : List Str} {mean : ExcName → Option Value}
  {env : Env} {outer : List Env} {R : Result → Shared → Prop} {name qual : Str} {params : Arguments} {body : List Stmt} {scope : Scope} {dV kV doc pm cdv ct oc : Value} {an od : Option Addr} {osl : Array (Option Value)} {f : Addr} {args : Args} {binds : List (Str × Value)}
theorem g_def (B : Below A₀ base outer h₀) (F : Fr h₀ L s.heap m) (X₀ : K.In h₀) (S : Sub h₀ L s.heap news rest) (T : Top p loose mean mg mb h₀)
    (hA : A.frames = some (env :: outer)) (hf : env.frame = some L) (hke : env.scope.kind = .function)
    (ho : K.lookup f = some ⟨oc, od, .func (fnOf name qual params body scope dV kV doc pm an cdv ct), osl⟩) (hcd : codeIn K cdv qual = true) (hroom : A.depth < recursionLimit)
    (hbind : BindsTo s (fnOf name qual params body scope dV kV doc pm an cdv ct) args binds) (hloc : ∀ y ∈ binds, scope.names.lookup y.1 = some .local)
    (h : ∀ g L' h₁, Fr h₀ L g m → Fr g L' h₁ (fun y => binds.reverse.lookup y) → News g L' h₁ news → Below A base (env :: outer) g → K.In g → Top p loose mean mg mb g →
      gAny (model prog w) (A.deeper (envOf qual scope L' f cdv)) (execs body (envOf qual scope L' f cdv))
        (fun fl s' => LeaveS2 h₀ L m rest g R (match fl with | .ret v => v | _ => .none) s')
        (fun e s' => wpAny (model prog w) (A.deeper (envOf qual scope L' f cdv)) (leaving (envOf qual scope L' f cdv) e) (fun _ s'' => R (.error e) s'') (fun e' s'' => R (.error e') s'') s')
        { s with heap := h₁, toks := s.toks + binds.length })
    (hco : scope.isCoroutine = false) (hgen : scope.isGenerator = false) (hk : scope.kind = .function)
    (hcell : ∀ x ∈ scope.names, x.2 ≠ .cell) : gCode (model prog w) A (.call (.ref f) args) R s :=
  g_code_def B F X₀ S.N S.R S.D T hA hf hke ho hcd hroom hbind hloc (fun g L' h₁ a1 a2 a3 a4 a5 a6 => g_mono (h g L' h₁ a1 a2 a3 a4 a5 a6) (fun fl s' hl => by
    obtain ⟨L', m', news', F', N', k⟩ := hl
    exact ⟨L', m', news', F', N', fun b1 b2 b3 => k b1 ⟨fun p hp => b2 p (List.mem_append_left _ hp), fun p hp => b2 p (List.mem_append_right _ hp), b3⟩⟩) fun _ _ x => x) hco hgen hk hcell
theorem w_def (B : Below A₀ base outer h₀) (F : Fr h₀ L s.heap m) (X₀ : K.In h₀) (S : Sub h₀ L s.heap news rest) (T : Top p loose mean mg mb h₀)
    (hA : A.frames = some (env :: outer)) (hf : env.frame = some L) (hke : env.scope.kind = .function)
    (ho : K.lookup f = some ⟨oc, od, .func (fnOf name qual params body scope dV kV doc pm an cdv ct), osl⟩) (hcd : codeIn K cdv qual = true) (hroom : A.depth < recursionLimit)
    (hbind : BindsTo s (fnOf name qual params body scope dV kV doc pm an cdv ct) args binds) (hloc : ∀ y ∈ binds, scope.names.lookup y.1 = some .local)
    (h : ∀ g L' h₁, Fr h₀ L g m → Fr g L' h₁ (fun y => binds.reverse.lookup y) → News g L' h₁ news → Below A base (env :: outer) g → K.In g → Top p loose mean mg mb g →
      wpAny (model prog w) (A.deeper (envOf qual scope L' f cdv)) (execs body (envOf qual scope L' f cdv))
        (fun fl s' => LeaveS2 h₀ L m rest g R (match fl with | .ret v => v | _ => .none) s')
        (fun e s' => wpAny (model prog w) (A.deeper (envOf qual scope L' f cdv)) (leaving (envOf qual scope L' f cdv) e) (fun _ s'' => R (.error e) s'') (fun e' s'' => R (.error e') s'') s')
        { s with heap := h₁, toks := s.toks + binds.length })
    (hco : scope.isCoroutine = false) (hgen : scope.isGenerator = false) (hk : scope.kind = .function)
    (hcell : ∀ x ∈ scope.names, x.2 ≠ .cell) : codeAny (model prog w) A (.call (.ref f) args) R s := by
  obtain ⟨FG, BG, st, _⟩ := groundX (R := R) B F S.N hA hf hke
  refine codeAny_call_def (fd := fnOf name qual params body scope dV kV doc pm an cdv ct) (body := body) (binds := binds) hroom ((X₀.keeps F.keep) _ _ ho) rfl (T.nolimit.keeps F.keep) (codeRec_of (X₀.keeps F.keep) hcd) rfl hbind hcell hloc (fun h₁ hns hk₁ => ?_) hco hgen hk
  refine wpAny_mono (h _ s.heap.objs.size h₁ FG ⟨hns, fun b o e => hk₁ b o (of_hideAll _ e), Nat.le_of_eq (hideAll_size _ _)⟩
    (fun p hp => ⟨hk₁ _ _ (S.N p hp).1, Nat.ne_of_lt (Heap.lt_size (S.N p hp).1), hideAll_none _ (List.mem_map_of_mem hp)⟩) BG (X₀.keeps st) (T.keeps st)) (fun fl s' hl => ?_) fun _ _ y => y
  obtain ⟨L', m', news', F', N', k⟩ := hl
  obtain ⟨k1, k2⟩ := rest_kept rfl S.R S.D F' N'
  obtain ⟨_, _, _, lv⟩ := groundX (R := fun r s'' => r = .ok (.ret (match fl with | .ret v => v | _ => .none)) ∧ Fr h₀ L s''.heap m ∧ News h₀ L s''.heap news') B F S.N hA hf hke
  obtain ⟨_, F2, N2⟩ := lv _ s' ⟨L', m', news', F', N', fun a b => ⟨rfl, a, b⟩⟩
  exact k F2 ⟨N2, k1, k2⟩
end
section
variable {prog : Program} {w : World} {A : Around} {E : Value → Shared → Prop} {s : Shared} {h₀ : Heap} {L : Addr} {m : Str → Option Value} {news news' : List (Addr × Obj)} {x y : Addr} {b c : Array UInt8}
theorem ba_len_N {Q : Value → Shared → Prop} (N : News h₀ L s.heap news) (hm : (x, baObj b) ∈ news) (hz : b.size ≤ 16777216) (h : Q (.int b.size (s.toks + 1)) { s with toks := s.toks + 1 + 1 }) :
    wpAny (model prog w) A (call (.builtin "len") [.ref x]) Q E s := ba_len (N.get hm) hz h
theorem bytes_of_ba_N {Q : Value → Shared → Prop} (N : News h₀ L s.heap news) (hm : (x, baObj b) ∈ news) (hz : b.size ≤ 16777216) (h : ∀ t k, Q (.bytes b t) { s with toks := k }) :
    wpAny (model prog w) A (call (.type "bytes") [.ref x]) Q E s := bytes_of_ba (N.get hm) hz h
/-- a bytearray's change on the ledger -/
theorem news_turned {h h' : Heap} (F : Fr h₀ L h m) (N : News h₀ L h news) (U : Upd x (baObj b) (baObj c) news news') (k : ∀ b o, b ≠ x → h.get? b = some o → h'.get? b = some o) (e : h'.get? x = some (baObj c)) :
    Fr h₀ L h' m ∧ News h₀ L h' news' := by
  obtain ⟨pre, post, rfl, rfl, a1, a2⟩ := U.split
  have z := N (x, baObj b) (List.mem_append.mpr (.inr (.head _)))
  obtain ⟨oL, es, ep, hL, r⟩ := F.ns
  refine ⟨⟨⟨oL, es, ep, k _ _ (Ne.symm z.2.1) hL, r⟩, fun q o hq => k q o (fun e => by rw [e, z.2.2] at hq; cases hq) (F.keep q o hq), F.above⟩, fun p hp => ?_⟩
  rcases List.mem_append.mp hp with q | q
  · exact ⟨k _ _ (a1 p q) (N p (List.mem_append_left _ q)).1, (N p (List.mem_append_left _ q)).2⟩
  · rcases List.mem_cons.mp q with rfl | q
    · exact ⟨e, z.2⟩
    · exact ⟨k _ _ (a2 p q) (N p (List.mem_append_right _ (.tail _ q))).1, (N p (List.mem_append_right _ (.tail _ q))).2⟩
theorem bounds_from {k : Int} {n : Nat} (h0 : 0 ≤ k) (h1 : k ≤ n) : sliceBounds (some k) none none n = (k, (n : Int), 1) := by
  unfold sliceBounds
  have a1 : ¬ k < 0 := by omega
  have a2 : max 0 (min k (n : Int)) = k := by omega
  simp only [Option.getD_none, a1, if_false, gt_iff_lt, Int.zero_lt_one, if_true, a2]
theorem bounds_both {k l : Int} {n : Nat} (h0 : 0 ≤ k) (h1 : k ≤ n) (h2 : 0 ≤ l) (h3 : l ≤ n) : sliceBounds (some k) (some l) none n = (k, l, 1) := by
  unfold sliceBounds
  have a1 : ¬ k < 0 := by omega
  have a2 : max 0 (min k (n : Int)) = k := by omega
  have a3 : ¬ l < 0 := by omega
  have a4 : max 0 (min l (n : Int)) = l := by omega
  simp only [Option.getD_none, a1, a3, if_false, gt_iff_lt, Int.zero_lt_one, if_true, a2, a4]
theorem overwritten_putAt {st sp : Int} (h0 : 0 ≤ st) (hc : (c.size : Int) = sp - st) (hs : sp ≤ b.size) : overwritten b c st sp = putAt b st.toNat c := by
  unfold overwritten putAt
  have : (max st sp).toNat = st.toNat + c.size := by omega
  rw [this]
theorem set_ba_N {l u : Value} {lo hi : Option Int} {st sp : Int} {Q : Unit → Shared → Prop} (F : Fr h₀ L s.heap m) (N : News h₀ L s.heap news) (hl : IsPart l lo) (hu : IsPart u hi) (hx : (x, baObj b) ∈ news) (hy : (y, baObj c) ∈ news) (hxy : x ≠ y)
    (hb : sliceBounds lo hi none b.size = (st, sp, 1)) (h0 : 0 ≤ st) (hc : (c.size : Int) = sp - st) (hs : sp ≤ b.size) (hz : b.size ≤ 16777216)
    (U : Upd x (baObj b) (baObj (putAt b st.toNat c)) news news')
    (h : ∀ h', Fr h₀ L h' m → News h₀ L h' news' → Q () { s with heap := h' }) :
    wpAny (model prog w) A (setItem (.ref x) (.ref s.heap.objs.size) (.ref y)) Q E { s with heap := s.heap.push { cls := .type "slice", data := .fields #[l, u, .none] } } := by
  have e1 := Heap.get?_push_of_some { cls := .type "slice", data := .fields #[l, u, .none] } (N.get hx)
  have e2 := Heap.get?_push_of_some { cls := .type "slice", data := .fields #[l, u, .none] } (N.get hy)
  have F1 := F.push { cls := .type "slice", data := .fields #[l, u, .none] }
  have N1 := News.pushKeep N { cls := .type "slice", data := .fields #[l, u, .none] }
  have ho := overwritten_putAt h0 hc hs
  refine setItem_ba_ba (s := ⟨_, _, _, _, _⟩) hl hu hxy e1 e2 (Heap.IsSliceOf.new _ _ _ _) (by rw [hb]; dsimp only; omega) (by rw [hb]; dsimp only; rw [ho, putAt_size (by omega), sizeLine_eq]; exact hz) fun h' k e => ?_
  rw [hb] at e
  dsimp only at e
  rw [ho] at e
  obtain ⟨F2, N2⟩ := news_turned F1 N1 U k e
  exact h _ F2 N2
theorem g_bytearray_int_N {n : Int} {t : Tok} {Q : Value → Shared → Prop} (F : Fr h₀ L s.heap m) (N : News h₀ L s.heap news) (hg : A.guards = some []) (h0 : 0 ≤ n) (hn : n ≤ 16777216)
    (h : ∀ D h', Fr h₀ L h' m → News h₀ L h' ((D, baObj (Array.replicate n.toNat 0)) :: news) → (∀ p ∈ news, p.1 < D) → Q (.ref D) { s with heap := h' }) :
    gAny (model prog w) A (call (.type "bytearray") [.int n t]) Q E s :=
  g_bytearray_int hg h0 hn fun h' k e => h _ h' (F.keeps k) (news_pushed F N k e rfl) fun p hp => Heap.lt_size (N p hp).1
theorem g_set_bytes_N {l u : Value} {lo hi : Option Int} {st sp : Int} {t : Tok} {Q : Unit → Shared → Prop} (F : Fr h₀ L s.heap m) (N : News h₀ L s.heap news) (hg : A.guards = some []) (hl : IsPart l lo) (hu : IsPart u hi) (hx : (x, baObj b) ∈ news)
    (hb : sliceBounds lo hi none b.size = (st, sp, 1)) (h0 : 0 ≤ st) (hc : (c.size : Int) = sp - st) (hs : sp ≤ b.size) (hz : b.size ≤ 16777216)
    (U : Upd x (baObj b) (baObj (putAt b st.toNat c)) news news')
    (h : ∀ h', Fr h₀ L h' m → News h₀ L h' news' → Q () { s with heap := h' }) :
    gAny (model prog w) A (setItem (.ref x) (.ref s.heap.objs.size) (.bytes c t)) Q E { s with heap := s.heap.push { cls := .type "slice", data := .fields #[l, u, .none] } } := by
  have e1 := Heap.get?_push_of_some { cls := .type "slice", data := .fields #[l, u, .none] } (N.get hx)
  have F1 := F.push { cls := .type "slice", data := .fields #[l, u, .none] }
  have N1 := News.pushKeep N { cls := .type "slice", data := .fields #[l, u, .none] }
  have ho := overwritten_putAt h0 hc hs
  refine g_setItem_ba_bytes (s := ⟨_, _, _, _, _⟩) hg hl hu (by omega) e1 (Heap.IsSliceOf.new _ _ _ _) (by rw [hb]; dsimp only; omega) (by rw [hb]; dsimp only; rw [ho, putAt_size (by omega), sizeLine_eq]; exact hz) fun h' k e => ?_
  rw [hb] at e
  dsimp only at e
  rw [ho] at e
  obtain ⟨F2, N2⟩ := news_turned F1 N1 U k e
  exact h _ F2 N2
theorem min_left {n k : Int} {t u : Tok} {Q : Value → Shared → Prop} (hh : A.handled = none) (F : Fr h₀ L s.heap m) (N : News h₀ L s.heap news) (hle : n ≤ k)
    (h : ∀ h' tk, Fr h₀ L h' m → News h₀ L h' news → Q (.int n t) { s with heap := h', toks := tk }) : wpAny (model prog w) A (call (.builtin "min") [.int n t, .int k u]) Q E s :=
  min_two_N hh F N fun h' tk a1 a2 => by
    have hn : ¬ k < n := by omega
    simp only [if_neg hn]
    exact h h' tk a1 a2
theorem pack_into_N {f : Array UInt8} {ch : Char} {wd : Nat} {lo hi : Int} (K : FmtOk f ch wd lo hi) {pk : Addr} {o : Obj} {hv n : Int} {th tn tk : Tok} {Q : Value → Shared → Prop}
    (F : Fr h₀ L s.heap m) (N : News h₀ L s.heap news) (ho : h₀.get? pk = some o) (hoc : o.cls = .type "_struct.Struct") (hod : o.data = .fields #[.bytes f tk])
    (hx : (x, baObj b) ∈ news) (h0 : 0 ≤ hv) (h1 : hv.toNat + wd ≤ b.size) (hz : b.size ≤ 16777216) (hlo : lo ≤ n) (hhi : n ≤ hi)
    (U : Upd x (baObj b) (baObj (putAt b hv.toNat (Builtin.Struct.intBytes false wd n))) news news')
    (h : ∀ h', Fr h₀ L h' m → News h₀ L h' news' → Q .none { s with heap := h' }) : wpAny (model prog w) A (call (.builtin "_struct.Struct.pack_into") [.ref pk, .ref x, .int hv th, .int n tn]) Q E s :=
  pack_into K (F.keep _ _ ho) hoc hod (N.get hx) h0 h1 hz hlo hhi fun h' k e => by
    obtain ⟨F2, N2⟩ := news_turned F N U k e
    exact h _ F2 N2
end
-- part G4
section
variable {prog : Program} {w : World} {A : Around} {E : Value → Shared → Prop} {s : Shared} {env : Env}
theorem g_While {test : PySem.Expr} {body : List Stmt} {pos : Pos} {Q : Flow → Shared → Prop} (I : Nat → Shared → Prop)
    (turn : ∀ n s, I n s → wpAny (model prog w) A (isTrue test env (eval test env)) (fun b s₂ => if b = true then gAny (model prog w) A (execs body env) (fun f s₃ => match f with | .next => ∃ k, k < n ∧ I k s₃ | _ => False) (fun _ _ => False) s₂ else Q .next s₂) (fun _ _ => False) s)
    (n : Nat) (h : I n s) : gAny (model prog w) A (exec (.While test body [] pos) env) Q E s := by
  rw [exec_While]
  refine g_bindL (wpAny_standAt ?_)
  unfold runOwn
  refine g_onRaise (g_run ?_)
  refine gCode_mono (R := fun r s' => match r with | .ok f => Q f s' | .error _ => False) ?_ (fun r s' hr => ?_)
  · refine gCode_loop (I := I) rfl rfl (fun n s hI => ?_) n h
    show gAny _ A ((whileTurn test body [] env).onRaise (fun x => do noteFrame x env; theTreesLotGoes x)) _ _ s
    refine g_onRaise (g_mono (Q := fun fin s' => match fin with | .done f => Q f s' | .again c' => c' = .whileLoop test body [] env ∧ ∃ m, m < n ∧ I m s') (E := fun _ _ => False) ?_ (fun fin s' hf => ?_) (fun _ _ x => x.elim))
    · simp only [whileTurn]
      refine g_bindL (wpAny_mono (turn n s hI) (fun b s₂ h₂ => ?_) fun _ _ x => x)
      cases b with
      | false =>
        rw [if_neg Bool.false_ne_true] at h₂
        simp only [Bool.false_eq_true, if_false]
        exact g_bind (g_nil (g_pure h₂))
      | true =>
        rw [if_pos rfl] at h₂
        simp only [if_true]
        refine g_bind (g_mono h₂ (fun f s₃ h₄ => ?_) fun _ _ x => x)
        cases f with
        | next => exact g_pure ⟨rfl, h₄⟩
        | cont => exact h₄.elim
        | brk => exact h₄.elim
        | ret v => exact h₄.elim
    · cases fin with
      | done f => exact hf
      | again c' => exact hf
  · cases r with
    | ok f => exact hr
    | error e => exact hr.elim
end
-- part G5
section
variable {prog : Program} {w : World} {A : Around} {K : Frag} {C x : Addr} {s : Shared} {h₀ : Heap} {L : Addr} {m : Str → Option Value} {news : List (Addr × Obj)} {R : Result → Shared → Prop} {h : Heap} {g : Array GenState} {d : Drawn} {t : Nat} {os : OsState}
theorem g_make_core {rest : List Value} {init : Addr} (Y : Makes (model prog w) h C) (hi : Looks (model prog w) h (typeLookup (.ref C) "__init__") (some (.ref init)))
    (hb : ∀ self, Looks (model prog w) h (bindSpecial (.ref init) self) (.ref init, [self]))
    (hq : gCode (model prog w) (A.under (.builtin "type.__call__" ⟨.ref C :: rest, []⟩)) (.call (.ref init) ⟨.ref (h.objs.size + 1) :: rest, []⟩) (InitBack (h.objs.size + 1) R) ⟨(h.push emptyDict).push (instObj C h.objs.size), g, d, t, os⟩) :
    gCode (model prog w) A (.call (.ref C) ⟨rest, []⟩) R ⟨h, g, d, t, os⟩ := by
  have Y' := Y
  obtain ⟨⟨oc, od, cd, sl, hC, e1, e2, e4⟩, made, base, self, top, call, typ⟩ := Y
  refine gCode_of_tree rfl (g_of ?_)
  show wpAny _ _ (callAny (.ref C) _) _ _ _
  refine nd_load hC ?_
  show wpAny _ _ (callAny.viaDunder (.ref C) _) _ _ _
  unfold callAny.viaDunder
  refine wpAny_bind (call.at ?_)
  dsimp only
  rw [tc_bind]
  refine wpAny_bind (wpAny_pure (wpAny_bind (wpAny_pure ?_)))
  refine wpAny_pure (a := Fin.again (.call (.builtin "type.__call__") ⟨.ref C :: rest, []⟩)) (And.intro rfl ?_)
  refine gCode_call_builtin (Code.quiet_builtin _ (by decide +kernel)) rfl entry_typeCall (check_slot tc_kind tc_split typ (tc_args _ _ _) ?_)
  unfold Builtin.«type.__call__»
  have hm : Looks (model prog w) h (mroOf (.ref C)) cd.mro := ((Looks.ld (part := none) hC).andThen .now).andThen .now
  have k : ∀ b o, h.get? b = some o → ((h.push emptyDict).push (instObj C h.objs.size)).get? b = some o := fun b o e => Heap.get?_push_of_some _ (Heap.get?_push_of_some _ e)
  have hx : ((h.push emptyDict).push (instObj C h.objs.size)).get? (h.objs.size + 1) = some (instObj C h.objs.size) := by heap_get
  have t1 : Looks (model prog w) ((h.push emptyDict).push (instObj C h.objs.size)) (typeOf (.ref (h.objs.size + 1))) (.ref C) := (Looks.ld hx).andThen .now
  have s1 := self.keeps k
  have i1 := hi.keeps k
  have b1 := (hb (.ref (h.objs.size + 1))).keeps k
  dsimp only
  refine g_ite_false (show ¬ (false = true) from Bool.false_ne_true) ?_
  refine g_bindL (hm.at ?_)
  refine g_ite_false (by rw [e4]; decide) ?_
  refine g_bindL (made.at ?_)
  refine g_bindL (wpAny_pure ?_)
  refine g_bindL (wpAny_holding (wpAny_call (new_K Y' hi (.inl rfl) ?_)))
  dsimp only
  refine g_bindL (Q := _) (show wpAny _ _ (isInstance _ _) _ _ _ from ?_)
  unfold isInstance
  repeat lk
  refine g_ite_false (by decide) ?_
  refine g_bind (g_holding ?_)
  unfold callSpecial?
  refine g_bindL (show wpAny _ _ (specialOf _ _) _ _ _ from ?_)
  unfold specialOf
  repeat lk
  dsimp only
  refine g_holding (g_bindL (b1.at ?_))
  dsimp only
  refine g_bind (g_call (gCode_mono hq fun r s' z => ?_))
  rcases r with e | (v | _ | _ | _) <;> first | exact z | exact z.elim | skip
  obtain ⟨rfl, z⟩ := z
  refine g_pure ?_
  dsimp only
  exact g_ite_false (by decide) (g_pure z)
theorem g_make_K {rest : List Value} {fI : Addr} (F : Fr h₀ L s.heap m) (N : News h₀ L s.heap news) (X : K.In s.heap) (hm : makesIn K C = true)
    (hi : findIn K (.ref C) "__init__" = some (some (.ref fI))) (hf : typeIn K (.ref fI) = some (.type "function"))
    (h : ∀ x dx h', Fr h₀ L h' m → News h₀ L h' ((x, instObj C dx) :: (dx, emptyDict) :: news) → (∀ p ∈ news, p.1 < dx) → dx < x →
      gCode (model prog w) (A.under (.builtin "type.__call__" ⟨.ref C :: rest, []⟩)) (.call (.ref fI) ⟨.ref x :: rest, []⟩) (InitBack x R) { s with heap := h' }) :
    gCode (model prog w) A (.call (.ref C) ⟨rest, []⟩) R s := by
  obtain ⟨hh, g, d, t, os⟩ := s
  refine g_make_core (makes_of X hm) (looks_findIn X hi) (fun self => bind_fn X self hf) (h _ hh.objs.size _ ((F.push _).push _) ?_ (fun p hp => Heap.lt_size (N p hp).1) (Nat.lt_succ_self _))
  have := (N.push F emptyDict).push (F.push _) (instObj C hh.objs.size)
  rwa [Heap.size_push] at this
end
-- part G6
section
variable {prog : Program} {w : World} {A : Around} {E : Value → Shared → Prop} {s : Shared} {K : Frag} {name : Str} {C : Addr} {T : String} {expr : Bool} {Q : Value → Shared → Prop}
/-- a class attribute that is a built-in type -/
theorem cls_typeval (X : K.In s.heap) (hr : readsIn K C (.type "type") = true) (h1 : findIn K (.type "type") name = some none) (h4 : findIn K (.ref C) name = some (some (.type T)))
    (hh : Builtin.heldUnderItsOwnName name (.type T) = false) (hT : typeOf (.type T) = pure (.type "type")) (hg : specialOf (.type T) "__get__" = pure none) (h : Q (.type T) { s with toks := s.toks + 1 }) :
    wpAny (model prog w) A (getAttr (.ref C) name expr) Q E s := by
  simp only [readsIn, Bool.and_eq_true, beq_iff_eq] at hr
  obtain ⟨⟨⟨⟨a, b⟩, hga⟩, d⟩, hi⟩ := hr
  obtain ⟨hk, d⟩ := Option.isSome_iff_exists.mp d
  have ho : Looks (model prog w) s.heap (opaqueClassAbove (.ref C)) none := looks_opaque X a
  have ht : Looks (model prog w) s.heap (typeOf (.ref C)) (.type "type") := looks_typeIn X b
  have hb : Looks (model prog w) s.heap (hookBefore (.type "type")) hk := looks_hook X d
  refine wpAny_bind (wpAny_mkText (wpAny_holding (wpAny_bind (ht _ _ _ _ (fun _ _ e => e) (wpAny_bind (looks_findIn X hga _ _ _ _ (fun _ _ e => e) ?_))))))
  dsimp only
  rw [show (onTheHeap (.type "type") && Value.builtin "type.__getattribute__" == Value.builtin "object.__getattribute__") = false from by rw [show (Value.builtin "type.__getattribute__" == Value.builtin "object.__getattribute__") = false from by decide +kernel, Bool.and_false], if_neg (by decide)]
  refine wpAny_bind (hb _ _ _ _ (fun _ _ e => e) (wpAny_bind (wpAny_attempt (wpAny_holding ?_))))
  unfold callGetattribute
  rw [show (expr && onTheHeap (Value.builtin "type.__getattribute__")) = false from Bool.and_false _, if_neg (by decide)]
  unfold boundAndCalled
  rw [KF.slot_tga.bind]
  refine wpAny_bind (wpAny_pure ?_)
  show wpAny _ _ (call (.builtin "type.__getattribute__") [.ref C, .str name s.toks]) _ _ _
  refine wpAny_call ?_
  refine codeAny_call_builtin KF.slot_tga.plain KF.entry_tga ?_
  refine @check_slot (model prog w) _ _ { s with toks := s.toks + 1 } "type.__getattribute__" "type" "__getattribute__" (.ref C) [.str name s.toks] [] _ (by decide +kernel) (by decide +kernel) (ht.andThen (looks_subIn X hi)) (KF.args_tga (.ref C) (.str name s.toks)) ?_
  obtain ⟨hp, g, d', t, os⟩ := s
  dsimp only at X ho ht h
  have L1 := looks_findIn (M := model prog w) X h1
  have L4 := looks_findIn (M := model prog w) X h4
  unfold Builtin.«type.__getattribute__»
  refine wpAny_bind (wpAny_pure (wpAny_bind (ho.at (wpAny_bind (ht.at (wpAny_bind (L1.at ?_)))))))
  refine wpAny_bind (wpAny_pure ?_)
  refine wpAny_bind (L4.at ?_)
  dsimp only
  rw [if_neg (by rw [hh]; decide), hT]
  refine wpAny_bind (wpAny_pure ?_)
  rw [if_neg (by decide), hg]
  refine wpAny_bind (wpAny_pure ?_)
  dsimp only
  rw [handedOut_of rfl]
  refine wpAny_bind (wpAny_pure ?_)
  show wpAny _ _ (pure (Fin.done (.ret (Value.type T)))) _ _ _
  refine wpAny_pure ?_
  show wpAny _ _ (handedOut (Value.type T)) _ _ _
  rw [handedOut_of rfl]
  exact wpAny_pure h
theorem int_type : typeOf (.type "int") = pure (.type "type") := by kernel_rfl
theorem int_noget : specialOf (.type "int") "__get__" = pure none := by kernel_rfl
end
-- part U0
section
open PySem.Builtin PySem.Builtin.Bytes PySem.Builtin.Struct
theorem plainExc_struct : PlainExc "struct.error" :=
  ⟨fun args => by unfold ownMembersOf; split <;> first | rfl | (rename_i h; revert h; decide) | simp_all, by decide +kernel⟩
def bigFour : Format := { bigEndian := true, native := false, codes := [⟨'B', 1, 0, 1⟩, ⟨'B', 1, 1, 1⟩, ⟨'B', 1, 2, 1⟩, ⟨'B', 1, 3, 1⟩], size := 4, items := 4 }
theorem parse_four : parse #[62, 66, 66, 66, 66] = pure bigFour := by kernel_rfl
theorem fmt_four (t : Tok) : formatBytes (.str ">BBBB" t) = pure #[62, 66, 66, 66, 66] := by kernel_rfl
theorem args_unpack (a b : Value) : argsOk "_struct.unpack" ⟨[a, b], []⟩ := by unfold argsOk; kernel_rfl
theorem kind_unpack : builtinKind "_struct.unpack" = none := by decide +kernel
theorem plain_unpack : plainId "_struct.unpack" = true := by decide +kernel
theorem entry_unpack : entryFor table "_struct.unpack" = some Builtin.«_struct.unpack» := by first | exact entryFor_of_fast (by kernel_rfl) | exact entryFor_of_tree (by kernel_rfl)
theorem unpack_bad {prog : Program} {w : World} {A : Around} {E : Value → Shared → Prop} {s : Shared} {b : Array UInt8} {t u : Tok} {Q : Value → Shared → Prop} (hb : b.size ≠ 4) (hh : A.handled = none)
    (h : ∀ h' tk e, Heap.NewExc s.heap h' e "struct.error" → E (.ref e) { s with heap := h', toks := tk }) : wpAny (model prog w) A (call (.builtin "_struct.unpack") [.str ">BBBB" t, .bytes b u]) Q E s := by
  refine kmb_tree kind_unpack plain_unpack entry_unpack (args_unpack _ _) ?_
  unfold Builtin.«_struct.unpack»
  refine wpAny_bind (wpAny_of_eq (a := ()) rfl ?_)
  refine wpAny_bind (wpAny_of_eq (a := ()) rfl ?_)
  unfold moduleFormat
  refine wpAny_bind (wpAny_bind (wpAny_of_eq (a := Value.type "str") rfl ?_))
  refine PySem.bm_if_false (by decide) ?_
  refine wpAny_bind (wpAny_of_eq (fmt_four t) ?_)
  refine wpAny_of_eq parse_four ?_
  unfold unpackExact
  refine wpAny_bind (wpAny_of_eq KBd.like_eq ?_)
  refine wpAny_bind (wpAny_of_eq (a := bigFour) rfl ?_)
  have hne : (b.size != bigFour.size) = true := by simpa [bigFour] using hb
  rw [if_pos hne]
  refine wpAny_bind (wpAny_bind (wpAny_of_eq (a := ()) rfl ?_))
  refine wpAny_pure (wpAny_bind ?_)
  refine wpAny_raiseErrorMade plainExc_struct hh h ?_
  rw [sizeLine_eq]; decide +kernel
end
-- part G7
section
variable {prog : Program} {w : World} {A : Around} {E : Value → Shared → Prop} {s : Shared} {env : Env}
theorem w_While {test : PySem.Expr} {body : List Stmt} {pos : Pos} {Q : Flow → Shared → Prop} (I : Nat → Shared → Prop)
    (turn : ∀ n s, I n s → wpAny (model prog w) A (isTrue test env (eval test env)) (fun b s₂ => if b = true then wpAny (model prog w) A (execs body env) (fun f s₃ => match f with | .next => ∃ k, k < n ∧ I k s₃ | _ => False) (fun _ _ => False) s₂ else Q .next s₂) (fun _ _ => False) s)
    (n : Nat) (h : I n s) : wpAny (model prog w) A (exec (.While test body [] pos) env) Q E s := by
  refine wpAny_While ?_
  refine codeAny_mono (R := fun r s' => match r with | .ok f => Q f s' | .error _ => False) ?_ (fun r s' hr => ?_)
  · refine codeAny_loop (I := I) rfl (fun n s hI => ?_) n h
    show wpAny _ A ((whileTurn test body [] env).onRaise (fun x => do noteFrame x env; theTreesLotGoes x)) _ _ s
    refine wpAny_onRaise (wpAny_mono (Q := fun fin s' => match fin with | .done f => Q f s' | .again c' => c' = .whileLoop test body [] env ∧ ∃ m, m < n ∧ I m s') (E := fun _ _ => False) ?_ (fun fin s' hf => ?_) (fun _ _ x => x.elim))
    · simp only [whileTurn]
      refine wpAny_bind (wpAny_mono (turn n s hI) (fun b s₂ h₂ => ?_) fun _ _ x => x)
      cases b with
      | false =>
        rw [if_neg Bool.false_ne_true] at h₂
        simp only [Bool.false_eq_true, if_false]
        exact wpAny_bind (wpAny_execs_nil (wpAny_pure h₂))
      | true =>
        rw [if_pos rfl] at h₂
        simp only [if_true]
        refine wpAny_bind (wpAny_mono h₂ (fun f s₃ h₄ => ?_) fun _ _ x => x)
        cases f with
        | next => exact wpAny_pure ⟨rfl, h₄⟩
        | cont => exact h₄.elim
        | brk => exact h₄.elim
        | ret v => exact h₄.elim
    · cases fin with
      | done f => exact hf
      | again c' => exact hf
  · cases r with
    | ok f => exact hr
    | error e => exact hr.elim
end
-- part R1
section
variable {prog : Program} {w : World} {A : Around} {E : Value → Shared → Prop} {s : Shared}
abbrev ritObj (n : Int) : Obj := { cls := .type "range_iterator", data := .fields #[rawInt (0 + (n - 1) * 1), rawInt n, rawInt (-1)] }
theorem call_range_reversed {r : Addr} {n : Int} {t u v : Tok} {Q : Value → Shared → Prop} (hr : IsRange s.heap r 0 n 1 t u v) (hn : n = 1 ∨ n = 2 ∨ n = 4 ∨ n = 8)
    (h : Q (.ref s.heap.objs.size) { s with heap := s.heap.push (ritObj n) }) : wpAny (model prog w) A (call (.builtin "range.__reversed__") [.ref r]) Q E s := by
  have hT : s.TypeIs (.ref r) "range" := ⟨_, hr, rfl⟩
  refine wpAny_call_entry F.slot_range_reversed hT F.entry_range_reversed ?_ (F.args_range_reversed_1 _)
  unfold Builtin.«range.__reversed__»
  refine wpAny_bind (wpAny_of_eq (a := Value.ref r) rfl ?_)
  unfold Builtin.Range.rangeFields
  refine wpAny_bind (wpAny_bind (wpAny_field hr rfl (x := .int 0 t) rfl ?_))
  refine wpAny_bind (wpAny_of_eq (a := some 0) rfl ?_)
  refine wpAny_bind (wpAny_field hr rfl (x := .int n u) rfl ?_)
  refine wpAny_bind (wpAny_of_eq (a := some n) rfl ?_)
  refine wpAny_bind (wpAny_field hr rfl (x := .int 1 v) rfl ?_)
  refine wpAny_bind (wpAny_of_eq (a := some 1) rfl ?_)
  refine wpAny_pure ?_
  dsimp only
  have hs : Builtin.Range.rangeSize 0 n 1 = n := by rcases hn with rfl | rfl | rfl | rfl <;> decide
  rw [hs]
  have hsm : (Builtin.Range.rangeFitsLong 0 && Builtin.Range.rangeFitsLong n && Builtin.Range.rangeFitsLong 1 && Builtin.Range.rangeFitsLong (-1) && Builtin.Range.rangeFitsLong (0 - 1) && Builtin.Range.rangeFitsLong n) = true := by rcases hn with rfl | rfl | rfl | rfl <;> decide
  simp only [hsm, Bool.not_true, Bool.false_eq_true, if_false, if_true]
  refine wpAny_bind ?_
  unfold newFields
  exact wpAny_newObj_type (wpAny_pure ⟨_, rfl, h⟩)
theorem code_reversed_new_range {r : Addr} {n : Int} {t u v : Tok} {Q₁ : Value → Shared → Prop} (hr : IsRange s.heap r 0 n 1 t u v) (hn : n = 1 ∨ n = 2 ∨ n = 4 ∨ n = 8)
    (h : Q₁ (.ref s.heap.objs.size) { s with heap := s.heap.push (ritObj n) }) :
    codeAny (model prog w) A (.call (.builtin "reversed.__new__") ⟨[.type "reversed", .ref r], []⟩) (wants Q₁ E) s := by
  have hT : s.TypeIs (.ref r) "range" := ⟨_, hr, rfl⟩
  refine codeAny_of_tree ?_
  show wpAny _ A.in1 (do checkBuiltinCall "reversed.__new__" ⟨[.type "reversed", .ref r], []⟩; again (.builtin "reversed.__new__" ⟨[.type "reversed", .ref r], []⟩)) _ _ s
  refine wpAny_bind (wpAny_of_eq (F.newCall_reversed_1 _) (wpAny_pure ⟨plainId_quiet F.plain_reversed_new _, codeAny_builtin F.entry_reversed_new ?_⟩))
  rw [Around.under_plainId F.plain_reversed_new _]
  unfold Builtin.«reversed.__new__»
  refine wpAny_bind (wpAny_of_eq (newClass_reversed _) ?_)
  try dsimp only
  refine wpAny_bind (wpAny_of_eq (a := ()) (by first | rfl | kernel_rfl) ?_)
  refine wpAny_bind (wpAny_of_eq (a := ()) (by first | rfl | kernel_rfl) ?_)
  try dsimp only
  refine wpAny_bind (wpAny_specialOf hT F.slot_range_reversed.lookup ?_)
  try dsimp only
  refine wpAny_bind (wpAny_of_eq (F.slot_range_reversed.bind _) ?_)
  try dsimp only
  first
  | rw [if_neg (show ¬ ((Value.builtin "range.__reversed__" == Value.none) = true) from Bool.false_ne_true)]
  | (show wpAny _ _ (if (Value.builtin "range.__reversed__" == Value.none) = true then _ else _) _ _ _; rw [if_neg (show ¬ ((Value.builtin "range.__reversed__" == Value.none) = true) from Bool.false_ne_true)])
  refine wpAny_bind (wpAny_rule ?_)
  refine wpAny_bind (m := runValue (.call (.builtin "range.__reversed__") ⟨[.ref r], []⟩)) (show wpAny _ _ (call (.builtin "range.__reversed__") [.ref r]) _ _ _ from call_range_reversed hr hn ?_)
  first
  | exact wpAny_pure h
  | exact wpAny_bind (wpAny_pure (wpAny_pure h))
theorem sub_rit_reversed : isSubtype (.type "range_iterator") (.type "reversed") = pure false := by rw [isSubtype_type]; kernel_rfl
theorem call_reversed_range {r : Addr} {n : Int} {t u v : Tok} {Q : Value → Shared → Prop} (hr : IsRange s.heap r 0 n 1 t u v) (hn : n = 1 ∨ n = 2 ∨ n = 4 ∨ n = 8)
    (h : Q (.ref s.heap.objs.size) { s with heap := s.heap.push (ritObj n) }) : wpAny (model prog w) A (call (.type "reversed") [.ref r]) Q E s := by
  refine callType_other (U := "range_iterator") (Q₁ := fun obj s₁ => obj = .ref s.heap.objs.size ∧ s₁ = { s with heap := s.heap.push (ritObj n) }) (by decide +kernel) F.create_reversed ⟨_, _, F.mro_reversed⟩ F.made_reversed sub_rit_reversed (F.typeCall_reversed_1 _) (code_reversed_new_range hr hn ⟨rfl, rfl⟩) ?_
  rintro obj s₁ ⟨rfl, rfl⟩
  exact ⟨⟨_, Heap.get?_push_size _ rfl, rfl⟩, h⟩
end
-- part G8
section
variable {prog : Program} {w : World} {A : Around} {E : Value → Shared → Prop} {s : Shared} {env : Env}
theorem w_ForLoop {x : Str} {px : Pos} {body : List Stmt} {Q : Flow → Shared → Prop} {it : Value} (I : Nat → Shared → Prop)
    (turn : ∀ n s, I n s → wpAny (model prog w) A (pyNext it) (fun r s₁ => match r with
      | none => Q .next s₁
      | some v => wpAny (model prog w) A (bindName env x v) (fun _ s₂ => wpAny (model prog w) A (execs body env) (fun f s₃ => match f with | .next => ∃ k, k < n ∧ I k s₃ | _ => False) (fun _ _ => False) s₂) (fun _ _ => False) s₁) (fun _ _ => False) s)
    (n : Nat) (h : I n s) : codeAny (model prog w) A (.forLoop (.Name x px) it body [] env) (fun r s' => match r with | .ok f => Q f s' | .error _ => False) s := by
  induction n using Nat.strongRecOn generalizing s with
  | ind n ih =>
    refine codeAny_of_tree ?_
    show wpAny _ A ((forTurn (.Name x px) it body [] env).onRaise (fun x => do noteFrame x env; theTreesLotGoes x)) _ _ s
    refine wpAny_onRaise (wpAny_mono (E := fun _ _ => False) ?_ (fun _ _ x => x) (fun _ _ x => x.elim))
    unfold forTurn
    refine wpAny_bind (wpAny_standAt (wpAny_bind (wpAny_onRaise (wpAny_mono (turn n s h) (fun r s₁ h₁ => ?_) fun _ _ x => x.elim))))
    cases r with
    | none =>
      refine wpAny_pure ⟨rfl, codeAny_of_tree ?_⟩
      show wpAny _ A (do return Fin.done (← (execs [] env).onRaise (fun x => do noteFrame x env; theTreesLotGoes x))) _ _ s₁
      exact wpAny_bind (wpAny_onRaise (wpAny_execs_nil (wpAny_pure h₁)))
    | some v =>
      dsimp only
      refine wpAny_bind (wpAny_of_eq (a := ()) rfl ?_)
      refine wpAny_bind ?_
      show wpAny _ _ (do standAt px; bindName env x v) _ _ _
      refine wpAny_bind (wpAny_standAt (wpAny_mono h₁ (fun _ s₂ h₂ => ?_) fun _ _ x => x))
      refine wpAny_bind (wpAny_mono h₂ (fun f s₃ h₃ => ?_) fun _ _ x => x)
      cases f with
      | next => obtain ⟨k, hk, hI⟩ := h₃; exact wpAny_pure ⟨rfl, ih k hk hI⟩
      | cont => exact h₃.elim
      | brk => exact h₃.elim
      | ret v => exact h₃.elim
theorem g_ForLoop {x : Str} {px : Pos} {body : List Stmt} {Q : Flow → Shared → Prop} {it : Value} (I : Nat → Shared → Prop)
    (turn : ∀ n s, I n s → wpAny (model prog w) A (pyNext it) (fun r s₁ => match r with
      | none => Q .next s₁
      | some v => wpAny (model prog w) A (bindName env x v) (fun _ s₂ => gAny (model prog w) A (execs body env) (fun f s₃ => match f with | .next => ∃ k, k < n ∧ I k s₃ | _ => False) (fun _ _ => False) s₂) (fun _ _ => False) s₁) (fun _ _ => False) s)
    (n : Nat) (h : I n s) : gCode (model prog w) A (.forLoop (.Name x px) it body [] env) (fun r s' => match r with | .ok f => Q f s' | .error _ => False) s := by
  induction n using Nat.strongRecOn generalizing s with
  | ind n ih =>
    refine gCode_of_tree rfl ?_
    show gAny _ A ((forTurn (.Name x px) it body [] env).onRaise (fun x => do noteFrame x env; theTreesLotGoes x)) _ _ s
    refine g_onRaise (g_mono (E := fun _ _ => False) ?_ (fun _ _ x => x) (fun _ _ x => x.elim))
    unfold forTurn
    refine g_bindL (wpAny_standAt (g_bindL (wpAny_onRaise (wpAny_mono (turn n s h) (fun r s₁ h₁ => ?_) fun _ _ x => x.elim))))
    cases r with
    | none =>
      refine g_pure ⟨rfl, gCode_of_tree rfl ?_⟩
      show gAny _ A (do return Fin.done (← (execs [] env).onRaise (fun x => do noteFrame x env; theTreesLotGoes x))) _ _ s₁
      exact g_of (wpAny_bind (wpAny_onRaise (wpAny_execs_nil (wpAny_pure h₁))))
    | some v =>
      dsimp only
      refine g_bindL (wpAny_of_eq (a := ()) rfl ?_)
      refine g_bindL ?_
      show wpAny _ _ (do standAt px; bindName env x v) _ _ _
      refine wpAny_bind (wpAny_standAt (wpAny_mono h₁ (fun _ s₂ h₂ => ?_) fun _ _ x => x))
      refine g_bind (g_mono h₂ (fun f s₃ h₃ => ?_) fun _ _ x => x)
      cases f with
      | next => obtain ⟨k, hk, hI⟩ := h₃; exact g_pure ⟨rfl, ih k hk hI⟩
      | cont => exact h₃.elim
      | brk => exact h₃.elim
      | ret v => exact h₃.elim
theorem w_For {x : Str} {px pos : Pos} {iter : PySem.Expr} {body : List Stmt} {Q : Flow → Shared → Prop}
    (h : wpAny (model prog w) A (eval iter env) (fun v s₁ => wpAny (model prog w) A (pyIter v) (fun it s₂ => codeAny (model prog w) A (.forLoop (.Name x px) it body [] env) (fun r s' => match r with | .ok f => Q f s' | .error _ => False) s₂) E s₁) E s)
    (hf : ∀ v, foldedSetIterable iter env v = pure v := by intro _; rfl) : wpAny (model prog w) A (exec (.For (.Name x px) iter body [] pos) env) Q E s := by
  rw [arm_exec_For]
  refine wpAny_bind (wpAny_standAt (wpAny_bind (wpAny_mono h (fun v s₁ h₁ => ?_) fun _ _ x => x)))
  rw [hf]
  refine wpAny_bind (wpAny_pure (wpAny_bind (wpAny_standAt (wpAny_bind (wpAny_holding (wpAny_mono h₁ (fun it s₂ h₂ => ?_) fun _ _ x => x))))))
  refine wpAny_runOwn (codeAny_mono h₂ fun r s' hr => ?_)
  cases r with
  | ok f => exact hr
  | error e => exact hr.elim
theorem g_For {x : Str} {px pos : Pos} {iter : PySem.Expr} {body : List Stmt} {Q : Flow → Shared → Prop}
    (h : wpAny (model prog w) A (eval iter env) (fun v s₁ => wpAny (model prog w) A (pyIter v) (fun it s₂ => gCode (model prog w) A (.forLoop (.Name x px) it body [] env) (fun r s' => match r with | .ok f => Q f s' | .error _ => False) s₂) E s₁) E s)
    (hf : ∀ v, foldedSetIterable iter env v = pure v := by intro _; rfl) : gAny (model prog w) A (exec (.For (.Name x px) iter body [] pos) env) Q E s := by
  rw [arm_exec_For]
  refine g_bindL (wpAny_standAt (g_bindL (wpAny_mono h (fun v s₁ h₁ => ?_) fun _ _ x => x)))
  rw [hf]
  refine g_bindL (wpAny_pure (g_bindL (wpAny_standAt (g_bindL (wpAny_holding (wpAny_mono h₁ (fun it s₂ h₂ => ?_) fun _ _ x => x))))))
  unfold runOwn
  refine g_onRaise (g_run (gCode_mono h₂ fun r s' hr => ?_))
  cases r with
  | ok f => exact hr
  | error e => exact hr.elim
end
-- part R2
section
variable {prog : Program} {w : World} {A : Around} {E : Value → Shared → Prop} {s : Shared} {g : Heap} {L it : Addr} {MM : Str → Option Value} {news : List (Addr × Obj)}
abbrev ritO (k : Int) : Obj := { cls := .type "range_iterator", dict := none, data := .fields #[rawInt (k - 1), rawInt k, rawInt (-1)], slots := #[] }
theorem rit_next {k : Int} {Q : Option Value → Shared → Prop} (F : Fr g L s.heap MM) (N : News g L s.heap ((it, ritO k) :: news)) (hne : ∀ p ∈ news, p.1 ≠ it) (hk : 0 < k)
    (h : ∀ h', Fr g L h' MM → News g L h' ((it, ritO (k - 1)) :: news) → Q (some (.int (k - 1) s.toks)) { s with heap := h', toks := s.toks + 1 }) : wpAny (model prog w) A (pyNext (.ref it)) Q E s := by
  have z := N (it, ritO k) (.head _)
  refine wpAny_pyNext_range_item (it := it) (x := k - 1) (left := k) (step := -1) z.1 hk fun h' hi hs => ?_
  have e : k - 1 + -1 = (k - 1) - 1 := by omega
  rw [e] at hi
  exact h h' (F.change hs z.2.1 z.2.2) (news_set (pre := []) N (fun _ h => nomatch h) hne hs hi)
theorem rit_end {Q : Option Value → Shared → Prop} (hh : A.handled = none) (F : Fr g L s.heap MM) (N : News g L s.heap ((it, ritO 0) :: news)) (hne : ∀ p ∈ news, p.1 ≠ it)
    (h : ∀ h', Fr g L h' MM → News g L h' news → Q none { s with heap := h' }) : wpAny (model prog w) A (pyNext (.ref it)) Q E s := by
  have z := N (it, ritO 0) (.head _)
  refine wpAny_pyNext_range_end hh (it := it) (x := 0 - 1) (left := 0) (step := -1) z.1 (by omega) fun h' hx => ?_
  obtain ⟨oL, a1, a2, hoL, a3⟩ := F.ns
  refine h h' ⟨⟨oL, a1, a2, hx _ _ (Ne.symm z.2.1) hoL, a3⟩, fun b o e => hx b o ?_ (F.keep b o e), F.above⟩ fun p hp => ⟨hx _ _ (hne p hp) (N p (.tail _ hp)).1, (N p (.tail _ hp)).2⟩
  rintro rfl
  rw [z.2.2] at e; cases e
theorem reversed_range_N {r : Addr} {n : Int} {t u v : Tok} {Q : Value → Shared → Prop} (F : Fr g L s.heap MM) (N : News g L s.heap news) (hr : IsRange s.heap r 0 n 1 t u v) (hn : n = 1 ∨ n = 2 ∨ n = 4 ∨ n = 8)
    (h : ∀ it h', Fr g L h' MM → News g L h' ((it, ritO n) :: news) → (∀ p ∈ news, p.1 < it) → Q (.ref it) { s with heap := h' }) : wpAny (model prog w) A (call (.type "reversed") [.ref r]) Q E s := by
  refine call_reversed_range hr hn ?_
  have e : ritObj n = ritO n := by unfold ritObj ritO; rw [show 0 + (n - 1) * 1 = n - 1 by omega]
  rw [e]
  exact h _ _ (F.push _) (News.push F N _) fun p hp => Heap.lt_size (N p hp).1
end
-- part Q1
def digit (wr : Int) (j : Nat) : Int := (wr.fdiv (256 ^ j)).fmod 256
def octs (P : List Int) : List UInt8 := P.reverse.map fun i => UInt8.ofNat i.toNat
def Small (P : List Int) : Prop := ∀ i ∈ P, 0 ≤ i ∧ i < 256
theorem octs_append (P R : List Int) : octs (P ++ R) = octs R ++ octs P := by
  unfold octs; rw [List.reverse_append, List.map_append]
theorem octs_length (P : List Int) : (octs P).length = P.length := by
  unfold octs; rw [List.length_map, List.length_reverse]
theorem octs_zeros (n : Nat) : octs (List.replicate n 0) = List.replicate n 0 := by
  unfold octs; rw [List.reverse_replicate, List.map_replicate]; rfl
theorem digit_small (wr : Int) (j : Nat) : 0 ≤ digit wr j ∧ digit wr j < 256 := by
  unfold digit
  exact ⟨Int.fmod_nonneg_of_pos _ (by decide), Int.fmod_lt_of_pos _ (by decide)⟩
theorem digit_nat (v : Nat) (j : Nat) : digit (v : Int) j = ((v / 256 ^ j % 256 : Nat) : Int) := by
  unfold digit
  have e : ((256 : Int) ^ j) = ((256 ^ j : Nat) : Int) := by norm_cast
  rw [e, Int.fdiv_eq_ediv_of_nonneg _ (Int.natCast_nonneg _), Int.fmod_eq_emod_of_nonneg _ (by decide)]
  norm_cast
def digL (wr : Int) (wd k : Nat) : List Int := (List.range (wd - k)).map fun i => digit wr (wd - 1 - i)
theorem digL_top (wr : Int) (wd : Nat) : digL wr wd wd = [] := by unfold digL; rw [Nat.sub_self]; rfl
theorem digL_step (wr : Int) {wd k : Nat} (h : k < wd) : digL wr wd k = digL wr wd (k + 1) ++ [digit wr k] := by
  unfold digL
  rw [show wd - k = (wd - (k + 1)) + 1 by omega, List.range_succ, List.map_append]
  simp only [List.map_cons, List.map_nil]
  rw [show wd - 1 - (wd - (k + 1)) = k by omega]
theorem digL_length (wr : Int) (wd k : Nat) : (digL wr wd k).length = wd - k := by
  unfold digL; rw [List.length_map, List.length_range]
theorem digL_small (wr : Int) (wd k : Nat) : Small (digL wr wd k) := by
  intro i hi
  unfold digL at hi
  obtain ⟨j, _, rfl⟩ := List.mem_map.mp hi
  exact digit_small _ _
theorem octs_digL (v : Nat) (wd : Nat) : octs (digL (v : Int) wd 0) = (List.range wd).map fun j => (v / 256 ^ j % 256).toUInt8 := by
  unfold octs digL
  apply List.ext_getElem
  · simp
  intro i h1 h2
  simp only [List.length_map, List.length_reverse, List.length_range, Nat.sub_zero] at h1 h2
  simp only [List.getElem_map, List.getElem_reverse, List.length_map, List.length_range, List.getElem_range, Nat.sub_zero]
  rw [digit_nat, show wd - 1 - (wd - 1 - i) = i by omega, Int.toNat_natCast]
theorem octs_bytes (x : Int) (wd : Nat) : octs (digL (x.fmod (2 ^ (8 * wd))) wd 0) = (Builtin.Struct.intBytes false wd x).toList := by
  have e : ((2 : Int) ^ (8 * wd)) = ((2 ^ (8 * wd) : Nat) : Int) := by norm_cast
  have hp : 0 < 2 ^ (8 * wd) := Nat.two_pow_pos _
  have h0 : 0 ≤ x % (2 ^ (8 * wd) : Int) := by rw [e]; exact Int.emod_nonneg _ (by omega)
  have hx : x.fmod (2 ^ (8 * wd)) = (((x % (2 ^ (8 * wd) : Int)).toNat : Nat) : Int) := by
    rw [Int.toNat_of_nonneg h0, e, Int.fmod_eq_emod_of_nonneg _ (Int.natCast_nonneg _)]
  rw [hx, octs_digL]
  unfold Builtin.Struct.intBytes Builtin.Memoryview.toLittleEndian
  rfl
theorem small_append {P R : List Int} (h : Small P) (k : Small R) : Small (P ++ R) := fun i hi => (List.mem_append.mp hi).elim (h i) (k i)
theorem small_zeros (n : Nat) : Small (List.replicate n 0) := fun i hi => by rw [(List.mem_replicate.mp hi).2]; decide
theorem small_nil : Small [] := fun _ h => nomatch h
-- part U1
section
variable {prog : Program} {w : World} {A : Around} {E : Value → Shared → Prop} {s : Shared} {value slice : PySem.Expr} {D : Addr} {k : Int} {u t1 t2 t3 t4 t5 t6 t7 t8 : Tok} {Q : Value → Shared → Prop}
theorem eight {k : Int} (h0 : 0 ≤ k) (h1 : k < 8) : k = 0 ∨ k = 1 ∨ k = 2 ∨ k = 3 ∨ k = 4 ∨ k = 5 ∨ k = 6 ∨ k = 7 := by omega
theorem widths_sub (hl : s.heap.IsList D #[.int 1 t1, .int 1 t2, .int 2 t3, .int 2 t4, .int 4 t5, .int 4 t6, .int 8 t7, .int 8 t8]) (h0 : 0 ≤ k) (h1 : k < 8)
    (h : ∀ t, Q (.int (([1, 1, 2, 2, 4, 4, 8, 8] : List Int).getD k.toNat 0) t) s)
    (hb : subscripted slice false (.ref D) (.int k u) = operate [.ref D, .int k u] (getItem (.ref D) (.int k u)) := by with_unfolding_all rfl) :
    wpAny (model prog w) A (subscriptTail value slice (.ref D) (.int k u)) Q E s := by
  refine tail_any hl.typeIs slot_list_getitem.lookup ?_ hb
  rcases eight h0 h1 with rfl | rfl | rfl | rfl | rfl | rfl | rfl | rfl <;> exact wpAny_getItem_list hl (by decide) (by decide) rfl (h _)
theorem five_sub (hl : IsTup s.heap D #[.int 0 t1, .int 1 t2, .int 2 t3, .int 3 t4, .int 5 t5]) (h0 : 0 ≤ k) (h1 : k < 5)
    (h : ∀ n : Nat, (n = 0 ∨ n = 1 ∨ n = 2 ∨ n = 3 ∨ n = 5) → ∀ t, Q (.int n t) s)
    (hb : subscripted slice false (.ref D) (.int k u) = operate [.ref D, .int k u] (getItem (.ref D) (.int k u)) := by with_unfolding_all rfl) :
    wpAny (model prog w) A (subscriptTail value slice (.ref D) (.int k u)) Q E s := by
  refine tail_any hl.typeIs slot_tuple_getitem.lookup ?_ hb
  have : k = 0 ∨ k = 1 ∨ k = 2 ∨ k = 3 ∨ k = 4 := by omega
  rcases this with rfl | rfl | rfl | rfl | rfl
  · exact getItem_tuple hl (by decide) (by decide) rfl rfl (h 0 (by decide) _)
  · exact getItem_tuple hl (by decide) (by decide) rfl rfl (h 1 (by decide) _)
  · exact getItem_tuple hl (by decide) (by decide) rfl rfl (h 2 (by decide) _)
  · exact getItem_tuple hl (by decide) (by decide) rfl rfl (h 3 (by decide) _)
  · exact getItem_tuple hl (by decide) (by decide) rfl rfl (h 5 (by decide) _)
theorem two_sub {a b : Int} (hl : IsTup s.heap D #[.int a t1, .int b t2]) (h0 : 0 ≤ k) (h1 : k < 2)
    (h : ∀ n : Int, (n = a ∨ n = b) → ∀ t, Q (.int n t) s)
    (hb : subscripted slice false (.ref D) (.int k u) = operate [.ref D, .int k u] (getItem (.ref D) (.int k u)) := by with_unfolding_all rfl) :
    wpAny (model prog w) A (subscriptTail value slice (.ref D) (.int k u)) Q E s := by
  refine tail_any hl.typeIs slot_tuple_getitem.lookup ?_ hb
  have : k = 0 ∨ k = 1 := by omega
  rcases this with rfl | rfl
  · exact getItem_tuple hl (by decide) (by decide) rfl rfl (h a (.inl rfl) _)
  · exact getItem_tuple hl (by decide) (by decide) rfl rfl (h b (.inr rfl) _)
def kindOf (k d : Int) : Int := if d = 1 then k else if d = 2 then 2 else if d = 3 then 5 else 4
theorem kindOf_bd {k d : Int} (h0 : 0 ≤ k) (h1 : k < 8) : 0 ≤ kindOf k d ∧ kindOf k d < 8 := by
  unfold kindOf; split; · exact ⟨h0, h1⟩
  split; · decide
  split <;> decide
theorem kind_sub {c d : Int} (hl : IsTup s.heap D #[.int c t1, .int 2 t2, .int 5 t3, .int 4 t4]) (h0 : 1 ≤ d) (h1 : d < 5)
    (h : ∀ t, Q (.int (kindOf c d) t) s)
    (hb : subscripted slice false (.ref D) (.int (d - 1) u) = operate [.ref D, .int (d - 1) u] (getItem (.ref D) (.int (d - 1) u)) := by with_unfolding_all rfl) :
    wpAny (model prog w) A (subscriptTail value slice (.ref D) (.int (d - 1) u)) Q E s := by
  refine tail_any hl.typeIs slot_tuple_getitem.lookup ?_ hb
  have : d = 1 ∨ d = 2 ∨ d = 3 ∨ d = 4 := by omega
  rcases this with rfl | rfl | rfl | rfl
  · exact getItem_tuple hl (by decide) (by decide) rfl rfl (h _)
  · exact getItem_tuple hl (by decide) (by decide) rfl rfl (h _)
  · exact getItem_tuple hl (by decide) (by decide) rfl rfl (h _)
  · exact getItem_tuple hl (by decide) (by decide) rfl rfl (h _)
end
theorem cut_size {n : Nat} (h : n = 0 ∨ n = 1 ∨ n = 2 ∨ n = 3 ∨ n = 5) : (KBy.picked #[97, 98, 99, 100, 101] none (some (n : Int))).size ≠ 4 := by
  rcases h with rfl | rfl | rfl | rfl | rfl <;> decide +kernel
-- part G9
section
variable {prog : Program} {w : World} {A : Around} {E : Value → Shared → Prop} {s : Shared} {env : Env}
theorem g_Try {body : List Stmt} {h₀ : ExceptHandler} {hs : List ExceptHandler} {pos : Pos} {Q : Flow → Shared → Prop}
    (h : gAny (model prog w) A (execs body env) Q
      (fun e s₁ => wpAny (model prog w) A (noteFrame e env) (fun _ s₂ => wpAny (model prog w) A (setFlight e none) (fun _ s₃ => wpAny (model prog w) A (handleBy e env (h₀ :: hs)) Q E s₃) E s₂) E s₁) s) :
    gAny (model prog w) A (exec (.Try body (h₀ :: hs) [] [] pos) env) Q E s := by
  rw [arm_exec_Try]
  refine g_bindL (wpAny_standAt ?_)
  unfold tryStmt
  simp only [List.isEmpty_nil, if_true, List.isEmpty_cons, Bool.false_and, Bool.false_eq_true, if_false]
  refine g_bind (g_attempt (g_mono h (fun f s₁ h₁ => ?_) fun e s₁ h₁ => ?_))
  · cases f <;> first | exact g_pure h₁ | exact g_nil h₁
  · exact g_of (wpAny_bind (wpAny_mono h₁ (fun _ _ h₂ => wpAny_bind h₂) fun _ _ x => x))
end
/-- the callee's end where a handler may have turned the caller's frame -/
def LeaveT (fs : List Addr) (h₀ : Heap) (L : Addr) (m : Str → Option Value) (rest : List (Addr × Obj)) (g : Heap) (R : Result → Shared → Prop) (v : Value) (s' : Shared) : Prop :=
  ∃ g' L' m' news', KtsTurn fs g g' ∧ Fr g' L' s'.heap m' ∧ News g' L' s'.heap news' ∧ (Fr h₀ L s'.heap m → Sub h₀ L s'.heap news' rest → R (.ok (.ret v)) s')
theorem leaveT_ {fs : List Addr} {h₀ g g' : Heap} {L L' : Addr} {m m' : Str → Option Value} {rest news' : List (Addr × Obj)} {R : Result → Shared → Prop} {v : Value} {s' : Shared} (T : KtsTurn fs g g') (F' : Fr g' L' s'.heap m') (N' : News g' L' s'.heap news')
    (k : Fr h₀ L s'.heap m → Sub h₀ L s'.heap news' rest → R (.ok (.ret v)) s') : LeaveT fs h₀ L m rest g R v s' := ⟨g', L', m', news', T, F', N', k⟩
section
variable {prog : Program} {w : World} {A A₀ : Around} {s : Shared} {K : Frag} {L a : Addr} {h₀ base : Heap} {m mg mb : Str → Option Value} {news rest : List (Addr × Obj)} {p : Program} {loose : List Str} {mean : ExcName → Option Value} {cn : Str} {cs : Scope} {ccd : Value}
  {R : Result → Shared → Prop} {name qual : Str} {params : Arguments} {body : List Stmt} {scope : Scope} {dV kV doc pm cdv ct oc : Value} {an od : Option Addr} {osl : Array (Option Value)} {f : Addr} {args : Args} {binds : List (Str × Value)}
theorem g_defT (B : Below A₀ base [] h₀) (F : Fr h₀ L s.heap m) (X₀ : K.In h₀) (S : Sub h₀ L s.heap news rest) (T : Top p loose mean mg mb h₀) (hA : A.frames = some [envOf cn cs L a ccd]) (hck : cs.kind = .function)
    (ho : K.lookup f = some ⟨oc, od, .func (fnOf name qual params body scope dV kV doc pm an cdv ct), osl⟩) (hcd : codeIn K cdv qual = true) (hroom : A.depth < recursionLimit)
    (hbind : BindsTo s (fnOf name qual params body scope dV kV doc pm an cdv ct) args binds) (hloc : ∀ y ∈ binds, scope.names.lookup y.1 = some .local)
    (h : ∀ g L' h₁, Fr h₀ L g m → Fr g L' h₁ (fun y => binds.reverse.lookup y) → News g L' h₁ news → Below A base [envOf cn cs L a ccd] g → K.In g → Top p loose mean mg mb g → KtsDicts ([envOf cn cs L a ccd].filterMap (·.frame)) g →
      gAny (model prog w) (A.deeper (envOf qual scope L' f cdv)) (execs body (envOf qual scope L' f cdv))
        (fun fl s' => LeaveT ([envOf cn cs L a ccd].filterMap (·.frame)) h₀ L m rest g R (match fl with | .ret v => v | _ => .none) s')
        (fun e s' => wpAny (model prog w) (A.deeper (envOf qual scope L' f cdv)) (leaving (envOf qual scope L' f cdv) e) (fun _ s'' => R (.error e) s'') (fun e' s'' => R (.error e') s'') s')
        { s with heap := h₁, toks := s.toks + binds.length })
    (hco : scope.isCoroutine = false) (hgen : scope.isGenerator = false) (hk : scope.kind = .function)
    (hcell : ∀ x ∈ scope.names, x.2 ≠ .cell) : gCode (model prog w) A (.call (.ref f) args) R s := by
  have X := X₀.keeps F.keep
  refine gCode_call_def (fd := fnOf name qual params body scope dV kV doc pm an cdv ct) (body := body) (binds := binds) hroom (X _ _ ho) rfl (T.nolimit.keeps F.keep) (codeRec_of X hcd) rfl hbind hcell hloc (fun h₁ hns hk₁ => ?_) hco hgen hk
  obtain ⟨oL, es, ep, hLg, hLd, hN, hNs, st, B₂⟩ := kts_enter B F S.N hA hck
  have hrest : ∀ p ∈ rest, (hideAll s.heap (news.map (·.1))).get? p.1 = some p.2 := fun p hp => hideAll_get _ (S.R p hp).1 fun hm => by
    obtain ⟨q, hq, e⟩ := List.mem_map.mp hm
    exact S.D p hp q hq e.symm
  refine g_mono (h _ s.heap.objs.size h₁ ⟨hN _ hLg, st, F.above⟩ ⟨hns, fun b o e => hk₁ b o (of_hideAll _ e), Nat.le_of_eq (hideAll_size _ _)⟩
    (fun p hp => ⟨hk₁ _ _ (S.N p hp).1, Nat.ne_of_lt (Heap.lt_size (S.N p hp).1), hideAll_none _ (List.mem_map_of_mem hp)⟩) B₂ (X₀.keeps st) (T.keeps st) (fun b hb => by
      rcases kts_mem hb with rfl | z
      · exact ⟨oL, es, ep, hLg, hLd⟩
      · simp at z)) (fun fl s' hl => ?_) fun _ _ y => y
  obtain ⟨g', L', m', news', T', F', N', k⟩ := hl
  have nL₀ : h₀.get? L = none := kts_self F
  obtain ⟨sl, hs⟩ := T'.up hLg
  have hg' : ∀ p ∈ rest, g'.get? p.1 = some p.2 := fun p hp => T'.other _ _ (hrest p hp) (fun q => by
    rcases kts_mem q with z | z
    · exact (S.R p hp).2.1 z
    · simp at z)
  refine k ⟨hNs sl _ (F'.keep _ _ hs), fun b o e => F'.keep b o (T'.other b o (st b o e) (fun q => by
    rcases kts_mem q with z | z
    · rw [z, nL₀] at e
      cases e
    · simp at z)), F.above⟩ ⟨fun p hp => ⟨(N' p hp).1, fun q => ?_, ?_⟩, fun p hp => ⟨F'.keep _ _ (hg' p hp), (S.R p hp).2⟩, fun p hp q hq e => ?_⟩
  · have := (N' p hp).2.2; rw [q, hs] at this; cases this
  · cases q : h₀.get? p.1 with
    | none => rfl
    | some o =>
      obtain ⟨sl', hs'⟩ := T'.up (st _ _ q)
      have := (N' p hp).2.2
      rw [hs'] at this
      cases this
  · have := (N' q hq).2.2
    rw [← e, hg' p hp] at this
    cases this
end
-- part G10
theorem g_enter_call {M : Model} {A : Around} {s : Shared} {f : Value} {pos : List Value} {kw : List (Str × Value)} {c : ClaimW} {cl : Str → Option Addr} {mean : ExcName → Option Value} {args : List WData} {s₁ : Shared}
    (h : gCode M A (.call f ⟨pos, kw⟩) (GoodWG c cl mean args s₁) s) : gAny M A (PySem.call f pos kw) (fun v s' => GoodWG c cl mean args s₁ (.ok (.ret v)) s') (fun e s' => GoodWG c cl mean args s₁ (.error e) s') s :=
  g_call (gCode_mono h fun res s' g => by rcases g.1 with ⟨v, _, _, rfl, _⟩ | ⟨e, _, _, rfl, _⟩ <;> exact g)
theorem g_fullW {prog : Program} {w : World} {A : Around} {R : Result → Shared → Prop} {s : Shared} {name : Str} {params : Arguments} {body : List Stmt} {scope : Scope}
    {dV kV pm cd doc : Value} {a : Addr} {o : Obj} {args : Args} {binds : List (Str × Value)}
    (hroom : A.depth < recursionLimit) (ho : s.heap.get? a = some o) (hdata : o.data = .func { docDef name params body scope pm cd doc with defaults := dV, kwdefaults := kV }) (hlim : s.heap.NoLimit) (hcd : s.heap.CodeRec cd name)
    (hbind : BindsTo s { docDef name params body scope pm cd doc with defaults := dV, kwdefaults := kV } args binds)
    (hloc : ∀ x ∈ binds, scope.names.lookup x.1 = some .local)
    (h : ∀ h₁, Fr s.heap s.heap.objs.size h₁ (fun x => binds.reverse.lookup x) →
      gAny (model prog w) (A.deeper (envOf name scope s.heap.objs.size a cd)) (execs body (envOf name scope s.heap.objs.size a cd))
        (fun f s' => R (.ok (.ret (match f with | .ret v => v | _ => .none))) s')
        (fun e s' => wpAny (model prog w) (A.deeper (envOf name scope s.heap.objs.size a cd)) (leaving (envOf name scope s.heap.objs.size a cd) e)
          (fun _ s'' => R (.error e) s'') (fun e' s'' => R (.error e') s'') s')
        { s with heap := h₁, toks := s.toks + binds.length })
    (hco : scope.isCoroutine = false := by rfl) (hgen : scope.isGenerator = false := by rfl) (hk : scope.kind = .function := by rfl)
    (hcell : ∀ x ∈ scope.names, x.2 ≠ .cell := by decide) :
    gCode (model prog w) A (.call (.ref a) args) R s :=
  gCode_call_def hroom ho hdata hlim hcd rfl hbind hcell hloc (fun h₁ hns hkeep => h h₁ ⟨hns, hkeep, Nat.le_refl _⟩) hco hgen hk
-- part R3
def LitAt (o : Obj) (l : Addr) (i : Nat) : Prop := o.cls = .type "list_iterator" ∧ o.data = .fields #[.ref l, .int i 0]
section
variable {prog : Program} {w : World} {A : Around} {E : Value → Shared → Prop} {s : Shared} {g : Heap} {L it l : Addr} {MM : Str → Option Value} {news : List (Addr × Obj)} {its : Array Value} {nn : Nat} {o : Obj} {i : Nat}
theorem lit_next {x : Value} {Q : Option Value → Shared → Prop} (F : Fr g L s.heap MM) (N : News g L s.heap ((it, o) :: news)) (ho : LitAt o l i) (hl : (l, W.listOf its nn) ∈ news) (hne : ∀ p ∈ news, p.1 ≠ it) (hx : its[i]? = some x)
    (h : ∀ h' o', LitAt o' l (i + 1) → Fr g L h' MM → News g L h' ((it, o') :: news) → Q (some x) { s with heap := h' }) : wpAny (model prog w) A (pyNext (.ref it)) Q E s := by
  have z := N (it, o) (.head _)
  refine wpAny_pyNext_list_item (it := it) (l := l) (i := i) ⟨o, z.1, ho.1, ho.2⟩ (N.isList (.tail _ hl)) hx fun h' hi hs => ?_
  obtain ⟨o', h1, h2, h3⟩ := hi
  exact h h' o' ⟨h2, h3⟩ (F.change hs z.2.1 z.2.2) (news_set (pre := []) N (fun _ h => nomatch h) hne hs h1)
theorem lit_end {Q : Option Value → Shared → Prop} (hh : A.handled = none) (F : Fr g L s.heap MM) (N : News g L s.heap ((it, o) :: news)) (ho : LitAt o l i) (hl : (l, W.listOf its nn) ∈ news) (hne : ∀ p ∈ news, p.1 ≠ it) (hx : its[i]? = none)
    (h : ∀ h', Fr g L h' MM → News g L h' news → Q none { s with heap := h' }) : wpAny (model prog w) A (pyNext (.ref it)) Q E s := by
  have z := N (it, o) (.head _)
  refine wpAny_pyNext_list_end hh (it := it) (l := l) (i := i) ⟨o, z.1, ho.1, ho.2⟩ (N.isList (.tail _ hl)) hx fun h' hx => ?_
  obtain ⟨oL, a1, a2, hoL, a3⟩ := F.ns
  refine h h' ⟨⟨oL, a1, a2, hx _ _ (Ne.symm z.2.1) hoL, a3⟩, fun b o e => hx b o ?_ (F.keep b o e), F.above⟩ fun p hp => ⟨hx _ _ (hne p hp) (N p (.tail _ hp)).1, (N p (.tail _ hp)).2⟩
  rintro rfl
  rw [z.2.2] at e; cases e
theorem lit_make {Q : Value → Shared → Prop} (F : Fr g L s.heap MM) (N : News g L s.heap news) (hl : (l, W.listOf its nn) ∈ news)
    (h : ∀ it o h', LitAt o l 0 → Fr g L h' MM → News g L h' ((it, o) :: news) → (∀ p ∈ news, p.1 < it) → Q (.ref it) { s with heap := h' }) : wpAny (model prog w) A (pyIter (.ref l)) Q E s := by
  refine wpAny_pyIter_list (N.isList hl) ?_
  exact h _ _ _ ⟨rfl, rfl⟩ (F.push _) (News.push F N _) fun p hp => Heap.lt_size (N p hp).1
theorem g_isTrue_Compare1 {M : Model} {env : Env} {l r : PySem.Expr} {op : CmpOp} {pos : Pos} {whole : Sem Value} {Q : Bool → Shared → Prop}
    (h : gAny M A (eval l env) (fun a s₁ => wpAny M A (eval r env) (fun b s₂ => wpAny M A (compareOp op a b)
      (fun c s₃ => wpAny M A (truthy c) Q E s₃) E s₂) E s₁) E s)
    (hm : behindInMarks op r = false := by with_unfolding_all rfl) : gAny M A (isTrue (.Compare l [op] [r] pos) env whole) Q E s := fun Γ p hΓ hg => by
  simp only [isTrue_Compare1, markedBehindIn_of_false hm, Sem.wp_bind', Sem.wp_holding, Sem.wp_cmd_standAt, Sem.wp_operate]
  exact Sem.wp_mono M Γ _ (fun a p₁ s₁ h₁ => Sem.wp_mono M Γ _ (fun b _ s₂ h₂ => Sem.wp_mono M Γ _ (fun c p₃ s₃ h₃ => h₃ Γ p₃ hΓ)
    (fun _ _ _ h' => h') _ _ (h₂ Γ _ hΓ)) (fun _ _ _ h' => h') _ _ (h₁ Γ p₁ hΓ)) (fun _ _ _ h' => h') _ _ (h Γ p hΓ hg)
theorem g_isTrue_NotCall {M : Model} {env : Env} {f : PySem.Expr} {args : List PySem.Expr} {kws : List Keyword} {p1 pos : Pos} {whole : Sem Value} {Q : Bool → Shared → Prop}
    (h : gAny M A (eval (.Call f args kws p1) env) (fun v s₁ => wpAny M A (truthy v) (fun b s₂ => Q (!b) s₂) E s₁) E s)
    (he : isTrue (.Call f args kws p1) env (eval (.Call f args kws p1) env) = (do let v ← eval (.Call f args kws p1) env; holding [v] (truthy v)) := by rfl) : gAny M A (isTrue (.UnaryOp .Not (.Call f args kws p1) pos) env whole) Q E s := by
  rw [arm_isTrue_UnaryOp, he]
  exact g_bind (g_bind (g_mono h (fun v s₁ h₁ => g_of (wpAny_holding (wpAny_mono h₁ (fun b s₂ h₂ => g_pure h₂) fun _ _ x => x))) fun _ _ x => x))
end
-- part D1
local macro_rules | `(tactic| walk_at "my enter g") => `(tactic| (k_dflt (refine' g_def ?k1 ?k2 ?k3 ?k4 ?k5 ?kA ?kF ?kK ?k6 ?k7 ?k8 ?k9 ?kB ?_ ?c2 ?c3 ?c4 ?c5; (case kA => exact rfl); (case kF => exact rfl); (case kK => first | assumption | exact rfl); (case k1 => k_asm); (case k2 => k_asm); (case k3 => k_asm); (case k4 => k_asm); (case k5 => k_asm); (case k6 => k_is); (case k7 => k_is); (case k8 => ktr_room); (case k9 => first | exact BindsTo.of_eq rfl | exact binds_K (by k_in) rfl (by k_is) rfl rfl rfl); (case c5 => decide); (case kB => exact locs rfl); (case c2 => exact rfl); (case c3 => exact rfl); (case c4 => exact rfl); k_whole; intro g' L' h' FG' F' N' B' X' T'; (try dsimp only [led, bObj] at N'); (try dsimp only))))
local macro_rules | `(tactic| walk_at "my enter w") => `(tactic| (k_dflt (refine' w_def ?k1 ?k2 ?k3 ?k4 ?k5 ?kA ?kF ?kK ?k6 ?k7 ?k8 ?k9 ?kB ?_ ?c2 ?c3 ?c4 ?c5; (case kA => exact rfl); (case kF => exact rfl); (case kK => first | assumption | exact rfl); (case k1 => k_asm); (case k2 => k_asm); (case k3 => k_asm); (case k4 => k_asm); (case k5 => k_asm); (case k6 => k_is); (case k7 => k_is); (case k8 => ktr_room); (case k9 => first | exact BindsTo.of_eq rfl | exact binds_K (by k_in) rfl (by k_is) rfl rfl rfl); (case c5 => decide); (case kB => exact locs rfl); (case c2 => exact rfl); (case c3 => exact rfl); (case c4 => exact rfl); k_whole; intro g' L' h' FG' F' N' B' X' T'; (try dsimp only [led, bObj] at N'); (try dsimp only); (try k_fold))))
local macro_rules | `(tactic| walk_at "LeaveS2") => `(tactic| (k_dflt (refine' leaveS2_ ?k1 ?k2 ?_; (case k1 => k_asm); (case k2 => k_asm); k_whole); intro kF kS; (try dsimp only at kF kS); (try dsimp only)))
local macro_rules | `(tactic| walk_at "call builtin:len") => `(tactic| (k_here; (with_reducible show wpAny _ _ (call (Value.builtin "len") [Value.ref _]) _ _ _); k_dflt (refine' ba_len_N ?N ?m ?z ?_; (case N => k_asm); (case m => k_mem); (case z => walk_at "my size"); k_whole)))
local macro_rules | `(tactic| walk_at "my bounds") => `(tactic| first | (refine bounds_both ?_ ?_ ?_ ?_ <;> walk_at "my size") | (refine bounds_from ?_ ?_ <;> walk_at "my size"))
local macro_rules | `(tactic| walk_at "setItem ref ref ref") => `(tactic| (k_here; (with_reducible rename Fr _ _ _ _ => kF'); (with_reducible rename News _ _ _ _ => kN'); k_dflt (refine' set_ba_N (s := ⟨_, _, _, _, _⟩) kF' kN' ?hl ?hu ?hx ?hy ?hn ?hb ?h0 ?hc ?hs ?hz ?U ?_; (case hl => constructor); (case hu => constructor); (case hx => k_mem); (case hy => k_mem); (case hn => k_ne); (case hb => walk_at "my bounds"); (case h0 => walk_at "my size"); (case hc => walk_at "my size"); (case hs => walk_at "my size"); (case hz => walk_at "my size"); (case U => k_upd); k_whole); intro h' F' N'; (try k_sweep)))
local macro_rules | `(tactic| walk_at "call builtin:min") => `(tactic| (k_here; (with_unfolding_all refine' min_left ?k0 ?k1 ?k2 ?k3 ?_; (case k0 => rfl); (case k1 => k_asm); (case k2 => k_asm); (case k3 => walk_at "my size"); k_whole); intro h' tk' F' N'; (try k_sweep)))
local macro_rules | `(tactic| walk_at "gAny") => `(tactic| refine g_consL ?_)
local macro_rules | `(tactic| walk_at "gAny") => `(tactic| ((with_reducible show gAny _ _ (execs (Stmt.Expr (Expr.Call (Expr.Attribute _ _ _) _ _ _) _ :: _) _) _ _ _); k_dflt (refine g_cons (g_Expr ?_))))
local macro_rules | `(tactic| walk_at "gAny") => `(tactic| ((with_reducible show gAny _ _ (execs (Stmt.Assign [Expr.Name _ _] (Expr.Call (Expr.Name ("bytearray" : Str) _) _ _ _) _ :: _) _) _ _ _); k_dflt (refine g_cons (g_AssignName ?_))))
local macro_rules | `(tactic| walk_at "gAny") => `(tactic| ((with_reducible show gAny _ _ (execs (Stmt.Assign [Expr.Attribute _ _ _] (Expr.Call (Expr.Name ("bytearray" : Str) _) _ _ _) _ :: _) _) _ _ _); k_dflt (refine g_cons (g_AssignAttr ?_))))
local macro_rules | `(tactic| walk_at "gAny") => `(tactic| ((with_reducible show gAny _ _ (execs [] _) _ _ _); refine g_nil ?_))
local macro_rules | `(tactic| walk_at "gAny") => `(tactic| ((with_reducible show gAny _ _ (eval (Expr.Call (Expr.Attribute _ _ _) _ _ _) _) _ _ _); k_dflt (refine g_Method ?_)))
local macro_rules | `(tactic| walk_at "gAny") => `(tactic| ((with_reducible show gAny _ _ (eval (Expr.Call (Expr.Name _ _) _ _ _) _) _ _ _); k_dflt (refine g_CallName ?_)))
local macro_rules | `(tactic| walk_at "gAny") => `(tactic| ((with_reducible show gAny _ _ (callWith _ _ _ _ _) _ _ _); k_dflt (first
  | refine' g_callWith_K ?k1 ?k2 ?_; (case k1 => k_asm); (case k2 => k_is); k_whole
  | refine' g_callWith_K0 ?k1 ?k2 ?_; (case k1 => k_in); (case k2 => k_is); k_whole; try dsimp only [List.nil_append, List.cons_append, List.append_nil]
  | refine' g_callWith_KW ?k1 ?k2 ?k3 ?_; (case k1 => k_asm); (case k2 => k_is); (case k3 => exact rfl); k_whole
  | refine g_callWith_type1 ?_)))
local macro_rules | `(tactic| walk_at "gAny") => `(tactic| ((with_reducible show gAny _ _ (call (Value.type "bytearray") [Value.int _ _]) _ _ _); k_dflt (refine' g_bytearray_int_N ?F ?N ?g ?z ?y ?_; (case F => k_asm); (case N => k_asm); (case g => exact rfl); (case z => walk_at "my size"); (case y => walk_at "my size"); k_whole); intro D' h' F' N' l1; (try k_lt l1); (try k_sweep)))
local macro_rules | `(tactic| walk_at "my dec") => `(tactic| first | omega | (simp only [decide_eq_true_eq, decide_eq_false_iff_not, Bool.and_eq_true, Bool.or_eq_true, Bool.not_eq_true', Bool.not_eq_false', Bool.not_eq_true, bne_iff_ne, beq_iff_eq, ne_eq] at *; omega))
local macro_rules | `(tactic| walk_at "ite") => `(tactic| (k_openite; first
  | (refine ite_pos (by with_reducible assumption) ?_; walk_say "PRUNED")
  | (refine ite_neg (by with_reducible assumption) ?_; walk_say "PRUNED")
  | (refine ite_pos (by walk_at "my dec") ?_; walk_say "PRUNED by omega") | (refine ite_neg (by walk_at "my dec") ?_; walk_say "PRUNED by omega")))
local macro_rules | `(tactic| walk_at "gAny") => `(tactic| ((with_reducible show gAny _ _ (execs (Stmt.Assign [Expr.Subscript _ _ _] (Expr.BinOp _ _ _ _) _ :: _) _) _ _ _); k_dflt (refine g_cons (g_AssignSub ?_))))
local macro_rules | `(tactic| walk_at "gAny") => `(tactic| ((with_reducible show gAny _ _ (setItem (Value.ref _) (Value.ref _) (Value.bytes _ _)) _ _ _); (with_reducible rename Fr _ _ _ _ => kF'); (with_reducible rename News _ _ _ _ => kN'); k_dflt (refine' g_set_bytes_N (s := ⟨_, _, _, _, _⟩) kF' kN' ?g ?hl ?hu ?hx ?hb ?h0 ?hc ?hs ?hz ?U ?_; (case g => exact rfl); (case hl => constructor); (case hu => constructor); (case hx => k_mem); (case hb => walk_at "my bounds"); (case h0 => walk_at "my size"); (case hc => walk_at "my size"); (case hs => walk_at "my size"); (case hz => walk_at "my size"); (case U => k_upd); k_whole); intro h' F' N'; (try k_sweep)))
local macro_rules | `(tactic| walk_at "gAny") => `(tactic| ((with_reducible show gAny _ _ (execs (Stmt.While _ _ _ _ :: _) _) _ _ _); k_dflt (refine g_cons ?_)))
local macro_rules | `(tactic| walk_at "leaving ref") => `(tactic| (k_here; first
  | (refine' leave_raiseS ?k1 ?k0 ?k2 ?k3 ?_; (case k0 => first | assumption | exact Heap.MadeExc.of (by assumption)); (case k2 => assumption); (case k1 => assumption); (case k3 => k_asm); k_whole; intro h' t' S' R' U'; (have S'' := S'.toSN); clear R' S'; (try dsimp only at S'' U' ⊢))
  | (refine' leave_onSN ?k1 ?k2 ?k3 ?k4 ?_; (case k3 => assumption); (case k2 => assumption); (case k1 => assumption); (case k4 => assumption); k_whole; intro h' S' R' U'; clear R'; (try dsimp only at S' U' ⊢))
  | (refine' leave_newS ?k1 ?k0 ?k2 ?k3 ?_; (case k0 => assumption); (case k2 => assumption); (case k1 => assumption); (case k3 => k_asm); k_whole; intro h' S' R' U'; clear R'; (try dsimp only at S' U' ⊢))))
local macro_rules | `(tactic| walk_at "convS str") => `(tactic| ((refine SB.convS_str (hsz := ?hsz) ?_); (case hsz => (rw [sizeLine_eq]; omega)); intro _ _))
local macro_rules | `(tactic| walk_at "my sub") => `(tactic| (refine Sub.nil ?_; k_asm))
local macro_rules | `(tactic| walk_at "my back") => `(tactic| ((with_reducible rename Sub _ _ _ _ _ => kS'); (have kN' := kS'.news); (try dsimp only [led, bObj, List.append_nil, List.cons_append, List.nil_append] at kN'); clear kS'; (try k_sweep)))
local macro_rules | `(tactic| walk_at "my sub0") => `(tactic| ((with_reducible rename News _ _ _ _ => kN'); exact Sub.nil kN'))
local macro_rules | `(tactic| walk_at "gAny") => `(tactic| ((with_reducible show gAny _ _ (call (Value.ref 648) _) _ _ _); refine g_of ?_))
local macro_rules | `(tactic| walk_at "gAny") => `(tactic| ((with_reducible show gAny _ _ (call (Value.ref 655) _) _ _ _); refine g_of ?_))
local macro_rules | `(tactic| walk_at "gAny") => `(tactic| ((with_reducible show gAny _ _ (call (Value.ref 662) _) _ _ _); refine g_of ?_))
local macro_rules | `(tactic| walk_at "gAny") => `(tactic| ((with_reducible show gAny _ _ (call (Value.ref 669) _) _ _ _); refine g_of ?_))
local macro_rules | `(tactic| walk_at "gAny") => `(tactic| ((with_reducible show gAny _ _ (call (Value.ref 343) _) _ _ _); refine g_of ?_))
local macro_rules | `(tactic| walk_at "gAny") => `(tactic| ((with_reducible show gAny _ _ (call (Value.ref 336) _) _ _ _); refine g_of ?_))
local macro_rules | `(tactic| walk_at "gAny") => `(tactic| ((with_reducible show gAny _ _ (call (Value.ref 212) _) _ _ _); refine g_of ?_))
local macro_rules | `(tactic| walk_at "gAny") => `(tactic| ((with_reducible show gAny _ _ (call (Value.ref 219) _) _ _ _); refine g_of ?_))
local macro_rules | `(tactic| walk_at "gAny") => `(tactic| ((with_reducible show gAny _ _ (execs (Stmt.If _ (Stmt.Expr (Expr.Call (Expr.Attribute _ ("Prepend" : Str) _) _ _ _) _ :: _) _ _ :: _) _) _ _ _); k_dflt (refine g_cons (g_If ?_))))
local macro_rules | `(tactic| walk_at "gAny") => `(tactic| ((with_reducible show gAny _ _ (execs (Stmt.If _ (Stmt.Expr (Expr.Call (Expr.Attribute _ ("Prep" : Str) _) _ _ _) _ :: _) _ _ :: _) _) _ _ _); k_dflt (refine g_cons (g_If ?_))))
local macro_rules | `(tactic| walk_at "gAny") => `(tactic| ((with_reducible show gAny _ _ (execs (Stmt.Return (some (Expr.Call (Expr.Attribute _ _ _) _ _ _)) _ :: _) _) _ _ _); k_dflt (refine g_cons (g_Return ?_))))
local macro_rules | `(tactic| walk_at "gAny") => `(tactic| ((with_reducible show gAny _ _ (call (Value.ref 435) _) _ _ _); refine g_of ?_))
local macro_rules | `(tactic| walk_at "call builtin:_struct.unpack") => `(tactic| (k_here; k_dflt (refine' unpack_bad ?b ?h ?_; (case b => assumption); (case h => exact rfl); k_whole); intro h' tk' e' x'))
local macro_rules | `(tactic| walk_at "call type:bytes") => `(tactic| (k_here; (with_reducible show wpAny _ _ (call (Value.type "bytes") [Value.ref _]) _ _ _); k_dflt (refine' bytes_of_ba_N ?N ?m ?z ?_; (case N => k_asm); (case m => k_mem); (case z => (simp only [Array.size_extract]; omega)); k_whole); intro t' k'))
local macro_rules | `(tactic| walk_at "getAttr ref") => `(tactic| (k_here; (with_reducible show wpAny _ _ (getAttr (Value.ref _) ("py_type" : Str) _) _ _ _); k_dflt (refine' cls_typeval ?x ?r ?h1 ?h4 ?hh int_type int_noget ?_; (case x => k_in); (case r => k_is); (case h1 => k_is); (case h4 => k_is); (case hh => decide); k_whole)))
local macro_rules | `(tactic| walk_at "binaryOp Pow int int") => `(tactic| (k_here; (with_reducible refine pow_int_small ?kb1 ?kb2 ?kb3 ?_); (case kb1 => omega); (case kb2 => omega); (case kb3 => decide)))
local macro_rules | `(tactic| walk_at "call builtin:len") => `(tactic| (k_here; (with_reducible show wpAny _ _ (call (Value.builtin "len") [Value.ref _]) _ _ _); k_dflt (refine' PyProof.Rows.len_list ?k1 ?k2 ?_; (case k1 => exact News.isList (by k_asm) (by k_mem)); (case k2 => omega); k_whole)))
theorem flat0 (n : Nat) : ((List.replicate n [(0 : UInt8)]).flatten).toArray = Array.replicate n 0 := by
  induction n with
  | zero => rfl
  | succ n ih => rw [List.replicate_succ, List.flatten_cons, ← List.append_toArray, ih, Array.replicate_succ']
def growN (n : Nat) : Nat := if n = 0 then 1 else 2 * n
def grow (b : Array UInt8) : Array UInt8 := Array.replicate (growN b.size - b.size) 0 ++ b
theorem Sub.sub {h₀ : Heap} {L : Addr} {h : Heap} {all news rest : List (Addr × Obj)} (S : Sub h₀ L h all rest) (hs : ∀ p ∈ news, p ∈ all) : Sub h₀ L h news rest := ⟨fun p hp => S.N p (hs p hp), S.R, fun p hp q hq => S.D p hp q (hs q hq)⟩
theorem putAt_end (b : Array UInt8) (n : Nat) (hn : b.size ≤ n) : putAt (Array.replicate n 0) (n - b.size) b = Array.replicate (n - b.size) 0 ++ b := by
  unfold putAt
  apply Array.ext
  · simp only [Array.size_append, Array.size_extract, Array.size_replicate]; omega
  · intro i h1 h2
    simp only [Array.size_append, Array.size_extract, Array.size_replicate] at h1 h2
    simp only [Array.getElem_append, Array.size_append, Array.size_extract, Array.size_replicate, Array.getElem_extract, Array.getElem_replicate]
    have e : min (n - b.size) n - 0 = n - b.size := by omega
    simp only [e]
    by_cases c1 : i < n - b.size
    · have c2 : i < n - b.size + b.size := by omega
      simp only [c1, c2, dif_pos]
    · have c2 : i < n - b.size + b.size := by omega
      simp only [c1, c2, dif_pos, dif_neg, not_false_eq_true]
theorem grow_eq (b : Array UInt8) (n k : Int) (hn : n.toNat = growN b.size) (hk : k = n - b.size) : putAt (Array.replicate n.toNat 0) k.toNat b = grow b := by
  have : b.size ≤ growN b.size := by unfold growN; split <;> omega
  have e : k.toNat = growN b.size - b.size := by omega
  rw [e, hn, putAt_end _ _ this]; rfl
theorem grow_sub {h₀ : Heap} {L : Addr} {h : Heap} {rest : List (Addr × Obj)} {D bx dx : Addr} {B X : Obj} {c b : Array UInt8} {more : List (Addr × Obj)} (S : Sub h₀ L h ((D, baObj c) :: (bx, B) :: (dx, X) :: more) rest) (e : c = grow b) : Sub h₀ L h [(bx, B), (dx, X), (D, baObj (grow b))] rest := by
  subst e
  exact S.sub (by intro p hp; simp only [List.mem_cons, List.not_mem_nil, or_false] at hp ⊢; rcases hp with h | h | h <;> simp [h])
section
variable {w : World} {dp un : Nat} {cn : Str} {cs : Scope} {a : Addr} {ccd : Value} {outer : List Env} {A₀ : Around} {base h₀ : Heap} {L : Addr} {m : Str → Option Value} {mean : ExcName → Option Value} {mg mb : Str → Option Value} {p : Program} {loose : List Str} {s : Shared} {Q E : Value → Shared → Prop}
  {bx dx vt ba : Addr} {b : Array UInt8} {hv : Int} {th : Tok} {ma : Int} {tm : Tok} {fin : Bool} {rest : List (Addr × Obj)}
theorem c_Grow (B : Below A₀ base outer h₀) (F : Fr h₀ L s.heap m) (X : (Mine.hd.heap_39 w.params).In h₀) (S : Sub h₀ L s.heap (led bx dx vt ba b hv th ma tm fin) rest) (T : Top p loose mean mg mb h₀) (hcs : cs.kind = .function)
    (hdp : dp + 5 < recursionLimit) (hz : b.size ≤ 4096) (n1 : @Ne Nat bx dx) (n2 : @Ne Nat bx ba) (n3 : @Ne Nat dx ba)
    (hret : ∀ ba' h' tk', Fr h₀ L h' m → Sub h₀ L h' (led bx dx vt ba' (grow b) hv th ma tm fin) rest → @Ne Nat bx ba' → @Ne Nat dx ba' → Q .none { s with heap := h', toks := tk' }) :
    gAny (model PR w) (ktrTop dp un (some []) cn cs L a ccd [] outer) (call (.ref 329) [.ref bx]) Q E s := by
  refine g_call ?_
  walk_at "my enter g"
  k_steps
  all_goals (rename Sub h₀ L _ _ rest => kS; rename Fr h₀ L _ m => kF; rename _ ∧ _ ∧ _ => l1; exact hret _ _ _ kF (grow_sub kS (grow_eq _ _ _ (by unfold growN; split <;> omega) rfl)) (by omega) (by omega))
end
-- part D2
local macro_rules | `(tactic| walk_at "my size") => `(tactic| first | assumption | omega | (rw [flat0, Array.size_replicate]; omega) | ((try dsimp only); simp only [Array.size_replicate, Array.size_append, Array.size_extract]; omega) | (split <;> omega))
local macro_rules | `(tactic| walk_at "gAny") => `(tactic| (k_here; (with_reducible show gAny _ _ (call (Value.ref 329) _) _ _ _); k_dflt (refine' c_Grow ?B ?F ?X ?S ?T ?c ?d ?z ?n1 ?n2 ?n3 ?_; (case B => k_asm); (case F => k_asm); (case X => k_asm); (case S => walk_at "my sub"); (case T => k_asm); (case c => exact rfl); (case d => ktr_room); (case z => walk_at "my size"); (case n1 => omega); (case n2 => omega); (case n3 => omega); k_whole); intro ba' h' tk' F' S' n1' n2'; walk_at "my back"))
theorem putAt_none (b : Array UInt8) (n : Nat) (h : n ≤ b.size) : putAt b n (Array.replicate (0 : Int).toNat 0) = b := by
  unfold putAt
  apply Array.ext
  · simp only [Int.toNat_zero, Array.replicate_zero, Array.size_append, Array.size_extract, List.size_toArray, List.length_nil]; omega
  · intro i h3 h4
    simp only [Int.toNat_zero, Array.replicate_zero, Array.append_empty, Nat.add_zero, List.size_toArray, List.length_nil, Array.getElem_append, Array.size_extract, Array.getElem_extract]
    split
    · simp
    · congr 1; omega
section
variable {w : World} {dp un : Nat} {cn : Str} {cs : Scope} {a : Addr} {ccd : Value} {outer : List Env} {A₀ : Around} {base h₀ : Heap} {L : Addr} {m : Str → Option Value} {mean : ExcName → Option Value} {mg mb : Str → Option Value} {p : Program} {loose : List Str} {s : Shared} {Q E : Value → Shared → Prop}
  {bx dx vt ba : Addr} {b : Array UInt8} {hv : Int} {th : Tok} {ma : Int} {tm : Tok} {fin : Bool} {rest : List (Addr × Obj)}
theorem c_Pad {n : Int} {tn : Tok} (B : Below A₀ base outer h₀) (F : Fr h₀ L s.heap m) (X : (Mine.hd.heap_39 w.params).In h₀) (S : Sub h₀ L s.heap (led bx dx vt ba b hv th ma tm fin) rest) (T : Top p loose mean mg mb h₀) (hcs : cs.kind = .function)
    (hdp : dp + 5 < recursionLimit) (n1 : @Ne Nat bx dx) (n2 : @Ne Nat bx ba) (n3 : @Ne Nat dx ba) (hz : b.size ≤ 4096) (h0 : 0 ≤ n) (h1 : n ≤ hv) (h2 : hv ≤ b.size)
    (hret : ∀ h' tk' th', Fr h₀ L h' m → Sub h₀ L h' (led bx dx vt ba (putAt b (hv - n).toNat (Array.replicate n.toNat 0)) (hv - n) th' ma tm fin) rest → Q .none { s with heap := h', toks := tk' }) :
    gAny (model PR w) (ktrTop dp un (some []) cn cs L a ccd [] outer) (call (.ref 350) [.ref bx, .int n tn]) Q E s := by
  refine g_call ?_
  walk_at "my enter g"
  k_steps
  · rename Sub h₀ L _ _ rest => kS; rename Fr h₀ L _ m => kF
    have hn : n = 0 := by omega
    subst hn
    refine hret _ _ th kF ?_
    have e : putAt b (hv - 0).toNat (Array.replicate (0 : Int).toNat 0) = b := putAt_none _ _ (by omega)
    rw [e, Int.sub_zero]; exact kS
  · rename Sub h₀ L _ _ rest => kS; rename Fr h₀ L _ m => kF
    rw [flat0] at kS
    exact hret _ _ _ kF kS
end
local macro_rules | `(tactic| walk_at "gAny") => `(tactic| (k_here; (with_reducible show gAny _ _ (call (Value.ref 350) _) _ _ _); k_dflt (refine' c_Pad ?B ?F ?X ?S ?T ?c ?d ?n1 ?n2 ?n3 ?z ?h0 ?h1 ?h2 ?_; (case B => k_asm); (case F => k_asm); (case X => k_asm); (case S => walk_at "my sub"); (case T => k_asm); (case c => exact rfl); (case d => ktr_room); (case n1 => omega); (case n2 => omega); (case n3 => omega); (case z => walk_at "my size"); (case h0 => omega); (case h1 => omega); (case h2 => omega); k_whole); intro h' tk' th' F' S'; walk_at "my back"))
theorem fr_pin5 {h₀ : Heap} {L : Addr} {h : Heap} {m : Str → Option Value} {x1 x2 x3 x4 x5 : Str} {v1 v2 v3 v4 v5 : Value} (F : Fr h₀ L h m) (e1 : m x1 = some v1) (e2 : m x2 = some v2) (e3 : m x3 = some v3) (e4 : m x4 = some v4) (e5 : m x5 = some v5) :
    Fr h₀ L h (fun y => if y = x1 then some v1 else if y = x2 then some v2 else if y = x3 then some v3 else if y = x4 then some v4 else if y = x5 then some v5 else m y) := by
  have : (fun y => if y = x1 then some v1 else if y = x2 then some v2 else if y = x3 then some v3 else if y = x4 then some v4 else if y = x5 then some v5 else m y) = m := by
    funext y
    by_cases h1 : y = x1
    · rw [if_pos h1, h1, e1]
    rw [if_neg h1]
    by_cases h2 : y = x2
    · rw [if_pos h2, h2, e2]
    rw [if_neg h2]
    by_cases h3 : y = x3
    · rw [if_pos h3, h3, e3]
    rw [if_neg h3]
    by_cases h4 : y = x4
    · rw [if_pos h4, h4, e4]
    rw [if_neg h4]
    by_cases h5 : y = x5
    · rw [if_pos h5, h5, e5]
    rw [if_neg h5]
  rw [this]; exact F
def cont (b : Array UInt8) (hv : Int) : List UInt8 := b.toList.drop hv.toNat
theorem cont_length {b : Array UInt8} {hv : Int} (h0 : 0 ≤ hv) (h1 : hv ≤ b.size) : ((cont b hv).length : Int) = b.size - hv := by
  unfold cont; rw [List.length_drop, Array.length_toList]; omega
theorem cont_grow {b : Array UInt8} {hv k : Int} (h0 : 0 ≤ hv) (hk : k = (growN b.size : Int) - b.size) : cont (grow b) (hv + k) = cont b hv := by
  have hg : b.size ≤ growN b.size := by unfold growN; split <;> omega
  unfold cont grow
  rw [Array.toList_append, Array.toList_replicate, List.drop_append, List.length_replicate]
  have e1 : (hv + k).toNat - (growN b.size - b.size) = hv.toNat := by omega
  rw [e1, List.drop_replicate]
  have e2 : growN b.size - b.size - (hv + k).toNat = 0 := by omega
  rw [e2]; rfl
theorem cont_putAt {b c : Array UInt8} {hv k : Int} (h0 : 0 ≤ hv - k) (hk : k = c.size) (h1 : hv ≤ b.size) : cont (putAt b (hv - k).toNat c) (hv - k) = c.toList ++ cont b hv := by
  unfold cont putAt
  rw [Array.toList_append, Array.toList_append, Array.toList_extract, Array.toList_extract, List.drop_append, List.drop_append]
  simp only [List.extract_eq_take_drop, List.drop_zero, List.length_take, List.length_append, Array.length_toList, List.length_drop]
  have e1 : (hv - k).toNat - min ((hv - k).toNat - 0) b.size = 0 := by omega
  have e2 : (hv - k).toNat - (min ((hv - k).toNat - 0) b.size + c.size) = 0 := by omega
  have e3 : (hv - k).toNat + c.size = hv.toNat := by omega
  rw [e1, e2, e3, List.drop_zero, List.drop_zero]
  have e4 : List.drop (hv - k).toNat (List.take ((hv - k).toNat - 0) b.toList) = [] := by
    apply List.drop_eq_nil_of_le; rw [List.length_take]; omega
  rw [e4, List.nil_append]
  congr 1
  apply List.take_of_length_le; rw [List.length_drop, Array.length_toList]; omega
/-- the octets that a pad brings -/
def padN (sz : Int) (n : Nat) (add : Int) : Nat := ((-((n : Int) + add)) % sz).toNat
theorem padN_lt {sz : Int} (h : 1 ≤ sz) (n : Nat) (add : Int) : (padN sz n add : Int) < sz := by
  unfold padN
  have a1 := Int.emod_nonneg (-((n : Int) + add)) (show sz ≠ 0 by omega)
  have a2 := Int.emod_lt_of_pos (-((n : Int) + add)) (show 0 < sz by omega)
  omega
theorem bitAnd_0 (x : Int) : Builtin.bitAnd x 0 = 0 := by
  unfold Builtin.bitAnd
  by_cases h : 0 ≤ x <;> simp [h]
theorem align_eq {sz n add : Int} {k : Nat} (hs : sz = 1 ∨ sz = 2 ∨ sz = 4 ∨ sz = 8) (hn : n = k) : Builtin.bitAnd (Builtin.bitNot (n + add) + 1) (sz - 1) = padN sz k add := by
  have e : Builtin.bitNot (n + add) + 1 = -((k : Int) + add) := by unfold Builtin.bitNot; omega
  rw [e]
  unfold padN
  have nn := Int.emod_nonneg (-((k : Int) + add)) (show sz ≠ 0 by omega)
  rw [Int.toNat_of_nonneg nn]
  rcases hs with rfl | rfl | rfl | rfl
  · rw [show (1 : Int) - 1 = 0 from rfl, bitAnd_0]; omega
  · exact bitAnd_m1 _
  · exact bitAnd_m2 _
  · exact bitAnd_m3 _
/-- the builder as its content tells it -/
structure BIs (h₀ : Heap) (L : Addr) (h : Heap) (bx dx vt : Addr) (rest : List (Addr × Obj)) (C : List UInt8) (ma : Int) (fin : Bool) (room : Int) (ba : Addr) (b : Array UInt8) (hv : Int) (th tm : Tok) : Prop where
  S : Sub h₀ L h (led bx dx vt ba b hv th ma tm fin) rest
  n1 : @Ne Nat bx dx
  n2 : @Ne Nat bx ba
  n3 : @Ne Nat dx ba
  z : b.size ≤ 2048
  r0 : 0 ≤ room
  r1 : room ≤ hv
  h2 : hv ≤ b.size
  c : cont b hv = C
def BAt (h₀ : Heap) (L : Addr) (h : Heap) (bx dx vt : Addr) (rest : List (Addr × Obj)) (C : List UInt8) (ma : Int) (fin : Bool) (room : Int) : Prop := ∃ ba b hv th tm, BIs h₀ L h bx dx vt rest C ma fin room ba b hv th tm
theorem growN_le (n : Nat) : n ≤ growN n := by unfold growN; split <;> omega
theorem growN_lt (n : Nat) : n < growN n := by unfold growN; split <;> omega
theorem growN_two (n : Nat) : growN n ≤ 2 * n + 1 := by unfold growN; split <;> omega
theorem grow_size (b : Array UInt8) : (grow b).size = growN b.size := by
  have := growN_le b.size
  unfold grow; rw [Array.size_append, Array.size_replicate]; omega
local macro_rules | `(tactic| walk_at "my size") => `(tactic| (rw [grow_size]; refine Nat.le_trans (growN_two _) ?_; omega))
def PrepInv (g : Heap) (L : Addr) (bx dx vt : Addr) (b : Array UInt8) (hv : Int) (th : Tok) (ma : Int) (tm : Tok) (fin : Bool) (AL nd : Int) (s : Shared) (n : Nat) (s' : Shared) : Prop :=
  ∃ h' tk' MM ba' b' hd' t5 t6 ta tn, s' = { s with heap := h', toks := tk' } ∧ Fr g L h' MM ∧ MM "self" = some (.ref bx) ∧ MM "head" = some (.int hd' t5) ∧ MM "buf_len" = some (.int (b'.size : Int) t6) ∧ MM "alignSize" = some (.int AL ta) ∧ MM "needed" = some (.int nd tn) ∧
    News g L h' (led bx dx vt ba' b' hv th ma tm fin) ∧ @Ne Nat bx ba' ∧ @Ne Nat dx ba' ∧ hd' = hv + (b'.size - b.size) ∧ b.size ≤ b'.size ∧ b'.size ≤ 2048 ∧ cont b' hd' = cont b hv ∧ n = (nd - hd').toNat
def PrepNext (g : Heap) (L : Addr) (bx dx vt : Addr) (b : Array UInt8) (hv : Int) (th : Tok) (ma : Int) (tm : Tok) (fin : Bool) (AL nd : Int) (s : Shared) (n : Nat) (s' : Shared) : Prop := ∃ k, k < n ∧ PrepInv g L bx dx vt b hv th ma tm fin AL nd s k s'
theorem prep_while {w : World} {A : Around} {E : Value → Shared → Prop} {s₁ : Shared} {env : Env} {test : PySem.Expr} {body : List Stmt} {pos : Pos} {Q : Flow → Shared → Prop} {g : Heap} {L bx dx vt ba : Addr} {b : Array UInt8} {hv : Int} {th : Tok} {ma : Int} {tm : Tok} {fin : Bool} {AL nd : Int} {MM : Str → Option Value} {t5 t6 ta tn : Tok}
    (F : Fr g L s₁.heap MM) (N : News g L s₁.heap (led bx dx vt ba b hv th ma tm fin)) (e1 : MM "self" = some (.ref bx)) (e2 : MM "head" = some (.int hv t5)) (e3 : MM "buf_len" = some (.int (b.size : Int) t6)) (e4 : MM "alignSize" = some (.int AL ta)) (e5 : MM "needed" = some (.int nd tn))
    (n2 : @Ne Nat bx ba) (n3 : @Ne Nat dx ba) (hz : b.size ≤ 2048)
    (turn : ∀ n s', PrepInv g L bx dx vt b hv th ma tm fin AL nd s₁ n s' → wpAny (model PR w) A (isTrue test env (eval test env)) (fun bb s₂ => if bb = true then gAny (model PR w) A (execs body env) (fun f s₃ => match f with | .next => PrepNext g L bx dx vt b hv th ma tm fin AL nd s₁ n s₃ | _ => False) (fun _ _ => False) s₂ else Q .next s₂) (fun _ _ => False) s') :
    gAny (model PR w) A (exec (.While test body [] pos) env) Q E s₁ :=
  g_While (PrepInv g L bx dx vt b hv th ma tm fin AL nd s₁) turn _ ⟨_, _, _, ba, b, hv, _, _, _, _, rfl, F, e1, e2, e3, e4, e5, N, n2, n3, by omega, by omega, hz, rfl, rfl⟩
theorem bAt_pad {h₀ : Heap} {L : Addr} {h : Heap} {bx dx vt : Addr} {rest : List (Addr × Obj)} {C : List UInt8} {ma : Int} {fin : Bool} {room hd' : Int} {ba : Addr} {b : Array UInt8} {th tm : Tok} {AL : Nat}
    (S : Sub h₀ L h (led bx dx vt ba (putAt b (hd' - AL).toNat (Array.replicate (AL : Int).toNat 0)) (hd' - AL) th ma tm fin) rest) (n1 : @Ne Nat bx dx) (n2 : @Ne Nat bx ba) (n3 : @Ne Nat dx ba) (z : b.size ≤ 2048) (r0 : 0 ≤ room) (r1 : room + AL ≤ hd') (h2 : hd' ≤ b.size) (c : cont b hd' = C) :
    BAt h₀ L h bx dx vt rest (List.replicate AL 0 ++ C) ma fin room := by
  have e : (putAt b (hd' - AL).toNat (Array.replicate (AL : Int).toNat 0)).size = b.size := putAt_size (by rw [Array.size_replicate]; omega)
  exact ⟨ba, _, _, th, tm, S, n1, n2, n3, by rw [e]; exact z, r0, by omega, by rw [e]; omega, by rw [cont_putAt (by omega) (by rw [Array.size_replicate]; omega) h2, c, Array.toList_replicate]; rfl⟩
section
variable {w : World} {dp un : Nat} {cn : Str} {cs : Scope} {a : Addr} {ccd : Value} {outer : List Env} {A₀ : Around} {base h₀ : Heap} {L : Addr} {m : Str → Option Value} {mean : ExcName → Option Value} {mg mb : Str → Option Value} {p : Program} {loose : List Str} {s : Shared} {Q E : Value → Shared → Prop}
  {bx dx vt ba : Addr} {b : Array UInt8} {hv : Int} {th : Tok} {ma : Int} {tm : Tok} {fin : Bool} {rest : List (Addr × Obj)}
theorem c_Prep {C : List UInt8} {sz add : Int} {t1 t2 : Tok} (B : Below A₀ base outer h₀) (F : Fr h₀ L s.heap m) (X : (Mine.hd.heap_39 w.params).In h₀) (BA : BAt h₀ L s.heap bx dx vt rest C ma fin 0) (T : Top p loose mean mg mb h₀) (hcs : cs.kind = .function)
    (hdp : dp + 8 < recursionLimit) (hC : C.length ≤ 900) (hs : sz = 1 ∨ sz = 2 ∨ sz = 4 ∨ sz = 8) (h5 : 0 ≤ add) (h6 : add ≤ 8)
    (hret : ∀ h' tk', Fr h₀ L h' m → BAt h₀ L h' bx dx vt rest (List.replicate (padN sz C.length add) 0 ++ C) (max ma sz) fin (sz + add) → Q .none { s with heap := h', toks := tk' }) :
    gAny (model PR w) (ktrTop dp un (some []) cn cs L a ccd [] outer) (call (.ref 357) [.ref bx, .int sz t1, .int add t2]) Q E s := by
  obtain ⟨ba, b, hv, th, tm, S, n1, n2, n3, hz, r0, h1, h2, rfl⟩ := BA
  have hlen := cont_length h1 h2
  have hAL := align_eq (sz := sz) (add := add) (n := b.size - hv) hs hlen.symm
  have hlt := padN_lt (sz := sz) (by omega) (cont b hv).length add
  obtain ⟨AL, hal⟩ : ∃ AL, AL = padN sz (cont b hv).length add := ⟨_, rfl⟩
  have hAL' := hAL.trans (congrArg Nat.cast hal.symm)
  rw [← hal] at hlt hret
  refine g_call ?_
  walk_at "my enter g"
  k_steps
  all_goals (
    rename Fr _ _ _ _ => kF'; rename News _ _ _ _ => kN'
    refine' prep_while kF' kN' rfl rfl rfl (congrArg (fun z => some (Value.int z _)) hAL') (congrArg (fun z => some (Value.int (z + sz + add) _)) hAL') n2 n3 hz ?turn
    case turn =>
      clear kF' kN'
      intro n s'
      rintro ⟨h', tk', MM, ba', b', hd', t5, t6, ta, tn, rfl, F1, e1, e2, e3, e4, e5, N1, q1, q2, q3, q4, q5, q6, q7⟩
      have F2 := fr_pin5 F1 e1 e2 e3 e4 e5
      clear F1 e1 e2 e3 e4 e5
      dsimp only [led, bObj] at N1
      k_steps
      · rename Fr _ _ _ _ => kF'; rename News _ _ _ _ => kN'
        have gs := grow_size b'
        have g1 := growN_lt b'.size
        have g2 := growN_two b'.size
        have cg := cont_grow (b := b') (hv := hd') (k := (growN b'.size : Int) - b'.size) (by omega) rfl
        refine ⟨_, ?_, _, _, _, _, grow b', _, _, _, _, _, rfl, kF', rfl, rfl, rfl, rfl, rfl, kN', by assumption, by assumption, ?_, ?_, ?_, ?_, rfl⟩
        · omega
        · omega
        · omega
        · omega
        · rw [← q6, ← cg, gs]
      · rename Sub h₀ L _ _ rest => kS; rename Fr h₀ L _ m => kF
        refine hret _ _ kF ?_
        have e : max ma sz = (if ma < sz then sz else ma) := by split <;> omega
        rw [e]
        first | rw [if_pos (by assumption)] | rw [if_neg (by assumption)]
        exact bAt_pad kS n1 q1 q2 q5 (by omega) (by omega) (by omega) q6)
end
-- part D3
structure FlagAt (w : World) (c : Addr) (wd : Nat) (lo hi : Int) (nm : Str) (pk : Addr) : Prop where
  bw : ∀ {A : Around} {E : Value → Shared → Prop} {s : Shared} {x : Bool} {Q : Value → Shared → Prop}, (Mine.hd.heap_39 w.params).In s.heap → (∀ t, Q (.int wd t) { s with toks := s.toks + 1 }) → wpAny (model PR w) A (getAttr (.ref c) "bytewidth" x) Q E s
  lo : ∀ {A : Around} {E : Value → Shared → Prop} {s : Shared} {x : Bool} {Q : Value → Shared → Prop}, (Mine.hd.heap_39 w.params).In s.heap → (∀ t, Q (.int lo t) { s with toks := s.toks + 1 }) → wpAny (model PR w) A (getAttr (.ref c) "min_val" x) Q E s
  hi : ∀ {A : Around} {E : Value → Shared → Prop} {s : Shared} {x : Bool} {Q : Value → Shared → Prop}, (Mine.hd.heap_39 w.params).In s.heap → (∀ t, Q (.int hi t) { s with toks := s.toks + 1 }) → wpAny (model PR w) A (getAttr (.ref c) "max_val" x) Q E s
  nm : ∀ {A : Around} {E : Value → Shared → Prop} {s : Shared} {x : Bool} {Q : Value → Shared → Prop}, (Mine.hd.heap_39 w.params).In s.heap → (∀ t, Q (.str nm t) { s with toks := s.toks + 1 }) → wpAny (model PR w) A (getAttr (.ref c) "name" x) Q E s
  pk : ∀ {A : Around} {E : Value → Shared → Prop} {s : Shared} {x : Bool} {Q : Value → Shared → Prop}, (Mine.hd.heap_39 w.params).In s.heap → Q (.ref pk) { s with toks := s.toks + 1 } → wpAny (model PR w) A (getAttr (.ref c) "packer_type" x) Q E s
local macro_rules | `(tactic| walk_at "my flag") => `(tactic| (refine ⟨?_, ?_, ?_, ?_, ?_⟩ <;> intro A E s x Q X h <;> first
  | exact cls_value (mc := .type "type") X (by k_is) (by k_is) rfl (h _)
  | exact cls_value (mc := .type "type") X (by k_is) (by k_is) rfl h))
theorem flag_u8 (w : World) : FlagAt w 67 1 0 255 "uint8" 50 := by walk_at "my flag"
theorem flag_u16 (w : World) : FlagAt w 81 2 0 65535 "uint16" 51 := by walk_at "my flag"
theorem flag_u32 (w : World) : FlagAt w 95 4 0 4294967295 "uint32" 52 := by walk_at "my flag"
theorem flag_u64 (w : World) : FlagAt w 109 8 0 18446744073709551615 "uint64" 53 := by walk_at "my flag"
theorem flag_i8 (w : World) : FlagAt w 123 1 (-128) 127 "int8" 54 := by walk_at "my flag"
theorem flag_i16 (w : World) : FlagAt w 137 2 (-32768) 32767 "int16" 55 := by walk_at "my flag"
theorem flag_i32 (w : World) : FlagAt w 151 4 (-2147483648) 2147483647 "int32" 56 := by walk_at "my flag"
theorem flag_i64 (w : World) : FlagAt w 165 8 (-9223372036854775808) 9223372036854775807 "int64" 57 := by walk_at "my flag"
theorem flag_so (w : World) : FlagAt w 179 4 (-2147483648) 2147483647 "int32" 56 := by walk_at "my flag"
theorem flag_uo (w : World) : FlagAt w 191 4 0 4294967295 "uint32" 52 := by walk_at "my flag"
theorem flag_vo (w : World) : FlagAt w 203 2 0 65535 "uint16" 51 := by walk_at "my flag"
-- part D4
local macro_rules | `(tactic| walk_at "getAttr ref") => `(tactic| (k_here; (with_reducible rename FlagAt _ _ _ _ _ _ _ => flX'); (first
  | (refine' flX'.bw ?x ?_; (case x => k_in)) | (refine' flX'.lo ?x ?_; (case x => k_in)) | (refine' flX'.hi ?x ?_; (case x => k_in)) | (refine' flX'.nm ?x ?_; (case x => k_in))); intro t'))
local macro_rules | `(tactic| walk_at "getAttr ref") => `(tactic| (k_here; (with_reducible rename FlagAt _ _ _ _ _ _ _ => flX'); (refine' flX'.pk ?x ?_; (case x => k_in))))
section
variable {w : World} {dp un : Nat} {cn : Str} {cs : Scope} {a : Addr} {ccd : Value} {outer : List Env} {A₀ : Around} {base h₀ : Heap} {L : Addr} {m : Str → Option Value} {mean : ExcName → Option Value} {mg mb : Str → Option Value} {p : Program} {loose : List Str} {s : Shared} {Q E : Value → Shared → Prop}
  {news rest : List (Addr × Obj)} {c : Addr} {wd : Nat} {lo hi : Int} {nm : Str} {pk : Addr} {n : Int} {tn : Tok}
theorem c_enf_ok (B : Below A₀ base outer h₀) (F : Fr h₀ L s.heap m) (X : (Mine.hd.heap_39 w.params).In h₀) (S : Sub h₀ L s.heap news rest) (T : Top p loose mean mg mb h₀) (hcs : cs.kind = .function)
    (hdp : dp + 5 < recursionLimit) (FL : FlagAt w c wd lo hi nm pk) (h1 : lo ≤ n) (h2 : n ≤ hi)
    (hret : ∀ h' tk', Fr h₀ L h' m → Sub h₀ L h' news rest → Q .none { s with heap := h', toks := tk' }) :
    wpAny (model PR w) (ktrTop dp un (some []) cn cs L a ccd [] outer) (call (.ref 212) [.int n tn, .ref c]) Q E s := by
  refine wpAny_call ?_
  walk_at "my enter w"
  k_steps
  rename Sub h₀ L _ _ rest => kS; rename Fr h₀ L _ m => kF
  exact hret _ _ kF kS
theorem c_enf_bad (B : Below A₀ base outer h₀) (F : Fr h₀ L s.heap m) (X : (Mine.hd.heap_39 w.params).In h₀) (S : Sub h₀ L s.heap news rest) (T : Top p loose mean mg mb h₀) (hcs : cs.kind = .function)
    (hdp : dp + 5 < recursionLimit) (FL : FlagAt w c wd lo hi nm pk) (h1 : n < lo ∨ hi < n) (h2 : -1000000000000000000000 ≤ n) (h3 : n ≤ 1000000000000000000000) (hnm : nm.length ≤ 20)
    (herr : ∀ e g' h' tk', Fr h₀ L g' m → RaisedSN base g' (envX cn cs L a ccd [] :: outer) e (.type "TypeError") news h' → g'.UpToSlots h' → E (.ref e) { s with heap := h', toks := tk' }) :
    wpAny (model PR w) (ktrTop dp un (some []) cn cs L a ccd [] outer) (call (.ref 212) [.int n tn, .ref c]) Q E s := by
  refine wpAny_call ?_
  walk_at "my enter w"
  k_steps
  all_goals (rename RaisedSN _ _ _ _ _ _ _ => rS; rename Heap.UpToSlots _ _ => rU; exact herr _ _ _ _ (by assumption) rS rU)
end
-- part D5
structure PackAt (w : World) (pk : Addr) (wd : Nat) (lo hi : Int) : Prop where
  mt : ∀ {A : Around} {E : Value → Shared → Prop} {s : Shared} {pl : Sem Bool} {Q : Value × List Value → Shared → Prop}, (Mine.hd.heap_39 w.params).In s.heap → Q (.builtin "_struct.Struct.pack_into", [.ref pk]) s → wpAny (model PR w) A (getMethod (.ref pk) "pack_into" pl) Q E s
  pk : ∀ {A : Around} {E : Value → Shared → Prop} {s : Shared} {h₀ : Heap} {L x : Addr} {m : Str → Option Value} {news news' : List (Addr × Obj)} {b : Array UInt8} {hv n : Int} {th tn : Tok} {Q : Value → Shared → Prop},
    (Mine.hd.heap_39 w.params).In h₀ → Fr h₀ L s.heap m → News h₀ L s.heap news → (x, baObj b) ∈ news → 0 ≤ hv → hv.toNat + wd ≤ b.size → b.size ≤ 16777216 → lo ≤ n → n ≤ hi → Upd x (baObj b) (baObj (putAt b hv.toNat (Builtin.Struct.intBytes false wd n))) news news' →
    (∀ h', Fr h₀ L h' m → News h₀ L h' news' → Q .none { s with heap := h' }) → wpAny (model PR w) A (call (.builtin "_struct.Struct.pack_into") [.ref pk, .ref x, .int hv th, .int n tn]) Q E s
theorem pa_mt {w : World} {pk : Addr} {wd : Nat} {lo hi : Int} {A : Around} {E : Value → Shared → Prop} {s : Shared} {pl : Sem Bool} {Q : Value × List Value → Shared → Prop} (PK : PackAt w pk wd lo hi) (X : (Mine.hd.heap_39 w.params).In s.heap) (h : Q (.builtin "_struct.Struct.pack_into", [.ref pk]) s) : wpAny (model PR w) A (getMethod (.ref pk) "pack_into" pl) Q E s := PK.mt X h
theorem packAt_of {w : World} {pk : Addr} {f : Array UInt8} {ch : Char} {wd : Nat} {lo hi : Int} {o : Obj} {tk : Tok} (K : FmtOk f ch wd lo hi) (ho : (Mine.hd.heap_39 w.params).lookup pk = some o) (hoc : o.cls = .type "_struct.Struct") (hod : o.dict = none) (hd' : o.data = .fields #[.bytes f tk]) : PackAt w pk wd lo hi :=
  ⟨fun X h => struct_method (X _ _ ho) hoc hod h, fun X F N hx h0 h1 hz hlo hhi U h => pack_into_N K F N (X _ _ ho) hoc hd' hx h0 h1 hz hlo hhi U h⟩
theorem pack_50 (w : World) : PackAt w 50 1 0 255 := packAt_of fmtOk_B (by k_is) rfl rfl rfl
theorem pack_51 (w : World) : PackAt w 51 2 0 65535 := packAt_of fmtOk_H (by k_is) rfl rfl rfl
theorem pack_52 (w : World) : PackAt w 52 4 0 4294967295 := packAt_of fmtOk_I (by k_is) rfl rfl rfl
theorem pack_53 (w : World) : PackAt w 53 8 0 18446744073709551615 := packAt_of fmtOk_Q (by k_is) rfl rfl rfl
theorem pack_54 (w : World) : PackAt w 54 1 (-128) 127 := packAt_of fmtOk_b (by k_is) rfl rfl rfl
theorem pack_55 (w : World) : PackAt w 55 2 (-32768) 32767 := packAt_of fmtOk_h (by k_is) rfl rfl rfl
theorem pack_56 (w : World) : PackAt w 56 4 (-2147483648) 2147483647 := packAt_of fmtOk_i (by k_is) rfl rfl rfl
theorem pack_57 (w : World) : PackAt w 57 8 (-9223372036854775808) 9223372036854775807 := packAt_of fmtOk_q (by k_is) rfl rfl rfl
/-- what is so of the builder's array and head -/
structure BFx (bx dx ba : Addr) (b : Array UInt8) (hv room : Int) (C : List UInt8) : Prop where
  n1 : @Ne Nat bx dx
  n2 : @Ne Nat bx ba
  n3 : @Ne Nat dx ba
  z : b.size ≤ 2048
  r0 : 0 ≤ room
  r1 : room ≤ hv
  h2 : hv ≤ b.size
  c : cont b hv = C
theorem bfx_put {bx dx ba : Addr} {b c : Array UInt8} {hv room k : Int} {C : List UInt8} (FX : BFx bx dx ba b hv room C) (hk : k = c.size) (hr : k ≤ room) : BFx bx dx ba (putAt b (hv - k).toNat c) (hv - k) (room - k) (c.toList ++ C) := by
  have a1 := FX.r1; have a2 := FX.h2; have a3 := FX.r0
  have e : (putAt b (hv - k).toNat c).size = b.size := putAt_size (by omega)
  exact ⟨FX.n1, FX.n2, FX.n3, by rw [e]; exact FX.z, by omega, by omega, by rw [e]; omega, by rw [cont_putAt (by omega) hk a2, FX.c]⟩
theorem bfx_room {bx dx ba : Addr} {b : Array UInt8} {hv room r' : Int} {C : List UInt8} (FX : BFx bx dx ba b hv room C) (h0 : 0 ≤ r') (h1 : r' ≤ room) : BFx bx dx ba b hv r' C :=
  ⟨FX.n1, FX.n2, FX.n3, FX.z, h0, Int.le_trans h1 FX.r1, FX.h2, FX.c⟩
local macro_rules | `(tactic| walk_at "call builtin:_struct.Struct.pack_into") => `(tactic| (k_here; (with_reducible rename PackAt _ _ _ _ _ => pkX'); (with_reducible rename Fr _ _ _ _ => kF'); (with_reducible rename News _ _ _ _ => kN'); k_dflt (refine' pkX'.pk ?X kF' kN' ?hx ?h0 ?h1 ?hz ?hlo ?hhi ?U ?_; (case X => k_asm); (case hx => k_mem); (case h0 => omega); (case h1 => omega); (case hz => omega); (case hlo => omega); (case hhi => omega); (case U => k_upd); k_whole); intro h' F' N'; (try k_sweep)))
local macro_rules | `(tactic| walk_at "getMethod ref") => `(tactic| (k_here; k_dflt (refine' pa_mt ?k ?x ?_; (case k => assumption); (case x => k_in); k_whole)))
local macro_rules | `(tactic| walk_at "call ref") => `(tactic| (k_here; (with_reducible show wpAny _ _ (call (Value.ref 212) _) _ _ _); k_dflt (refine' c_enf_ok ?B ?F ?X ?S ?T ?c ?d ?fl ?h1 ?h2 ?_; (case B => k_asm); (case F => k_asm); (case X => k_asm); (case S => walk_at "my sub0"); (case T => k_asm); (case c => exact rfl); (case d => ktr_room); (case fl => assumption); (case h1 => omega); (case h2 => omega); k_whole); intro h' tk' F' S'; walk_at "my back"))
local macro_rules | `(tactic| walk_at "call ref") => `(tactic| (k_here; (with_reducible show wpAny _ _ (call (Value.ref 212) _) _ _ _); k_dflt (refine' c_enf_bad ?B ?F ?X ?S ?T ?c ?d ?fl ?h1 ?h2 ?h3 ?h4 ?_; (case B => k_asm); (case F => k_asm); (case X => k_asm); (case S => walk_at "my sub0"); (case T => k_asm); (case c => exact rfl); (case d => ktr_room); (case fl => assumption); (case h1 => omega); (case h2 => omega); (case h3 => omega); (case h4 => assumption); k_whole); intro e' g' h' tk' F' R' U'))
section
variable {w : World} {dp un : Nat} {cn : Str} {cs : Scope} {a : Addr} {ccd : Value} {outer : List Env} {A₀ : Around} {base h₀ : Heap} {L : Addr} {m : Str → Option Value} {mean : ExcName → Option Value} {mg mb : Str → Option Value} {p : Program} {loose : List Str} {s : Shared} {Q E : Value → Shared → Prop}
  {bx dx vt ba : Addr} {b : Array UInt8} {hv : Int} {th : Tok} {ma : Int} {tm : Tok} {fin : Bool} {rest : List (Addr × Obj)} {room : Int} {C : List UInt8} {c : Addr} {wd : Nat} {lo hi : Int} {nm : Str} {pk : Addr} {n : Int} {tn t1 t2 : Tok} {sz add : Int}
theorem c_Prep2 (B : Below A₀ base outer h₀) (F : Fr h₀ L s.heap m) (X : (Mine.hd.heap_39 w.params).In h₀) (S : Sub h₀ L s.heap (led bx dx vt ba b hv th ma tm fin) rest) (T : Top p loose mean mg mb h₀) (hcs : cs.kind = .function)
    (hdp : dp + 8 < recursionLimit) (FX : BFx bx dx ba b hv room C) (hC : C.length ≤ 900) (hs : sz = 1 ∨ sz = 2 ∨ sz = 4 ∨ sz = 8) (h5 : 0 ≤ add) (h6 : add ≤ 8)
    (hret : ∀ h' tk' ba' b' hv' th' tm', Fr h₀ L h' m → Sub h₀ L h' (led bx dx vt ba' b' hv' th' (max ma sz) tm' fin) rest → BFx bx dx ba' b' hv' (sz + add) (List.replicate (padN sz C.length add) 0 ++ C) → Q .none { s with heap := h', toks := tk' }) :
    gAny (model PR w) (ktrTop dp un (some []) cn cs L a ccd [] outer) (call (.ref 357) [.ref bx, .int sz t1, .int add t2]) Q E s :=
  c_Prep B F X ⟨ba, b, hv, th, tm, S, FX.n1, FX.n2, FX.n3, FX.z, Int.le_refl _, Int.le_trans FX.r0 FX.r1, FX.h2, FX.c⟩ T hcs hdp hC hs h5 h6 fun h' tk' F' ⟨ba', b', hv', th', tm', S', q1, q2, q3, q4, q5, q6, q7, q8⟩ =>
    hret h' tk' ba' b' hv' th' tm' F' S' ⟨q1, q2, q3, q4, q5, q6, q7, q8⟩
theorem c_Write (B : Below A₀ base outer h₀) (F : Fr h₀ L s.heap m) (X : (Mine.hd.heap_39 w.params).In h₀) (S : Sub h₀ L s.heap (led bx dx vt ba b hv th ma tm fin) rest) (T : Top p loose mean mg mb h₀) (hcs : cs.kind = .function)
    (hdp : dp + 5 < recursionLimit) (PK : PackAt w pk wd lo hi) (n1 : @Ne Nat bx dx) (n2 : @Ne Nat bx ba) (n3 : @Ne Nat dx ba) (hz : b.size ≤ 2048) (h3 : 0 ≤ hv) (h4 : hv + wd ≤ b.size) (h1 : lo ≤ n) (h2 : n ≤ hi)
    (hret : ∀ h' tk', Fr h₀ L h' m → Sub h₀ L h' (led bx dx vt ba (putAt b hv.toNat (Builtin.Struct.intBytes false wd n)) hv th ma tm fin) rest → Q .none { s with heap := h', toks := tk' }) :
    wpAny (model PR w) (ktrTop dp un (some []) cn cs L a ccd [] outer) (call (.ref 219) [.ref pk, .ref ba, .int hv t1, .int n tn]) Q E s := by
  refine wpAny_call ?_
  walk_at "my enter w"
  k_steps
  rename Sub h₀ L _ _ rest => kS; rename Fr h₀ L _ m => kF
  exact hret _ _ kF kS
end
-- part D6
local macro_rules | `(tactic| walk_at "call ref") => `(tactic| (k_here; (with_reducible show wpAny _ _ (call (Value.ref 219) _) _ _ _); k_dflt (refine' c_Write ?B ?F ?X ?S ?T ?c ?d ?pk ?n1 ?n2 ?n3 ?z ?h3 ?h4 ?h1 ?h2 ?_; (case B => k_asm); (case F => k_asm); (case X => k_asm); (case S => walk_at "my sub"); (case T => k_asm); (case c => exact rfl); (case d => ktr_room); (case pk => assumption); (case n1 => omega); (case n2 => omega); (case n3 => omega); (case z => omega); (case h3 => omega); (case h4 => omega); (case h1 => omega); (case h2 => omega); k_whole); intro h' tk' F' S'; walk_at "my back"))
section
variable {w : World} {dp un : Nat} {cn : Str} {cs : Scope} {a : Addr} {ccd : Value} {outer : List Env} {A₀ : Around} {base h₀ : Heap} {L : Addr} {m : Str → Option Value} {mean : ExcName → Option Value} {mg mb : Str → Option Value} {p : Program} {loose : List Str} {s : Shared} {Q E : Value → Shared → Prop}
  {bx dx vt ba : Addr} {b : Array UInt8} {hv : Int} {th : Tok} {ma : Int} {tm : Tok} {fin : Bool} {rest : List (Addr × Obj)} {room : Int} {C : List UInt8} {c : Addr} {wd : Nat} {lo hi : Int} {nm : Str} {pk : Addr} {n : Int} {tn t1 t2 : Tok} {sz add : Int}
theorem c_Place (B : Below A₀ base outer h₀) (F : Fr h₀ L s.heap m) (X : (Mine.hd.heap_39 w.params).In h₀) (S : Sub h₀ L s.heap (led bx dx vt ba b hv th ma tm fin) rest) (T : Top p loose mean mg mb h₀) (hcs : cs.kind = .function)
    (hdp : dp + 8 < recursionLimit) (FX : BFx bx dx ba b hv room C) (FL : FlagAt w c wd lo hi nm pk) (PK : PackAt w pk wd lo hi) (hr : (wd : Int) ≤ room) (h1 : lo ≤ n) (h2 : n ≤ hi)
    (hret : ∀ h' tk' ba' b' hv' th' tm', Fr h₀ L h' m → Sub h₀ L h' (led bx dx vt ba' b' hv' th' ma tm' fin) rest → BFx bx dx ba' b' hv' (room - wd) ((Builtin.Struct.intBytes false wd n).toList ++ C) → Q (.none) { s with heap := h', toks := tk' }) :
    wpAny (model PR w) (ktrTop dp un (some []) cn cs L a ccd [] outer) (call (.ref 648) [.ref bx, .int n tn, .ref c]) Q E s := by
  have n1 := FX.n1; have n2 := FX.n2; have n3 := FX.n3; have z1 := FX.z; have z2 := FX.r0; have z3 := FX.r1; have z4 := FX.h2
  refine wpAny_call ?_
  walk_at "my enter w"
  k_steps
  rename Sub h₀ L _ _ rest => kS; rename Fr h₀ L _ m => kF
  exact hret _ _ _ _ _ _ _ kF kS (bfx_put FX (by rw [intBytes_size]) (by omega))
theorem c_Place_bad (B : Below A₀ base outer h₀) (F : Fr h₀ L s.heap m) (X : (Mine.hd.heap_39 w.params).In h₀) (S : Sub h₀ L s.heap (led bx dx vt ba b hv th ma tm fin) rest) (T : Top p loose mean mg mb h₀) (hcs : cs.kind = .function)
    (hdp : dp + 8 < recursionLimit) (FX : BFx bx dx ba b hv room C) (FL : FlagAt w c wd lo hi nm pk) (h1 : n < lo ∨ hi < n) (h2 : -1000000000000000000000 ≤ n) (h3 : n ≤ 1000000000000000000000) (hnm : nm.length ≤ 20)
    (herr : ∀ e g' h' tk' ba' b' hv' th' tm', Fr h₀ L g' m → RaisedSN base g' (envX cn cs L a ccd [] :: outer) e (.type "TypeError") (led bx dx vt ba' b' hv' th' ma tm' fin) h' → g'.UpToSlots h' → BFx bx dx ba' b' hv' 0 C → E (.ref e) { s with heap := h', toks := tk' }) :
    wpAny (model PR w) (ktrTop dp un (some []) cn cs L a ccd [] outer) (call (.ref 648) [.ref bx, .int n tn, .ref c]) Q E s := by
  have n1 := FX.n1; have n2 := FX.n2; have n3 := FX.n3; have z1 := FX.z; have z2 := FX.r0; have z3 := FX.r1; have z4 := FX.h2
  refine wpAny_call ?_
  walk_at "my enter w"
  k_steps
  rename RaisedSN _ _ _ _ _ _ _ => rS; rename Heap.UpToSlots _ _ => rU
  exact herr _ _ _ _ _ _ _ _ _ (by assumption) rS rU (bfx_room FX (Int.le_refl 0) z2)
theorem c_PlaceV_bad (B : Below A₀ base outer h₀) (F : Fr h₀ L s.heap m) (X : (Mine.hd.heap_39 w.params).In h₀) (S : Sub h₀ L s.heap (led bx dx vt ba b hv th ma tm fin) rest) (T : Top p loose mean mg mb h₀) (hcs : cs.kind = .function)
    (hdp : dp + 8 < recursionLimit) (FX : BFx bx dx ba b hv room C) (h1 : n < 0 ∨ 65535 < n) (h2 : -1000000000000000000000 ≤ n) (h3 : n ≤ 1000000000000000000000)
    (herr : ∀ e g' h' tk' ba' b' hv' th' tm', Fr h₀ L g' m → RaisedSN base g' (envX cn cs L a ccd [] :: outer) e (.type "TypeError") (led bx dx vt ba' b' hv' th' ma tm' fin) h' → g'.UpToSlots h' → BFx bx dx ba' b' hv' 0 C → E (.ref e) { s with heap := h', toks := tk' }) :
    wpAny (model PR w) (ktrTop dp un (some []) cn cs L a ccd [] outer) (call (.ref 655) [.ref bx, .int n tn]) Q E s := by
  have FL := flag_vo w; have hnm : (Str.ofString "uint16").length ≤ 20 := by decide
  have n1 := FX.n1; have n2 := FX.n2; have n3 := FX.n3; have z1 := FX.z; have z2 := FX.r0; have z3 := FX.r1; have z4 := FX.h2
  refine wpAny_call ?_
  walk_at "my enter w"
  k_steps
  rename RaisedSN _ _ _ _ _ _ _ => rS; rename Heap.UpToSlots _ _ => rU
  exact herr _ _ _ _ _ _ _ _ _ (by assumption) rS rU (bfx_room FX (Int.le_refl 0) z2)
theorem c_PlaceS (B : Below A₀ base outer h₀) (F : Fr h₀ L s.heap m) (X : (Mine.hd.heap_39 w.params).In h₀) (S : Sub h₀ L s.heap (led bx dx vt ba b hv th ma tm fin) rest) (T : Top p loose mean mg mb h₀) (hcs : cs.kind = .function)
    (hdp : dp + 8 < recursionLimit) (FX : BFx bx dx ba b hv room C) (hr : 4 ≤ room) (h1 : -2147483648 ≤ n) (h2 : n ≤ 2147483647)
    (hret : ∀ h' tk' ba' b' hv' th' tm', Fr h₀ L h' m → Sub h₀ L h' (led bx dx vt ba' b' hv' th' ma tm' fin) rest → BFx bx dx ba' b' hv' (room - 4) ((Builtin.Struct.intBytes false 4 n).toList ++ C) → Q (.none) { s with heap := h', toks := tk' }) :
    wpAny (model PR w) (ktrTop dp un (some []) cn cs L a ccd [] outer) (call (.ref 662) [.ref bx, .int n tn]) Q E s := by
  have FL := flag_so w; have PK := pack_56 w
  have n1 := FX.n1; have n2 := FX.n2; have n3 := FX.n3; have z1 := FX.z; have z2 := FX.r0; have z3 := FX.r1; have z4 := FX.h2
  refine wpAny_call ?_
  walk_at "my enter w"
  k_steps
  rename Sub h₀ L _ _ rest => kS; rename Fr h₀ L _ m => kF
  exact hret _ _ _ _ _ _ _ kF kS (bfx_put FX (by rw [intBytes_size]) (by omega))
theorem c_PlaceS_bad (B : Below A₀ base outer h₀) (F : Fr h₀ L s.heap m) (X : (Mine.hd.heap_39 w.params).In h₀) (S : Sub h₀ L s.heap (led bx dx vt ba b hv th ma tm fin) rest) (T : Top p loose mean mg mb h₀) (hcs : cs.kind = .function)
    (hdp : dp + 8 < recursionLimit) (FX : BFx bx dx ba b hv room C) (h1 : n < -2147483648 ∨ 2147483647 < n) (h2 : -1000000000000000000000 ≤ n) (h3 : n ≤ 1000000000000000000000)
    (herr : ∀ e g' h' tk' ba' b' hv' th' tm', Fr h₀ L g' m → RaisedSN base g' (envX cn cs L a ccd [] :: outer) e (.type "TypeError") (led bx dx vt ba' b' hv' th' ma tm' fin) h' → g'.UpToSlots h' → BFx bx dx ba' b' hv' 0 C → E (.ref e) { s with heap := h', toks := tk' }) :
    wpAny (model PR w) (ktrTop dp un (some []) cn cs L a ccd [] outer) (call (.ref 662) [.ref bx, .int n tn]) Q E s := by
  have FL := flag_so w; have hnm : (Str.ofString "int32").length ≤ 20 := by decide
  have n1 := FX.n1; have n2 := FX.n2; have n3 := FX.n3; have z1 := FX.z; have z2 := FX.r0; have z3 := FX.r1; have z4 := FX.h2
  refine wpAny_call ?_
  walk_at "my enter w"
  k_steps
  rename RaisedSN _ _ _ _ _ _ _ => rS; rename Heap.UpToSlots _ _ => rU
  exact herr _ _ _ _ _ _ _ _ _ (by assumption) rS rU (bfx_room FX (Int.le_refl 0) z2)
theorem c_PlaceU (B : Below A₀ base outer h₀) (F : Fr h₀ L s.heap m) (X : (Mine.hd.heap_39 w.params).In h₀) (S : Sub h₀ L s.heap (led bx dx vt ba b hv th ma tm fin) rest) (T : Top p loose mean mg mb h₀) (hcs : cs.kind = .function)
    (hdp : dp + 8 < recursionLimit) (FX : BFx bx dx ba b hv room C) (hr : 4 ≤ room) (h1 : 0 ≤ n) (h2 : n ≤ 4294967295)
    (hret : ∀ h' tk' ba' b' hv' th' tm', Fr h₀ L h' m → Sub h₀ L h' (led bx dx vt ba' b' hv' th' ma tm' fin) rest → BFx bx dx ba' b' hv' (room - 4) ((Builtin.Struct.intBytes false 4 n).toList ++ C) → Q (.none) { s with heap := h', toks := tk' }) :
    wpAny (model PR w) (ktrTop dp un (some []) cn cs L a ccd [] outer) (call (.ref 669) [.ref bx, .int n tn]) Q E s := by
  have FL := flag_uo w; have PK := pack_52 w
  have n1 := FX.n1; have n2 := FX.n2; have n3 := FX.n3; have z1 := FX.z; have z2 := FX.r0; have z3 := FX.r1; have z4 := FX.h2
  refine wpAny_call ?_
  walk_at "my enter w"
  k_steps
  rename Sub h₀ L _ _ rest => kS; rename Fr h₀ L _ m => kF
  exact hret _ _ _ _ _ _ _ kF kS (bfx_put FX (by rw [intBytes_size]) (by omega))
theorem c_PlaceU_bad (B : Below A₀ base outer h₀) (F : Fr h₀ L s.heap m) (X : (Mine.hd.heap_39 w.params).In h₀) (S : Sub h₀ L s.heap (led bx dx vt ba b hv th ma tm fin) rest) (T : Top p loose mean mg mb h₀) (hcs : cs.kind = .function)
    (hdp : dp + 8 < recursionLimit) (FX : BFx bx dx ba b hv room C) (h1 : n < 0 ∨ 4294967295 < n) (h2 : -1000000000000000000000 ≤ n) (h3 : n ≤ 1000000000000000000000)
    (herr : ∀ e g' h' tk' ba' b' hv' th' tm', Fr h₀ L g' m → RaisedSN base g' (envX cn cs L a ccd [] :: outer) e (.type "TypeError") (led bx dx vt ba' b' hv' th' ma tm' fin) h' → g'.UpToSlots h' → BFx bx dx ba' b' hv' 0 C → E (.ref e) { s with heap := h', toks := tk' }) :
    wpAny (model PR w) (ktrTop dp un (some []) cn cs L a ccd [] outer) (call (.ref 669) [.ref bx, .int n tn]) Q E s := by
  have FL := flag_uo w; have hnm : (Str.ofString "uint32").length ≤ 20 := by decide
  have n1 := FX.n1; have n2 := FX.n2; have n3 := FX.n3; have z1 := FX.z; have z2 := FX.r0; have z3 := FX.r1; have z4 := FX.h2
  refine wpAny_call ?_
  walk_at "my enter w"
  k_steps
  rename RaisedSN _ _ _ _ _ _ _ => rS; rename Heap.UpToSlots _ _ => rU
  exact herr _ _ _ _ _ _ _ _ _ (by assumption) rS rU (bfx_room FX (Int.le_refl 0) z2)
theorem c_Offset (B : Below A₀ base outer h₀) (F : Fr h₀ L s.heap m) (X : (Mine.hd.heap_39 w.params).In h₀) (S : Sub h₀ L s.heap (led bx dx vt ba b hv th ma tm fin) rest) (T : Top p loose mean mg mb h₀) (hcs : cs.kind = .function)
    (hdp : dp + 5 < recursionLimit) (FX : BFx bx dx ba b hv room C) 
    (hret : ∀ h' tk' t, Fr h₀ L h' m → Sub h₀ L h' (led bx dx vt ba b hv th ma tm fin) rest → Q (.int (b.size - hv) t) { s with heap := h', toks := tk' }) :
    wpAny (model PR w) (ktrTop dp un (some []) cn cs L a ccd [] outer) (call (.ref 343) [.ref bx]) Q E s := by
  have n1 := FX.n1; have n2 := FX.n2; have n3 := FX.n3; have z1 := FX.z; have z2 := FX.r0; have z3 := FX.r1; have z4 := FX.h2
  refine wpAny_call ?_
  walk_at "my enter w"
  k_steps
  rename Sub h₀ L _ _ rest => kS; rename Fr h₀ L _ m => kF
  exact hret _ _ _ kF kS
theorem c_Head (B : Below A₀ base outer h₀) (F : Fr h₀ L s.heap m) (X : (Mine.hd.heap_39 w.params).In h₀) (S : Sub h₀ L s.heap (led bx dx vt ba b hv th ma tm fin) rest) (T : Top p loose mean mg mb h₀) (hcs : cs.kind = .function)
    (hdp : dp + 5 < recursionLimit) (FX : BFx bx dx ba b hv room C) 
    (hret : ∀ h' tk' t, Fr h₀ L h' m → Sub h₀ L h' (led bx dx vt ba b hv th ma tm fin) rest → Q (.int hv t) { s with heap := h', toks := tk' }) :
    wpAny (model PR w) (ktrTop dp un (some []) cn cs L a ccd [] outer) (call (.ref 336) [.ref bx]) Q E s := by
  have n1 := FX.n1; have n2 := FX.n2; have n3 := FX.n3; have z1 := FX.z; have z2 := FX.r0; have z3 := FX.r1; have z4 := FX.h2
  refine wpAny_call ?_
  walk_at "my enter w"
  k_steps
  rename Sub h₀ L _ _ rest => kS; rename Fr h₀ L _ m => kF
  exact hret _ _ _ kF kS
end
-- part D7
local macro_rules | `(tactic| walk_at "call ref") => `(tactic| (k_here; (with_reducible show wpAny _ _ (call (Value.ref 648) _) _ _ _); k_dflt (refine' c_Place ?B ?F ?X ?S ?T ?c ?d ?fx ?fl ?pk ?hr ?h1 ?h2 ?_; (case B => k_asm); (case F => k_asm); (case X => k_asm); (case S => walk_at "my sub"); (case T => k_asm); (case c => exact rfl); (case d => ktr_room); (case fx => assumption); (case fl => assumption); (case pk => assumption); (case hr => omega); (case h1 => omega); (case h2 => omega); k_whole); intro h' tk' ba' b' hv' th' tm' F' S' FX'; walk_at "my back"; walk_at "my fx"))
local macro_rules | `(tactic| walk_at "call ref") => `(tactic| (k_here; (with_reducible show wpAny _ _ (call (Value.ref 648) _) _ _ _); k_dflt (refine' c_Place_bad ?B ?F ?X ?S ?T ?c ?d ?fx ?fl ?h1 ?h2 ?h3 ?hn ?_; (case B => k_asm); (case F => k_asm); (case X => k_asm); (case S => walk_at "my sub"); (case T => k_asm); (case c => exact rfl); (case d => ktr_room); (case fx => assumption); (case fl => assumption); (case h1 => omega); (case h2 => omega); (case h3 => omega); (case hn => assumption); k_whole); intro e' g' h' tk' ba' b' hv' th' tm' F' R' U' FX'))
local macro_rules | `(tactic| walk_at "call ref") => `(tactic| (k_here; (with_reducible show wpAny _ _ (call (Value.ref 662) _) _ _ _); k_dflt (refine' c_PlaceS ?B ?F ?X ?S ?T ?c ?d ?fx ?hr ?h1 ?h2 ?_; (case B => k_asm); (case F => k_asm); (case X => k_asm); (case S => walk_at "my sub"); (case T => k_asm); (case c => exact rfl); (case d => ktr_room); (case fx => assumption); (case hr => omega); (case h1 => omega); (case h2 => omega); k_whole); intro h' tk' ba' b' hv' th' tm' F' S' FX'; walk_at "my back"; walk_at "my fx"))
local macro_rules | `(tactic| walk_at "call ref") => `(tactic| (k_here; (with_reducible show wpAny _ _ (call (Value.ref 669) _) _ _ _); k_dflt (refine' c_PlaceU ?B ?F ?X ?S ?T ?c ?d ?fx ?hr ?h1 ?h2 ?_; (case B => k_asm); (case F => k_asm); (case X => k_asm); (case S => walk_at "my sub"); (case T => k_asm); (case c => exact rfl); (case d => ktr_room); (case fx => assumption); (case hr => omega); (case h1 => omega); (case h2 => omega); k_whole); intro h' tk' ba' b' hv' th' tm' F' S' FX'; walk_at "my back"; walk_at "my fx"))
local macro_rules | `(tactic| walk_at "call ref") => `(tactic| (k_here; (with_reducible show wpAny _ _ (call (Value.ref 343) _) _ _ _); k_dflt (refine' c_Offset ?B ?F ?X ?S ?T ?c ?d ?fx ?_; (case B => k_asm); (case F => k_asm); (case X => k_asm); (case S => walk_at "my sub"); (case T => k_asm); (case c => exact rfl); (case d => ktr_room); (case fx => assumption); k_whole); intro h' tk' t' F' S'; walk_at "my back"))
local macro_rules | `(tactic| walk_at "call ref") => `(tactic| (k_here; (with_reducible show wpAny _ _ (call (Value.ref 336) _) _ _ _); k_dflt (refine' c_Head ?B ?F ?X ?S ?T ?c ?d ?fx ?_; (case B => k_asm); (case F => k_asm); (case X => k_asm); (case S => walk_at "my sub"); (case T => k_asm); (case c => exact rfl); (case d => ktr_room); (case fx => assumption); k_whole); intro h' tk' t' F' S'; walk_at "my back"))
def upC (sz add : Int) (C : List UInt8) : List UInt8 := List.replicate (padN sz C.length add) 0 ++ C
theorem upC_length (sz add : Int) (C : List UInt8) : (upC sz add C).length = padN sz C.length add + C.length := by unfold upC; rw [List.length_append, List.length_replicate]
theorem bfx_len {bx dx ba : Addr} {b : Array UInt8} {hv room : Int} {C : List UInt8} (FX : BFx bx dx ba b hv room C) : (C.length : Int) = b.size - hv := by
  rw [← FX.c]; exact cont_length (Int.le_trans FX.r0 FX.r1) FX.h2
section
variable {w : World} {dp un : Nat} {cn : Str} {cs : Scope} {a : Addr} {ccd : Value} {outer : List Env} {A₀ : Around} {base h₀ : Heap} {L : Addr} {m : Str → Option Value} {mean : ExcName → Option Value} {mg mb : Str → Option Value} {p : Program} {loose : List Str} {s : Shared} {Q E : Value → Shared → Prop}
  {bx dx vt ba : Addr} {b : Array UInt8} {hv : Int} {th : Tok} {ma : Int} {tm : Tok} {fin : Bool} {rest : List (Addr × Obj)} {room : Int} {C : List UInt8} {c : Addr} {wd : Nat} {lo hi : Int} {nm : Str} {pk : Addr} {n : Int} {tn t1 t2 : Tok} {sz add : Int}
theorem c_Prep3 (B : Below A₀ base outer h₀) (F : Fr h₀ L s.heap m) (X : (Mine.hd.heap_39 w.params).In h₀) (S : Sub h₀ L s.heap (led bx dx vt ba b hv th ma tm fin) rest) (T : Top p loose mean mg mb h₀) (hcs : cs.kind = .function)
    (hdp : dp + 8 < recursionLimit) (FX : BFx bx dx ba b hv room C) (hC : C.length ≤ 900) (hs : sz = 1 ∨ sz = 2 ∨ sz = 4 ∨ sz = 8) (h5 : 0 ≤ add) (h6 : add ≤ 8)
    (hret : ∀ h' tk' ba' b' hv' th' tm', Fr h₀ L h' m → Sub h₀ L h' (led bx dx vt ba' b' hv' th' (max ma sz) tm' fin) rest → BFx bx dx ba' b' hv' (sz + add) (upC sz add C) → (padN sz C.length add : Int) < sz → Q .none { s with heap := h', toks := tk' }) :
    gAny (model PR w) (ktrTop dp un (some []) cn cs L a ccd [] outer) (call (.ref 357) [.ref bx, .int sz t1, .int add t2]) Q E s :=
  c_Prep2 B F X S T hcs hdp FX hC hs h5 h6 fun h' tk' ba' b' hv' th' tm' F' S' FX' => hret h' tk' ba' b' hv' th' tm' F' S' FX' (padN_lt (by omega) _ _)
end
local macro_rules | `(tactic| walk_at "my fx") => `(tactic| ((with_reducible rename BFx _ _ _ _ _ _ _ => fX'); (have q1' := fX'.n1); (have q2' := fX'.n2); (have q3' := fX'.n3); (have q4' := fX'.z); (have q5' := fX'.r0); (have q6' := fX'.r1); (have q7' := fX'.h2); (have q8' := bfx_len fX'); (try rw [upC_length] at q8')))
local macro_rules | `(tactic| walk_at "gAny") => `(tactic| (k_here; (with_reducible show gAny _ _ (call (Value.ref 357) _) _ _ _); k_dflt (refine' c_Prep3 ?B ?F ?X ?S ?T ?c ?d ?fx ?hC ?hs ?h5 ?h6 ?_; (case B => k_asm); (case F => k_asm); (case X => k_asm); (case S => walk_at "my sub"); (case T => k_asm); (case c => exact rfl); (case d => ktr_room); (case fx => assumption); (case hC => assumption); (case hs => omega); (case h5 => omega); (case h6 => omega); k_whole); intro h' tk' ba' b' hv' th' tm' F' S' FX' pl'; walk_at "my back"; walk_at "my fx"))
section
variable {w : World} {dp un : Nat} {cn : Str} {cs : Scope} {a : Addr} {ccd : Value} {outer : List Env} {A₀ : Around} {base h₀ : Heap} {L : Addr} {m : Str → Option Value} {mean : ExcName → Option Value} {mg mb : Str → Option Value} {p : Program} {loose : List Str} {s : Shared} {Q E : Value → Shared → Prop}
  {bx dx vt ba : Addr} {b : Array UInt8} {hv : Int} {th : Tok} {ma : Int} {tm : Tok} {fin : Bool} {rest : List (Addr × Obj)} {room : Int} {C : List UInt8} {c : Addr} {wd : Nat} {lo hi : Int} {nm : Str} {pk : Addr} {n : Int} {tn t1 t2 : Tok} {sz add : Int}
theorem c_Prepend (B : Below A₀ base outer h₀) (F : Fr h₀ L s.heap m) (X : (Mine.hd.heap_39 w.params).In h₀) (S : Sub h₀ L s.heap (led bx dx vt ba b hv th ma tm fin) rest) (T : Top p loose mean mg mb h₀) (hcs : cs.kind = .function)
    (hdp : dp + 12 < recursionLimit) (FX : BFx bx dx ba b hv room C) (FL : FlagAt w c wd lo hi nm pk) (PK : PackAt w pk wd lo hi) (hw : wd = 1 ∨ wd = 2 ∨ wd = 4 ∨ wd = 8)(hC : C.length ≤ 900) (h1 : lo ≤ n) (h2 : n ≤ hi)
    (hret : ∀ h' tk' ba' b' hv' th' tm', Fr h₀ L h' m → Sub h₀ L h' (led bx dx vt ba' b' hv' th' (max ma wd) tm' fin) rest → BFx bx dx ba' b' hv' 0 ((Builtin.Struct.intBytes false wd n).toList ++ upC wd 0 C) → Q (.none) { s with heap := h', toks := tk' }) :
    gAny (model PR w) (ktrTop dp un (some []) cn cs L a ccd [] outer) (call (.ref 466) [.ref bx, .ref c, .int n tn]) Q E s := by
  have n1 := FX.n1; have n2 := FX.n2; have n3 := FX.n3; have z1 := FX.z; have z2 := FX.r0; have z3 := FX.r1; have z4 := FX.h2
  refine g_call ?_
  walk_at "my enter g"
  k_steps
  rename Sub h₀ L _ _ rest => kS; rename Fr h₀ L _ m => kF
  rename BFx _ _ _ _ _ _ _ => fX
  exact hret _ _ _ _ _ _ _ kF kS (bfx_room fX (Int.le_refl 0) (by omega))
theorem c_Prepend_bad (B : Below A₀ base outer h₀) (F : Fr h₀ L s.heap m) (X : (Mine.hd.heap_39 w.params).In h₀) (S : Sub h₀ L s.heap (led bx dx vt ba b hv th ma tm fin) rest) (T : Top p loose mean mg mb h₀) (hcs : cs.kind = .function)
    (hdp : dp + 12 < recursionLimit) (FX : BFx bx dx ba b hv room C) (FL : FlagAt w c wd lo hi nm pk) (hw : wd = 1 ∨ wd = 2 ∨ wd = 4 ∨ wd = 8)(hC : C.length ≤ 900)(h1 : n < lo ∨ hi < n) (h2 : -1000000000000000000000 ≤ n) (h3 : n ≤ 1000000000000000000000) (hnm : nm.length ≤ 20)
    (herr : ∀ e g' h' tk' ba' b' hv' th' tm', Fr h₀ L g' m → RaisedSN base g' (envX cn cs L a ccd [] :: outer) e (.type "TypeError") (led bx dx vt ba' b' hv' th' (max ma wd) tm' fin) h' → g'.UpToSlots h' → BFx bx dx ba' b' hv' 0 (upC wd 0 C) → E (.ref e) { s with heap := h', toks := tk' }) :
    gAny (model PR w) (ktrTop dp un (some []) cn cs L a ccd [] outer) (call (.ref 466) [.ref bx, .ref c, .int n tn]) Q E s := by
  have n1 := FX.n1; have n2 := FX.n2; have n3 := FX.n3; have z1 := FX.z; have z2 := FX.r0; have z3 := FX.r1; have z4 := FX.h2
  refine g_call ?_
  walk_at "my enter g"
  k_steps
  rename RaisedSN _ _ _ _ _ _ _ => rS; rename Heap.UpToSlots _ _ => rU
  rename BFx _ _ _ _ _ _ _ => fX
  exact herr _ _ _ _ _ _ _ _ _ (by assumption) rS rU fX
end
local macro_rules | `(tactic| walk_at "gAny") => `(tactic| (k_here; (with_reducible show gAny _ _ (call (Value.ref 466) _) _ _ _); k_dflt (refine' c_Prepend ?B ?F ?X ?S ?T ?c ?d ?fx ?fl ?pk ?hw ?hC ?h1 ?h2 ?_; (case B => k_asm); (case F => k_asm); (case X => k_asm); (case S => walk_at "my sub"); (case T => k_asm); (case c => exact rfl); (case d => ktr_room); (case fx => assumption); (case fl => assumption); (case pk => assumption); (case hw => omega); (case hC => assumption); (case h1 => omega); (case h2 => omega); k_whole); intro h' tk' ba' b' hv' th' tm' F' S' FX'; walk_at "my back"; walk_at "my fx"))
local macro_rules | `(tactic| walk_at "gAny") => `(tactic| (k_here; (with_reducible show gAny _ _ (call (Value.ref 466) _) _ _ _); k_dflt (refine' c_Prepend_bad ?B ?F ?X ?S ?T ?c ?d ?fx ?fl ?hw ?hC ?h1 ?h2 ?h3 ?hn ?_; (case B => k_asm); (case F => k_asm); (case X => k_asm); (case S => walk_at "my sub"); (case T => k_asm); (case c => exact rfl); (case d => ktr_room); (case fx => assumption); (case fl => assumption); (case hw => omega); (case hC => assumption); (case h1 => omega); (case h2 => omega); (case h3 => omega); (case hn => assumption); k_whole); intro e' g' h' tk' ba' b' hv' th' tm' F' R' U' FX'))
section
variable {w : World} {dp un : Nat} {cn : Str} {cs : Scope} {a : Addr} {ccd : Value} {outer : List Env} {A₀ : Around} {base h₀ : Heap} {L : Addr} {m : Str → Option Value} {mean : ExcName → Option Value} {mg mb : Str → Option Value} {p : Program} {loose : List Str} {s : Shared} {Q E : Value → Shared → Prop}
  {bx dx vt ba : Addr} {b : Array UInt8} {hv : Int} {th : Tok} {ma : Int} {tm : Tok} {fin : Bool} {rest : List (Addr × Obj)} {room : Int} {C : List UInt8} {c : Addr} {wd : Nat} {lo hi : Int} {nm : Str} {pk : Addr} {n : Int} {tn t1 t2 : Tok} {sz add : Int}
theorem c_PrependV (B : Below A₀ base outer h₀) (F : Fr h₀ L s.heap m) (X : (Mine.hd.heap_39 w.params).In h₀) (S : Sub h₀ L s.heap (led bx dx vt ba b hv th ma tm fin) rest) (T : Top p loose mean mg mb h₀) (hcs : cs.kind = .function)
    (hdp : dp + 16 < recursionLimit) (FX : BFx bx dx ba b hv room C) (hC : C.length ≤ 900) (h1 : 0 ≤ n) (h2 : n ≤ 65535)
    (hret : ∀ h' tk' ba' b' hv' th' tm', Fr h₀ L h' m → Sub h₀ L h' (led bx dx vt ba' b' hv' th' (max ma 2) tm' fin) rest → BFx bx dx ba' b' hv' 0 ((Builtin.Struct.intBytes false 2 n).toList ++ upC 2 0 C) → Q (.none) { s with heap := h', toks := tk' }) :
    gAny (model PR w) (ktrTop dp un (some []) cn cs L a ccd [] outer) (call (.ref 641) [.ref bx, .int n tn]) Q E s := by
  have FL := flag_vo w; have PK := pack_51 w; have hnm : (Str.ofString "uint16").length ≤ 20 := by decide
  have n1 := FX.n1; have n2 := FX.n2; have n3 := FX.n3; have z1 := FX.z; have z2 := FX.r0; have z3 := FX.r1; have z4 := FX.h2
  refine g_call ?_
  walk_at "my enter g"
  k_steps
  rename Sub h₀ L _ _ rest => kS; rename Fr h₀ L _ m => kF
  rename BFx _ _ _ _ _ _ _ => fX
  exact hret _ _ _ _ _ _ _ kF kS fX
theorem c_PrependV_bad (B : Below A₀ base outer h₀) (F : Fr h₀ L s.heap m) (X : (Mine.hd.heap_39 w.params).In h₀) (S : Sub h₀ L s.heap (led bx dx vt ba b hv th ma tm fin) rest) (T : Top p loose mean mg mb h₀) (hcs : cs.kind = .function)
    (hdp : dp + 16 < recursionLimit) (FX : BFx bx dx ba b hv room C) (hC : C.length ≤ 900)(h1 : n < 0 ∨ 65535 < n) (h2 : -1000000000000000000000 ≤ n) (h3 : n ≤ 1000000000000000000000)
    (herr : ∀ e g' h' tk' ba' b' hv' th' tm', Fr h₀ L g' m → RaisedSN base g' (envX cn cs L a ccd [] :: outer) e (.type "TypeError") (led bx dx vt ba' b' hv' th' (max ma 2) tm' fin) h' → g'.UpToSlots h' → BFx bx dx ba' b' hv' 0 (upC 2 0 C) → E (.ref e) { s with heap := h', toks := tk' }) :
    gAny (model PR w) (ktrTop dp un (some []) cn cs L a ccd [] outer) (call (.ref 641) [.ref bx, .int n tn]) Q E s := by
  have FL := flag_vo w; have PK := pack_51 w; have hnm : (Str.ofString "uint16").length ≤ 20 := by decide
  have n1 := FX.n1; have n2 := FX.n2; have n3 := FX.n3; have z1 := FX.z; have z2 := FX.r0; have z3 := FX.r1; have z4 := FX.h2
  refine g_call ?_
  walk_at "my enter g"
  k_steps
  rename RaisedSN _ _ _ _ _ _ _ => rS; rename Heap.UpToSlots _ _ => rU
  rename BFx _ _ _ _ _ _ _ => fX
  exact herr _ _ _ _ _ _ _ _ _ (by assumption) rS rU fX
theorem c_PrependRelU (B : Below A₀ base outer h₀) (F : Fr h₀ L s.heap m) (X : (Mine.hd.heap_39 w.params).In h₀) (S : Sub h₀ L s.heap (led bx dx vt ba b hv th ma tm fin) rest) (T : Top p loose mean mg mb h₀) (hcs : cs.kind = .function)
    (hdp : dp + 12 < recursionLimit) (FX : BFx bx dx ba b hv room C) (hC : C.length ≤ 900) (h1 : 0 ≤ n) (h2 : n ≤ ((upC 4 0 C).length : Int))
    (hret : ∀ h' tk' ba' b' hv' th' tm', Fr h₀ L h' m → Sub h₀ L h' (led bx dx vt ba' b' hv' th' (max ma 4) tm' fin) rest → BFx bx dx ba' b' hv' 0 ((Builtin.Struct.intBytes false 4 ((upC 4 0 C).length - n + 4)).toList ++ upC 4 0 C) → Q (.none) { s with heap := h', toks := tk' }) :
    gAny (model PR w) (ktrTop dp un (some []) cn cs L a ccd [] outer) (call (.ref 371) [.ref bx, .int n tn]) Q E s := by
  rw [upC_length] at h2
  have n1 := FX.n1; have n2 := FX.n2; have n3 := FX.n3; have z1 := FX.z; have z2 := FX.r0; have z3 := FX.r1; have z4 := FX.h2
  refine g_call ?_
  walk_at "my enter g"
  k_steps
  rename Sub h₀ L _ _ rest => kS; rename Fr h₀ L _ m => kF
  rename BFx _ _ _ _ _ _ _ => fX
  have fX2 := bfx_room fX (Int.le_refl 0) (by omega)
  refine hret _ _ _ _ _ _ _ kF kS ?_
  rw [upC_length]
  rename ((padN 4 C.length 0 + C.length : Nat) : Int) = _ => q9
  rw [q9]
  exact fX2
theorem c_PrependRelU_bad (B : Below A₀ base outer h₀) (F : Fr h₀ L s.heap m) (X : (Mine.hd.heap_39 w.params).In h₀) (S : Sub h₀ L s.heap (led bx dx vt ba b hv th ma tm fin) rest) (T : Top p loose mean mg mb h₀) (hcs : cs.kind = .function)
    (hdp : dp + 12 < recursionLimit) (FX : BFx bx dx ba b hv room C) (hC : C.length ≤ 900) (h1 : ((upC 4 0 C).length : Int) < n)
    (herr : ∀ e g' h' tk' ba' b' hv' th' tm', Fr h₀ L g' m → RaisedSN base g' (envX cn cs L a ccd [] :: outer) e (.ref 229) (led bx dx vt ba' b' hv' th' (max ma 4) tm' fin) h' → g'.UpToSlots h' → BFx bx dx ba' b' hv' 0 (upC 4 0 C) → E (.ref e) { s with heap := h', toks := tk' }) :
    gAny (model PR w) (ktrTop dp un (some []) cn cs L a ccd [] outer) (call (.ref 371) [.ref bx, .int n tn]) Q E s := by
  rw [upC_length] at h1
  have n1 := FX.n1; have n2 := FX.n2; have n3 := FX.n3; have z1 := FX.z; have z2 := FX.r0; have z3 := FX.r1; have z4 := FX.h2
  refine g_call ?_
  walk_at "my enter g"
  k_steps
  rename RaisedSN _ _ _ _ _ _ _ => rS; rename Heap.UpToSlots _ _ => rU
  rename BFx _ _ _ _ _ _ _ => fX
  exact herr _ _ _ _ _ _ _ _ _ (by assumption) rS rU (bfx_room fX (Int.le_refl 0) (by omega))
theorem c_PrependRelS (B : Below A₀ base outer h₀) (F : Fr h₀ L s.heap m) (X : (Mine.hd.heap_39 w.params).In h₀) (S : Sub h₀ L s.heap (led bx dx vt ba b hv th ma tm fin) rest) (T : Top p loose mean mg mb h₀) (hcs : cs.kind = .function)
    (hdp : dp + 12 < recursionLimit) (FX : BFx bx dx ba b hv room C) (hC : C.length ≤ 900) (h1 : 0 ≤ n) (h2 : n ≤ ((upC 4 0 C).length : Int))
    (hret : ∀ h' tk' ba' b' hv' th' tm', Fr h₀ L h' m → Sub h₀ L h' (led bx dx vt ba' b' hv' th' (max ma 4) tm' fin) rest → BFx bx dx ba' b' hv' 0 ((Builtin.Struct.intBytes false 4 ((upC 4 0 C).length - n + 4)).toList ++ upC 4 0 C) → Q (.none) { s with heap := h', toks := tk' }) :
    gAny (model PR w) (ktrTop dp un (some []) cn cs L a ccd [] outer) (call (.ref 364) [.ref bx, .int n tn]) Q E s := by
  rw [upC_length] at h2
  have n1 := FX.n1; have n2 := FX.n2; have n3 := FX.n3; have z1 := FX.z; have z2 := FX.r0; have z3 := FX.r1; have z4 := FX.h2
  refine g_call ?_
  walk_at "my enter g"
  k_steps
  rename Sub h₀ L _ _ rest => kS; rename Fr h₀ L _ m => kF
  rename BFx _ _ _ _ _ _ _ => fX
  have fX2 := bfx_room fX (Int.le_refl 0) (by omega)
  refine hret _ _ _ _ _ _ _ kF kS ?_
  rw [upC_length]
  rename ((padN 4 C.length 0 + C.length : Nat) : Int) = _ => q9
  rw [q9]
  exact fX2
theorem c_PrependRelS_bad (B : Below A₀ base outer h₀) (F : Fr h₀ L s.heap m) (X : (Mine.hd.heap_39 w.params).In h₀) (S : Sub h₀ L s.heap (led bx dx vt ba b hv th ma tm fin) rest) (T : Top p loose mean mg mb h₀) (hcs : cs.kind = .function)
    (hdp : dp + 12 < recursionLimit) (FX : BFx bx dx ba b hv room C) (hC : C.length ≤ 900) (h1 : ((upC 4 0 C).length : Int) < n)
    (herr : ∀ e g' h' tk' ba' b' hv' th' tm', Fr h₀ L g' m → RaisedSN base g' (envX cn cs L a ccd [] :: outer) e (.ref 229) (led bx dx vt ba' b' hv' th' (max ma 4) tm' fin) h' → g'.UpToSlots h' → BFx bx dx ba' b' hv' 0 (upC 4 0 C) → E (.ref e) { s with heap := h', toks := tk' }) :
    gAny (model PR w) (ktrTop dp un (some []) cn cs L a ccd [] outer) (call (.ref 364) [.ref bx, .int n tn]) Q E s := by
  rw [upC_length] at h1
  have n1 := FX.n1; have n2 := FX.n2; have n3 := FX.n3; have z1 := FX.z; have z2 := FX.r0; have z3 := FX.r1; have z4 := FX.h2
  refine g_call ?_
  walk_at "my enter g"
  k_steps
  rename RaisedSN _ _ _ _ _ _ _ => rS; rename Heap.UpToSlots _ _ => rU
  rename BFx _ _ _ _ _ _ _ => fX
  exact herr _ _ _ _ _ _ _ _ _ (by assumption) rS rU (bfx_room fX (Int.le_refl 0) (by omega))
end
-- part D8
local macro_rules | `(tactic| walk_at "gAny") => `(tactic| (k_here; (with_reducible show gAny _ _ (call (Value.ref 357) _) _ _ _); k_dflt (refine' c_Prep3 ?B ?F ?X ?S ?T ?c ?d ?fx ?hC ?hs ?h5 ?h6 ?_; (case B => k_asm); (case F => k_asm); (case X => k_asm); (case S => walk_at "my sub"); (case T => k_asm); (case c => exact rfl); (case d => ktr_room); (case fx => assumption); (case hC => first | assumption | omega | (rw [upC_length]; omega)); (case hs => omega); (case h5 => omega); (case h6 => omega); k_whole); intro h' tk' ba' b' hv' th' tm' F' S' FX' pl'; walk_at "my back"; walk_at "my fx"))
local macro_rules | `(tactic| walk_at "gAny") => `(tactic| (k_here; (with_reducible show gAny _ _ (call (Value.ref 371) _) _ _ _); k_dflt (refine' c_PrependRelU ?B ?F ?X ?S ?T ?c ?d ?fx ?hC ?h1 ?h2 ?_; (case B => k_asm); (case F => k_asm); (case X => k_asm); (case S => walk_at "my sub"); (case T => k_asm); (case c => exact rfl); (case d => ktr_room); (case fx => assumption); (case hC => first | assumption | omega | (rw [upC_length]; omega)); (case h1 => omega); (case h2 => first | omega | (simp only [upC_length] at *; omega)); k_whole); intro h' tk' ba' b' hv' th' tm' F' S' FX'; walk_at "my back"; walk_at "my fx"))
local macro_rules | `(tactic| walk_at "gAny") => `(tactic| (k_here; (with_reducible show gAny _ _ (call (Value.ref 371) _) _ _ _); k_dflt (refine' c_PrependRelU_bad ?B ?F ?X ?S ?T ?c ?d ?fx ?hC ?h1 ?_; (case B => k_asm); (case F => k_asm); (case X => k_asm); (case S => walk_at "my sub"); (case T => k_asm); (case c => exact rfl); (case d => ktr_room); (case fx => assumption); (case hC => first | assumption | omega | (rw [upC_length]; omega)); (case h1 => first | omega | (simp only [upC_length] at *; omega)); k_whole); intro e' g' h' tk' ba' b' hv' th' tm' F' R' U' FX'))
section
variable {w : World} {dp un : Nat} {cn : Str} {cs : Scope} {a : Addr} {ccd : Value} {outer : List Env} {A₀ : Around} {base h₀ : Heap} {L : Addr} {m : Str → Option Value} {mean : ExcName → Option Value} {mg mb : Str → Option Value} {p : Program} {loose : List Str} {s : Shared} {Q E : Value → Shared → Prop}
  {bx dx vt ba : Addr} {b : Array UInt8} {hv : Int} {th : Tok} {ma : Int} {tm : Tok} {fin : Bool} {rest : List (Addr × Obj)} {room : Int} {C : List UInt8} {c : Addr} {wd : Nat} {lo hi : Int} {nm : Str} {pk : Addr} {n : Int} {tn t1 t2 : Tok} {sz add : Int}
theorem c_assertNested (B : Below A₀ base outer h₀) (F : Fr h₀ L s.heap m) (X : (Mine.hd.heap_39 w.params).In h₀) (S : Sub h₀ L s.heap (led bx dx vt ba b hv th ma tm fin) rest) (T : Top p loose mean mg mb h₀) (hcs : cs.kind = .function)
    (hdp : dp + 5 < recursionLimit) (FX : BFx bx dx ba b hv room C) 
    (herr : ∀ e g' h' tk' ba' b' hv' th' tm', Fr h₀ L g' m → RaisedSN base g' (envX cn cs L a ccd [] :: outer) e (.ref 242) (led bx dx vt ba' b' hv' th' ma tm' fin) h' → g'.UpToSlots h' → BFx bx dx ba' b' hv' 0 C → E (.ref e) { s with heap := h', toks := tk' }) :
    wpAny (model PR w) (ktrTop dp un (some []) cn cs L a ccd [] outer) (call (.ref 414) [.ref bx]) Q E s := by
  have n1 := FX.n1; have n2 := FX.n2; have n3 := FX.n3; have z1 := FX.z; have z2 := FX.r0; have z3 := FX.r1; have z4 := FX.h2
  refine wpAny_call ?_
  walk_at "my enter w"
  k_steps
  rename RaisedSN _ _ _ _ _ _ _ => rS; rename Heap.UpToSlots _ _ => rU
  exact herr _ _ _ _ _ _ _ _ _ (by assumption) rS rU (bfx_room FX (Int.le_refl 0) z2)
end
local macro_rules | `(tactic| walk_at "call ref") => `(tactic| (k_here; (with_reducible show wpAny _ _ (call (Value.ref 414) _) _ _ _); k_dflt (refine' c_assertNested ?B ?F ?X ?S ?T ?c ?d ?fx ?_; (case B => k_asm); (case F => k_asm); (case X => k_asm); (case S => walk_at "my sub"); (case T => k_asm); (case c => exact rfl); (case d => ktr_room); (case fx => assumption); k_whole); intro e' g' h' tk' ba' b' hv' th' tm' F' R' U' FX'))
section
variable {w : World} {dp un : Nat} {cn : Str} {cs : Scope} {a : Addr} {ccd : Value} {outer : List Env} {A₀ : Around} {base h₀ : Heap} {L : Addr} {m : Str → Option Value} {mean : ExcName → Option Value} {mg mb : Str → Option Value} {p : Program} {loose : List Str} {s : Shared} {Q E : Value → Shared → Prop}
  {bx dx vt ba : Addr} {b : Array UInt8} {hv : Int} {th : Tok} {ma : Int} {tm : Tok} {fin : Bool} {rest : List (Addr × Obj)} {room : Int} {C : List UInt8} {c : Addr} {wd : Nat} {lo hi : Int} {nm : Str} {pk : Addr} {n : Int} {tn t1 t2 : Tok} {sz add : Int}
theorem c_Slot (B : Below A₀ base outer h₀) (F : Fr h₀ L s.heap m) (X : (Mine.hd.heap_39 w.params).In h₀) (S : Sub h₀ L s.heap (led bx dx vt ba b hv th ma tm fin) rest) (T : Top p loose mean mg mb h₀) (hcs : cs.kind = .function)
    (hdp : dp + 8 < recursionLimit) (FX : BFx bx dx ba b hv room C) 
    (herr : ∀ e g' h' tk' ba' b' hv' th' tm', Fr h₀ L g' m → RaisedSN base g' (envX cn cs L a ccd [] :: outer) e (.ref 242) (led bx dx vt ba' b' hv' th' ma tm' fin) h' → g'.UpToSlots h' → BFx bx dx ba' b' hv' 0 C → E (.ref e) { s with heap := h', toks := tk' }) :
    wpAny (model PR w) (ktrTop dp un (some []) cn cs L a ccd [] outer) (call (.ref 435) [.ref bx, .int 0 tn]) Q E s := by
  have n1 := FX.n1; have n2 := FX.n2; have n3 := FX.n3; have z1 := FX.z; have z2 := FX.r0; have z3 := FX.r1; have z4 := FX.h2
  refine wpAny_call ?_
  walk_at "my enter w"
  k_steps
  rename RaisedSN _ _ _ _ _ _ _ => rS; rename Heap.UpToSlots _ _ => rU
  rename BFx _ _ _ _ _ _ _ => fX
  exact herr _ _ _ _ _ _ _ _ _ (by assumption) rS rU (bfx_room fX (Int.le_refl 0) (by omega))
end
local macro_rules | `(tactic| walk_at "call ref") => `(tactic| (k_here; (with_reducible show wpAny _ _ (call (Value.ref 435) _) _ _ _); k_dflt (refine' c_Slot ?B ?F ?X ?S ?T ?c ?d ?fx ?_; (case B => k_asm); (case F => k_asm); (case X => k_asm); (case S => walk_at "my sub"); (case T => k_asm); (case c => exact rfl); (case d => ktr_room); (case fx => assumption); k_whole); intro e' g' h' tk' ba' b' hv' th' tm' F' R' U' FX'))
section
variable {w : World} {dp un : Nat} {cn : Str} {cs : Scope} {a : Addr} {ccd : Value} {outer : List Env} {A₀ : Around} {base h₀ : Heap} {L : Addr} {m : Str → Option Value} {mean : ExcName → Option Value} {mg mb : Str → Option Value} {p : Program} {loose : List Str} {s : Shared} {Q E : Value → Shared → Prop}
  {bx dx vt ba : Addr} {b : Array UInt8} {hv : Int} {th : Tok} {ma : Int} {tm : Tok} {fin : Bool} {rest : List (Addr × Obj)} {room : Int} {C : List UInt8} {c : Addr} {wd : Nat} {lo hi : Int} {nm : Str} {pk : Addr} {n : Int} {tn t1 t2 : Tok} {sz add : Int}
variable {x d : Int} {tx td t0 : Tok}
theorem c_PSlot_bad1 (B : Below A₀ base outer h₀) (F : Fr h₀ L s.heap m) (X : (Mine.hd.heap_39 w.params).In h₀) (S : Sub h₀ L s.heap (led bx dx vt ba b hv th ma tm fin) rest) (T : Top p loose mean mg mb h₀) (hcs : cs.kind = .function)
    (hdp : dp + 20 < recursionLimit) (FX : BFx bx dx ba b hv room C) (FL : FlagAt w c wd lo hi nm pk) (PK : PackAt w pk wd lo hi) (hw : wd = 1 ∨ wd = 2 ∨ wd = 4 ∨ wd = 8) (hC : C.length ≤ 900) (hnm : nm.length ≤ 20) (h1 : x < lo ∨ hi < x)(h2 : -1000000000000000000000 ≤ x) (h3 : x ≤ 1000000000000000000000)
    (herr : ∀ e g' h' tk' ba' b' hv' th' tm', Fr h₀ L g' m → RaisedSN base g' (envX cn cs L a ccd [] :: outer) e (.type "TypeError") (led bx dx vt ba' b' hv' th' ma tm' fin) h' → g'.UpToSlots h' → BFx bx dx ba' b' hv' 0 C → E (.ref e) { s with heap := h', toks := tk' }) :
    gAny (model PR w) (ktrTop dp un (some []) cn cs L a ccd [] outer) (call (.ref 473) [.ref bx, .ref c, .int 0 t0, .int x tx, .int d td]) Q E s := by
  have n1 := FX.n1; have n2 := FX.n2; have n3 := FX.n3; have z1 := FX.z; have z2 := FX.r0; have z3 := FX.r1; have z4 := FX.h2
  refine g_call ?_
  walk_at "my enter g"
  k_steps
  rename RaisedSN _ _ _ _ _ _ _ => rS; rename Heap.UpToSlots _ _ => rU
  exact herr _ _ _ _ _ _ _ _ _ (by assumption) rS rU (bfx_room FX (Int.le_refl 0) z2)
theorem c_PSlot_bad2 (B : Below A₀ base outer h₀) (F : Fr h₀ L s.heap m) (X : (Mine.hd.heap_39 w.params).In h₀) (S : Sub h₀ L s.heap (led bx dx vt ba b hv th ma tm fin) rest) (T : Top p loose mean mg mb h₀) (hcs : cs.kind = .function)
    (hdp : dp + 20 < recursionLimit) (FX : BFx bx dx ba b hv room C) (FL : FlagAt w c wd lo hi nm pk) (PK : PackAt w pk wd lo hi) (hw : wd = 1 ∨ wd = 2 ∨ wd = 4 ∨ wd = 8) (hC : C.length ≤ 900) (hnm : nm.length ≤ 20) (h1 : lo ≤ x) (h0 : x ≤ hi) (h4 : d < lo ∨ hi < d)(h2 : -1000000000000000000000 ≤ d) (h3 : d ≤ 1000000000000000000000)
    (herr : ∀ e g' h' tk' ba' b' hv' th' tm', Fr h₀ L g' m → RaisedSN base g' (envX cn cs L a ccd [] :: outer) e (.type "TypeError") (led bx dx vt ba' b' hv' th' ma tm' fin) h' → g'.UpToSlots h' → BFx bx dx ba' b' hv' 0 C → E (.ref e) { s with heap := h', toks := tk' }) :
    gAny (model PR w) (ktrTop dp un (some []) cn cs L a ccd [] outer) (call (.ref 473) [.ref bx, .ref c, .int 0 t0, .int x tx, .int d td]) Q E s := by
  have n1 := FX.n1; have n2 := FX.n2; have n3 := FX.n3; have z1 := FX.z; have z2 := FX.r0; have z3 := FX.r1; have z4 := FX.h2
  refine g_call ?_
  walk_at "my enter g"
  k_steps
  rename RaisedSN _ _ _ _ _ _ _ => rS; rename Heap.UpToSlots _ _ => rU
  exact herr _ _ _ _ _ _ _ _ _ (by assumption) rS rU (bfx_room FX (Int.le_refl 0) z2)
theorem c_PSlot_same (B : Below A₀ base outer h₀) (F : Fr h₀ L s.heap m) (X : (Mine.hd.heap_39 w.params).In h₀) (S : Sub h₀ L s.heap (led bx dx vt ba b hv th ma tm fin) rest) (T : Top p loose mean mg mb h₀) (hcs : cs.kind = .function)
    (hdp : dp + 20 < recursionLimit) (FX : BFx bx dx ba b hv room C) (FL : FlagAt w c wd lo hi nm pk) (PK : PackAt w pk wd lo hi) (hw : wd = 1 ∨ wd = 2 ∨ wd = 4 ∨ wd = 8) (hC : C.length ≤ 900) (hnm : nm.length ≤ 20) (h1 : lo ≤ x) (h0 : x ≤ hi) (h2 : d = x)
    (hret : ∀ h' tk' ba' b' hv' th' tm', Fr h₀ L h' m → Sub h₀ L h' (led bx dx vt ba' b' hv' th' ma tm' fin) rest → BFx bx dx ba' b' hv' 0 C → Q (.none) { s with heap := h', toks := tk' }) :
    gAny (model PR w) (ktrTop dp un (some []) cn cs L a ccd [] outer) (call (.ref 473) [.ref bx, .ref c, .int 0 t0, .int x tx, .int d td]) Q E s := by
  have n1 := FX.n1; have n2 := FX.n2; have n3 := FX.n3; have z1 := FX.z; have z2 := FX.r0; have z3 := FX.r1; have z4 := FX.h2
  refine g_call ?_
  walk_at "my enter g"
  k_steps
  rename Sub h₀ L _ _ rest => kS; rename Fr h₀ L _ m => kF
  exact hret _ _ _ _ _ _ _ kF kS (bfx_room FX (Int.le_refl 0) z2)
theorem c_PSlot_nest (B : Below A₀ base outer h₀) (F : Fr h₀ L s.heap m) (X : (Mine.hd.heap_39 w.params).In h₀) (S : Sub h₀ L s.heap (led bx dx vt ba b hv th ma tm fin) rest) (T : Top p loose mean mg mb h₀) (hcs : cs.kind = .function)
    (hdp : dp + 20 < recursionLimit) (FX : BFx bx dx ba b hv room C) (FL : FlagAt w c wd lo hi nm pk) (PK : PackAt w pk wd lo hi) (hw : wd = 1 ∨ wd = 2 ∨ wd = 4 ∨ wd = 8) (hC : C.length ≤ 900) (hnm : nm.length ≤ 20) (h1 : lo ≤ x) (h0 : x ≤ hi) (h2 : lo ≤ d) (h3 : d ≤ hi) (h4 : x ≠ d)
    (herr : ∀ e g' h' tk' ba' b' hv' th' tm', Fr h₀ L g' m → RaisedSN base g' (envX cn cs L a ccd [] :: outer) e (.ref 242) (led bx dx vt ba' b' hv' th' (max ma wd) tm' fin) h' → g'.UpToSlots h' → BFx bx dx ba' b' hv' 0 ((Builtin.Struct.intBytes false wd x).toList ++ upC wd 0 C) → E (.ref e) { s with heap := h', toks := tk' }) :
    gAny (model PR w) (ktrTop dp un (some []) cn cs L a ccd [] outer) (call (.ref 473) [.ref bx, .ref c, .int 0 t0, .int x tx, .int d td]) Q E s := by
  have n1 := FX.n1; have n2 := FX.n2; have n3 := FX.n3; have z1 := FX.z; have z2 := FX.r0; have z3 := FX.r1; have z4 := FX.h2
  refine g_call ?_
  walk_at "my enter g"
  k_steps
  rename RaisedSN _ _ _ _ _ _ _ => rS; rename Heap.UpToSlots _ _ => rU
  rename BFx _ _ _ _ _ _ _ => fX
  exact herr _ _ _ _ _ _ _ _ _ (by assumption) rS rU (bfx_room fX (Int.le_refl 0) (by omega))
end
-- part D9
section
variable {w : World} {dp un : Nat} {cn : Str} {cs : Scope} {a : Addr} {ccd : Value} {outer : List Env} {A₀ : Around} {base h₀ : Heap} {L : Addr} {m : Str → Option Value} {mean : ExcName → Option Value} {mg mb : Str → Option Value} {p : Program} {loose : List Str} {s : Shared} {Q E : Value → Shared → Prop}
  {bx dx vt ba : Addr} {b : Array UInt8} {hv : Int} {th : Tok} {ma : Int} {tm : Tok} {fin : Bool} {rest : List (Addr × Obj)} {room : Int} {C : List UInt8} {c : Addr} {wd : Nat} {lo hi : Int} {nm : Str} {pk : Addr} {n : Int} {tn t1 t2 : Tok} {sz add : Int}
variable {idb : Array UInt8} {ti : Tok}
theorem c_Fin_id (B : Below A₀ base outer h₀) (F : Fr h₀ L s.heap m) (X : (Mine.hd.heap_39 w.params).In h₀) (S : Sub h₀ L s.heap (led bx dx vt ba b hv th ma tm fin) rest) (T : Top p loose mean mg mb h₀) (hcs : cs.kind = .function)
    (hdp : dp + 20 < recursionLimit) (FX : BFx bx dx ba b hv room C) (hm : ma = 1 ∨ ma = 2 ∨ ma = 4 ∨ ma = 8) (hC : C.length ≤ 870) (h1 : 0 ≤ n) (h2 : n ≤ 4294967295) (h3 : idb.size ≠ 4)
    (herr : ∀ e g' h' tk' ba' b' hv' th' tm', Fr h₀ L g' m → RaisedSN base g' (envX cn cs L a ccd [] :: outer) e (.type "struct.error") (led bx dx vt ba' b' hv' th' (max (max ma ma) 4) tm' fin) h' → g'.UpToSlots h' → BFx bx dx ba' b' hv' 0 (upC 4 4 (upC ma 8 C)) → E (.ref e) { s with heap := h', toks := tk' }) :
    gAny (model PR w) (ktrTop dp un (some []) cn cs L a ccd [] outer) (call (.ref 443) [.ref bx, .int n tn, .bool false] [("file_identifier", .bytes idb ti)]) Q E s := by
  have FL := flag_uo w; have hnm : (Str.ofString "uint32").length ≤ 20 := by decide
  have n1 := FX.n1; have n2 := FX.n2; have n3 := FX.n3; have z1 := FX.z; have z2 := FX.r0; have z3 := FX.r1; have z4 := FX.h2
  refine g_call ?_
  walk_at "my enter g"
  k_steps
  rename RaisedSN _ _ _ _ _ _ _ => rS; rename Heap.UpToSlots _ _ => rU
  rename BFx _ _ _ _ _ _ _ => fX
  exact herr _ _ _ _ _ _ _ _ _ (by assumption) rS rU (bfx_room fX (Int.le_refl 0) (by omega))
theorem c_Fin_type (B : Below A₀ base outer h₀) (F : Fr h₀ L s.heap m) (X : (Mine.hd.heap_39 w.params).In h₀) (S : Sub h₀ L s.heap (led bx dx vt ba b hv th ma tm fin) rest) (T : Top p loose mean mg mb h₀) (hcs : cs.kind = .function)
    (hdp : dp + 20 < recursionLimit) (FX : BFx bx dx ba b hv room C) (hm : ma = 1 ∨ ma = 2 ∨ ma = 4 ∨ ma = 8) (hC : C.length ≤ 870) (h1 : n < 0 ∨ 4294967295 < n) (h2 : -1000000000000000000000 ≤ n) (h3 : n ≤ 1000000000000000000000)
    (herr : ∀ e g' h' tk' ba' b' hv' th' tm', Fr h₀ L g' m → RaisedSN base g' (envX cn cs L a ccd [] :: outer) e (.type "TypeError") (led bx dx vt ba' b' hv' th' ma tm' fin) h' → g'.UpToSlots h' → BFx bx dx ba' b' hv' 0 C → E (.ref e) { s with heap := h', toks := tk' }) :
    gAny (model PR w) (ktrTop dp un (some []) cn cs L a ccd [] outer) (call (.ref 443) [.ref bx, .int n tn, .bool false] [("file_identifier", .none)]) Q E s := by
  have FL := flag_uo w; have hnm : (Str.ofString "uint32").length ≤ 20 := by decide
  have n1 := FX.n1; have n2 := FX.n2; have n3 := FX.n3; have z1 := FX.z; have z2 := FX.r0; have z3 := FX.r1; have z4 := FX.h2
  refine g_call ?_
  walk_at "my enter g"
  k_steps
  rename RaisedSN _ _ _ _ _ _ _ => rS; rename Heap.UpToSlots _ _ => rU
  exact herr _ _ _ _ _ _ _ _ _ (by assumption) rS rU (bfx_room FX (Int.le_refl 0) z2)
theorem c_Fin_ahead (B : Below A₀ base outer h₀) (F : Fr h₀ L s.heap m) (X : (Mine.hd.heap_39 w.params).In h₀) (S : Sub h₀ L s.heap (led bx dx vt ba b hv th ma tm fin) rest) (T : Top p loose mean mg mb h₀) (hcs : cs.kind = .function)
    (hdp : dp + 20 < recursionLimit) (FX : BFx bx dx ba b hv room C) (hm : ma = 1 ∨ ma = 2 ∨ ma = 4 ∨ ma = 8) (hC : C.length ≤ 870) (h1 : 0 ≤ n) (h2 : n ≤ 4294967295) (h3 : ((upC 4 0 (upC ma 4 C)).length : Int) < n)
    (herr : ∀ e g' h' tk' ba' b' hv' th' tm', Fr h₀ L g' m → RaisedSN base g' (envX cn cs L a ccd [] :: outer) e (.ref 229) (led bx dx vt ba' b' hv' th' (max (max ma ma) 4) tm' fin) h' → g'.UpToSlots h' → BFx bx dx ba' b' hv' 0 (upC 4 0 (upC ma 4 C)) → E (.ref e) { s with heap := h', toks := tk' }) :
    gAny (model PR w) (ktrTop dp un (some []) cn cs L a ccd [] outer) (call (.ref 443) [.ref bx, .int n tn, .bool false] [("file_identifier", .none)]) Q E s := by
  have FL := flag_uo w; have hnm : (Str.ofString "uint32").length ≤ 20 := by decide
  have n1 := FX.n1; have n2 := FX.n2; have n3 := FX.n3; have z1 := FX.z; have z2 := FX.r0; have z3 := FX.r1; have z4 := FX.h2
  refine g_call ?_
  walk_at "my enter g"
  k_steps
  rename RaisedSN _ _ _ _ _ _ _ => rS; rename Heap.UpToSlots _ _ => rU
  rename BFx _ _ _ _ _ _ _ => fX
  exact herr _ _ _ _ _ _ _ _ _ (by assumption) rS rU (bfx_room fX (Int.le_refl 0) (by omega))
theorem c_Fin_ok (B : Below A₀ base outer h₀) (F : Fr h₀ L s.heap m) (X : (Mine.hd.heap_39 w.params).In h₀) (S : Sub h₀ L s.heap (led bx dx vt ba b hv th ma tm fin) rest) (T : Top p loose mean mg mb h₀) (hcs : cs.kind = .function)
    (hdp : dp + 20 < recursionLimit) (FX : BFx bx dx ba b hv room C) (hm : ma = 1 ∨ ma = 2 ∨ ma = 4 ∨ ma = 8) (hC : C.length ≤ 870) (h1 : 0 ≤ n) (h2 : n ≤ 4294967295) (h3 : n ≤ ((upC 4 0 (upC ma 4 C)).length : Int))
    (hret : ∀ h' tk' ba' b' hv' th' tm', Fr h₀ L h' m → Sub h₀ L h' (led bx dx vt ba' b' hv' th' (max (max ma ma) 4) tm' true) rest → BFx bx dx ba' b' hv' 0 ((Builtin.Struct.intBytes false 4 ((upC 4 0 (upC ma 4 C)).length - n + 4)).toList ++ (upC 4 0 (upC ma 4 C))) → Q (.int hv' th') { s with heap := h', toks := tk' }) :
    gAny (model PR w) (ktrTop dp un (some []) cn cs L a ccd [] outer) (call (.ref 443) [.ref bx, .int n tn, .bool false] [("file_identifier", .none)]) Q E s := by
  have FL := flag_uo w; have hnm : (Str.ofString "uint32").length ≤ 20 := by decide
  have n1 := FX.n1; have n2 := FX.n2; have n3 := FX.n3; have z1 := FX.z; have z2 := FX.r0; have z3 := FX.r1; have z4 := FX.h2
  refine g_call ?_
  walk_at "my enter g"
  k_steps
  rename Sub h₀ L _ _ rest => kS; rename Fr h₀ L _ m => kF
  rename BFx _ _ _ _ _ _ _ => fX
  exact hret _ _ _ _ _ _ _ kF kS fX
end
local macro_rules | `(tactic| walk_at "gAny") => `(tactic| (k_here; (with_reducible show gAny _ _ (call (Value.ref 443) _ _) _ _ _); k_dflt (refine' c_Fin_id ?B ?F ?X ?S ?T ?c ?d ?fx ?hm ?hC ?h1 ?h2 ?h3 ?_; (case B => k_asm); (case F => k_asm); (case X => k_asm); (case S => walk_at "my sub"); (case T => k_asm); (case c => exact rfl); (case d => ktr_room); (case fx => assumption); (case hm => assumption); (case hC => first | assumption | omega); (case h1 => omega); (case h2 => omega); (case h3 => assumption); k_whole); intro e' g' h' tk' ba' b' hv' th' tm' F' R' U' FX'))
local macro_rules | `(tactic| walk_at "gAny") => `(tactic| (k_here; (with_reducible show gAny _ _ (call (Value.ref 443) _ _) _ _ _); k_dflt (refine' c_Fin_type ?B ?F ?X ?S ?T ?c ?d ?fx ?hm ?hC ?h1 ?h2 ?h3 ?_; (case B => k_asm); (case F => k_asm); (case X => k_asm); (case S => walk_at "my sub"); (case T => k_asm); (case c => exact rfl); (case d => ktr_room); (case fx => assumption); (case hm => assumption); (case hC => first | assumption | omega); (case h1 => omega); (case h2 => omega); (case h3 => omega); k_whole); intro e' g' h' tk' ba' b' hv' th' tm' F' R' U' FX'))
local macro_rules | `(tactic| walk_at "gAny") => `(tactic| (k_here; (with_reducible show gAny _ _ (call (Value.ref 443) _ _) _ _ _); k_dflt (refine' c_Fin_ahead ?B ?F ?X ?S ?T ?c ?d ?fx ?hm ?hC ?h1 ?h2 ?h3 ?_; (case B => k_asm); (case F => k_asm); (case X => k_asm); (case S => walk_at "my sub"); (case T => k_asm); (case c => exact rfl); (case d => ktr_room); (case fx => assumption); (case hm => assumption); (case hC => first | assumption | omega); (case h1 => omega); (case h2 => omega); (case h3 => omega); k_whole); intro e' g' h' tk' ba' b' hv' th' tm' F' R' U' FX'))
local macro_rules | `(tactic| walk_at "gAny") => `(tactic| (k_here; (with_reducible show gAny _ _ (call (Value.ref 443) _ _) _ _ _); k_dflt (refine' c_Fin_ok ?B ?F ?X ?S ?T ?c ?d ?fx ?hm ?hC ?h1 ?h2 ?h3 ?_; (case B => k_asm); (case F => k_asm); (case X => k_asm); (case S => walk_at "my sub"); (case T => k_asm); (case c => exact rfl); (case d => ktr_room); (case fx => assumption); (case hm => assumption); (case hC => first | assumption | omega); (case h1 => omega); (case h2 => omega); (case h3 => omega); k_whole); intro h' tk' ba' b' hv' th' tm' F' S' FX'; walk_at "my back"; walk_at "my fx"))
section
variable {w : World} {dp un : Nat} {cn : Str} {cs : Scope} {a : Addr} {ccd : Value} {outer : List Env} {A₀ : Around} {base h₀ : Heap} {L : Addr} {m : Str → Option Value} {mean : ExcName → Option Value} {mg mb : Str → Option Value} {p : Program} {loose : List Str} {s : Shared} {Q E : Value → Shared → Prop}
  {bx dx vt ba : Addr} {b : Array UInt8} {hv : Int} {th : Tok} {ma : Int} {tm : Tok} {fin : Bool} {rest : List (Addr × Obj)} {room : Int} {C : List UInt8} {c : Addr} {wd : Nat} {lo hi : Int} {nm : Str} {pk : Addr} {n : Int} {tn t1 t2 : Tok} {sz add : Int}
variable {idb : Array UInt8} {ti : Tok}
theorem c_Finish_id (B : Below A₀ base outer h₀) (F : Fr h₀ L s.heap m) (X : (Mine.hd.heap_39 w.params).In h₀) (S : Sub h₀ L s.heap (led bx dx vt ba b hv th ma tm fin) rest) (T : Top p loose mean mg mb h₀) (hcs : cs.kind = .function)
    (hdp : dp + 24 < recursionLimit) (FX : BFx bx dx ba b hv room C) (hm : ma = 1 ∨ ma = 2 ∨ ma = 4 ∨ ma = 8) (hC : C.length ≤ 870) (h1 : 0 ≤ n) (h2 : n ≤ 4294967295) (h3 : idb.size ≠ 4)
    (herr : ∀ e g' h' tk' ba' b' hv' th' tm', Fr h₀ L g' m → RaisedSN base g' (envX cn cs L a ccd [] :: outer) e (.type "struct.error") (led bx dx vt ba' b' hv' th' (max (max ma ma) 4) tm' fin) h' → g'.UpToSlots h' → BFx bx dx ba' b' hv' 0 (upC 4 4 (upC ma 8 C)) → E (.ref e) { s with heap := h', toks := tk' }) :
    gAny (model PR w) (ktrTop dp un (some []) cn cs L a ccd [] outer) (call (.ref 451) [.ref bx, .int n tn, .bytes idb ti]) Q E s := by
  have n1 := FX.n1; have n2 := FX.n2; have n3 := FX.n3; have z1 := FX.z; have z2 := FX.r0; have z3 := FX.r1; have z4 := FX.h2
  refine g_call ?_
  walk_at "my enter g"
  k_steps
  rename RaisedSN _ _ _ _ _ _ _ => rS; rename Heap.UpToSlots _ _ => rU
  rename BFx _ _ _ _ _ _ _ => fX
  exact herr _ _ _ _ _ _ _ _ _ (by assumption) rS rU (bfx_room fX (Int.le_refl 0) (by omega))
theorem c_Finish_type (B : Below A₀ base outer h₀) (F : Fr h₀ L s.heap m) (X : (Mine.hd.heap_39 w.params).In h₀) (S : Sub h₀ L s.heap (led bx dx vt ba b hv th ma tm fin) rest) (T : Top p loose mean mg mb h₀) (hcs : cs.kind = .function)
    (hdp : dp + 24 < recursionLimit) (FX : BFx bx dx ba b hv room C) (hm : ma = 1 ∨ ma = 2 ∨ ma = 4 ∨ ma = 8) (hC : C.length ≤ 870) (h1 : n < 0 ∨ 4294967295 < n) (h2 : -1000000000000000000000 ≤ n) (h3 : n ≤ 1000000000000000000000)
    (herr : ∀ e g' h' tk' ba' b' hv' th' tm', Fr h₀ L g' m → RaisedSN base g' (envX cn cs L a ccd [] :: outer) e (.type "TypeError") (led bx dx vt ba' b' hv' th' ma tm' fin) h' → g'.UpToSlots h' → BFx bx dx ba' b' hv' 0 C → E (.ref e) { s with heap := h', toks := tk' }) :
    gAny (model PR w) (ktrTop dp un (some []) cn cs L a ccd [] outer) (call (.ref 451) [.ref bx, .int n tn, .none]) Q E s := by
  have n1 := FX.n1; have n2 := FX.n2; have n3 := FX.n3; have z1 := FX.z; have z2 := FX.r0; have z3 := FX.r1; have z4 := FX.h2
  refine g_call ?_
  walk_at "my enter g"
  k_steps
  rename RaisedSN _ _ _ _ _ _ _ => rS; rename Heap.UpToSlots _ _ => rU
  rename BFx _ _ _ _ _ _ _ => fX
  exact herr _ _ _ _ _ _ _ _ _ (by assumption) rS rU (bfx_room fX (Int.le_refl 0) (by omega))
theorem c_Finish_ahead (B : Below A₀ base outer h₀) (F : Fr h₀ L s.heap m) (X : (Mine.hd.heap_39 w.params).In h₀) (S : Sub h₀ L s.heap (led bx dx vt ba b hv th ma tm fin) rest) (T : Top p loose mean mg mb h₀) (hcs : cs.kind = .function)
    (hdp : dp + 24 < recursionLimit) (FX : BFx bx dx ba b hv room C) (hm : ma = 1 ∨ ma = 2 ∨ ma = 4 ∨ ma = 8) (hC : C.length ≤ 870) (h1 : 0 ≤ n) (h2 : n ≤ 4294967295) (h3 : ((upC 4 0 (upC ma 4 C)).length : Int) < n)
    (herr : ∀ e g' h' tk' ba' b' hv' th' tm', Fr h₀ L g' m → RaisedSN base g' (envX cn cs L a ccd [] :: outer) e (.ref 229) (led bx dx vt ba' b' hv' th' (max (max ma ma) 4) tm' fin) h' → g'.UpToSlots h' → BFx bx dx ba' b' hv' 0 (upC 4 0 (upC ma 4 C)) → E (.ref e) { s with heap := h', toks := tk' }) :
    gAny (model PR w) (ktrTop dp un (some []) cn cs L a ccd [] outer) (call (.ref 451) [.ref bx, .int n tn, .none]) Q E s := by
  have n1 := FX.n1; have n2 := FX.n2; have n3 := FX.n3; have z1 := FX.z; have z2 := FX.r0; have z3 := FX.r1; have z4 := FX.h2
  refine g_call ?_
  walk_at "my enter g"
  k_steps
  rename RaisedSN _ _ _ _ _ _ _ => rS; rename Heap.UpToSlots _ _ => rU
  rename BFx _ _ _ _ _ _ _ => fX
  exact herr _ _ _ _ _ _ _ _ _ (by assumption) rS rU (bfx_room fX (Int.le_refl 0) (by omega))
theorem c_Finish_ok (B : Below A₀ base outer h₀) (F : Fr h₀ L s.heap m) (X : (Mine.hd.heap_39 w.params).In h₀) (S : Sub h₀ L s.heap (led bx dx vt ba b hv th ma tm fin) rest) (T : Top p loose mean mg mb h₀) (hcs : cs.kind = .function)
    (hdp : dp + 24 < recursionLimit) (FX : BFx bx dx ba b hv room C) (hm : ma = 1 ∨ ma = 2 ∨ ma = 4 ∨ ma = 8) (hC : C.length ≤ 870) (h1 : 0 ≤ n) (h2 : n ≤ 4294967295) (h3 : n ≤ ((upC 4 0 (upC ma 4 C)).length : Int))
    (hret : ∀ h' tk' ba' b' hv' th' tm', Fr h₀ L h' m → Sub h₀ L h' (led bx dx vt ba' b' hv' th' (max (max ma ma) 4) tm' true) rest → BFx bx dx ba' b' hv' 0 ((Builtin.Struct.intBytes false 4 ((upC 4 0 (upC ma 4 C)).length - n + 4)).toList ++ (upC 4 0 (upC ma 4 C))) → Q (.int hv' th') { s with heap := h', toks := tk' }) :
    gAny (model PR w) (ktrTop dp un (some []) cn cs L a ccd [] outer) (call (.ref 451) [.ref bx, .int n tn]) Q E s := by
  have n1 := FX.n1; have n2 := FX.n2; have n3 := FX.n3; have z1 := FX.z; have z2 := FX.r0; have z3 := FX.r1; have z4 := FX.h2
  refine g_call ?_
  walk_at "my enter g"
  k_steps
  rename Sub h₀ L _ _ rest => kS; rename Fr h₀ L _ m => kF
  rename BFx _ _ _ _ _ _ _ => fX
  exact hret _ _ _ _ _ _ _ kF kS fX
end
-- part D10
theorem ba_slice_from {prog : Program} {w : World} {A : Around} {E : Value → Shared → Prop} {s : Shared} {x : Addr} {b : Array UInt8} {value slice : PySem.Expr} {h₀ : Heap} {L : Addr} {m : PySem.Str → Option Value} {news : List (Addr × Obj)} {k : Int} {t : Tok} {Q : Value → Shared → Prop}
    (hF : Fr h₀ L s.heap m) (hN : News h₀ L s.heap news) (hm : (x, baObj b) ∈ news) (h0 : 0 ≤ k) (hz : b.size ≤ 16777216)
    (h : ∀ D h', Fr h₀ L h' m → News h₀ L h' ((D, baObj (b.extract k.toNat b.size)) :: news) → (∀ p ∈ news, p.1 < D) → Q (.ref D) { s with heap := h' })
    (hs : subscripted slice false (.ref x) (.ref s.heap.objs.size) = operate [.ref s.heap.objs.size, .ref x] (getItem (.ref x) (.ref s.heap.objs.size)) := by with_unfolding_all rfl)
    (ht : ∀ r, letTemporaryGo value (.ref x) r = pure () := by intro _; with_unfolding_all rfl) :
    wpAny (model prog w) A (subscriptTail value slice (.ref x) (.ref s.heap.objs.size)) Q E { s with heap := s.heap.push { cls := .type "slice", data := .fields #[.int k t, .none, .none] } } := by
  have e := picked_from b k h0
  refine ba_slice (lo := some k) (hi := none) hF hN hm (by constructor) (by constructor) (by rw [e, Array.size_extract]; omega) (fun D h' F' N' l => h D h' F' (by rw [e] at N'; exact N') l) hs ht
theorem cont_extract (b : Array UInt8) (hv : Int) : (b.extract hv.toNat b.size).toList = cont b hv := by
  unfold cont
  rw [Array.toList_extract, List.extract_eq_take_drop]
  apply List.take_of_length_le; rw [List.length_drop, Array.length_toList]; exact Nat.le_refl _
local macro_rules | `(tactic| walk_at "subscriptTail") => `(tactic| (k_here; (with_reducible show wpAny _ _ (subscriptTail _ (Expr.Slice (some _) none none _) (Value.ref _) (Value.ref _)) _ _ _); (with_reducible rename Fr _ _ _ _ => kF'); (with_reducible rename News _ _ _ _ => kN'); k_dflt (refine' ba_slice_from (s := ⟨_, _, _, _, _⟩) kF' kN' ?hm ?h0 ?hz ?_; (case hm => k_mem); (case h0 => omega); (case hz => omega); k_whole); intro D' h' F' N' l1; (try k_lt l1); (try k_sweep)))
section
variable {w : World} {dp un : Nat} {cn : Str} {cs : Scope} {a : Addr} {ccd : Value} {outer : List Env} {A₀ : Around} {base h₀ : Heap} {L : Addr} {m : Str → Option Value} {mean : ExcName → Option Value} {mg mb : Str → Option Value} {p : Program} {loose : List Str} {s : Shared} {Q E : Value → Shared → Prop}
  {bx dx vt ba : Addr} {b : Array UInt8} {hv : Int} {th : Tok} {ma : Int} {tm : Tok} {fin : Bool} {rest : List (Addr × Obj)} {room : Int} {C : List UInt8} {c : Addr} {wd : Nat} {lo hi : Int} {nm : Str} {pk : Addr} {n : Int} {tn t1 t2 : Tok} {sz add : Int}
theorem c_Output_bad (B : Below A₀ base outer h₀) (F : Fr h₀ L s.heap m) (X : (Mine.hd.heap_39 w.params).In h₀) (S : Sub h₀ L s.heap (led bx dx vt ba b hv th ma tm fin) rest) (T : Top p loose mean mg mb h₀) (hcs : cs.kind = .function)
    (hdp : dp + 8 < recursionLimit) (FX : BFx bx dx ba b hv room C) (hfin : fin = false)
    (herr : ∀ e g' h' tk' ba' b' hv' th' tm', Fr h₀ L g' m → RaisedSN base g' (envX cn cs L a ccd [] :: outer) e (.ref 268) (led bx dx vt ba' b' hv' th' ma tm' fin) h' → g'.UpToSlots h' → BFx bx dx ba' b' hv' 0 C → E (.ref e) { s with heap := h', toks := tk' }) :
    wpAny (model PR w) (ktrTop dp un (some []) cn cs L a ccd [] outer) (call (.ref 301) [.ref bx]) Q E s := by
  subst hfin
  have n1 := FX.n1; have n2 := FX.n2; have n3 := FX.n3; have z1 := FX.z; have z2 := FX.r0; have z3 := FX.r1; have z4 := FX.h2
  refine wpAny_call ?_
  walk_at "my enter w"
  k_steps
  rename RaisedSN _ _ _ _ _ _ _ => rS; rename Heap.UpToSlots _ _ => rU
  exact herr _ _ _ _ _ _ _ _ _ (by assumption) rS rU (bfx_room FX (Int.le_refl 0) z2)
theorem c_Output_ok (B : Below A₀ base outer h₀) (F : Fr h₀ L s.heap m) (X : (Mine.hd.heap_39 w.params).In h₀) (S : Sub h₀ L s.heap (led bx dx vt ba b hv th ma tm fin) rest) (T : Top p loose mean mg mb h₀) (hcs : cs.kind = .function)
    (hdp : dp + 8 < recursionLimit) (FX : BFx bx dx ba b hv room C) (hfin : fin = true)
    (hret : ∀ h' tk' D, Fr h₀ L h' m → Sub h₀ L h' ((D, baObj (b.extract hv.toNat b.size)) :: led bx dx vt ba b hv th ma tm fin) rest → Q (.ref D) { s with heap := h', toks := tk' }) :
    wpAny (model PR w) (ktrTop dp un (some []) cn cs L a ccd [] outer) (call (.ref 301) [.ref bx]) Q E s := by
  subst hfin
  have n1 := FX.n1; have n2 := FX.n2; have n3 := FX.n3; have z1 := FX.z; have z2 := FX.r0; have z3 := FX.r1; have z4 := FX.h2
  refine wpAny_call ?_
  walk_at "my enter w"
  k_steps
  rename Sub h₀ L _ _ rest => kS; rename Fr h₀ L _ m => kF
  exact hret _ _ _ kF kS
end
-- part D11
theorem builder_sub {h₀ : Heap} {L : Addr} {h : Heap} {rest : List (Addr × Obj)} {v D x dx : Addr} {o A B X : Obj} (S : Sub h₀ L h [(v, o), (D, A), (x, B), (dx, X)] rest) : Sub h₀ L h [(x, B), (dx, X), (D, A)] rest :=
  S.sub (by intro p hp; simp only [List.mem_cons, List.not_mem_nil, or_false] at hp ⊢; rcases hp with h | h | h <;> simp [h])
section
variable {w : World} {dp un : Nat} {cn : Str} {cs : Scope} {a : Addr} {ccd : Value} {outer : List Env} {A₀ : Around} {base h₀ : Heap} {L : Addr} {m : Str → Option Value} {mean : ExcName → Option Value} {mg mb : Str → Option Value} {p : Program} {loose : List Str} {s : Shared} {Q E : Value → Shared → Prop}
  {bx dx vt ba : Addr} {b : Array UInt8} {hv : Int} {th : Tok} {ma : Int} {tm : Tok} {fin : Bool} {rest : List (Addr × Obj)} {room : Int} {C : List UInt8} {c : Addr} {wd : Nat} {lo hi : Int} {nm : Str} {pk : Addr} {n : Int} {tn t1 t2 : Tok} {sz add : Int}
theorem c_Builder {news : List (Addr × Obj)} (B : Below A₀ base outer h₀) (F : Fr h₀ L s.heap m) (X : (Mine.hd.heap_39 w.params).In h₀) (N : News h₀ L s.heap news) (T : Top p loose mean mg mb h₀) (hcs : cs.kind = .function)
    (hdp : dp + 20 < recursionLimit) (h0 : 0 ≤ n) (h1 : n ≤ 1000)
    (hret : ∀ h' tk' bx dx vt ba th' tm', Fr h₀ L h' m → Sub h₀ L h' (led bx dx vt ba (Array.replicate n.toNat 0) n th' 1 tm' false) news → @Ne Nat bx dx → @Ne Nat bx ba → @Ne Nat dx ba → Q (.ref bx) { s with heap := h', toks := tk' }) :
    gAny (model PR w) (ktrTop dp un (some []) cn cs L a ccd [] outer) (call (.ref 673) [.int n tn]) Q E s := by
  refine g_call (g_make_K F N (X.keeps F.keep) (by k_is) (by k_is) (by k_is) ?_)
  intro x dx h' F' N' l1 l2
  have S : Sub h₀ L h' [(x, instObj 673 dx), (dx, emptyDict)] news := ⟨fun p hp => N' p (by simp only [List.mem_cons, List.not_mem_nil, or_false] at hp ⊢; rcases hp with hp | hp <;> simp [hp]), fun p hp => N' p (.tail _ (.tail _ hp)), fun p hp q hq e => by
    have t1 : @LT.lt Nat _ p.1 dx := l1 p hp
    have t2 : @LT.lt Nat _ dx x := l2
    have t3 : @Eq Nat p.1 q.1 := e
    simp only [List.mem_cons, List.not_mem_nil, or_false] at hq
    rcases hq with hq | hq <;> rw [hq] at t3 <;> dsimp only at t3 <;> omega⟩
  have t2 : @LT.lt Nat _ dx x := l2
  dsimp only [instObj] at S
  clear F N N' l1 l2
  walk_at "my enter g"
  k_steps
  rename Sub h₀ L _ _ news => kS
  rename Fr h₀ L _ m => kF
  exact ⟨rfl, hret _ _ _ _ _ _ _ _ kF (builder_sub kS) (by omega) (by omega) (by omega)⟩
end
-- part L1
def wOf (k : Int) : Int := ([1, 1, 2, 2, 4, 4, 8, 8] : List Int).getD k.toNat 0
theorem k_cases {k : Int} (h0 : 0 ≤ k) (h1 : k < 8) : k = 0 ∨ k = 1 ∨ k = 2 ∨ k = 3 ∨ k = 4 ∨ k = 5 ∨ k = 6 ∨ k = 7 := by omega
theorem wd_bounds {k : Int} (h0 : 0 ≤ k) (h1 : k < 8) : 1 ≤ ([1, 1, 2, 2, 4, 4, 8, 8] : List Int).getD k.toNat 0 ∧ ([1, 1, 2, 2, 4, 4, 8, 8] : List Int).getD k.toNat 0 ≤ 8 := by
  rcases k_cases h0 h1 with rfl | rfl | rfl | rfl | rfl | rfl | rfl | rfl <;> decide
def lowOf (k : Int) : Int := if k.fmod 2 = 1 then 0 - 2 ^ (8 * wOf k - 1).toNat else 0
def worthOf (k r : Int) : Int := lowOf k + r.fmod (2 ^ (8 * wOf k).toNat)
def beyondOf (k r : Int) : Int := if r.fmod 2 = 0 then lowOf k + 2 ^ (8 * wOf k).toNat + (r.fdiv 2).fmod 5 else lowOf k - 1 - (r.fdiv 2).fmod 5
section
variable {w : World} {dp un : Nat} {cn : Str} {cs : Scope} {a : Addr} {ccd : Value} {outer : List Env} {A₀ : Around} {base h₀ : Heap} {L : Addr} {m : Str → Option Value} {mean : ExcName → Option Value} {mg mb : Str → Option Value} {p : Program} {loose : List Str} {s : Shared} {Q E : Value → Shared → Prop} {news : List (Addr × Obj)}
theorem c_widths (B : Below A₀ base outer h₀) (F : Fr h₀ L s.heap m) (X : (Mine.hd.heap_39 w.params).In h₀) (N : News h₀ L s.heap news) (T : Top p loose mean mg mb h₀) (hcs : cs.kind = .function)
    (hdp : dp + 5 < recursionLimit) 
    (hret : ∀ h' tk' l t1 t2 t3 t4 t5 t6 t7 t8, Fr h₀ L h' m → News h₀ L h' ((l, W.listOf #[.int 1 t1, .int 1 t2, .int 2 t3, .int 2 t4, .int 4 t5, .int 4 t6, .int 8 t7, .int 8 t8] 0) :: news) → (∀ p ∈ news, @Ne Nat p.1 l) → Q (.ref l) { s with heap := h', toks := tk' }) :
    wpAny (model PR w) (ktrTop dp un (some []) cn cs L a ccd [] outer) (call (.ref 693) []) Q E s := by
  have S : Sub h₀ L s.heap [] news := ⟨News.nil, N, fun _ _ _ h => nomatch h⟩
  refine wpAny_call ?_
  walk_at "my enter w"
  k_steps
  rename Sub h₀ L _ _ news => kS
  rename Fr h₀ L _ m => kF
  exact hret _ _ _ _ _ _ _ _ _ _ _ kF kS.news fun p hp => kS.D p hp _ (.head _)
end
local macro_rules | `(tactic| walk_at "call ref") => `(tactic| (k_here; (with_reducible show wpAny _ _ (call (Value.ref 693) _) _ _ _); k_dflt (refine' c_widths ?B ?F ?X ?N ?T ?c ?d ?_; (case B => k_asm); (case F => k_asm); (case X => k_asm); (case N => k_asm); (case T => k_asm); (case c => exact rfl); (case d => ktr_room); k_whole); intro h' tk' l' t1' t2' t3' t4' t5' t6' t7' t8' F' N' d'; (try k_sweep)))
section
variable {w : World} {dp un : Nat} {cn : Str} {cs : Scope} {a : Addr} {ccd : Value} {outer : List Env} {A₀ : Around} {base h₀ : Heap} {L : Addr} {m : Str → Option Value} {mean : ExcName → Option Value} {mg mb : Str → Option Value} {p : Program} {loose : List Str} {s : Shared} {Q E : Value → Shared → Prop} {news : List (Addr × Obj)}
variable {k r : Int} {tk1 tr1 : Tok}
theorem c_low (B : Below A₀ base outer h₀) (F : Fr h₀ L s.heap m) (X : (Mine.hd.heap_39 w.params).In h₀) (N : News h₀ L s.heap news) (T : Top p loose mean mg mb h₀) (hcs : cs.kind = .function)
    (hdp : dp + 8 < recursionLimit) (hk0 : 0 ≤ k) (hk1 : k < 8)
    (hret : ∀ h' tk' t, Fr h₀ L h' m → News h₀ L h' news → Q (.int (lowOf k) t) { s with heap := h', toks := tk' }) :
    wpAny (model PR w) (ktrTop dp un (some []) cn cs L a ccd [] outer) (call (.ref 707) [.int k tk1]) Q E s := by
  have hw := wd_bounds hk0 hk1
  have S : Sub h₀ L s.heap [] news := ⟨News.nil, N, fun _ _ _ h => nomatch h⟩
  refine wpAny_call ?_
  walk_at "my enter w"
  k_steps
  all_goals (rename Sub h₀ L _ _ news => kS; rename Fr h₀ L _ m => kF)
  · have e : lowOf k = _ := if_pos (by assumption)
    rw [e] at hret
    exact hret _ _ _ kF kS.R
  · have e : lowOf k = _ := if_neg (by assumption)
    rw [e] at hret
    exact hret _ _ _ kF kS.R
end
local macro_rules | `(tactic| walk_at "call ref") => `(tactic| (k_here; (with_reducible show wpAny _ _ (call (Value.ref 707) _) _ _ _); k_dflt (refine' c_low ?B ?F ?X ?N ?T ?c ?d ?k0 ?k1 ?_; (case B => k_asm); (case F => k_asm); (case X => k_asm); (case N => k_asm); (case T => k_asm); (case c => exact rfl); (case d => ktr_room); (case k0 => omega); (case k1 => omega); k_whole); intro h' tk' t' F' N'; (try k_sweep)))
section
variable {w : World} {dp un : Nat} {cn : Str} {cs : Scope} {a : Addr} {ccd : Value} {outer : List Env} {A₀ : Around} {base h₀ : Heap} {L : Addr} {m : Str → Option Value} {mean : ExcName → Option Value} {mg mb : Str → Option Value} {p : Program} {loose : List Str} {s : Shared} {Q E : Value → Shared → Prop} {news : List (Addr × Obj)}
variable {k r : Int} {tk1 tr1 : Tok}
theorem c_worth (B : Below A₀ base outer h₀) (F : Fr h₀ L s.heap m) (X : (Mine.hd.heap_39 w.params).In h₀) (N : News h₀ L s.heap news) (T : Top p loose mean mg mb h₀) (hcs : cs.kind = .function)
    (hdp : dp + 12 < recursionLimit) (hk0 : 0 ≤ k) (hk1 : k < 8)
    (hret : ∀ h' tk' t, Fr h₀ L h' m → News h₀ L h' news → Q (.int (worthOf k r) t) { s with heap := h', toks := tk' }) :
    wpAny (model PR w) (ktrTop dp un (some []) cn cs L a ccd [] outer) (call (.ref 714) [.int k tk1, .int r tr1]) Q E s := by
  have hw := wd_bounds hk0 hk1
  have S : Sub h₀ L s.heap [] news := ⟨News.nil, N, fun _ _ _ h => nomatch h⟩
  refine wpAny_call ?_
  walk_at "my enter w"
  k_steps
  all_goals (rename Sub h₀ L _ _ news => kS; rename Fr h₀ L _ m => kF)
  exact hret _ _ _ kF kS.R
theorem c_beyond (B : Below A₀ base outer h₀) (F : Fr h₀ L s.heap m) (X : (Mine.hd.heap_39 w.params).In h₀) (N : News h₀ L s.heap news) (T : Top p loose mean mg mb h₀) (hcs : cs.kind = .function)
    (hdp : dp + 12 < recursionLimit) (hk0 : 0 ≤ k) (hk1 : k < 8)
    (hret : ∀ h' tk' t, Fr h₀ L h' m → News h₀ L h' news → Q (.int (beyondOf k r) t) { s with heap := h', toks := tk' }) :
    wpAny (model PR w) (ktrTop dp un (some []) cn cs L a ccd [] outer) (call (.ref 721) [.int k tk1, .int r tr1]) Q E s := by
  have hw := wd_bounds hk0 hk1
  have S : Sub h₀ L s.heap [] news := ⟨News.nil, N, fun _ _ _ h => nomatch h⟩
  refine wpAny_call ?_
  walk_at "my enter w"
  k_steps
  all_goals (rename Sub h₀ L _ _ news => kS; rename Fr h₀ L _ m => kF)
  · have e : beyondOf k r = _ := if_pos (by assumption)
    rw [e] at hret
    exact hret _ _ _ kF kS.R
  · have e : beyondOf k r = _ := if_neg (by assumption)
    rw [e] at hret
    exact hret _ _ _ kF kS.R
end
-- part L2
def upP (P : List Int) (wd ah : Int) : List Int := P ++ List.replicate (padN wd P.length ah) 0
theorem pad_step {wd ah : Int} {n j : Nat} (hw : wd = 1 ∨ wd = 2 ∨ wd = 4 ∨ wd = 8) (h0 : 0 ≤ ah) (hj : j ≤ padN wd n ah) : ((((n + j : Nat) : Int) + ah).fmod wd = 0 ↔ j = padN wd n ah) := by
  unfold padN at *
  rcases hw with rfl | rfl | rfl | rfl
  · rw [Int.fmod_eq_emod_of_nonneg _ (by decide)]; omega
  · rw [Int.fmod_eq_emod_of_nonneg _ (by decide)]; omega
  · rw [Int.fmod_eq_emod_of_nonneg _ (by decide)]; omega
  · rw [Int.fmod_eq_emod_of_nonneg _ (by decide)]; omega
def UpInv (g : Heap) (L pl : Addr) (MM : Str → Option Value) (P : List Int) (wd ah : Int) (s : Shared) (n : Nat) (s' : Shared) : Prop :=
  ∃ h' tk' its nn j, s' = { s with heap := h', toks := tk' } ∧ Fr g L h' MM ∧ News g L h' [(pl, W.listOf its nn)] ∧ IntsAre its.toList (P ++ List.replicate j 0) ∧ j ≤ padN wd P.length ah ∧ n = padN wd P.length ah - j
def UpNext (g : Heap) (L pl : Addr) (MM : Str → Option Value) (P : List Int) (wd ah : Int) (s : Shared) (n : Nat) (s' : Shared) : Prop := ∃ k, k < n ∧ UpInv g L pl MM P wd ah s k s'
theorem up_while {w : World} {A : Around} {E : Value → Shared → Prop} {s₁ : Shared} {env : Env} {test : PySem.Expr} {body : List Stmt} {pos : Pos} {Q : Flow → Shared → Prop} {g : Heap} {L pl : Addr} {its : Array Value} {nn : Nat} {P : List Int} {wd ah : Int} {MM : Str → Option Value}
    (F : Fr g L s₁.heap MM) (N : News g L s₁.heap [(pl, W.listOf its nn)]) (hi : IntsAre its.toList P)
    (turn : ∀ n s', UpInv g L pl MM P wd ah s₁ n s' → wpAny (model PR w) A (isTrue test env (eval test env)) (fun bb s₂ => if bb = true then wpAny (model PR w) A (execs body env) (fun f s₃ => match f with | .next => UpNext g L pl MM P wd ah s₁ n s₃ | _ => False) (fun _ _ => False) s₂ else Q .next s₂) (fun _ _ => False) s') :
    wpAny (model PR w) A (exec (.While test body [] pos) env) Q E s₁ :=
  w_While (UpInv g L pl MM P wd ah s₁) turn _ ⟨_, _, its, nn, 0, rfl, F, N, by simpa using hi, by omega, rfl⟩
theorem ints_size {its : Array Value} {P : List Int} (h : IntsAre its.toList P) : its.size = P.length := by
  have := h.length; rwa [Array.length_toList] at this
theorem ints_push {its : Array Value} {P : List Int} {j : Nat} {t : Tok} (h : IntsAre its.toList (P ++ List.replicate j 0)) : IntsAre (its.push (.int 0 t)).toList (P ++ List.replicate (j + 1) 0) := by
  rw [Array.toList_push, List.replicate_succ', ← List.append_assoc]
  exact h.append (.cons 0 t .nil)
section
variable {w : World} {dp un : Nat} {cn : Str} {cs : Scope} {a : Addr} {ccd : Value} {outer : List Env} {A₀ : Around} {base h₀ : Heap} {L : Addr} {m : Str → Option Value} {mean : ExcName → Option Value} {mg mb : Str → Option Value} {p : Program} {loose : List Str} {s : Shared} {Q E : Value → Shared → Prop} {news : List (Addr × Obj)}
theorem c_up {pl : Addr} {its : Array Value} {nn : Nat} {P : List Int} {wd ah : Int} {tw ta : Tok} {rest : List (Addr × Obj)} (B : Below A₀ base outer h₀) (F : Fr h₀ L s.heap m) (X : (Mine.hd.heap_39 w.params).In h₀) (S : Sub h₀ L s.heap [(pl, W.listOf its nn)] rest) (T : Top p loose mean mg mb h₀) (hcs : cs.kind = .function)
    (hdp : dp + 5 < recursionLimit) (hi : IntsAre its.toList P) (hw : wd = 1 ∨ wd = 2 ∨ wd = 4 ∨ wd = 8) (h0 : 0 ≤ ah) (h1 : ah ≤ 8) (hP : P.length ≤ 1000)
    (hret : ∀ h' tk' its' nn', Fr h₀ L h' m → Sub h₀ L h' [(pl, W.listOf its' nn')] rest → IntsAre its'.toList (upP P wd ah) → Q .none { s with heap := h', toks := tk' }) :
    wpAny (model PR w) (ktrTop dp un (some []) cn cs L a ccd [] outer) (call (.ref 728) [.ref pl, .int wd tw, .int ah ta]) Q E s := by
  refine wpAny_call ?_
  walk_at "my enter w"
  rename Fr _ _ _ _ => kF'
  rename News _ _ _ _ => kN'
  refine wpAny_execs_cons ?_
  refine up_while (wd := wd) (ah := ah) kF' kN' hi ?turn
  case turn =>
    clear kF' kN'
    intro n s'
    rintro ⟨h', tk', its2, nn2, j, rfl, F1, N1, i1, j1, j2⟩
    have hz := ints_size i1
    rw [List.length_append, List.length_replicate] at hz
    have hst := pad_step (n := P.length) (j := j) hw h0 j1
    have hlt := padN_lt (sz := wd) (by omega) P.length ah
    have hz2 : ((its2.size : Int) + ah) = (((P.length + j : Nat) : Int) + ah) := by omega
    rw [← hz2] at hst
    k_steps
    · rename Fr _ _ _ _ => kF'; rename News _ _ _ _ => kN'
      rename ¬ (Int.fmod _ _ = 0) => hc
      exact ⟨_, by omega, _, _, _, _, j + 1, rfl, kF', kN', ints_push i1, by omega, rfl⟩
    · rename Sub h₀ L _ _ rest => kS; rename Fr h₀ L _ m => kF
      rename Int.fmod _ _ = 0 => hc
      refine hret _ _ _ _ kF kS ?_
      have e := hst.mp hc
      rw [e] at i1
      exact i1
end
-- part L3
def StopHere (P : Prop) : Prop := P
theorem stop_out {P : Prop} (h : StopHere P) : P := h
def LayInv (g : Heap) (L pl it : Addr) (P : List Int) (wr : Int) (wd : Nat) (s : Shared) (k : Nat) (s' : Shared) : Prop :=
  ∃ h' tk' its nn MM tw, s' = { s with heap := h', toks := tk' } ∧ Fr g L h' MM ∧ MM "pile" = some (.ref pl) ∧ MM "worth" = some (.int wr tw) ∧ News g L h' [(it, ritO k), (pl, W.listOf its nn)] ∧ IntsAre its.toList (P ++ digL wr wd k) ∧ k ≤ wd ∧ @Ne Nat pl it
def LayNext (g : Heap) (L pl it : Addr) (P : List Int) (wr : Int) (wd : Nat) (s : Shared) (n : Nat) (s' : Shared) : Prop := ∃ k, k < n ∧ LayInv g L pl it P wr wd s k s'
theorem fr_pin2 {h₀ : Heap} {L : Addr} {h : Heap} {m : Str → Option Value} {x1 x2 : Str} {v1 v2 : Value} (F : Fr h₀ L h m) (e1 : m x1 = some v1) (e2 : m x2 = some v2) : Fr h₀ L h (fun y => if y = x1 then some v1 else if y = x2 then some v2 else m y) := by
  have : (fun y => if y = x1 then some v1 else if y = x2 then some v2 else m y) = m := by
    funext y
    by_cases h1 : y = x1
    · rw [if_pos h1, h1, e1]
    rw [if_neg h1]
    by_cases h2 : y = x2
    · rw [if_pos h2, h2, e2]
    rw [if_neg h2]
  rw [this]; exact F
theorem lay_loop {w : World} {A : Around} {s₁ : Shared} {env : Env} {body : List Stmt} {px : Pos} {g : Heap} {L pl it : Addr} {its : Array Value} {nn : Nat} {P : List Int} {wr : Int} {wd : Nat} {MM : Str → Option Value} {tw : Tok} {x : Str} {Q : Flow → Shared → Prop}
    {wi : Int} (hh : A.handled = none) (F : Fr g L s₁.heap MM) (hwi : wi = wd) (N : News g L s₁.heap [(it, ritO wi), (pl, W.listOf its nn)]) (e1 : MM "pile" = some (.ref pl)) (e2 : MM "worth" = some (.int wr tw)) (hi : IntsAre its.toList P) (hne : @Ne Nat pl it)
    (turn : ∀ (k : Nat) h' tk' its nn MM tw, k < wd → Fr g L h' MM → MM "pile" = some (.ref pl) → MM "worth" = some (.int wr tw) → News g L h' [(it, ritO k), (pl, W.listOf its nn)] → IntsAre its.toList (P ++ digL wr wd (k + 1)) → @Ne Nat pl it →
      wpAny (model PR w) A (bindName env x (.int k tk')) (fun _ s₂ => wpAny (model PR w) A (execs body env) (fun f s₃ => match f with | .next => LayNext g L pl it P wr wd s₁ (k + 1) s₃ | _ => False) (fun _ _ => False) s₂) (fun _ _ => False) { s₁ with heap := h', toks := tk' + 1 })
    (done : ∀ h' tk' its nn MM, Fr g L h' MM → News g L h' [(pl, W.listOf its nn)] → IntsAre its.toList (P ++ digL wr wd 0) → Q .next { s₁ with heap := h', toks := tk' }) :
    codeAny (model PR w) A (.forLoop (.Name x px) (.ref it) body [] env) (fun r s' => match r with | .ok f => Q f s' | .error _ => False) s₁ := by
  subst hwi
  refine w_ForLoop (LayInv g L pl it P wr wd s₁) (fun n s hI => ?_) wd ⟨_, _, its, nn, MM, tw, rfl, F, e1, e2, N, by rw [digL_top, List.append_nil]; exact hi, Nat.le_refl _, hne⟩
  obtain ⟨h', tk', its', nn', MM', tw', rfl, F', a1, a2, N', hi', hk, hn2⟩ := hI
  have hq : ∀ p ∈ [(pl, W.listOf its' nn')], p.1 ≠ it := by
    intro p hp
    rw [List.mem_singleton.mp hp]; exact hne
  cases n with
  | zero => exact rit_end hh F' N' hq fun h2 F2 N2 => done h2 tk' its' nn' MM' F2 N2 hi'
  | succ k =>
    refine rit_next F' N' hq (by omega) fun h2 F2 N2 => ?_
    have e : ((k + 1 : Nat) : Int) - 1 = (k : Nat) := by omega
    rw [e] at N2 ⊢
    exact turn k h2 tk' its' nn' MM' tw' (by omega) F2 a1 a2 N2 hi' hn2
theorem lay_size {its : Array Value} {P : List Int} {wr wd : Int} {wn k : Nat} (h : IntsAre its.toList (upP P wd 0 ++ digL wr wn k)) (hP : P.length ≤ 990) (hw : wd = 1 ∨ wd = 2 ∨ wd = 4 ∨ wd = 8) (hwn : wd = wn) : its.size ≤ 1200 := by
  rw [ints_size h, List.length_append, digL_length]
  unfold upP
  rw [List.length_append, List.length_replicate]
  have := padN_lt (sz := wd) (by omega) P.length 0
  omega
theorem ints_digit {its : Array Value} {P : List Int} {wr : Int} {wd k : Nat} {t : Tok} {v : Int} (h : IntsAre its.toList (P ++ digL wr wd (k + 1))) (hk : k < wd) (hv : v = digit wr k) : IntsAre (its.push (.int v t)).toList (P ++ digL wr wd k) := by
  rw [Array.toList_push, digL_step wr hk, ← List.append_assoc, hv]
  exact h.append (.cons _ t .nil)
section
local macro_rules | `(tactic| walk_at "call ref") => `(tactic| (k_here; (with_reducible show wpAny _ _ (call (Value.ref 728) _) _ _ _); k_dflt (refine' c_up ?B ?F ?X ?S ?T ?c ?d ?hi ?hw ?h0 ?h1 ?hP ?_; (case B => k_asm); (case F => k_asm); (case X => k_asm); (case S => exact Sub.nil (by k_asm)); (case T => k_asm); (case c => exact rfl); (case d => ktr_room); (case hi => assumption); (case hw => omega); (case h0 => omega); (case h1 => omega); (case hP => omega); k_whole); intro h' tk' its' nn' F' S' hi'; (have kN' := S'.N); clear S'; (try k_sweep)))
theorem pow256 {k : Int} (h0 : 0 ≤ k) (h1 : k < 8) : (256 : Int) ^ k.toNat ≠ 0 ∧ ((256 : Int) ^ k.toNat).natAbs.log2 < 9000 := by
  rcases k_cases h0 h1 with rfl | rfl | rfl | rfl | rfl | rfl | rfl | rfl <;> decide +kernel
local macro_rules | `(tactic| walk_at "binaryOp FloorDiv int int") => `(tactic| (k_here; (with_reducible show wpAny _ _ (binaryOp _ _ (Value.int (256 ^ _) _)) _ _ _); (with_reducible refine floordiv_int ?kb ?_ (Or.inl (PyProof.noPylong_of_log2 ?kp))); (case kb => exact (pow256 (by omega) (by omega)).1); (case kp => exact (pow256 (by omega) (by omega)).2)))
local macro_rules | `(tactic| walk_at "execs cons") => `(tactic| ((with_reducible show wpAny _ _ (execs (Stmt.For _ _ _ _ _ :: _) _) _ _ _); refine wpAny_execs_cons (stop_out ?_)))
local macro_rules | `(tactic| walk_at "call type:reversed") => `(tactic| (k_here; (with_reducible rename Fr _ _ _ _ => kF'); (with_reducible rename News _ _ _ _ => kN'); k_dflt (refine' reversed_range_N kF' kN' ?r ?n ?_; (case r => assumption); (case n => assumption); k_whole); intro D' h' F' N' l1; (try k_lt l1); (try k_sweep)))
section
variable {w : World} {dp un : Nat} {cn : Str} {cs : Scope} {a : Addr} {ccd : Value} {outer : List Env} {A₀ : Around} {base h₀ : Heap} {L : Addr} {m : Str → Option Value} {mean : ExcName → Option Value} {mg mb : Str → Option Value} {p : Program} {loose : List Str} {s : Shared} {Q E : Value → Shared → Prop} {news : List (Addr × Obj)}
def layP (P : List Int) (x wd : Int) : List Int := upP P wd 0 ++ digL (x.fmod (2 ^ (8 * wd).toNat)) wd.toNat 0
theorem c_layN {pl : Addr} {its : Array Value} {nn : Nat} {P : List Int} {x wd : Int} {wn : Nat} {tx tw : Tok} {rest : List (Addr × Obj)} (B : Below A₀ base outer h₀) (F : Fr h₀ L s.heap m) (X : (Mine.hd.heap_39 w.params).In h₀) (S : Sub h₀ L s.heap [(pl, W.listOf its nn)] rest) (T : Top p loose mean mg mb h₀) (hcs : cs.kind = .function)
    (hdp : dp + 8 < recursionLimit) (hi : IntsAre its.toList P) (hwn : wd = wn) (hw : wd = 1 ∨ wd = 2 ∨ wd = 4 ∨ wd = 8) (hP : P.length ≤ 990)
    (hret : ∀ h' tk' its' nn', Fr h₀ L h' m → Sub h₀ L h' [(pl, W.listOf its' nn')] rest → IntsAre its'.toList (upP P wd 0 ++ digL (x.fmod (2 ^ (8 * wd).toNat)) wn 0) → Q .none { s with heap := h', toks := tk' }) :
    wpAny (model PR w) (ktrTop dp un (some []) cn cs L a ccd [] outer) (call (.ref 735) [.ref pl, .int x tx, .int wd tw]) Q E s := by
  refine wpAny_call ?_
  walk_at "my enter w"
  k_steps
  refine w_For ?_
  k_steps
  rename Fr _ _ _ _ => kF'
  rename News _ _ _ [(_, ritO _), _] => kN'
  refine wpAny_pyIter_rangeiter (kN' _ (.head _)).1 ?_
  rename IntsAre _ (upP P _ 0) => hi2
  rename pl < _ => hlt
  refine lay_loop (wd := wn) rfl kF' hwn kN' rfl rfl hi2 (by omega) ?turn ?done
  case done =>
    clear kF' kN' hi2 hlt
    intro h' tk' its2 nn2 MM F1 N1 i1
    k_steps
    rename Sub h₀ L _ _ rest => kS; rename Fr h₀ L _ m => kF
    exact hret _ _ _ _ kF kS i1
  case turn =>
    clear kF' kN' hi2 hlt
    intro k h' tk' its2 nn2 MM tw2 hk F0 e1 e2 N1 i1 hne2
    have F1 := fr_pin2 F0 e1 e2
    clear F0 e1 e2
    have hz : its2.size ≤ 1200 := lay_size i1 hP hw hwn
    k_steps
    rename Fr _ _ _ _ => kF'
    rename News _ _ _ [(_, ritO _), _] => kN'
    exact ⟨k, by omega, _, _, _, _, _, _, rfl, kF', rfl, rfl, kN', ints_digit i1 hk (by rfl), by omega, hne2⟩
theorem c_lay {pl : Addr} {its : Array Value} {nn : Nat} {P : List Int} {x wd : Int} {tx tw : Tok} {rest : List (Addr × Obj)} (B : Below A₀ base outer h₀) (F : Fr h₀ L s.heap m) (X : (Mine.hd.heap_39 w.params).In h₀) (S : Sub h₀ L s.heap [(pl, W.listOf its nn)] rest) (T : Top p loose mean mg mb h₀) (hcs : cs.kind = .function)
    (hdp : dp + 8 < recursionLimit) (hi : IntsAre its.toList P) (hw : wd = 1 ∨ wd = 2 ∨ wd = 4 ∨ wd = 8) (hP : P.length ≤ 990)
    (hret : ∀ h' tk' its' nn', Fr h₀ L h' m → Sub h₀ L h' [(pl, W.listOf its' nn')] rest → IntsAre its'.toList (layP P x wd) → Q .none { s with heap := h', toks := tk' }) :
    wpAny (model PR w) (ktrTop dp un (some []) cn cs L a ccd [] outer) (call (.ref 735) [.ref pl, .int x tx, .int wd tw]) Q E s :=
  c_layN B F X S T hcs hdp hi (by omega : wd = (wd.toNat : Int)) hw hP hret
end
end
-- part F1
def cOf (k : Int) : Addr := ([67, 123, 81, 137, 95, 151, 109, 165] : List Nat).getD k.toNat 0
theorem cof_0 {k : Int} (h : k = 0) : 67 = cOf k := by rw [h]; rfl
theorem cof_1 {k : Int} (h : k = 1) : 123 = cOf k := by rw [h]; rfl
theorem cof_2 {k : Int} (h : k = 2) : 81 = cOf k := by rw [h]; rfl
theorem cof_3 {k : Int} (h : k = 3) : 137 = cOf k := by rw [h]; rfl
theorem cof_4 {k : Int} (h : k = 4) : 95 = cOf k := by rw [h]; rfl
theorem cof_5 {k : Int} (h : k = 5) : 151 = cOf k := by rw [h]; rfl
theorem cof_6 {k : Int} (h : k = 6) : 109 = cOf k := by rw [h]; rfl
theorem cof_7 {k : Int} (h : k = 7) : 165 = cOf k := by rw [h]; rfl
def hiOf (k : Int) : Int := lowOf k + 2 ^ (8 * wOf k).toNat - 1
theorem flag_of (w : World) {k : Int} (h0 : 0 ≤ k) (h1 : k < 8) : ∃ nm pk, FlagAt w (cOf k) (wOf k).toNat (lowOf k) (hiOf k) nm pk ∧ PackAt w pk (wOf k).toNat (lowOf k) (hiOf k) ∧ nm.length ≤ 20 := by
  rcases k_cases h0 h1 with rfl | rfl | rfl | rfl | rfl | rfl | rfl | rfl
  · exact ⟨_, _, flag_u8 w, pack_50 w, by decide⟩
  · exact ⟨_, _, flag_i8 w, pack_54 w, by decide⟩
  · exact ⟨_, _, flag_u16 w, pack_51 w, by decide⟩
  · exact ⟨_, _, flag_i16 w, pack_55 w, by decide⟩
  · exact ⟨_, _, flag_u32 w, pack_52 w, by decide⟩
  · exact ⟨_, _, flag_i32 w, pack_56 w, by decide⟩
  · exact ⟨_, _, flag_u64 w, pack_53 w, by decide⟩
  · exact ⟨_, _, flag_i64 w, pack_57 w, by decide⟩
theorem w_four {k : Int} (h0 : 0 ≤ k) (h1 : k < 8) : wOf k = 1 ∨ wOf k = 2 ∨ wOf k = 4 ∨ wOf k = 8 := by
  rcases k_cases h0 h1 with rfl | rfl | rfl | rfl | rfl | rfl | rfl | rfl <;> decide
theorem low_bounds {k : Int} (h0 : 0 ≤ k) (h1 : k < 8) : -9223372036854775808 ≤ lowOf k ∧ lowOf k ≤ 0 ∧ lowOf k + 2 ^ (8 * wOf k).toNat ≤ 18446744073709551616 ∧ 0 ≤ hiOf k ∧ hiOf k ≤ 18446744073709551615 := by
  rcases k_cases h0 h1 with rfl | rfl | rfl | rfl | rfl | rfl | rfl | rfl <;> decide
section
variable {w : World} {dp un : Nat} {cn : Str} {cs : Scope} {a : Addr} {ccd : Value} {outer : List Env} {A₀ : Around} {base h₀ : Heap} {L : Addr} {m : Str → Option Value} {mean : ExcName → Option Value} {mg mb : Str → Option Value} {p : Program} {loose : List Str} {s : Shared} {Q E : Value → Shared → Prop} {news : List (Addr × Obj)}
variable {k r : Int} {tk1 tr1 : Tok}
theorem c_flags (B : Below A₀ base outer h₀) (F : Fr h₀ L s.heap m) (X : (Mine.hd.heap_39 w.params).In h₀) (N : News h₀ L s.heap news) (T : Top p loose mean mg mb h₀) (hcs : cs.kind = .function)
    (hdp : dp + 8 < recursionLimit) (hk0 : 0 ≤ k) (hk1 : k < 8)
    (hret : ∀ h' tk', Fr h₀ L h' m → News h₀ L h' news → Q (.ref (cOf k)) { s with heap := h', toks := tk' }) :
    wpAny (model PR w) (ktrTop dp un (some []) cn cs L a ccd [] outer) (call (.ref 700) [.int k tk1]) Q E s := by
  have S : Sub h₀ L s.heap [] news := ⟨News.nil, N, fun _ _ _ h => nomatch h⟩
  have hret' : ∀ v h' tk', v = cOf k → Fr h₀ L h' m → News h₀ L h' news → Q (.ref v) { s with heap := h', toks := tk' } := fun v h' tk' e => by rw [e]; exact hret h' tk'
  clear hret
  refine wpAny_call ?_
  walk_at "my enter w"
  k_steps
  all_goals (rename Sub h₀ L _ _ news => kS; rename Fr h₀ L _ m => kF)
  · exact hret' _ _ _ (cof_0 (by omega)) kF kS.R
  · exact hret' _ _ _ (cof_1 (by omega)) kF kS.R
  · exact hret' _ _ _ (cof_2 (by omega)) kF kS.R
  · exact hret' _ _ _ (cof_3 (by omega)) kF kS.R
  · exact hret' _ _ _ (cof_4 (by omega)) kF kS.R
  · exact hret' _ _ _ (cof_5 (by omega)) kF kS.R
  · exact hret' _ _ _ (cof_6 (by omega)) kF kS.R
  · exact hret' _ _ _ (cof_7 (by omega)) kF kS.R
end
-- part L4
theorem upP_length (P : List Int) (wd ah : Int) : (upP P wd ah).length = P.length + padN wd P.length ah := by unfold upP; rw [List.length_append, List.length_replicate]
theorem upP_le (P : List Int) (wd ah : Int) (h : 1 ≤ wd) : ((upP P wd ah).length : Int) < P.length + wd := by
  rw [upP_length]; have := padN_lt h P.length ah; omega
theorem layP_length (P : List Int) (x wd : Int) : (layP P x wd).length = (upP P wd 0).length + wd.toNat := by unfold layP; rw [List.length_append, digL_length, Nat.sub_zero]
theorem if_max (b w : Int) : (if w > b then w else b) = max b w := by
  rw [Int.max_def]; split <;> split <;> omega
inductive Due (P : List Int) (big : Int) : Int → Int → Int → Value → Int → Int → List Int → Prop
  | prep_ok {k x b2 : Int} : 0 ≤ k → k < 8 → lowOf k ≤ x → x ≤ hiOf k → b2 = max big (wOf k) → Due P big 0 k x (.none) 0 b2 (layP P x (wOf k))
  | prep_bad {k x b2 : Int} : 0 ≤ k → k < 8 → (x < lowOf k ∨ hiOf k < x) → -1000000000000000000000 ≤ x → x ≤ 1000000000000000000000 → b2 = max big (wOf k) → Due P big 0 k x (.none) 4 b2 (upP P (wOf k) 0)
  | place_bad {k x b2 : Int} : 0 ≤ k → k < 8 → (x < lowOf k ∨ hiOf k < x) → -1000000000000000000000 ≤ x → x ≤ 1000000000000000000000 → b2 = big → Due P big 1 k x (.none) 4 b2 (P)
  | placeV_bad {x b2 : Int} : (x < 0 ∨ 65535 < x) → -1000000000000000000000 ≤ x → x ≤ 1000000000000000000000 → b2 = big → Due P big 2 2 x (.none) 4 b2 (P)
  | placeS_bad {x b2 : Int} : (x < -2147483648 ∨ 2147483647 < x) → -1000000000000000000000 ≤ x → x ≤ 1000000000000000000000 → b2 = big → Due P big 3 5 x (.none) 4 b2 (P)
  | placeU_bad {x b2 : Int} : (x < 0 ∨ 4294967295 < x) → -1000000000000000000000 ≤ x → x ≤ 1000000000000000000000 → b2 = big → Due P big 4 4 x (.none) 4 b2 (P)
  | relU_ok {x b2 : Int} : 0 ≤ x → x ≤ ((upP P 4 0).length : Int) → b2 = max big 4 → Due P big 5 0 x (.none) 0 b2 (layP (upP P 4 0) ((upP P 4 0).length - x + 4) 4)
  | relU_bad {x b2 : Int} : ((upP P 4 0).length : Int) < x → b2 = max big 4 → Due P big 5 0 x (.none) 1 b2 ((upP P 4 0))
  | relS_ok {x b2 : Int} : 0 ≤ x → x ≤ ((upP P 4 0).length : Int) → b2 = max big 4 → Due P big 6 0 x (.none) 0 b2 (layP (upP P 4 0) ((upP P 4 0).length - x + 4) 4)
  | relS_bad {x b2 : Int} : ((upP P 4 0).length : Int) < x → b2 = max big 4 → Due P big 6 0 x (.none) 1 b2 ((upP P 4 0))
  | v_ok {x b2 : Int} : 0 ≤ x → x ≤ 65535 → b2 = max big 2 → Due P big 7 2 x (.none) 0 b2 (layP P x 2)
  | v_bad {x b2 : Int} : (x < 0 ∨ 65535 < x) → -1000000000000000000000 ≤ x → x ≤ 1000000000000000000000 → b2 = max big 2 → Due P big 7 2 x (.none) 4 b2 (upP P 2 0)
  | slot_bad1 {k x b2 : Int} {t : Tok} : 0 ≤ k → k < 8 → (x < lowOf k ∨ hiOf k < x) → -1000000000000000000000 ≤ x → x ≤ 1000000000000000000000 → b2 = big → Due P big 8 k x (.int 0 t) 4 b2 (P)
  | slot_bad2 {k x d b2 : Int} {t : Tok} : 0 ≤ k → k < 8 → lowOf k ≤ x → x ≤ hiOf k → (d < lowOf k ∨ hiOf k < d) → -1000000000000000000000 ≤ d → d ≤ 1000000000000000000000 → b2 = big → Due P big 8 k x (.int d t) 4 b2 (P)
  | slot_same {k x b2 : Int} {t : Tok} : 0 ≤ k → k < 8 → lowOf k ≤ x → x ≤ hiOf k → b2 = big → Due P big 8 k x (.int x t) 0 b2 (P)
  | slot_nest {k x d b2 : Int} {t : Tok} : 0 ≤ k → k < 8 → lowOf k ≤ x → x ≤ hiOf k → lowOf k ≤ d → d ≤ hiOf k → x ≠ d → b2 = max big (wOf k) → Due P big 8 k x (.int d t) 2 b2 (layP P x (wOf k))
  | fin_id {nm : Array UInt8} {b2 : Int} {t : Tok} : nm.size ≠ 4 → b2 = max big 4 → Due P big 9 0 0 (.bytes nm t) 3 b2 (upP (upP P big 8) 4 4)
  | fin_type {x b2 : Int} : (x < 0 ∨ 4294967295 < x) → -1000000000000000000000 ≤ x → x ≤ 1000000000000000000000 → b2 = big → Due P big 9 0 x (.none) 4 b2 (P)
  | fin_ahead {x b2 : Int} : ((upP (upP P big 4) 4 0).length : Int) < x → x ≤ 4294967295 → b2 = max big 4 → Due P big 9 0 x (.none) 1 b2 (upP (upP P big 4) 4 0)
theorem len_mod {r n : Int} (h : 0 < n) : 0 ≤ r.fmod n ∧ r.fmod n < n := ⟨Int.fmod_nonneg_of_pos r h, Int.fmod_lt_of_pos r h⟩
theorem sub_one {h₀ h : Heap} {L : Addr} {all : List (Addr × Obj)} {q : Addr × Obj} (N : News h₀ L h all) (hm : q ∈ all) : Sub h₀ L h [q] [] := Sub.nil fun p hp => by rw [List.mem_singleton.mp hp]; exact N _ hm
abbrev dueT (d k x : Int) (ev : Value) (c b : Int) (t1 t2 t3 t4 t5 : Tok) : Obj := { cls := .type "tuple", data := .seq #[.int d t1, .int k t2, .int x t3, ev, .int c t4, .int b t5] }
theorem sub_mid {h₀ h : Heap} {L : Addr} {rest : List (Addr × Obj)} {a b c : Addr × Obj} (S : Sub h₀ L h [a, b, c] rest) : Sub h₀ L h [a, c] rest :=
  S.sub (by intro p hp; simp only [List.mem_cons, List.not_mem_nil, or_false] at hp ⊢; rcases hp with h | h <;> simp [h])
section
local macro_rules | `(tactic| walk_at "call ref") => `(tactic| (k_here; (with_reducible show wpAny _ _ (call (Value.ref 714) _) _ _ _); k_dflt (refine' c_worth ?B ?F ?X ?N ?T ?c ?d ?k0 ?k1 ?_; (case B => k_asm); (case F => k_asm); (case X => k_asm); (case N => k_asm); (case T => k_asm); (case c => exact rfl); (case d => ktr_room); (case k0 => omega); (case k1 => omega); k_whole); intro h' tk' t' F' N'; (try k_sweep)))
local macro_rules | `(tactic| walk_at "call ref") => `(tactic| (k_here; (with_reducible show wpAny _ _ (call (Value.ref 721) _) _ _ _); k_dflt (refine' c_beyond ?B ?F ?X ?N ?T ?c ?d ?k0 ?k1 ?_; (case B => k_asm); (case F => k_asm); (case X => k_asm); (case N => k_asm); (case T => k_asm); (case c => exact rfl); (case d => ktr_room); (case k0 => omega); (case k1 => omega); k_whole); intro h' tk' t' F' N'; (try k_sweep)))
local macro_rules | `(tactic| walk_at "call ref") => `(tactic| (k_here; (with_reducible show wpAny _ _ (call (Value.ref 728) _) _ _ _); k_dflt (refine' c_up ?B ?F ?X ?S ?T ?c ?d ?hi ?hw ?h0 ?h1 ?hP ?_; (case B => k_asm); (case F => k_asm); (case X => k_asm); (case S => exact sub_one (by k_asm) (by k_mem)); (case T => k_asm); (case c => exact rfl); (case d => ktr_room); (case hi => assumption); (case hw => first | (with_reducible assumption) | omega); (case h0 => omega); (case h1 => omega); (case hP => omega); k_whole); intro h' tk' its' nn' F' S' hi'; (have kN' := S'.N); clear S'; (try k_sweep)))
local macro_rules | `(tactic| walk_at "call ref") => `(tactic| (k_here; (with_reducible show wpAny _ _ (call (Value.ref 735) _) _ _ _); k_dflt (refine' c_lay ?B ?F ?X ?S ?T ?c ?d ?hi ?hw ?hP ?_; (case B => k_asm); (case F => k_asm); (case X => k_asm); (case S => exact sub_one (by k_asm) (by k_mem)); (case T => k_asm); (case c => exact rfl); (case d => ktr_room); (case hi => assumption); (case hw => first | (with_reducible assumption) | omega); (case hP => omega); k_whole); intro h' tk' its' nn' F' S' hi'; (have kN' := S'.N); clear S'; (try k_sweep)))
local macro_rules | `(tactic| walk_at "call ref") => `(tactic| (k_here; (with_reducible show wpAny _ _ (call (Value.ref 700) _) _ _ _); k_dflt (refine' c_flags ?B ?F ?X ?N ?T ?c ?d ?k0 ?k1 ?_; (case B => k_asm); (case F => k_asm); (case X => k_asm); (case N => k_asm); (case T => k_asm); (case c => exact rfl); (case d => ktr_room); (case k0 => omega); (case k1 => omega); k_whole); intro h' tk' F' N'; (try k_sweep)))
local macro_rules | `(tactic| walk_at "subscriptTail") => `(tactic| (k_here; (with_reducible show wpAny _ _ (subscriptTail _ (Expr.Slice none (some _) none _) (Value.bytes _ _) (Value.ref _)) _ _ _); (with_reducible rename Fr _ _ _ _ => kF'); (with_reducible rename News _ _ _ _ => kN'); k_dflt (refine' PySem.W.KBc.slice_K (s := ⟨_, _, _, _, _⟩) (ks := [97, 98, 99, 100, 101]) kF' kN' ?k1 ?k2 ?k3 ?k4 ?_; (case k1 => exact rfl); (case k2 => constructor); (case k3 => constructor); (case k4 => decide); k_whole); intro h' t' k' F' N' e'; clear e'; (try k_sweep)))
local macro_rules | `(tactic| walk_at "subscriptTail") => `(tactic| (k_here; (with_reducible show wpAny _ _ (subscriptTail _ _ (Value.ref _) (Value.int _ _)) _ _ _); k_dflt (refine' five_sub ?t ?a ?b ?_; (case t => exact News.isTup (by k_asm) (by k_mem)); (case a => omega); (case b => omega); k_whole); intro n' hn' t'))
local macro_rules | `(tactic| walk_at "subscriptTail") => `(tactic| (k_here; (with_reducible show wpAny _ _ (subscriptTail _ _ (Value.ref _) (Value.int _ _)) _ _ _); k_dflt (refine' two_sub ?t ?a ?b ?_; (case t => exact News.isTup (by k_asm) (by k_mem)); (case a => omega); (case b => omega); k_whole); intro n' hn' t'))
section
variable {w : World} {dp un : Nat} {cn : Str} {cs : Scope} {a : Addr} {ccd : Value} {outer : List Env} {A₀ : Around} {base h₀ : Heap} {L : Addr} {m : Str → Option Value} {mean : ExcName → Option Value} {mg mb : Str → Option Value} {p : Program} {loose : List Str} {s : Shared} {Q E : Value → Shared → Prop} {news : List (Addr × Obj)}
theorem c_fdue {pl : Addr} {its : Array Value} {nn : Nat} {P : List Int} {big r : Int} {tx tw : Tok} {rest : List (Addr × Obj)} (B : Below A₀ base outer h₀) (F : Fr h₀ L s.heap m) (X : (Mine.hd.heap_39 w.params).In h₀) (S : Sub h₀ L s.heap [(pl, W.listOf its nn)] rest) (T : Top p loose mean mg mb h₀) (hcs : cs.kind = .function)
    (hdp : dp + 12 < recursionLimit) (hi : IntsAre its.toList P) (hw : big = 1 ∨ big = 2 ∨ big = 4 ∨ big = 8) (hP : P.length ≤ 900)
    (hret : ∀ h' tk' its' nn' tp x ev c b2 P2 t1 t2 t3 t4 t5, Due P big 9 0 x ev c b2 P2 → Fr h₀ L h' m → Sub h₀ L h' [(tp, dueT 9 0 x ev c b2 t1 t2 t3 t4 t5), (pl, W.listOf its' nn')] rest → IntsAre its'.toList P2 → Q (.ref tp) { s with heap := h', toks := tk' }) :
    wpAny (model PR w) (ktrTop dp un (some []) cn cs L a ccd [] outer) (call (.ref 742) [.ref pl, .int big tx, .int r tw]) Q E s := by
  have g1 := upP_le P big 8 (by omega); have g2 := upP_le (upP P big 8) 4 4 (by decide); have g3 := upP_le P big 4 (by omega); have g4 := upP_le (upP P big 4) 4 0 (by decide)
  have hr := len_mod (r := r.fdiv 3) (n := 9) (by decide)
  have e32 : (2 : Int) ^ Int.toNat 32 = 4294967296 := by decide
  have hr5 := len_mod (r := r.fdiv 3) (n := 5) (by decide)
  have hr2 := len_mod (r := r.fdiv 3) (n := 2) (by decide)
  refine wpAny_call ?_
  walk_at "my enter w"
  k_steps
  all_goals (rename Sub h₀ L _ _ rest => kS; rename Fr h₀ L _ m => kF)
  · exact hret _ _ _ _ _ _ _ _ _ _ _ _ _ _ _ (.fin_id (cut_size (by assumption)) (if_max _ _)) kF (sub_mid kS) (by assumption)
  · exact hret _ _ _ _ _ _ _ _ _ _ _ _ _ _ _ (.fin_type (by omega) (by omega) (by omega) rfl) kF (sub_mid kS) (by assumption)
  · exact hret _ _ _ _ _ _ _ _ _ _ _ _ _ _ _ (.fin_ahead (by omega) (by omega) (if_max _ _)) kF kS (by assumption)
end
end
-- part L5
theorem worth_in {k : Int} (r : Int) (_h0 : 0 ≤ k) (_h1 : k < 8) : lowOf k ≤ worthOf k r ∧ worthOf k r ≤ hiOf k := by
  unfold worthOf hiOf
  have hp : (0 : Int) < 2 ^ (8 * wOf k).toNat := Int.pow_pos (by decide)
  have a1 := Int.fmod_nonneg_of_pos r hp
  have a2 := Int.fmod_lt_of_pos r hp
  omega
theorem beyond_out {k : Int} (r : Int) (h0 : 0 ≤ k) (h1 : k < 8) : (beyondOf k r < lowOf k ∨ hiOf k < beyondOf k r) ∧ -1000000000000000000000 ≤ beyondOf k r ∧ beyondOf k r ≤ 1000000000000000000000 := by
  have hb := low_bounds h0 h1
  have hp : (0 : Int) < 2 ^ (8 * wOf k).toNat := Int.pow_pos (by decide)
  have a1 := Int.fmod_nonneg_of_pos (r.fdiv 2) (by decide : (0 : Int) < 5)
  have a2 := Int.fmod_lt_of_pos (r.fdiv 2) (by decide : (0 : Int) < 5)
  unfold beyondOf
  split
  · unfold hiOf; omega
  · omega
theorem low_hi {k : Int} (h0 : 0 ≤ k) (h1 : k < 8) : lowOf k + 255 ≤ hiOf k := by
  rcases k_cases h0 h1 with rfl | rfl | rfl | rfl | rfl | rfl | rfl | rfl <;> decide
theorem widths_item {prog : Program} {w : World} {A : Around} {E : Value → Shared → Prop} {s : Shared} {value slice : PySem.Expr} {D : Addr} {k : Int} {u t1 t2 t3 t4 t5 t6 t7 t8 : Tok} {Q : Value → Shared → Prop} (hl : s.heap.IsList D #[.int 1 t1, .int 1 t2, .int 2 t3, .int 2 t4, .int 4 t5, .int 4 t6, .int 8 t7, .int 8 t8]) (h0 : 0 ≤ k) (h1 : k < 8)
    (h : ∀ t, Q (.int (wOf k) t) s)
    (hb : subscripted slice false (.ref D) (.int k u) = operate [.ref D, .int k u] (getItem (.ref D) (.int k u)) := by with_unfolding_all rfl) :
    wpAny (model prog w) A (subscriptTail value slice (.ref D) (.int k u)) Q E s := widths_sub hl h0 h1 h hb
theorem lh2 : lowOf 2 = 0 ∧ hiOf 2 = 65535 := by decide
theorem lh5 : lowOf 5 = -2147483648 ∧ hiOf 5 = 2147483647 := by decide
theorem lh4 : lowOf 4 = 0 ∧ hiOf 4 = 4294967295 := by decide
theorem due_place {P : List Int} {big d k r : Int} (h0 : 0 ≤ k) (h1 : k < 8) (h2 : 1 ≤ d) (h3 : d < 5) : Due P big d (kindOf k d) (beyondOf (kindOf k d) r) .none 4 big P := by
  have : d = 1 ∨ d = 2 ∨ d = 3 ∨ d = 4 := by omega
  rcases this with rfl | rfl | rfl | rfl
  · rw [show kindOf k 1 = k from rfl]
    have ho := beyond_out r h0 h1
    exact .place_bad h0 h1 ho.1 ho.2.1 ho.2.2 rfl
  · rw [show kindOf k 2 = 2 from rfl]
    have ho := beyond_out (k := 2) r (by decide) (by decide)
    rw [lh2.1, lh2.2] at ho
    exact .placeV_bad ho.1 ho.2.1 ho.2.2 rfl
  · rw [show kindOf k 3 = 5 from rfl]
    have ho := beyond_out (k := 5) r (by decide) (by decide)
    rw [lh5.1, lh5.2] at ho
    exact .placeS_bad ho.1 ho.2.1 ho.2.2 rfl
  · rw [show kindOf k 4 = 4 from rfl]
    have ho := beyond_out (k := 4) r (by decide) (by decide)
    rw [lh4.1, lh4.2] at ho
    exact .placeU_bad ho.1 ho.2.1 ho.2.2 rfl
theorem due_vok {P : List Int} {big b2 : Int} (r : Int) (hb : b2 = max big 2) : Due P big 7 2 (worthOf 2 r) .none 0 b2 (layP P (worthOf 2 r) 2) := by
  have hw := worth_in (k := 2) r (by decide) (by decide)
  rw [lh2.1, lh2.2] at hw
  exact .v_ok hw.1 hw.2 hb
theorem due_vbad {P : List Int} {big b2 : Int} (r : Int) (hb : b2 = max big 2) : Due P big 7 2 (beyondOf 2 r) .none 4 b2 (upP P 2 0) := by
  have ho := beyond_out (k := 2) r (by decide) (by decide)
  rw [lh2.1, lh2.2] at ho
  exact .v_bad ho.1 ho.2.1 ho.2.2 hb
theorem due_rel {P : List Int} {big d x b2 : Int} (h2 : 5 ≤ d) (h3 : d < 7) (h4 : 0 ≤ x) (h5 : x ≤ ((upP P 4 0).length : Int)) (hb : b2 = max big 4) : Due P big d 0 x .none 0 b2 (layP (upP P 4 0) ((upP P 4 0).length - x + 4) 4) := by
  have : d = 5 ∨ d = 6 := by omega
  rcases this with rfl | rfl
  · exact .relU_ok h4 h5 hb
  · exact .relS_ok h4 h5 hb
theorem due_relbad {P : List Int} {big d x b2 : Int} (h2 : 5 ≤ d) (h3 : d < 7) (h5 : ((upP P 4 0).length : Int) < x) (hb : b2 = max big 4) : Due P big d 0 x .none 1 b2 (upP P 4 0) := by
  have : d = 5 ∨ d = 6 := by omega
  rcases this with rfl | rfl
  · exact .relU_bad h5 hb
  · exact .relS_bad h5 hb
section
local macro_rules | `(tactic| walk_at "call ref") => `(tactic| (k_here; (with_reducible show wpAny _ _ (call (Value.ref 714) _) _ _ _); k_dflt (refine' c_worth ?B ?F ?X ?N ?T ?c ?d ?k0 ?k1 ?_; (case B => k_asm); (case F => k_asm); (case X => k_asm); (case N => k_asm); (case T => k_asm); (case c => exact rfl); (case d => ktr_room); (case k0 => omega); (case k1 => omega); k_whole); intro h' tk' t' F' N'; (try k_sweep)))
local macro_rules | `(tactic| walk_at "call ref") => `(tactic| (k_here; (with_reducible show wpAny _ _ (call (Value.ref 721) _) _ _ _); k_dflt (refine' c_beyond ?B ?F ?X ?N ?T ?c ?d ?k0 ?k1 ?_; (case B => k_asm); (case F => k_asm); (case X => k_asm); (case N => k_asm); (case T => k_asm); (case c => exact rfl); (case d => ktr_room); (case k0 => omega); (case k1 => omega); k_whole); intro h' tk' t' F' N'; (try k_sweep)))
local macro_rules | `(tactic| walk_at "call ref") => `(tactic| (k_here; (with_reducible show wpAny _ _ (call (Value.ref 728) _) _ _ _); k_dflt (refine' c_up ?B ?F ?X ?S ?T ?c ?d ?hi ?hw ?h0 ?h1 ?hP ?_; (case B => k_asm); (case F => k_asm); (case X => k_asm); (case S => exact sub_one (by k_asm) (by k_mem)); (case T => k_asm); (case c => exact rfl); (case d => ktr_room); (case hi => assumption); (case hw => first | (with_reducible assumption) | omega); (case h0 => omega); (case h1 => omega); (case hP => omega); k_whole); intro h' tk' its' nn' F' S' hi'; (have kN' := S'.N); clear S'; (try k_sweep)))
local macro_rules | `(tactic| walk_at "call ref") => `(tactic| (k_here; (with_reducible show wpAny _ _ (call (Value.ref 735) _) _ _ _); k_dflt (refine' c_lay ?B ?F ?X ?S ?T ?c ?d ?hi ?hw ?hP ?_; (case B => k_asm); (case F => k_asm); (case X => k_asm); (case S => exact sub_one (by k_asm) (by k_mem)); (case T => k_asm); (case c => exact rfl); (case d => ktr_room); (case hi => assumption); (case hw => first | (with_reducible assumption) | omega); (case hP => omega); k_whole); intro h' tk' its' nn' F' S' hi'; (have kN' := S'.N); clear S'; (try k_sweep)))
local macro_rules | `(tactic| walk_at "call ref") => `(tactic| (k_here; (with_reducible show wpAny _ _ (call (Value.ref 700) _) _ _ _); k_dflt (refine' c_flags ?B ?F ?X ?N ?T ?c ?d ?k0 ?k1 ?_; (case B => k_asm); (case F => k_asm); (case X => k_asm); (case N => k_asm); (case T => k_asm); (case c => exact rfl); (case d => ktr_room); (case k0 => omega); (case k1 => omega); k_whole); intro h' tk' F' N'; (try k_sweep)))
local macro_rules | `(tactic| walk_at "call ref") => `(tactic| (k_here; (with_reducible show wpAny _ _ (call (Value.ref 742) _) _ _ _); k_dflt (refine' c_fdue ?B ?F ?X ?S ?T ?c ?d ?hi ?hw ?hP ?_; (case B => k_asm); (case F => k_asm); (case X => k_asm); (case S => exact sub_one (by k_asm) (by k_mem)); (case T => k_asm); (case c => exact rfl); (case d => ktr_room); (case hi => assumption); (case hw => first | (with_reducible assumption) | omega); (case hP => omega); k_whole); intro h' tk' its' nn' tp' x' ev' c' b2' P2' t1' t2' t3' t4' t5' due' F' S' hi'; (have kN' := S'.N); clear S'; (try k_sweep)))
local macro_rules | `(tactic| walk_at "subscriptTail") => `(tactic| (k_here; (with_reducible show wpAny _ _ (subscriptTail _ _ (Value.ref _) (Value.int _ _)) _ _ _); k_dflt (refine' widths_item ?t ?a ?b ?_; (case t => exact News.isList (by k_asm) (by k_mem)); (case a => omega); (case b => omega); k_whole); intro t'))
local macro_rules | `(tactic| walk_at "subscriptTail") => `(tactic| (k_here; (with_reducible show wpAny _ _ (subscriptTail _ _ (Value.ref _) (Value.int (_ - _) _)) _ _ _); k_dflt (refine' kind_sub ?t ?a ?b ?_; (case t => exact News.isTup (by k_asm) (by k_mem)); (case a => omega); (case b => omega); k_whole); intro t'))
section
variable {w : World} {dp un : Nat} {cn : Str} {cs : Scope} {a : Addr} {ccd : Value} {outer : List Env} {A₀ : Around} {base h₀ : Heap} {L : Addr} {m : Str → Option Value} {mean : ExcName → Option Value} {mg mb : Str → Option Value} {p : Program} {loose : List Str} {s : Shared} {Q E : Value → Shared → Prop} {news : List (Addr × Obj)}
theorem c_due {pl : Addr} {its : Array Value} {nn : Nat} {P : List Int} {big n : Int} {tx tw : Tok} {rest : List (Addr × Obj)} (B : Below A₀ base outer h₀) (F : Fr h₀ L s.heap m) (X : (Mine.hd.heap_39 w.params).In h₀) (S : Sub h₀ L s.heap [(pl, W.listOf its nn)] rest) (T : Top p loose mean mg mb h₀) (hcs : cs.kind = .function)
    (hdp : dp + 16 < recursionLimit) (hi : IntsAre its.toList P) (hw : big = 1 ∨ big = 2 ∨ big = 4 ∨ big = 8) (hP : P.length ≤ 900)
    (hret : ∀ h' tk' its' nn' tp d k x ev c b2 P2 t1 t2 t3 t4 t5, Due P big d k x ev c b2 P2 → Fr h₀ L h' m → Sub h₀ L h' [(tp, dueT d k x ev c b2 t1 t2 t3 t4 t5), (pl, W.listOf its' nn')] rest → IntsAre its'.toList P2 → Q (.ref tp) { s with heap := h', toks := tk' }) :
    wpAny (model PR w) (ktrTop dp un (some []) cn cs L a ccd [] outer) (call (.ref 749) [.ref pl, .int big tx, .int n tw]) Q E s := by
  have hk := len_mod (r := n.fdiv 10) (n := 8) (by decide)
  have hd := len_mod (r := n) (n := 10) (by decide)
  have hw4 := w_four hk.1 hk.2
  have g1 := upP_le P 4 0 (by decide)
  have hx := len_mod (r := n.fdiv 160) (n := (upP P 4 0).length + 12) (by omega)
  have hkb := kindOf_bd (d := n.fmod 10) hk.1 hk.2
  have hlh := low_hi hk.1 hk.2
  have hwi := worth_in (n.fdiv 160) hk.1 hk.2
  have hbo := beyond_out (n.fdiv 160) hk.1 hk.2
  refine wpAny_call ?_
  walk_at "my enter w"
  k_steps
  all_goals (rename Sub h₀ L _ _ rest => kS; rename Fr h₀ L _ m => kF)
  · exact hret _ _ _ _ _ _ _ _ _ _ _ _ _ _ _ _ _ (.prep_ok hk.1 hk.2 hwi.1 hwi.2 (if_max _ _)) kF (sub_mid kS) (by assumption)
  · exact hret _ _ _ _ _ _ _ _ _ _ _ _ _ _ _ _ _ (.prep_bad hk.1 hk.2 hbo.1 hbo.2.1 hbo.2.2 (if_max _ _)) kF (sub_mid kS) (by assumption)
  · exact hret _ _ _ _ _ _ _ _ _ _ _ _ _ _ _ _ _ (due_place hk.1 hk.2 (by omega) (by omega)) kF (sub_mid kS) (by assumption)
  · exact hret _ _ _ _ _ _ _ _ _ _ _ _ _ _ _ _ _ (due_relbad (by omega) (by omega) (by omega) (if_max _ _)) kF (kS) (by assumption)
  · exact hret _ _ _ _ _ _ _ _ _ _ _ _ _ _ _ _ _ (due_rel (by omega) (by omega) hx.1 (by omega) (if_max _ _)) kF (kS) (by assumption)
  · exact hret _ _ _ _ _ _ _ _ _ _ _ _ _ _ _ _ _ (due_vok _ (if_max _ _)) kF (kS) (by assumption)
  · exact hret _ _ _ _ _ _ _ _ _ _ _ _ _ _ _ _ _ (due_vbad _ (if_max _ _)) kF (kS) (by assumption)
  · exact hret _ _ _ _ _ _ _ _ _ _ _ _ _ _ _ _ _ (.slot_same hk.1 hk.2 hwi.1 hwi.2 rfl) kF (kS) (by assumption)
  · exact hret _ _ _ _ _ _ _ _ _ _ _ _ _ _ _ _ _ (.slot_nest hk.1 hk.2 hwi.1 hwi.2 (by omega) (by omega) (by omega) (if_max _ _)) kF (sub_mid kS) (by assumption)
  · exact hret _ _ _ _ _ _ _ _ _ _ _ _ _ _ _ _ _ (.slot_nest hk.1 hk.2 hwi.1 hwi.2 (by omega) (by omega) (by omega) (if_max _ _)) kF (sub_mid kS) (by assumption)
  · exact hret _ _ _ _ _ _ _ _ _ _ _ _ _ _ _ _ _ (.slot_bad2 hk.1 hk.2 hwi.1 hwi.2 hbo.1 hbo.2.1 hbo.2.2 rfl) kF (kS) (by assumption)
  · exact hret _ _ _ _ _ _ _ _ _ _ _ _ _ _ _ _ _ (.slot_bad1 hk.1 hk.2 hbo.1 hbo.2.1 hbo.2.2 rfl) kF (kS) (by assumption)
  · exact hret _ _ _ _ _ _ _ _ _ _ _ _ _ _ _ _ _ (by assumption) kF (kS) (by assumption)
end
end
-- part PL
theorem octs_up (P : List Int) (wd ah : Int) : octs (upP P wd ah) = upC wd ah (octs P) := by
  unfold upP upC
  rw [octs_append, octs_zeros, octs_length]
theorem octs_lay {wd : Int} (P : List Int) (x : Int) (h : ((wd.toNat : Nat) : Int) = wd) : (Builtin.Struct.intBytes false wd.toNat x).toList ++ upC (wd.toNat : Nat) 0 (octs P) = octs (layP P x wd) := by
  have e : (8 * wd).toNat = 8 * wd.toNat := by omega
  unfold layP
  rw [octs_append, octs_up, e, octs_bytes, h]
theorem up_up (P : List Int) {wd : Int} (hw : wd = 1 ∨ wd = 2 ∨ wd = 4 ∨ wd = 8) : upP (upP P wd 0) wd 0 = upP P wd 0 := by
  have : padN wd (upP P wd 0).length 0 = 0 := by
    rw [upP_length]; unfold padN
    rcases hw with rfl | rfl | rfl | rfl <;> omega
  unfold upP at this ⊢
  rw [this, List.replicate_zero, List.append_nil]
theorem octs_rel (P : List Int) (x : Int) : (Builtin.Struct.intBytes false 4 ((upC 4 0 (octs P)).length - x + 4)).toList ++ upC 4 0 (octs P) = octs (layP (upP P 4 0) ((upP P 4 0).length - x + 4) 4) := by
  rw [← octs_lay _ _ (by decide), ← octs_up, octs_length]
  have e : octs (upP P 4 0) = upC ((Int.toNat 4 : Nat) : Int) 0 (octs (upP P 4 0)) := by
    show octs (upP P 4 0) = upC 4 0 (octs (upP P 4 0))
    rw [← octs_up, up_up P (by decide)]
  rw [← e]; rfl
theorem small_up {P : List Int} (h : Small P) (wd ah : Int) : Small (upP P wd ah) := small_append h (small_zeros _)
theorem small_lay {P : List Int} (h : Small P) (x wd : Int) : Small (layP P x wd) := small_append (small_up h _ _) (digL_small _ _ _)
theorem max4 {b k : Int} (h : b = 1 ∨ b = 2 ∨ b = 4 ∨ b = 8) (hk : k = 1 ∨ k = 2 ∨ k = 4 ∨ k = 8) : max b k = 1 ∨ max b k = 2 ∨ max b k = 4 ∨ max b k = 8 := by omega
theorem up_len {P : List Int} {wd : Int} (ah : Int) (hw : wd = 1 ∨ wd = 2 ∨ wd = 4 ∨ wd = 8) : (upP P wd ah).length ≤ P.length + 7 := by
  have := upP_le P wd ah (by omega); omega
theorem lay_len {P : List Int} {wd : Int} (x : Int) (hw : wd = 1 ∨ wd = 2 ∨ wd = 4 ∨ wd = 8) : (layP P x wd).length ≤ P.length + 15 := by
  rw [layP_length]; have := up_len (P := P) 0 hw; omega
/-- what stays true from turn to turn -/
theorem due_keeps {P P2 : List Int} {big d k x c b2 : Int} {ev : Value} (D : Due P big d k x ev c b2 P2) (hb : big = 1 ∨ big = 2 ∨ big = 4 ∨ big = 8) (hs : Small P) :
    (b2 = 1 ∨ b2 = 2 ∨ b2 = 4 ∨ b2 = 8) ∧ Small P2 ∧ P2.length ≤ P.length + 30 := by
  have e4 : (4 : Int) = 1 ∨ (4 : Int) = 2 ∨ (4 : Int) = 4 ∨ (4 : Int) = 8 := by decide
  have e2 : (2 : Int) = 1 ∨ (2 : Int) = 2 ∨ (2 : Int) = 4 ∨ (2 : Int) = 8 := by decide
  have l1 := fun (Q : List Int) (wd ah : Int) (hw : wd = 1 ∨ wd = 2 ∨ wd = 4 ∨ wd = 8) => up_len (P := Q) ah hw
  have l2 := fun (Q : List Int) (wd x : Int) (hw : wd = 1 ∨ wd = 2 ∨ wd = 4 ∨ wd = 8) => lay_len (P := Q) x hw
  cases D with
  | prep_ok h0 h1 h2 h3 e => subst e; exact ⟨max4 hb (w_four h0 h1), small_lay hs _ _, by have := l2 P _ x (w_four h0 h1); omega⟩
  | prep_bad h0 h1 h2 h3 h4 e => subst e; exact ⟨max4 hb (w_four h0 h1), small_up hs _ _, by have := l1 P _ 0 (w_four h0 h1); omega⟩
  | place_bad h0 h1 h2 h3 h4 e => subst e; exact ⟨hb, hs, by omega⟩
  | placeV_bad h2 h3 h4 e => subst e; exact ⟨hb, hs, by omega⟩
  | placeS_bad h2 h3 h4 e => subst e; exact ⟨hb, hs, by omega⟩
  | placeU_bad h2 h3 h4 e => subst e; exact ⟨hb, hs, by omega⟩
  | relU_ok h0 h1 e => subst e; exact ⟨max4 hb e4, small_lay (small_up hs _ _) _ _, by have := l2 (upP P 4 0) 4 ((upP P 4 0).length - x + 4) e4; have := l1 P 4 0 e4; omega⟩
  | relU_bad h0 e => subst e; exact ⟨max4 hb e4, small_up hs _ _, by have := l1 P 4 0 e4; omega⟩
  | relS_ok h0 h1 e => subst e; exact ⟨max4 hb e4, small_lay (small_up hs _ _) _ _, by have := l2 (upP P 4 0) 4 ((upP P 4 0).length - x + 4) e4; have := l1 P 4 0 e4; omega⟩
  | relS_bad h0 e => subst e; exact ⟨max4 hb e4, small_up hs _ _, by have := l1 P 4 0 e4; omega⟩
  | v_ok h0 h1 e => subst e; exact ⟨max4 hb e2, small_lay hs _ _, by have := l2 P 2 x e2; omega⟩
  | v_bad h2 h3 h4 e => subst e; exact ⟨max4 hb e2, small_up hs _ _, by have := l1 P 2 0 e2; omega⟩
  | slot_bad1 h0 h1 h2 h3 h4 e => subst e; exact ⟨hb, hs, by omega⟩
  | slot_bad2 h0 h1 h2 h3 h4 h5 h6 e => subst e; exact ⟨hb, hs, by omega⟩
  | slot_same h0 h1 h2 h3 e => subst e; exact ⟨hb, hs, by omega⟩
  | slot_nest h0 h1 h2 h3 h4 h5 h6 e => subst e; exact ⟨max4 hb (w_four h0 h1), small_lay hs _ _, by have := l2 P _ x (w_four h0 h1); omega⟩
  | fin_id h0 e => subst e; exact ⟨max4 hb e4, small_up (small_up hs _ _) _ _, by have := l1 P big 8 hb; have := l1 (upP P big 8) 4 4 e4; omega⟩
  | fin_type h2 h3 h4 e => subst e; exact ⟨hb, hs, by omega⟩
  | fin_ahead h0 h1 e => subst e; exact ⟨max4 hb e4, small_up (small_up hs _ _) _ _, by have := l1 P big 4 hb; have := l1 (upP P big 4) 4 0 e4; omega⟩
theorem bfx_eq {bx dx ba : Addr} {b : Array UInt8} {hv room : Int} {C C' : List UInt8} (e : C = C') (F : BFx bx dx ba b hv room C) : BFx bx dx ba b hv room C' := e ▸ F
-- part D12
section
local macro_rules | `(tactic| walk_at "call ref") => `(tactic| (k_here; (with_reducible show wpAny _ _ (call (Value.ref 655) _) _ _ _); k_dflt (refine' c_PlaceV_bad ?B ?F ?X ?S ?T ?c ?d ?fx ?h1 ?h2 ?h3 ?_; (case B => k_asm); (case F => k_asm); (case X => k_asm); (case S => walk_at "my sub"); (case T => k_asm); (case c => exact rfl); (case d => ktr_room); (case fx => assumption); (case h1 => omega); (case h2 => omega); (case h3 => omega); k_whole); intro e' g' h' tk' ba' b' hv' th' tm' F' R' U' FX'))
local macro_rules | `(tactic| walk_at "call ref") => `(tactic| (k_here; (with_reducible show wpAny _ _ (call (Value.ref 662) _) _ _ _); k_dflt (refine' c_PlaceS_bad ?B ?F ?X ?S ?T ?c ?d ?fx ?h1 ?h2 ?h3 ?_; (case B => k_asm); (case F => k_asm); (case X => k_asm); (case S => walk_at "my sub"); (case T => k_asm); (case c => exact rfl); (case d => ktr_room); (case fx => assumption); (case h1 => omega); (case h2 => omega); (case h3 => omega); k_whole); intro e' g' h' tk' ba' b' hv' th' tm' F' R' U' FX'))
local macro_rules | `(tactic| walk_at "call ref") => `(tactic| (k_here; (with_reducible show wpAny _ _ (call (Value.ref 669) _) _ _ _); k_dflt (refine' c_PlaceU_bad ?B ?F ?X ?S ?T ?c ?d ?fx ?h1 ?h2 ?h3 ?_; (case B => k_asm); (case F => k_asm); (case X => k_asm); (case S => walk_at "my sub"); (case T => k_asm); (case c => exact rfl); (case d => ktr_room); (case fx => assumption); (case h1 => omega); (case h2 => omega); (case h3 => omega); k_whole); intro e' g' h' tk' ba' b' hv' th' tm' F' R' U' FX'))
local macro_rules | `(tactic| walk_at "gAny") => `(tactic| (k_here; (with_reducible show gAny _ _ (call (Value.ref 364) _) _ _ _); k_dflt (refine' c_PrependRelS ?B ?F ?X ?S ?T ?c ?d ?fx ?hC ?h1 ?h2 ?_; (case B => k_asm); (case F => k_asm); (case X => k_asm); (case S => walk_at "my sub"); (case T => k_asm); (case c => exact rfl); (case d => ktr_room); (case fx => assumption); (case hC => assumption); (case h1 => omega); (case h2 => omega); k_whole); intro h' tk' ba' b' hv' th' tm' F' S' FX'; walk_at "my back"; walk_at "my fx"))
local macro_rules | `(tactic| walk_at "gAny") => `(tactic| (k_here; (with_reducible show gAny _ _ (call (Value.ref 364) _) _ _ _); k_dflt (refine' c_PrependRelS_bad ?B ?F ?X ?S ?T ?c ?d ?fx ?hC ?h1 ?_; (case B => k_asm); (case F => k_asm); (case X => k_asm); (case S => walk_at "my sub"); (case T => k_asm); (case c => exact rfl); (case d => ktr_room); (case fx => assumption); (case hC => assumption); (case h1 => omega); k_whole); intro e' g' h' tk' ba' b' hv' th' tm' F' R' U' FX'))
local macro_rules | `(tactic| walk_at "gAny") => `(tactic| (k_here; (with_reducible show gAny _ _ (call (Value.ref 641) _) _ _ _); k_dflt (refine' c_PrependV ?B ?F ?X ?S ?T ?c ?d ?fx ?hC ?h1 ?h2 ?_; (case B => k_asm); (case F => k_asm); (case X => k_asm); (case S => walk_at "my sub"); (case T => k_asm); (case c => exact rfl); (case d => ktr_room); (case fx => assumption); (case hC => assumption); (case h1 => omega); (case h2 => omega); k_whole); intro h' tk' ba' b' hv' th' tm' F' S' FX'; walk_at "my back"; walk_at "my fx"))
local macro_rules | `(tactic| walk_at "gAny") => `(tactic| (k_here; (with_reducible show gAny _ _ (call (Value.ref 641) _) _ _ _); k_dflt (refine' c_PrependV_bad ?B ?F ?X ?S ?T ?c ?d ?fx ?hC ?h1 ?h2 ?h3 ?_; (case B => k_asm); (case F => k_asm); (case X => k_asm); (case S => walk_at "my sub"); (case T => k_asm); (case c => exact rfl); (case d => ktr_room); (case fx => assumption); (case hC => assumption); (case h1 => omega); (case h2 => omega); (case h3 => omega); k_whole); intro e' g' h' tk' ba' b' hv' th' tm' F' R' U' FX'))
local macro_rules | `(tactic| walk_at "gAny") => `(tactic| (k_here; (with_reducible show gAny _ _ (call (Value.ref 473) _) _ _ _); k_dflt (refine' c_PSlot_bad1 ?B ?F ?X ?S ?T ?c ?d ?fx ?fl ?pk ?hw ?hC ?hn ?h1 ?h2 ?h3 ?_; (case B => k_asm); (case F => k_asm); (case X => k_asm); (case S => walk_at "my sub"); (case T => k_asm); (case c => exact rfl); (case d => ktr_room); (case fx => assumption); (case fl => assumption); (case pk => assumption); (case hw => omega); (case hC => assumption); (case hn => assumption); (case h1 => omega); (case h2 => omega); (case h3 => omega); k_whole); intro e' g' h' tk' ba' b' hv' th' tm' F' R' U' FX'))
local macro_rules | `(tactic| walk_at "gAny") => `(tactic| (k_here; (with_reducible show gAny _ _ (call (Value.ref 473) _) _ _ _); k_dflt (refine' c_PSlot_bad2 ?B ?F ?X ?S ?T ?c ?d ?fx ?fl ?pk ?hw ?hC ?hn ?h1 ?h0 ?h4 ?h2 ?h3 ?_; (case B => k_asm); (case F => k_asm); (case X => k_asm); (case S => walk_at "my sub"); (case T => k_asm); (case c => exact rfl); (case d => ktr_room); (case fx => assumption); (case fl => assumption); (case pk => assumption); (case hw => omega); (case hC => assumption); (case hn => assumption); (case h1 => omega); (case h0 => omega); (case h4 => omega); (case h2 => omega); (case h3 => omega); k_whole); intro e' g' h' tk' ba' b' hv' th' tm' F' R' U' FX'))
local macro_rules | `(tactic| walk_at "gAny") => `(tactic| (k_here; (with_reducible show gAny _ _ (call (Value.ref 473) _) _ _ _); k_dflt (refine' c_PSlot_same ?B ?F ?X ?S ?T ?c ?d ?fx ?fl ?pk ?hw ?hC ?hn ?h1 ?h0 ?h2 ?_; (case B => k_asm); (case F => k_asm); (case X => k_asm); (case S => walk_at "my sub"); (case T => k_asm); (case c => exact rfl); (case d => ktr_room); (case fx => assumption); (case fl => assumption); (case pk => assumption); (case hw => omega); (case hC => assumption); (case hn => assumption); (case h1 => omega); (case h0 => omega); (case h2 => exact rfl); k_whole); intro h' tk' ba' b' hv' th' tm' F' S' FX'; walk_at "my back"; walk_at "my fx"))
local macro_rules | `(tactic| walk_at "gAny") => `(tactic| (k_here; (with_reducible show gAny _ _ (call (Value.ref 473) _) _ _ _); k_dflt (refine' c_PSlot_nest ?B ?F ?X ?S ?T ?c ?d ?fx ?fl ?pk ?hw ?hC ?hn ?h1 ?h0 ?h2 ?h3 ?h4 ?_; (case B => k_asm); (case F => k_asm); (case X => k_asm); (case S => walk_at "my sub"); (case T => k_asm); (case c => exact rfl); (case d => ktr_room); (case fx => assumption); (case fl => assumption); (case pk => assumption); (case hw => omega); (case hC => assumption); (case hn => assumption); (case h1 => omega); (case h0 => omega); (case h2 => omega); (case h3 => omega); (case h4 => omega); k_whole); intro e' g' h' tk' ba' b' hv' th' tm' F' R' U' FX'))
local macro_rules | `(tactic| walk_at "gAny") => `(tactic| (k_here; (with_reducible show gAny _ _ (call (Value.ref 451) _) _ _ _); k_dflt (refine' c_Finish_id ?B ?F ?X ?S ?T ?c ?d ?fx ?hm ?hC8 ?h1 ?h2 ?h3 ?_; (case B => k_asm); (case F => k_asm); (case X => k_asm); (case S => walk_at "my sub"); (case T => k_asm); (case c => exact rfl); (case d => ktr_room); (case fx => assumption); (case hm => assumption); (case hC8 => assumption); (case h1 => omega); (case h2 => omega); (case h3 => assumption); k_whole); intro e' g' h' tk' ba' b' hv' th' tm' F' R' U' FX'))
local macro_rules | `(tactic| walk_at "gAny") => `(tactic| (k_here; (with_reducible show gAny _ _ (call (Value.ref 451) _) _ _ _); k_dflt (refine' c_Finish_type ?B ?F ?X ?S ?T ?c ?d ?fx ?hm ?hC8 ?h1 ?h2 ?h3 ?_; (case B => k_asm); (case F => k_asm); (case X => k_asm); (case S => walk_at "my sub"); (case T => k_asm); (case c => exact rfl); (case d => ktr_room); (case fx => assumption); (case hm => assumption); (case hC8 => assumption); (case h1 => omega); (case h2 => omega); (case h3 => omega); k_whole); intro e' g' h' tk' ba' b' hv' th' tm' F' R' U' FX'))
local macro_rules | `(tactic| walk_at "gAny") => `(tactic| (k_here; (with_reducible show gAny _ _ (call (Value.ref 451) _) _ _ _); k_dflt (refine' c_Finish_ahead ?B ?F ?X ?S ?T ?c ?d ?fx ?hm ?hC8 ?h1 ?h2 ?h3 ?_; (case B => k_asm); (case F => k_asm); (case X => k_asm); (case S => walk_at "my sub"); (case T => k_asm); (case c => exact rfl); (case d => ktr_room); (case fx => assumption); (case hm => assumption); (case hC8 => assumption); (case h1 => omega); (case h2 => omega); (case h3 => omega); k_whole); intro e' g' h' tk' ba' b' hv' th' tm' F' R' U' FX'))
local macro_rules | `(tactic| walk_at "call ref") => `(tactic| (k_here; (with_reducible show wpAny _ _ (call (Value.ref 700) _) _ _ _); k_dflt (refine' c_flags ?B ?F ?X ?N ?T ?c ?d ?k0 ?k1 ?_; (case B => k_asm); (case F => k_asm); (case X => k_asm); (case N => k_asm); (case T => k_asm); (case c => exact rfl); (case d => ktr_room); (case k0 => omega); (case k1 => omega); k_whole); intro h' tk' F' N'; (try k_sweep)))
local macro_rules | `(tactic| walk_at "gAny") => `(tactic| ((with_reducible show gAny _ _ (execs (Stmt.If _ _ _ _ :: _) _) _ _ _); k_dflt (refine g_cons (g_If ?_))))
local macro_rules | `(tactic| walk_at "gAny") => `(tactic| ((with_reducible show gAny _ _ (execs (Stmt.Try _ _ _ _ _ :: _) _) _ _ _); k_dflt (refine g_cons (g_Try ?_))))
local macro_rules | `(tactic| walk_at "my enter t") => `(tactic| (k_dflt (refine' g_defT ?k1 ?k2 ?k3 ?k4 ?k5 ?kA ?kK ?k6 ?k7 ?k8 ?k9 ?kB ?_ ?c2 ?c3 ?c4 ?c5; (case kA => exact rfl); (case kK => first | assumption | exact rfl); (case k1 => k_asm); (case k2 => k_asm); (case k3 => k_asm); (case k4 => k_asm); (case k5 => k_asm); (case k6 => k_is); (case k7 => k_is); (case k8 => ktr_room); (case k9 => first | exact BindsTo.of_eq rfl | exact binds_K (by k_in) rfl (by k_is) rfl rfl rfl); (case c5 => decide); (case kB => exact locs rfl); (case c2 => exact rfl); (case c3 => exact rfl); (case c4 => exact rfl); k_whole; intro g' L' h' FG' F' N' B' X' T' D'; (try dsimp only [led, bObj] at N'); (try dsimp only))))
local macro_rules | `(tactic| walk_at "LeaveT") => `(tactic| (k_dflt (refine' leaveT_ ?k0 ?k1 ?k2 ?_; (case k0 => first | assumption | exact KtsTurn.refl); (case k1 => k_asm); (case k2 => k_asm); k_whole); intro kF kS; (try dsimp only at kF kS); (try dsimp only)))
section
variable {w : World} {dp un : Nat} {cn : Str} {cs : Scope} {a : Addr} {ccd : Value} {A₀ : Around} {base h₀ : Heap} {L : Addr} {m : Str → Option Value} {mean : ExcName → Option Value} {mg mb : Str → Option Value} {p : Program} {loose : List Str} {s : Shared} {Q E : Value → Shared → Prop}
  {bx dx vt ba : Addr} {b : Array UInt8} {hv : Int} {th : Tok} {ma : Int} {tm : Tok} {rest : List (Addr × Obj)} {C : List UInt8} {c : Addr} {nm : Str} {pk : Addr} {k x d : Int} {t1 t2 t3 t4 : Tok} {idb : Array UInt8}
theorem deed_prep_ok (B : Below A₀ base [] h₀) (F : Fr h₀ L s.heap m) (X : (Mine.hd.heap_39 w.params).In h₀) (XB : (Mine.hd.heap_39 w.params).In base) (S : Sub h₀ L s.heap (led bx dx vt ba b hv th ma tm false) rest) (T : Top p loose mean mg mb h₀) (TB : Top p loose mean mg mb base) (hcs : cs.kind = .function)
    (hdp : dp + 30 < recursionLimit) (FX : BFx bx dx ba b hv 0 C) (hC : C.length ≤ 900) (hC8 : C.length ≤ 870) (h0 : 0 ≤ k) (h1 : k < 8) (i1 : lowOf k ≤ x) (i2 : x ≤ hiOf k) 
    (hret : ∀ h' tk' ba' b' hv' th' tm' tc, Fr h₀ L h' m → Sub h₀ L h' (led bx dx vt ba' b' hv' th' (max ma ((wOf k).toNat : Nat)) tm' false) rest → BFx bx dx ba' b' hv' 0 ((Builtin.Struct.intBytes false (wOf k).toNat x).toList ++ upC ((wOf k).toNat : Nat) 0 C) → Q (.int 0 tc) { s with heap := h', toks := tk' }) :
    gAny (model PR w) (ktrTop dp un (some []) cn cs L a ccd [] []) (call (.ref 756) [.ref bx, .int 0 t1, .int k t2, .int x t3, .none]) Q E s := by
  obtain ⟨nm, pk, FL, PK, hnm⟩ := flag_of w h0 h1
  have hw4 := w_four h0 h1
  have n1 := FX.n1; have n2 := FX.n2; have n3 := FX.n3; have z1 := FX.z; have z2 := FX.r0; have z3 := FX.r1; have z4 := FX.h2
  refine g_call ?_
  walk_at "my enter t"
  k_steps
  rename Sub h₀ L _ _ rest => kS; rename Fr h₀ L _ m => kF
  rename BFx _ _ _ _ _ _ _ => fX
  exact hret _ _ _ _ _ _ _ _ kF kS fX
theorem deed_prep_bad (B : Below A₀ base [] h₀) (F : Fr h₀ L s.heap m) (X : (Mine.hd.heap_39 w.params).In h₀) (XB : (Mine.hd.heap_39 w.params).In base) (S : Sub h₀ L s.heap (led bx dx vt ba b hv th ma tm false) rest) (T : Top p loose mean mg mb h₀) (TB : Top p loose mean mg mb base) (hcs : cs.kind = .function)
    (hdp : dp + 30 < recursionLimit) (FX : BFx bx dx ba b hv 0 C) (hC : C.length ≤ 900) (hC8 : C.length ≤ 870) (h0 : 0 ≤ k) (h1 : k < 8) (o1 : x < lowOf k ∨ hiOf k < x) (o2 : -1000000000000000000000 ≤ x) (o3 : x ≤ 1000000000000000000000) 
    (hret : ∀ h' tk' ba' b' hv' th' tm' tc, Fr h₀ L h' m → Sub h₀ L h' (led bx dx vt ba' b' hv' th' (max ma ((wOf k).toNat : Nat)) tm' false) rest → BFx bx dx ba' b' hv' 0 (upC ((wOf k).toNat : Nat) 0 C) → Q (.int 4 tc) { s with heap := h', toks := tk' }) :
    gAny (model PR w) (ktrTop dp un (some []) cn cs L a ccd [] []) (call (.ref 756) [.ref bx, .int 0 t1, .int k t2, .int x t3, .none]) Q E s := by
  obtain ⟨nm, pk, FL, PK, hnm⟩ := flag_of w h0 h1
  have hw4 := w_four h0 h1
  have n1 := FX.n1; have n2 := FX.n2; have n3 := FX.n3; have z1 := FX.z; have z2 := FX.r0; have z3 := FX.r1; have z4 := FX.h2
  refine g_call ?_
  walk_at "my enter t"
  k_steps
  rename Sub h₀ L _ _ rest => kS; rename Fr h₀ L _ m => kF
  rename BFx _ _ _ _ _ _ _ => fX
  exact hret _ _ _ _ _ _ _ _ kF kS fX
theorem deed_place_bad (B : Below A₀ base [] h₀) (F : Fr h₀ L s.heap m) (X : (Mine.hd.heap_39 w.params).In h₀) (XB : (Mine.hd.heap_39 w.params).In base) (S : Sub h₀ L s.heap (led bx dx vt ba b hv th ma tm false) rest) (T : Top p loose mean mg mb h₀) (TB : Top p loose mean mg mb base) (hcs : cs.kind = .function)
    (hdp : dp + 30 < recursionLimit) (FX : BFx bx dx ba b hv 0 C) (hC : C.length ≤ 900) (hC8 : C.length ≤ 870) (h0 : 0 ≤ k) (h1 : k < 8) (o1 : x < lowOf k ∨ hiOf k < x) (o2 : -1000000000000000000000 ≤ x) (o3 : x ≤ 1000000000000000000000) 
    (hret : ∀ h' tk' ba' b' hv' th' tm' tc, Fr h₀ L h' m → Sub h₀ L h' (led bx dx vt ba' b' hv' th' (ma) tm' false) rest → BFx bx dx ba' b' hv' 0 C → Q (.int 4 tc) { s with heap := h', toks := tk' }) :
    gAny (model PR w) (ktrTop dp un (some []) cn cs L a ccd [] []) (call (.ref 756) [.ref bx, .int 1 t1, .int k t2, .int x t3, .none]) Q E s := by
  obtain ⟨nm, pk, FL, PK, hnm⟩ := flag_of w h0 h1
  have hw4 := w_four h0 h1
  have n1 := FX.n1; have n2 := FX.n2; have n3 := FX.n3; have z1 := FX.z; have z2 := FX.r0; have z3 := FX.r1; have z4 := FX.h2
  refine g_call ?_
  walk_at "my enter t"
  k_steps
  rename Sub h₀ L _ _ rest => kS; rename Fr h₀ L _ m => kF
  rename BFx _ _ _ _ _ _ _ => fX
  exact hret _ _ _ _ _ _ _ _ kF kS fX
theorem deed_placeV_bad (B : Below A₀ base [] h₀) (F : Fr h₀ L s.heap m) (X : (Mine.hd.heap_39 w.params).In h₀) (XB : (Mine.hd.heap_39 w.params).In base) (S : Sub h₀ L s.heap (led bx dx vt ba b hv th ma tm false) rest) (T : Top p loose mean mg mb h₀) (TB : Top p loose mean mg mb base) (hcs : cs.kind = .function)
    (hdp : dp + 30 < recursionLimit) (FX : BFx bx dx ba b hv 0 C) (hC : C.length ≤ 900) (hC8 : C.length ≤ 870) (o1 : x < 0 ∨ 65535 < x) (o2 : -1000000000000000000000 ≤ x) (o3 : x ≤ 1000000000000000000000) 
    (hret : ∀ h' tk' ba' b' hv' th' tm' tc, Fr h₀ L h' m → Sub h₀ L h' (led bx dx vt ba' b' hv' th' (ma) tm' false) rest → BFx bx dx ba' b' hv' 0 C → Q (.int 4 tc) { s with heap := h', toks := tk' }) :
    gAny (model PR w) (ktrTop dp un (some []) cn cs L a ccd [] []) (call (.ref 756) [.ref bx, .int 2 t1, .int 2 t2, .int x t3, .none]) Q E s := by
  have n1 := FX.n1; have n2 := FX.n2; have n3 := FX.n3; have z1 := FX.z; have z2 := FX.r0; have z3 := FX.r1; have z4 := FX.h2
  refine g_call ?_
  walk_at "my enter t"
  k_steps
  rename Sub h₀ L _ _ rest => kS; rename Fr h₀ L _ m => kF
  rename BFx _ _ _ _ _ _ _ => fX
  exact hret _ _ _ _ _ _ _ _ kF kS fX
theorem deed_placeS_bad (B : Below A₀ base [] h₀) (F : Fr h₀ L s.heap m) (X : (Mine.hd.heap_39 w.params).In h₀) (XB : (Mine.hd.heap_39 w.params).In base) (S : Sub h₀ L s.heap (led bx dx vt ba b hv th ma tm false) rest) (T : Top p loose mean mg mb h₀) (TB : Top p loose mean mg mb base) (hcs : cs.kind = .function)
    (hdp : dp + 30 < recursionLimit) (FX : BFx bx dx ba b hv 0 C) (hC : C.length ≤ 900) (hC8 : C.length ≤ 870) (o1 : x < -2147483648 ∨ 2147483647 < x) (o2 : -1000000000000000000000 ≤ x) (o3 : x ≤ 1000000000000000000000) 
    (hret : ∀ h' tk' ba' b' hv' th' tm' tc, Fr h₀ L h' m → Sub h₀ L h' (led bx dx vt ba' b' hv' th' (ma) tm' false) rest → BFx bx dx ba' b' hv' 0 C → Q (.int 4 tc) { s with heap := h', toks := tk' }) :
    gAny (model PR w) (ktrTop dp un (some []) cn cs L a ccd [] []) (call (.ref 756) [.ref bx, .int 3 t1, .int 5 t2, .int x t3, .none]) Q E s := by
  have n1 := FX.n1; have n2 := FX.n2; have n3 := FX.n3; have z1 := FX.z; have z2 := FX.r0; have z3 := FX.r1; have z4 := FX.h2
  refine g_call ?_
  walk_at "my enter t"
  k_steps
  rename Sub h₀ L _ _ rest => kS; rename Fr h₀ L _ m => kF
  rename BFx _ _ _ _ _ _ _ => fX
  exact hret _ _ _ _ _ _ _ _ kF kS fX
theorem deed_placeU_bad (B : Below A₀ base [] h₀) (F : Fr h₀ L s.heap m) (X : (Mine.hd.heap_39 w.params).In h₀) (XB : (Mine.hd.heap_39 w.params).In base) (S : Sub h₀ L s.heap (led bx dx vt ba b hv th ma tm false) rest) (T : Top p loose mean mg mb h₀) (TB : Top p loose mean mg mb base) (hcs : cs.kind = .function)
    (hdp : dp + 30 < recursionLimit) (FX : BFx bx dx ba b hv 0 C) (hC : C.length ≤ 900) (hC8 : C.length ≤ 870) (o1 : x < 0 ∨ 4294967295 < x) (o2 : -1000000000000000000000 ≤ x) (o3 : x ≤ 1000000000000000000000) 
    (hret : ∀ h' tk' ba' b' hv' th' tm' tc, Fr h₀ L h' m → Sub h₀ L h' (led bx dx vt ba' b' hv' th' (ma) tm' false) rest → BFx bx dx ba' b' hv' 0 C → Q (.int 4 tc) { s with heap := h', toks := tk' }) :
    gAny (model PR w) (ktrTop dp un (some []) cn cs L a ccd [] []) (call (.ref 756) [.ref bx, .int 4 t1, .int 4 t2, .int x t3, .none]) Q E s := by
  have n1 := FX.n1; have n2 := FX.n2; have n3 := FX.n3; have z1 := FX.z; have z2 := FX.r0; have z3 := FX.r1; have z4 := FX.h2
  refine g_call ?_
  walk_at "my enter t"
  k_steps
  rename Sub h₀ L _ _ rest => kS; rename Fr h₀ L _ m => kF
  rename BFx _ _ _ _ _ _ _ => fX
  exact hret _ _ _ _ _ _ _ _ kF kS fX
theorem deed_relU_ok (B : Below A₀ base [] h₀) (F : Fr h₀ L s.heap m) (X : (Mine.hd.heap_39 w.params).In h₀) (XB : (Mine.hd.heap_39 w.params).In base) (S : Sub h₀ L s.heap (led bx dx vt ba b hv th ma tm false) rest) (T : Top p loose mean mg mb h₀) (TB : Top p loose mean mg mb base) (hcs : cs.kind = .function)
    (hdp : dp + 30 < recursionLimit) (FX : BFx bx dx ba b hv 0 C) (hC : C.length ≤ 900) (hC8 : C.length ≤ 870) (i1 : 0 ≤ x) (i2 : x ≤ ((upC 4 0 C).length : Int)) 
    (hret : ∀ h' tk' ba' b' hv' th' tm' tc, Fr h₀ L h' m → Sub h₀ L h' (led bx dx vt ba' b' hv' th' (max ma 4) tm' false) rest → BFx bx dx ba' b' hv' 0 ((Builtin.Struct.intBytes false 4 ((upC 4 0 C).length - x + 4)).toList ++ upC 4 0 C) → Q (.int 0 tc) { s with heap := h', toks := tk' }) :
    gAny (model PR w) (ktrTop dp un (some []) cn cs L a ccd [] []) (call (.ref 756) [.ref bx, .int 5 t1, .int 0 t2, .int x t3, .none]) Q E s := by
  have n1 := FX.n1; have n2 := FX.n2; have n3 := FX.n3; have z1 := FX.z; have z2 := FX.r0; have z3 := FX.r1; have z4 := FX.h2
  refine g_call ?_
  walk_at "my enter t"
  k_steps
  rename Sub h₀ L _ _ rest => kS; rename Fr h₀ L _ m => kF
  rename BFx _ _ _ _ _ _ _ => fX
  exact hret _ _ _ _ _ _ _ _ kF kS fX
theorem deed_relU_bad (B : Below A₀ base [] h₀) (F : Fr h₀ L s.heap m) (X : (Mine.hd.heap_39 w.params).In h₀) (XB : (Mine.hd.heap_39 w.params).In base) (S : Sub h₀ L s.heap (led bx dx vt ba b hv th ma tm false) rest) (T : Top p loose mean mg mb h₀) (TB : Top p loose mean mg mb base) (hcs : cs.kind = .function)
    (hdp : dp + 30 < recursionLimit) (FX : BFx bx dx ba b hv 0 C) (hC : C.length ≤ 900) (hC8 : C.length ≤ 870) (i1 : ((upC 4 0 C).length : Int) < x) 
    (hret : ∀ h' tk' ba' b' hv' th' tm' tc, Fr h₀ L h' m → Sub h₀ L h' (led bx dx vt ba' b' hv' th' (max ma 4) tm' false) rest → BFx bx dx ba' b' hv' 0 (upC 4 0 C) → Q (.int 1 tc) { s with heap := h', toks := tk' }) :
    gAny (model PR w) (ktrTop dp un (some []) cn cs L a ccd [] []) (call (.ref 756) [.ref bx, .int 5 t1, .int 0 t2, .int x t3, .none]) Q E s := by
  have n1 := FX.n1; have n2 := FX.n2; have n3 := FX.n3; have z1 := FX.z; have z2 := FX.r0; have z3 := FX.r1; have z4 := FX.h2
  refine g_call ?_
  walk_at "my enter t"
  k_steps
  rename Sub h₀ L _ _ rest => kS; rename Fr h₀ L _ m => kF
  rename BFx _ _ _ _ _ _ _ => fX
  exact hret _ _ _ _ _ _ _ _ kF kS fX
theorem deed_relS_ok (B : Below A₀ base [] h₀) (F : Fr h₀ L s.heap m) (X : (Mine.hd.heap_39 w.params).In h₀) (XB : (Mine.hd.heap_39 w.params).In base) (S : Sub h₀ L s.heap (led bx dx vt ba b hv th ma tm false) rest) (T : Top p loose mean mg mb h₀) (TB : Top p loose mean mg mb base) (hcs : cs.kind = .function)
    (hdp : dp + 30 < recursionLimit) (FX : BFx bx dx ba b hv 0 C) (hC : C.length ≤ 900) (hC8 : C.length ≤ 870) (i1 : 0 ≤ x) (i2 : x ≤ ((upC 4 0 C).length : Int)) 
    (hret : ∀ h' tk' ba' b' hv' th' tm' tc, Fr h₀ L h' m → Sub h₀ L h' (led bx dx vt ba' b' hv' th' (max ma 4) tm' false) rest → BFx bx dx ba' b' hv' 0 ((Builtin.Struct.intBytes false 4 ((upC 4 0 C).length - x + 4)).toList ++ upC 4 0 C) → Q (.int 0 tc) { s with heap := h', toks := tk' }) :
    gAny (model PR w) (ktrTop dp un (some []) cn cs L a ccd [] []) (call (.ref 756) [.ref bx, .int 6 t1, .int 0 t2, .int x t3, .none]) Q E s := by
  have n1 := FX.n1; have n2 := FX.n2; have n3 := FX.n3; have z1 := FX.z; have z2 := FX.r0; have z3 := FX.r1; have z4 := FX.h2
  refine g_call ?_
  walk_at "my enter t"
  k_steps
  rename Sub h₀ L _ _ rest => kS; rename Fr h₀ L _ m => kF
  rename BFx _ _ _ _ _ _ _ => fX
  exact hret _ _ _ _ _ _ _ _ kF kS fX
theorem deed_relS_bad (B : Below A₀ base [] h₀) (F : Fr h₀ L s.heap m) (X : (Mine.hd.heap_39 w.params).In h₀) (XB : (Mine.hd.heap_39 w.params).In base) (S : Sub h₀ L s.heap (led bx dx vt ba b hv th ma tm false) rest) (T : Top p loose mean mg mb h₀) (TB : Top p loose mean mg mb base) (hcs : cs.kind = .function)
    (hdp : dp + 30 < recursionLimit) (FX : BFx bx dx ba b hv 0 C) (hC : C.length ≤ 900) (hC8 : C.length ≤ 870) (i1 : ((upC 4 0 C).length : Int) < x) 
    (hret : ∀ h' tk' ba' b' hv' th' tm' tc, Fr h₀ L h' m → Sub h₀ L h' (led bx dx vt ba' b' hv' th' (max ma 4) tm' false) rest → BFx bx dx ba' b' hv' 0 (upC 4 0 C) → Q (.int 1 tc) { s with heap := h', toks := tk' }) :
    gAny (model PR w) (ktrTop dp un (some []) cn cs L a ccd [] []) (call (.ref 756) [.ref bx, .int 6 t1, .int 0 t2, .int x t3, .none]) Q E s := by
  have n1 := FX.n1; have n2 := FX.n2; have n3 := FX.n3; have z1 := FX.z; have z2 := FX.r0; have z3 := FX.r1; have z4 := FX.h2
  refine g_call ?_
  walk_at "my enter t"
  k_steps
  rename Sub h₀ L _ _ rest => kS; rename Fr h₀ L _ m => kF
  rename BFx _ _ _ _ _ _ _ => fX
  exact hret _ _ _ _ _ _ _ _ kF kS fX
theorem deed_v_ok (B : Below A₀ base [] h₀) (F : Fr h₀ L s.heap m) (X : (Mine.hd.heap_39 w.params).In h₀) (XB : (Mine.hd.heap_39 w.params).In base) (S : Sub h₀ L s.heap (led bx dx vt ba b hv th ma tm false) rest) (T : Top p loose mean mg mb h₀) (TB : Top p loose mean mg mb base) (hcs : cs.kind = .function)
    (hdp : dp + 30 < recursionLimit) (FX : BFx bx dx ba b hv 0 C) (hC : C.length ≤ 900) (hC8 : C.length ≤ 870) (i1 : 0 ≤ x) (i2 : x ≤ 65535) 
    (hret : ∀ h' tk' ba' b' hv' th' tm' tc, Fr h₀ L h' m → Sub h₀ L h' (led bx dx vt ba' b' hv' th' (max ma 2) tm' false) rest → BFx bx dx ba' b' hv' 0 ((Builtin.Struct.intBytes false 2 x).toList ++ upC 2 0 C) → Q (.int 0 tc) { s with heap := h', toks := tk' }) :
    gAny (model PR w) (ktrTop dp un (some []) cn cs L a ccd [] []) (call (.ref 756) [.ref bx, .int 7 t1, .int 2 t2, .int x t3, .none]) Q E s := by
  have n1 := FX.n1; have n2 := FX.n2; have n3 := FX.n3; have z1 := FX.z; have z2 := FX.r0; have z3 := FX.r1; have z4 := FX.h2
  refine g_call ?_
  walk_at "my enter t"
  k_steps
  rename Sub h₀ L _ _ rest => kS; rename Fr h₀ L _ m => kF
  rename BFx _ _ _ _ _ _ _ => fX
  exact hret _ _ _ _ _ _ _ _ kF kS fX
theorem deed_v_bad (B : Below A₀ base [] h₀) (F : Fr h₀ L s.heap m) (X : (Mine.hd.heap_39 w.params).In h₀) (XB : (Mine.hd.heap_39 w.params).In base) (S : Sub h₀ L s.heap (led bx dx vt ba b hv th ma tm false) rest) (T : Top p loose mean mg mb h₀) (TB : Top p loose mean mg mb base) (hcs : cs.kind = .function)
    (hdp : dp + 30 < recursionLimit) (FX : BFx bx dx ba b hv 0 C) (hC : C.length ≤ 900) (hC8 : C.length ≤ 870) (o1 : x < 0 ∨ 65535 < x) (o2 : -1000000000000000000000 ≤ x) (o3 : x ≤ 1000000000000000000000) 
    (hret : ∀ h' tk' ba' b' hv' th' tm' tc, Fr h₀ L h' m → Sub h₀ L h' (led bx dx vt ba' b' hv' th' (max ma 2) tm' false) rest → BFx bx dx ba' b' hv' 0 (upC 2 0 C) → Q (.int 4 tc) { s with heap := h', toks := tk' }) :
    gAny (model PR w) (ktrTop dp un (some []) cn cs L a ccd [] []) (call (.ref 756) [.ref bx, .int 7 t1, .int 2 t2, .int x t3, .none]) Q E s := by
  have n1 := FX.n1; have n2 := FX.n2; have n3 := FX.n3; have z1 := FX.z; have z2 := FX.r0; have z3 := FX.r1; have z4 := FX.h2
  refine g_call ?_
  walk_at "my enter t"
  k_steps
  rename Sub h₀ L _ _ rest => kS; rename Fr h₀ L _ m => kF
  rename BFx _ _ _ _ _ _ _ => fX
  exact hret _ _ _ _ _ _ _ _ kF kS fX
theorem deed_slot_bad1 (B : Below A₀ base [] h₀) (F : Fr h₀ L s.heap m) (X : (Mine.hd.heap_39 w.params).In h₀) (XB : (Mine.hd.heap_39 w.params).In base) (S : Sub h₀ L s.heap (led bx dx vt ba b hv th ma tm false) rest) (T : Top p loose mean mg mb h₀) (TB : Top p loose mean mg mb base) (hcs : cs.kind = .function)
    (hdp : dp + 30 < recursionLimit) (FX : BFx bx dx ba b hv 0 C) (hC : C.length ≤ 900) (hC8 : C.length ≤ 870) (h0 : 0 ≤ k) (h1 : k < 8) (o1 : x < lowOf k ∨ hiOf k < x) (o2 : -1000000000000000000000 ≤ x) (o3 : x ≤ 1000000000000000000000) 
    (hret : ∀ h' tk' ba' b' hv' th' tm' tc, Fr h₀ L h' m → Sub h₀ L h' (led bx dx vt ba' b' hv' th' (ma) tm' false) rest → BFx bx dx ba' b' hv' 0 C → Q (.int 4 tc) { s with heap := h', toks := tk' }) :
    gAny (model PR w) (ktrTop dp un (some []) cn cs L a ccd [] []) (call (.ref 756) [.ref bx, .int 8 t1, .int k t2, .int x t3, .int 0 t4]) Q E s := by
  obtain ⟨nm, pk, FL, PK, hnm⟩ := flag_of w h0 h1
  have hw4 := w_four h0 h1
  have n1 := FX.n1; have n2 := FX.n2; have n3 := FX.n3; have z1 := FX.z; have z2 := FX.r0; have z3 := FX.r1; have z4 := FX.h2
  refine g_call ?_
  walk_at "my enter t"
  k_steps
  rename Sub h₀ L _ _ rest => kS; rename Fr h₀ L _ m => kF
  rename BFx _ _ _ _ _ _ _ => fX
  exact hret _ _ _ _ _ _ _ _ kF kS fX
theorem deed_slot_bad2 (B : Below A₀ base [] h₀) (F : Fr h₀ L s.heap m) (X : (Mine.hd.heap_39 w.params).In h₀) (XB : (Mine.hd.heap_39 w.params).In base) (S : Sub h₀ L s.heap (led bx dx vt ba b hv th ma tm false) rest) (T : Top p loose mean mg mb h₀) (TB : Top p loose mean mg mb base) (hcs : cs.kind = .function)
    (hdp : dp + 30 < recursionLimit) (FX : BFx bx dx ba b hv 0 C) (hC : C.length ≤ 900) (hC8 : C.length ≤ 870) (h0 : 0 ≤ k) (h1 : k < 8) (i1 : lowOf k ≤ x) (i2 : x ≤ hiOf k) (o1 : d < lowOf k ∨ hiOf k < d) (o2 : -1000000000000000000000 ≤ d) (o3 : d ≤ 1000000000000000000000) 
    (hret : ∀ h' tk' ba' b' hv' th' tm' tc, Fr h₀ L h' m → Sub h₀ L h' (led bx dx vt ba' b' hv' th' (ma) tm' false) rest → BFx bx dx ba' b' hv' 0 C → Q (.int 4 tc) { s with heap := h', toks := tk' }) :
    gAny (model PR w) (ktrTop dp un (some []) cn cs L a ccd [] []) (call (.ref 756) [.ref bx, .int 8 t1, .int k t2, .int x t3, .int d t4]) Q E s := by
  obtain ⟨nm, pk, FL, PK, hnm⟩ := flag_of w h0 h1
  have hw4 := w_four h0 h1
  have n1 := FX.n1; have n2 := FX.n2; have n3 := FX.n3; have z1 := FX.z; have z2 := FX.r0; have z3 := FX.r1; have z4 := FX.h2
  refine g_call ?_
  walk_at "my enter t"
  k_steps
  rename Sub h₀ L _ _ rest => kS; rename Fr h₀ L _ m => kF
  rename BFx _ _ _ _ _ _ _ => fX
  exact hret _ _ _ _ _ _ _ _ kF kS fX
theorem deed_slot_same (B : Below A₀ base [] h₀) (F : Fr h₀ L s.heap m) (X : (Mine.hd.heap_39 w.params).In h₀) (XB : (Mine.hd.heap_39 w.params).In base) (S : Sub h₀ L s.heap (led bx dx vt ba b hv th ma tm false) rest) (T : Top p loose mean mg mb h₀) (TB : Top p loose mean mg mb base) (hcs : cs.kind = .function)
    (hdp : dp + 30 < recursionLimit) (FX : BFx bx dx ba b hv 0 C) (hC : C.length ≤ 900) (hC8 : C.length ≤ 870) (h0 : 0 ≤ k) (h1 : k < 8) (i1 : lowOf k ≤ x) (i2 : x ≤ hiOf k) 
    (hret : ∀ h' tk' ba' b' hv' th' tm' tc, Fr h₀ L h' m → Sub h₀ L h' (led bx dx vt ba' b' hv' th' (ma) tm' false) rest → BFx bx dx ba' b' hv' 0 C → Q (.int 0 tc) { s with heap := h', toks := tk' }) :
    gAny (model PR w) (ktrTop dp un (some []) cn cs L a ccd [] []) (call (.ref 756) [.ref bx, .int 8 t1, .int k t2, .int x t3, .int x t4]) Q E s := by
  obtain ⟨nm, pk, FL, PK, hnm⟩ := flag_of w h0 h1
  have hw4 := w_four h0 h1
  have n1 := FX.n1; have n2 := FX.n2; have n3 := FX.n3; have z1 := FX.z; have z2 := FX.r0; have z3 := FX.r1; have z4 := FX.h2
  refine g_call ?_
  walk_at "my enter t"
  k_steps
  rename Sub h₀ L _ _ rest => kS; rename Fr h₀ L _ m => kF
  rename BFx _ _ _ _ _ _ _ => fX
  exact hret _ _ _ _ _ _ _ _ kF kS fX
theorem deed_slot_nest (B : Below A₀ base [] h₀) (F : Fr h₀ L s.heap m) (X : (Mine.hd.heap_39 w.params).In h₀) (XB : (Mine.hd.heap_39 w.params).In base) (S : Sub h₀ L s.heap (led bx dx vt ba b hv th ma tm false) rest) (T : Top p loose mean mg mb h₀) (TB : Top p loose mean mg mb base) (hcs : cs.kind = .function)
    (hdp : dp + 30 < recursionLimit) (FX : BFx bx dx ba b hv 0 C) (hC : C.length ≤ 900) (hC8 : C.length ≤ 870) (h0 : 0 ≤ k) (h1 : k < 8) (i1 : lowOf k ≤ x) (i2 : x ≤ hiOf k) (j1 : lowOf k ≤ d) (j2 : d ≤ hiOf k) (j3 : x ≠ d) 
    (hret : ∀ h' tk' ba' b' hv' th' tm' tc, Fr h₀ L h' m → Sub h₀ L h' (led bx dx vt ba' b' hv' th' (max ma ((wOf k).toNat : Nat)) tm' false) rest → BFx bx dx ba' b' hv' 0 ((Builtin.Struct.intBytes false (wOf k).toNat x).toList ++ upC ((wOf k).toNat : Nat) 0 C) → Q (.int 2 tc) { s with heap := h', toks := tk' }) :
    gAny (model PR w) (ktrTop dp un (some []) cn cs L a ccd [] []) (call (.ref 756) [.ref bx, .int 8 t1, .int k t2, .int x t3, .int d t4]) Q E s := by
  obtain ⟨nm, pk, FL, PK, hnm⟩ := flag_of w h0 h1
  have hw4 := w_four h0 h1
  have n1 := FX.n1; have n2 := FX.n2; have n3 := FX.n3; have z1 := FX.z; have z2 := FX.r0; have z3 := FX.r1; have z4 := FX.h2
  refine g_call ?_
  walk_at "my enter t"
  k_steps
  rename Sub h₀ L _ _ rest => kS; rename Fr h₀ L _ m => kF
  rename BFx _ _ _ _ _ _ _ => fX
  exact hret _ _ _ _ _ _ _ _ kF kS fX
theorem deed_fin_id (B : Below A₀ base [] h₀) (F : Fr h₀ L s.heap m) (X : (Mine.hd.heap_39 w.params).In h₀) (XB : (Mine.hd.heap_39 w.params).In base) (S : Sub h₀ L s.heap (led bx dx vt ba b hv th ma tm false) rest) (T : Top p loose mean mg mb h₀) (TB : Top p loose mean mg mb base) (hcs : cs.kind = .function)
    (hdp : dp + 30 < recursionLimit) (FX : BFx bx dx ba b hv 0 C) (hC : C.length ≤ 900) (hC8 : C.length ≤ 870) (hm : ma = 1 ∨ ma = 2 ∨ ma = 4 ∨ ma = 8) (i1 : idb.size ≠ 4) 
    (hret : ∀ h' tk' ba' b' hv' th' tm' tc, Fr h₀ L h' m → Sub h₀ L h' (led bx dx vt ba' b' hv' th' (max (max ma ma) 4) tm' false) rest → BFx bx dx ba' b' hv' 0 (upC 4 4 (upC ma 8 C)) → Q (.int 3 tc) { s with heap := h', toks := tk' }) :
    gAny (model PR w) (ktrTop dp un (some []) cn cs L a ccd [] []) (call (.ref 756) [.ref bx, .int 9 t1, .int 0 t2, .int 0 t3, .bytes idb t4]) Q E s := by
  have n1 := FX.n1; have n2 := FX.n2; have n3 := FX.n3; have z1 := FX.z; have z2 := FX.r0; have z3 := FX.r1; have z4 := FX.h2
  refine g_call ?_
  walk_at "my enter t"
  k_steps
  rename Sub h₀ L _ _ rest => kS; rename Fr h₀ L _ m => kF
  rename BFx _ _ _ _ _ _ _ => fX
  exact hret _ _ _ _ _ _ _ _ kF kS fX
theorem deed_fin_type (B : Below A₀ base [] h₀) (F : Fr h₀ L s.heap m) (X : (Mine.hd.heap_39 w.params).In h₀) (XB : (Mine.hd.heap_39 w.params).In base) (S : Sub h₀ L s.heap (led bx dx vt ba b hv th ma tm false) rest) (T : Top p loose mean mg mb h₀) (TB : Top p loose mean mg mb base) (hcs : cs.kind = .function)
    (hdp : dp + 30 < recursionLimit) (FX : BFx bx dx ba b hv 0 C) (hC : C.length ≤ 900) (hC8 : C.length ≤ 870) (hm : ma = 1 ∨ ma = 2 ∨ ma = 4 ∨ ma = 8) (o1 : x < 0 ∨ 4294967295 < x) (o2 : -1000000000000000000000 ≤ x) (o3 : x ≤ 1000000000000000000000) 
    (hret : ∀ h' tk' ba' b' hv' th' tm' tc, Fr h₀ L h' m → Sub h₀ L h' (led bx dx vt ba' b' hv' th' (ma) tm' false) rest → BFx bx dx ba' b' hv' 0 C → Q (.int 4 tc) { s with heap := h', toks := tk' }) :
    gAny (model PR w) (ktrTop dp un (some []) cn cs L a ccd [] []) (call (.ref 756) [.ref bx, .int 9 t1, .int 0 t2, .int x t3, .none]) Q E s := by
  have n1 := FX.n1; have n2 := FX.n2; have n3 := FX.n3; have z1 := FX.z; have z2 := FX.r0; have z3 := FX.r1; have z4 := FX.h2
  refine g_call ?_
  walk_at "my enter t"
  k_steps
  rename Sub h₀ L _ _ rest => kS; rename Fr h₀ L _ m => kF
  rename BFx _ _ _ _ _ _ _ => fX
  exact hret _ _ _ _ _ _ _ _ kF kS fX
theorem deed_fin_ahead (B : Below A₀ base [] h₀) (F : Fr h₀ L s.heap m) (X : (Mine.hd.heap_39 w.params).In h₀) (XB : (Mine.hd.heap_39 w.params).In base) (S : Sub h₀ L s.heap (led bx dx vt ba b hv th ma tm false) rest) (T : Top p loose mean mg mb h₀) (TB : Top p loose mean mg mb base) (hcs : cs.kind = .function)
    (hdp : dp + 30 < recursionLimit) (FX : BFx bx dx ba b hv 0 C) (hC : C.length ≤ 900) (hC8 : C.length ≤ 870) (hm : ma = 1 ∨ ma = 2 ∨ ma = 4 ∨ ma = 8) (i1 : ((upC 4 0 (upC ma 4 C)).length : Int) < x) (i2 : x ≤ 4294967295) 
    (hret : ∀ h' tk' ba' b' hv' th' tm' tc, Fr h₀ L h' m → Sub h₀ L h' (led bx dx vt ba' b' hv' th' (max (max ma ma) 4) tm' false) rest → BFx bx dx ba' b' hv' 0 (upC 4 0 (upC ma 4 C)) → Q (.int 1 tc) { s with heap := h', toks := tk' }) :
    gAny (model PR w) (ktrTop dp un (some []) cn cs L a ccd [] []) (call (.ref 756) [.ref bx, .int 9 t1, .int 0 t2, .int x t3, .none]) Q E s := by
  have n1 := FX.n1; have n2 := FX.n2; have n3 := FX.n3; have z1 := FX.z; have z2 := FX.r0; have z3 := FX.r1; have z4 := FX.h2
  refine g_call ?_
  walk_at "my enter t"
  k_steps
  rename Sub h₀ L _ _ rest => kS; rename Fr h₀ L _ m => kF
  rename BFx _ _ _ _ _ _ _ => fX
  exact hret _ _ _ _ _ _ _ _ kF kS fX
end
end
-- part D13
section
variable {w : World} {dp un : Nat} {cn : Str} {cs : Scope} {a : Addr} {ccd : Value} {A₀ : Around} {base h₀ : Heap} {L : Addr} {m : Str → Option Value} {mean : ExcName → Option Value} {mg mb : Str → Option Value} {p : Program} {loose : List Str} {s : Shared} {Q E : Value → Shared → Prop}
  {bx dx vt ba : Addr} {b : Array UInt8} {hv : Int} {th : Tok} {big : Int} {tm : Tok} {rest : List (Addr × Obj)} {d k x c b2 : Int} {ev : Value} {t1 t2 t3 : Tok} {P P2 : List Int}
theorem sub_ma {h : Heap} {ma ma' : Int} {fin : Bool} (e : ma = ma') (S : Sub h₀ L h (led bx dx vt ba b hv th ma tm fin) rest) : Sub h₀ L h (led bx dx vt ba b hv th ma' tm fin) rest := e ▸ S
theorem c_deed (B : Below A₀ base [] h₀) (F : Fr h₀ L s.heap m) (X : (Mine.hd.heap_39 w.params).In h₀) (XB : (Mine.hd.heap_39 w.params).In base) (S : Sub h₀ L s.heap (led bx dx vt ba b hv th big tm false) rest) (T : Top p loose mean mg mb h₀) (TB : Top p loose mean mg mb base) (hcs : cs.kind = .function)
    (hdp : dp + 30 < recursionLimit) (FX : BFx bx dx ba b hv 0 (octs P)) (hP : P.length ≤ 860) (hm : big = 1 ∨ big = 2 ∨ big = 4 ∨ big = 8) (D : Due P big d k x ev c b2 P2)
    (hret : ∀ h' tk' ba' b' hv' th' tm' tc, Fr h₀ L h' m → Sub h₀ L h' (led bx dx vt ba' b' hv' th' b2 tm' false) rest → BFx bx dx ba' b' hv' 0 (octs P2) → Q (.int c tc) { s with heap := h', toks := tk' }) :
    gAny (model PR w) (ktrTop dp un (some []) cn cs L a ccd [] []) (call (.ref 756) [.ref bx, .int d t1, .int k t2, .int x t3, ev]) Q E s := by
  have hC : (octs P).length ≤ 860 := by rw [octs_length]; exact hP
  have c1 : (octs P).length ≤ 900 := by omega
  have c2 : (octs P).length ≤ 870 := by omega
  have u4 : (upC 4 0 (octs P)).length = (upP P 4 0).length := by rw [← octs_up, octs_length]
  have u5 : (upC 4 0 (upC big 4 (octs P))).length = (upP (upP P big 4) 4 0).length := by rw [← octs_up, ← octs_up, octs_length]
  have em : max (max big big) 4 = max big 4 := by omega
  cases D with
  | prep_ok h0 h1 h2 h3 e =>
    have hn : ((wOf k).toNat : Int) = wOf k := by have := w_four h0 h1; omega
    exact deed_prep_ok B F X XB S T TB hcs hdp FX c1 c2 h0 h1 h2 h3 fun _ _ _ _ _ _ _ _ F' S' FX' => hret _ _ _ _ _ _ _ _ F' (sub_ma (by rw [e, hn]) S') (bfx_eq (octs_lay P x hn) FX')
  | prep_bad h0 h1 h2 h3 h4 e =>
    have hn : ((wOf k).toNat : Int) = wOf k := by have := w_four h0 h1; omega
    exact deed_prep_bad B F X XB S T TB hcs hdp FX c1 c2 h0 h1 h2 h3 h4 fun _ _ _ _ _ _ _ _ F' S' FX' => hret _ _ _ _ _ _ _ _ F' (sub_ma (by rw [e, hn]) S') (bfx_eq (by rw [octs_up, hn]) FX')
  | place_bad h0 h1 h2 h3 h4 e => exact deed_place_bad B F X XB S T TB hcs hdp FX c1 c2 h0 h1 h2 h3 h4 fun _ _ _ _ _ _ _ _ F' S' FX' => hret _ _ _ _ _ _ _ _ F' (sub_ma e.symm S') FX'
  | placeV_bad h2 h3 h4 e => exact deed_placeV_bad B F X XB S T TB hcs hdp FX c1 c2 h2 h3 h4 fun _ _ _ _ _ _ _ _ F' S' FX' => hret _ _ _ _ _ _ _ _ F' (sub_ma e.symm S') FX'
  | placeS_bad h2 h3 h4 e => exact deed_placeS_bad B F X XB S T TB hcs hdp FX c1 c2 h2 h3 h4 fun _ _ _ _ _ _ _ _ F' S' FX' => hret _ _ _ _ _ _ _ _ F' (sub_ma e.symm S') FX'
  | placeU_bad h2 h3 h4 e => exact deed_placeU_bad B F X XB S T TB hcs hdp FX c1 c2 h2 h3 h4 fun _ _ _ _ _ _ _ _ F' S' FX' => hret _ _ _ _ _ _ _ _ F' (sub_ma e.symm S') FX'
  | relU_ok h0 h1 e => exact deed_relU_ok B F X XB S T TB hcs hdp FX c1 c2 h0 (by rw [u4]; exact h1) fun _ _ _ _ _ _ _ _ F' S' FX' => hret _ _ _ _ _ _ _ _ F' (sub_ma e.symm S') (bfx_eq (octs_rel P x) FX')
  | relU_bad h0 e => exact deed_relU_bad B F X XB S T TB hcs hdp FX c1 c2 (by rw [u4]; exact h0) fun _ _ _ _ _ _ _ _ F' S' FX' => hret _ _ _ _ _ _ _ _ F' (sub_ma e.symm S') (bfx_eq (octs_up P 4 0).symm FX')
  | relS_ok h0 h1 e => exact deed_relS_ok B F X XB S T TB hcs hdp FX c1 c2 h0 (by rw [u4]; exact h1) fun _ _ _ _ _ _ _ _ F' S' FX' => hret _ _ _ _ _ _ _ _ F' (sub_ma e.symm S') (bfx_eq (octs_rel P x) FX')
  | relS_bad h0 e => exact deed_relS_bad B F X XB S T TB hcs hdp FX c1 c2 (by rw [u4]; exact h0) fun _ _ _ _ _ _ _ _ F' S' FX' => hret _ _ _ _ _ _ _ _ F' (sub_ma e.symm S') (bfx_eq (octs_up P 4 0).symm FX')
  | v_ok h0 h1 e => exact deed_v_ok B F X XB S T TB hcs hdp FX c1 c2 h0 h1 fun _ _ _ _ _ _ _ _ F' S' FX' => hret _ _ _ _ _ _ _ _ F' (sub_ma e.symm S') (bfx_eq (octs_lay (wd := 2) P x (by decide)) FX')
  | v_bad h2 h3 h4 e => exact deed_v_bad B F X XB S T TB hcs hdp FX c1 c2 h2 h3 h4 fun _ _ _ _ _ _ _ _ F' S' FX' => hret _ _ _ _ _ _ _ _ F' (sub_ma e.symm S') (bfx_eq (octs_up P 2 0).symm FX')
  | slot_bad1 h0 h1 h2 h3 h4 e => exact deed_slot_bad1 B F X XB S T TB hcs hdp FX c1 c2 h0 h1 h2 h3 h4 fun _ _ _ _ _ _ _ _ F' S' FX' => hret _ _ _ _ _ _ _ _ F' (sub_ma e.symm S') FX'
  | slot_bad2 h0 h1 h2 h3 h4 h5 h6 e => exact deed_slot_bad2 B F X XB S T TB hcs hdp FX c1 c2 h0 h1 h2 h3 h4 h5 h6 fun _ _ _ _ _ _ _ _ F' S' FX' => hret _ _ _ _ _ _ _ _ F' (sub_ma e.symm S') FX'
  | slot_same h0 h1 h2 h3 e => exact deed_slot_same B F X XB S T TB hcs hdp FX c1 c2 h0 h1 h2 h3 fun _ _ _ _ _ _ _ _ F' S' FX' => hret _ _ _ _ _ _ _ _ F' (sub_ma e.symm S') FX'
  | slot_nest h0 h1 h2 h3 h4 h5 h6 e =>
    have hn : ((wOf k).toNat : Int) = wOf k := by have := w_four h0 h1; omega
    exact deed_slot_nest B F X XB S T TB hcs hdp FX c1 c2 h0 h1 h2 h3 h4 h5 h6 fun _ _ _ _ _ _ _ _ F' S' FX' => hret _ _ _ _ _ _ _ _ F' (sub_ma (by rw [e, hn]) S') (bfx_eq (octs_lay P x hn) FX')
  | fin_id h0 e => exact deed_fin_id B F X XB S T TB hcs hdp FX c1 c2 hm h0 fun _ _ _ _ _ _ _ _ F' S' FX' => hret _ _ _ _ _ _ _ _ F' (sub_ma (by rw [e, em]) S') (bfx_eq (by rw [octs_up, octs_up]) FX')
  | fin_type h2 h3 h4 e => exact deed_fin_type B F X XB S T TB hcs hdp FX c1 c2 hm h2 h3 h4 fun _ _ _ _ _ _ _ _ F' S' FX' => hret _ _ _ _ _ _ _ _ F' (sub_ma e.symm S') FX'
  | fin_ahead h0 h1 e => exact deed_fin_ahead B F X XB S T TB hcs hdp FX c1 c2 hm (by rw [u5]; exact h0) h1 fun _ _ _ _ _ _ _ _ F' S' FX' => hret _ _ _ _ _ _ _ _ F' (sub_ma (by rw [e, em]) S') (bfx_eq (by rw [octs_up, octs_up]) FX')
end
-- part N1
/-- the pile lies apart from the builder -/
structure Dis3 (bx dx ba pl : Addr) : Prop where
  a : @Ne Nat bx pl
  b : @Ne Nat dx pl
  c : @Ne Nat ba pl
structure Dis (bx dx ba pl sl it : Addr) : Prop where
  p : Dis3 bx dx ba pl
  s : Dis3 bx dx ba sl
  i : Dis3 bx dx ba it
  ps : @Ne Nat pl sl
  pi : @Ne Nat pl it
  si : @Ne Nat sl it
section
variable {h₀ h : Heap} {L : Addr} {all rest : List (Addr × Obj)} {bx dx vt ba pl sl it : Addr} {b : Array UInt8} {hv : Int} {th : Tok} {ma : Int} {tm : Tok} {fin : Bool} {op os oi : Obj}
theorem dis3_led (D : Dis3 bx dx ba pl) : ∀ q ∈ led bx dx vt ba b hv th ma tm fin, pl ≠ q.1 := fun q hq e => by
  have t3 : @Eq Nat pl q.1 := e
  have := D.a; have := D.b; have := D.c
  simp only [List.mem_cons, List.not_mem_nil, or_false] at hq
  rcases hq with hq | hq | hq <;> rw [hq] at t3 <;> dsimp only at t3 <;> omega
theorem dis3_of (h : ∀ q ∈ led bx dx vt ba b hv th ma tm fin, pl ≠ q.1) : Dis3 bx dx ba pl :=
  ⟨fun e => h _ (.head _) e.symm, fun e => h _ (.tail _ (.head _)) e.symm, fun e => h _ (.tail _ (.tail _ (.head _))) e.symm⟩
theorem law_split (N : News h₀ L h all) (D : Dis bx dx ba pl sl it) (m1 : (bx, bObj dx vt ba hv th ma tm fin) ∈ all) (m2 : (dx, dictOf [] 0) ∈ all) (m3 : (ba, baObj b) ∈ all) (m4 : (pl, op) ∈ all) (m5 : (sl, os) ∈ all) (m6 : (it, oi) ∈ all) :
    Sub h₀ L h (led bx dx vt ba b hv th ma tm fin) [(pl, op), (sl, os), (it, oi)] :=
  Sub.of N (by intro p hp; simp only [List.mem_cons, List.not_mem_nil, or_false] at hp; rcases hp with h | h | h <;> rw [h] <;> assumption)
    (by intro p hp; simp only [List.mem_cons, List.not_mem_nil, or_false] at hp; rcases hp with h | h | h <;> rw [h] <;> assumption)
    (by intro p hp q hq; simp only [List.mem_cons, List.not_mem_nil, or_false] at hp; rcases hp with h | h | h <;> rw [h] <;> first | exact dis3_led D.p q hq | exact dis3_led D.s q hq | exact dis3_led D.i q hq)
theorem pile_split (N : News h₀ L h all) (D : Dis bx dx ba pl sl it) (m1 : (bx, bObj dx vt ba hv th ma tm fin) ∈ all) (m2 : (dx, dictOf [] 0) ∈ all) (m3 : (ba, baObj b) ∈ all) (m4 : (pl, op) ∈ all) (m5 : (sl, os) ∈ all) (m6 : (it, oi) ∈ all) :
    Sub h₀ L h [(pl, op)] [(bx, bObj dx vt ba hv th ma tm fin), (dx, dictOf [] 0), (ba, baObj b), (sl, os), (it, oi)] :=
  Sub.of N (by intro p hp; simp only [List.mem_cons, List.not_mem_nil, or_false] at hp; rw [hp]; exact m4)
    (by intro p hp; simp only [List.mem_cons, List.not_mem_nil, or_false] at hp; rcases hp with h | h | h | h | h <;> rw [h] <;> assumption)
    (by
      intro p hp q hq e
      have t3 : @Eq Nat p.1 q.1 := e
      have := D.p.a; have := D.p.b; have := D.p.c; have := D.ps; have := D.pi
      simp only [List.mem_cons, List.not_mem_nil, or_false] at hp hq
      rw [hq] at t3
      rcases hp with h | h | h | h | h <;> rw [h] at t3 <;> dsimp only at t3 <;> omega)
theorem law_split2 (N : News h₀ L h all) (D : Dis3 bx dx ba pl) (m1 : (bx, bObj dx vt ba hv th ma tm fin) ∈ all) (m2 : (dx, dictOf [] 0) ∈ all) (m3 : (ba, baObj b) ∈ all) (m4 : (pl, op) ∈ all) :
    Sub h₀ L h (led bx dx vt ba b hv th ma tm fin) [(pl, op)] :=
  Sub.of N (by intro p hp; simp only [List.mem_cons, List.not_mem_nil, or_false] at hp; rcases hp with h | h | h <;> rw [h] <;> assumption)
    (by intro p hp; simp only [List.mem_cons, List.not_mem_nil, or_false] at hp; rw [hp]; exact m4)
    (by intro p hp q hq; simp only [List.mem_cons, List.not_mem_nil, or_false] at hp; rw [hp]; exact dis3_led D q hq)
theorem pile_split2 (N : News h₀ L h all) (D : Dis3 bx dx ba pl) (m1 : (bx, bObj dx vt ba hv th ma tm fin) ∈ all) (m2 : (dx, dictOf [] 0) ∈ all) (m3 : (ba, baObj b) ∈ all) (m4 : (pl, op) ∈ all) :
    Sub h₀ L h [(pl, op)] (led bx dx vt ba b hv th ma tm fin) :=
  Sub.of N (by intro p hp; simp only [List.mem_cons, List.not_mem_nil, or_false] at hp; rw [hp]; exact m4)
    (by intro p hp; simp only [List.mem_cons, List.not_mem_nil, or_false] at hp; rcases hp with h | h | h <;> rw [h] <;> assumption)
    (by intro p hp q hq; simp only [List.mem_cons, List.not_mem_nil, or_false] at hq; rw [hq]; exact Ne.symm (dis3_led D p hp))
theorem dis_next {ba' : Addr} {b' : Array UInt8} {hv' : Int} {th' : Tok} {ma' : Int} {tm' : Tok} {fin' : Bool} (S : Sub h₀ L h (led bx dx vt ba' b' hv' th' ma' tm' fin') [(pl, op), (sl, os), (it, oi)]) (D : Dis bx dx ba pl sl it) : Dis bx dx ba' pl sl it :=
  ⟨dis3_of (S.D (pl, op) (.head _)), dis3_of (S.D (sl, os) (.tail _ (.head _))), dis3_of (S.D (it, oi) (.tail _ (.tail _ (.head _)))), D.ps, D.pi, D.si⟩
end
section
variable {w : World} {dp un : Nat} {cn : Str} {cs : Scope} {a : Addr} {ccd : Value} {A₀ : Around} {base h₀ : Heap} {L : Addr} {m : Str → Option Value} {mean : ExcName → Option Value} {mg mb : Str → Option Value} {p : Program} {loose : List Str} {s : Shared} {Q E : Value → Shared → Prop}
  {bx dx vt ba pl sl it : Addr} {b : Array UInt8} {hv : Int} {th : Tok} {big : Int} {tm : Tok} {all : List (Addr × Obj)} {d k x c b2 : Int} {ev : Value} {t1 t2 t3 : Tok} {P P2 : List Int} {op os oi : Obj} {its : Array Value} {nn : Nat}
theorem c_deed_N (B : Below A₀ base [] h₀) (F : Fr h₀ L s.heap m) (X : (Mine.hd.heap_39 w.params).In h₀) (XB : (Mine.hd.heap_39 w.params).In base) (N : News h₀ L s.heap all) (T : Top p loose mean mg mb h₀) (TB : Top p loose mean mg mb base) (hcs : cs.kind = .function)
    (hdp : dp + 30 < recursionLimit) (D : Dis bx dx ba pl sl it) (m1 : (bx, bObj dx vt ba hv th big tm false) ∈ all) (m2 : (dx, dictOf [] 0) ∈ all) (m3 : (ba, baObj b) ∈ all) (m4 : (pl, op) ∈ all) (m5 : (sl, os) ∈ all) (m6 : (it, oi) ∈ all)
    (FX : BFx bx dx ba b hv 0 (octs P)) (hP : P.length ≤ 860) (hm : big = 1 ∨ big = 2 ∨ big = 4 ∨ big = 8) (DU : Due P big d k x ev c b2 P2)
    (hret : ∀ h' tk' ba' b' hv' th' tm' tc, Fr h₀ L h' m → News h₀ L h' [(bx, bObj dx vt ba' hv' th' b2 tm' false), (dx, dictOf [] 0), (ba', baObj b'), (pl, op), (sl, os), (it, oi)] → Dis bx dx ba' pl sl it → BFx bx dx ba' b' hv' 0 (octs P2) → Q (.int c tc) { s with heap := h', toks := tk' }) :
    gAny (model PR w) (ktrTop dp un (some []) cn cs L a ccd [] []) (call (.ref 756) [.ref bx, .int d t1, .int k t2, .int x t3, ev]) Q E s :=
  c_deed B F X XB (law_split N D m1 m2 m3 m4 m5 m6) T TB hcs hdp FX hP hm DU fun _ _ _ _ _ _ _ _ F' S' FX' => hret _ _ _ _ _ _ _ _ F' S'.news (dis_next S' D) FX'
theorem c_due_N {n : Int} {tx tw : Tok} (B : Below A₀ base [] h₀) (F : Fr h₀ L s.heap m) (X : (Mine.hd.heap_39 w.params).In h₀) (N : News h₀ L s.heap all) (T : Top p loose mean mg mb h₀) (hcs : cs.kind = .function)
    (hdp : dp + 16 < recursionLimit) (D : Dis bx dx ba pl sl it) (m1 : (bx, bObj dx vt ba hv th big tm false) ∈ all) (m2 : (dx, dictOf [] 0) ∈ all) (m3 : (ba, baObj b) ∈ all) (m4 : (pl, W.listOf its nn) ∈ all) (m5 : (sl, os) ∈ all) (m6 : (it, oi) ∈ all)
    (hi : IntsAre its.toList P) (hw : big = 1 ∨ big = 2 ∨ big = 4 ∨ big = 8) (hP : P.length ≤ 900)
    (hret : ∀ h' tk' its' nn' tp d k x ev c b2 P2 t1 t2 t3 t4 t5, Due P big d k x ev c b2 P2 → Fr h₀ L h' m → News h₀ L h' [(tp, dueT d k x ev c b2 t1 t2 t3 t4 t5), (pl, W.listOf its' nn'), (bx, bObj dx vt ba hv th big tm false), (dx, dictOf [] 0), (ba, baObj b), (sl, os), (it, oi)] → IntsAre its'.toList P2 → Q (.ref tp) { s with heap := h', toks := tk' }) :
    wpAny (model PR w) (ktrTop dp un (some []) cn cs L a ccd [] []) (call (.ref 749) [.ref pl, .int big tx, .int n tw]) Q E s :=
  c_due B F X (pile_split N D m1 m2 m3 m4 m5 m6) T hcs hdp hi hw hP fun _ _ _ _ _ _ _ _ _ _ _ _ _ _ _ _ _ DU F' S' hi' => hret _ _ _ _ _ _ _ _ _ _ _ _ _ _ _ _ _ DU F' S'.news hi'
end
-- part N2
theorem fr_pin3 {h₀ : Heap} {L : Addr} {h : Heap} {m : Str → Option Value} {x1 x2 x3 : Str} {v1 v2 v3 : Value} (F : Fr h₀ L h m) (e1 : m x1 = some v1) (e2 : m x2 = some v2) (e3 : m x3 = some v3) : Fr h₀ L h (fun y => if y = x1 then some v1 else if y = x2 then some v2 else if y = x3 then some v3 else m y) := by
  have : (fun y => if y = x1 then some v1 else if y = x2 then some v2 else if y = x3 then some v3 else m y) = m := by
    funext y
    by_cases h1 : y = x1
    · rw [if_pos h1, h1, e1]
    rw [if_neg h1]
    by_cases h2 : y = x2
    · rw [if_pos h2, h2, e2]
    rw [if_neg h2]
    by_cases h3 : y = x3
    · rw [if_pos h3, h3, e3]
    rw [if_neg h3]
  rw [this]; exact F
theorem ints_at : ∀ {vs : List Value} {ns : List Int}, IntsAre vs ns → ∀ i, i < ns.length → ∃ k t, vs[i]? = some (.int k t)
  | _, _, .nil, i, h => absurd h (Nat.not_lt_zero _)
  | _, _, .cons k t _, 0, _ => ⟨k, t, rfl⟩
  | _, _, .cons k t r, i + 1, h => by
    obtain ⟨k', t', e⟩ := ints_at r i (Nat.lt_of_succ_lt_succ h)
    exact ⟨k', t', by simpa using e⟩
/-- what holds of the builder and the pile between two turns -/
structure Mid (g : Heap) (L bx dx vt pl : Addr) (h' : Heap) (MM : Str → Option Value) (rest : List (Addr × Obj)) (b : Array UInt8) (hv : Int) (th : Tok) (ma : Int) (tm : Tok) (ba : Addr) (P : List Int) (its : Array Value) (nn : Nat) (tb : Tok) (n : Nat) : Prop where
  F : Fr g L h' MM
  e1 : MM "b" = some (.ref bx)
  e2 : MM "pile" = some (.ref pl)
  e3 : MM "big" = some (.int ma tb)
  N : News g L h' (rest ++ [(bx, bObj dx vt ba hv th ma tm false), (dx, dictOf [] 0), (ba, baObj b), (pl, W.listOf its nn)])
  hi : IntsAre its.toList P
  hs : Small P
  FX : BFx bx dx ba b hv 0 (octs P)
  hP : P.length ≤ 30 * n
  hm : ma = 1 ∨ ma = 2 ∨ ma = 4 ∨ ma = 8
def TurnInv (g : Heap) (L bx dx vt pl sl it : Addr) (vs : List Value) (len : Nat) (s : Shared) (n : Nat) (s' : Shared) : Prop :=
  ∃ i h' tk' b hv th ma tm ba P its nn o MM tb, s' = { s with heap := h', toks := tk' } ∧ i ≤ len ∧ n = len - i ∧ Mid g L bx dx vt pl h' MM [(it, o), (sl, W.listOf vs.toArray 0)] b hv th ma tm ba P its nn tb i ∧ LitAt o sl i ∧ Dis bx dx ba pl sl it
def TurnNext (g : Heap) (L bx dx vt pl sl it : Addr) (vs : List Value) (len : Nat) (s : Shared) (n : Nat) (s' : Shared) : Prop := ∃ k, k < n ∧ TurnInv g L bx dx vt pl sl it vs len s k s'
theorem law_loop {w : World} {A : Around} {E : Value → Shared → Prop} {s₁ : Shared} {env : Env} {body : List Stmt} {px : Pos} {g : Heap} {L bx dx vt ba pl sl : Addr} {n : Int} {th tm tb : Tok} {vs : List Value} {ns : List Int} {MM : Str → Option Value} {x : Str} {Q : Flow → Shared → Prop}
    (hh : A.handled = none) (F : Fr g L s₁.heap MM) (N : News g L s₁.heap [(sl, W.listOf vs.toArray 0), (pl, W.listOf #[] 0), (bx, bObj dx vt ba n th 1 tm false), (dx, dictOf [] 0), (ba, baObj (Array.replicate n.toNat 0))])
    (e1 : MM "b" = some (.ref bx)) (e2 : MM "pile" = some (.ref pl)) (e3 : MM "big" = some (.int 1 tb)) (hI : IntsAre vs ns) (hn : ns.length ≤ 24) (h0 : 0 ≤ n) (h30 : n < 30)
    (n1 : @Ne Nat bx dx) (n2 : @Ne Nat bx ba) (n3 : @Ne Nat dx ba) (l1 : bx < pl ∧ dx < pl ∧ ba < pl) (l2 : pl < sl ∧ bx < sl ∧ dx < sl ∧ ba < sl)
    (turn : ∀ it i num tnum h' tk' b hv th ma tm ba P its nn o (MM : Str → Option Value) tb, i < ns.length → P.length ≤ 30 * i → Fr g L h' (fun y => if y = "b" then some (.ref bx) else if y = "pile" then some (.ref pl) else if y = "big" then some (.int ma tb) else MM y) →
      News g L h' [(it, o), (sl, W.listOf vs.toArray 0), (bx, bObj dx vt ba hv th ma tm false), (dx, dictOf [] 0), (ba, baObj b), (pl, W.listOf its nn)] → IntsAre its.toList P → Small P → BFx bx dx ba b hv 0 (octs P) → (ma = 1 ∨ ma = 2 ∨ ma = 4 ∨ ma = 8) → LitAt o sl (i + 1) → Dis bx dx ba pl sl it →
      wpAny (model PR w) A (bindName env x (.int num tnum)) (fun _ s₂ => gAny (model PR w) A (execs body env) (fun f s₃ => match f with | .next => TurnNext g L bx dx vt pl sl it vs ns.length s₁ (ns.length - i) s₃ | _ => False) (fun _ _ => False) s₂) (fun _ _ => False) { s₁ with heap := h', toks := tk' })
    (done : ∀ h' tk' b hv th ma tm ba P its nn (MM : Str → Option Value) tb, P.length ≤ 720 → Fr g L h' (fun y => if y = "b" then some (.ref bx) else if y = "pile" then some (.ref pl) else if y = "big" then some (.int ma tb) else MM y) →
      News g L h' [(sl, W.listOf vs.toArray 0), (bx, bObj dx vt ba hv th ma tm false), (dx, dictOf [] 0), (ba, baObj b), (pl, W.listOf its nn)] → IntsAre its.toList P → Small P → BFx bx dx ba b hv 0 (octs P) → (ma = 1 ∨ ma = 2 ∨ ma = 4 ∨ ma = 8) → Dis3 bx dx ba pl → Q .next { s₁ with heap := h', toks := tk' }) :
    wpAny (model PR w) A (pyIter (.ref sl)) (fun it s₂ => gCode (model PR w) A (.forLoop (.Name x px) it body [] env) (fun r s' => match r with | .ok f => Q f s' | .error _ => False) s₂) E s₁ := by
  refine lit_make F N (.head _) fun it o h' ho F' N' li => ?_
  have D0 : Dis bx dx ba pl sl it := by
    have a1 : @LT.lt Nat _ sl it := li _ (.head _)
    have a2 : @LT.lt Nat _ pl it := li _ (.tail _ (.head _))
    have a3 : @LT.lt Nat _ bx it := li _ (.tail _ (.tail _ (.head _)))
    have a4 : @LT.lt Nat _ dx it := li _ (.tail _ (.tail _ (.tail _ (.head _))))
    have a5 : @LT.lt Nat _ ba it := li _ (.tail _ (.tail _ (.tail _ (.tail _ (.head _)))))
    obtain ⟨b1, b2, b3⟩ := l1
    obtain ⟨c1, c2, c3, c4⟩ := l2
    have b1 : @LT.lt Nat _ bx pl := b1
    have b2 : @LT.lt Nat _ dx pl := b2
    have b3 : @LT.lt Nat _ ba pl := b3
    have c1 : @LT.lt Nat _ pl sl := c1
    have c2 : @LT.lt Nat _ bx sl := c2
    have c3 : @LT.lt Nat _ dx sl := c3
    have c4 : @LT.lt Nat _ ba sl := c4
    exact ⟨⟨by omega, by omega, by omega⟩, ⟨by omega, by omega, by omega⟩, ⟨by omega, by omega, by omega⟩, by omega, by omega, by omega⟩
  refine g_ForLoop (TurnInv g L bx dx vt pl sl it vs ns.length s₁) (fun k s hI' => ?_) (ns.length - 0) ⟨0, h', s₁.toks, Array.replicate n.toNat 0, n, th, 1, tm, ba, [], #[], 0, o, MM, tb, rfl, Nat.zero_le _, rfl, ⟨F', e1, e2, e3, fun p hp => N' p ?_, .nil, small_nil, ⟨n1, n2, n3, ?_, Int.le_refl 0, h0, ?_, ?_⟩, Nat.zero_le _, .inl rfl⟩, ho, D0⟩
  · obtain ⟨i, h', tk', b, hv, th, ma, tm, ba, P, its, nn, o, MM, tb, rfl, hi, rfl, M, ho, D⟩ := hI'
    have hvl : vs.length = ns.length := hI.length
    have hne : ∀ p ∈ [(sl, W.listOf vs.toArray 0), (bx, bObj dx vt ba hv th ma tm false), (dx, dictOf [] 0), (ba, baObj b), (pl, W.listOf its nn)], p.1 ≠ it := by
      intro p hp
      simp only [List.mem_cons, List.not_mem_nil, or_false] at hp
      rcases hp with h | h | h | h | h <;> rw [h] <;> first | exact D.si | exact D.i.a | exact D.i.b | exact D.i.c | exact D.pi
    by_cases hlt : i < ns.length
    · obtain ⟨num, tnum, hx⟩ := ints_at hI i hlt
      refine lit_next M.F M.N ho (.head _) hne (x := .int num tnum) (by rw [List.getElem?_toArray]; exact hx) fun h2 o2 ho2 F2 N2 => ?_
      exact turn it i num tnum h2 tk' b _ th ma tm ba P its nn o2 MM tb hlt M.hP (fr_pin3 F2 M.e1 M.e2 M.e3) N2 M.hi M.hs M.FX M.hm ho2 D
    · have hi' : i = ns.length := by omega
      refine lit_end hh M.F M.N ho (.head _) hne (by rw [List.getElem?_toArray]; exact List.getElem?_eq_none (by omega)) fun h2 F2 N2 => ?_
      exact done h2 tk' b _ th ma tm ba P its nn MM tb (by have := M.hP; omega) (fr_pin3 F2 M.e1 M.e2 M.e3) N2 M.hi M.hs M.FX M.hm D.p
  · simp only [List.mem_append, List.mem_cons, List.not_mem_nil, or_false] at hp ⊢
    rcases hp with (h | h) | h | h | h | h <;> simp [h]
  · rw [Array.size_replicate]; omega
  · rw [Array.size_replicate]; omega
  · unfold cont octs
    simp
-- part N3
theorem octs_arr (P : List Int) : ((P.reverse.map fun n => n.toNat.toUInt8).toArray) = (octs P).toArray := rfl
theorem bytes_same {bx dx ba : Addr} {b : Array UInt8} {hv room : Int} {P : List Int} (FX : BFx bx dx ba b hv room (octs P)) : (b.extract hv.toNat b.size).toList = (octs P).toArray.toList := by
  rw [cont_extract, FX.c]
section
variable {prog : Program} {w : World} {A : Around} {E : Value → Shared → Prop} {s : Shared} {h₀ : Heap} {L l : Addr} {m : Str → Option Value} {news : List (Addr × Obj)} {P : List Int} {vs : List Value} {nn : Nat} {b c : Array UInt8} {t u : Tok}
theorem bytes_pile {Q : Value → Shared → Prop} (F : Fr h₀ L s.heap m) (N : News h₀ L s.heap news) (hm : (l, W.listOf vs.toArray nn) ∈ news) (hi : IntsAre vs P.reverse) (hs : Small P) (hl : P.length ≤ 16777216) (hh : A.handled = none)
    (h : ∀ h' t k, Fr h₀ L h' m → News h₀ L h' news → Q (.bytes (octs P).toArray t) { s with heap := h', toks := k }) : wpAny (model prog w) A (call (.type "bytes") [.ref l]) Q E s :=
  bytes_K F N (N.isList hm) hi (fun n hn => hs n (List.mem_reverse.mp hn)) (by rw [sizeLine_eq]; have := hi.length; rw [List.length_reverse] at this; omega) hh fun h' t k F' N' _ => h h' t k F' N'
theorem ne_same {Q : Value → Shared → Prop} (e : b.toList = c.toList) (h : Q (.bool false) s) : wpAny (model prog w) A (compareOp .NotEq (.bytes b t) (.bytes c u)) Q E s := by
  refine ne_bytes ?_
  have : (b.toList != c.toList) = false := by rw [e]; exact bne_self_eq_false _
  rw [this]; exact h
theorem eq_same {Q : Value → Shared → Prop} (e : b.toList = c.toList) (h : Q (.bool true) s) : wpAny (model prog w) A (compareOp .Eq (.bytes b t) (.bytes c u)) Q E s := by
  refine eq_bytes ?_
  have : (b.toList == c.toList) = true := by rw [e]; exact beq_self_eq_true _
  rw [this]; exact h
end
section
variable {w : World} {dp un : Nat} {cn : Str} {cs : Scope} {a : Addr} {ccd : Value} {A₀ : Around} {base h₀ : Heap} {L : Addr} {m : Str → Option Value} {mean : ExcName → Option Value} {mg mb : Str → Option Value} {p : Program} {loose : List Str} {s : Shared} {Q E : Value → Shared → Prop}
  {bx dx vt ba pl : Addr} {b : Array UInt8} {hv : Int} {th : Tok} {big : Int} {tm : Tok} {all : List (Addr × Obj)} {x n : Int} {t1 t2 t3 : Tok} {P : List Int} {op : Obj} {its : Array Value} {nn : Nat}
theorem dis3_next {h : Heap} {ba' : Addr} {b' : Array UInt8} {hv' : Int} {th' : Tok} {ma' : Int} {tm' : Tok} {fin' : Bool} (S : Sub h₀ L h (led bx dx vt ba' b' hv' th' ma' tm' fin') [(pl, op)]) : Dis3 bx dx ba' pl := dis3_of (S.D (pl, op) (.head _))
theorem c_up_N {wd ah : Int} {tw ta : Tok} {fin : Bool} (B : Below A₀ base [] h₀) (F : Fr h₀ L s.heap m) (X : (Mine.hd.heap_39 w.params).In h₀) (N : News h₀ L s.heap all) (T : Top p loose mean mg mb h₀) (hcs : cs.kind = .function)
    (hdp : dp + 5 < recursionLimit) (D : Dis3 bx dx ba pl) (m1 : (bx, bObj dx vt ba hv th big tm fin) ∈ all) (m2 : (dx, dictOf [] 0) ∈ all) (m3 : (ba, baObj b) ∈ all) (m4 : (pl, W.listOf its nn) ∈ all)
    (hi : IntsAre its.toList P) (hw : wd = 1 ∨ wd = 2 ∨ wd = 4 ∨ wd = 8) (h0 : 0 ≤ ah) (h1 : ah ≤ 8) (hP : P.length ≤ 1000)
    (hret : ∀ h' tk' its' nn', Fr h₀ L h' m → News h₀ L h' [(pl, W.listOf its' nn'), (bx, bObj dx vt ba hv th big tm fin), (dx, dictOf [] 0), (ba, baObj b)] → IntsAre its'.toList (upP P wd ah) → Q .none { s with heap := h', toks := tk' }) :
    wpAny (model PR w) (ktrTop dp un (some []) cn cs L a ccd [] []) (call (.ref 728) [.ref pl, .int wd tw, .int ah ta]) Q E s :=
  c_up B F X (pile_split2 N D m1 m2 m3 m4) T hcs hdp hi hw h0 h1 hP fun _ _ _ _ F' S' hi' => hret _ _ _ _ F' S'.news hi'
theorem c_lay_N {wd : Int} {tw ta : Tok} {fin : Bool} (B : Below A₀ base [] h₀) (F : Fr h₀ L s.heap m) (X : (Mine.hd.heap_39 w.params).In h₀) (N : News h₀ L s.heap all) (T : Top p loose mean mg mb h₀) (hcs : cs.kind = .function)
    (hdp : dp + 8 < recursionLimit) (D : Dis3 bx dx ba pl) (m1 : (bx, bObj dx vt ba hv th big tm fin) ∈ all) (m2 : (dx, dictOf [] 0) ∈ all) (m3 : (ba, baObj b) ∈ all) (m4 : (pl, W.listOf its nn) ∈ all)
    (hi : IntsAre its.toList P) (hw : wd = 1 ∨ wd = 2 ∨ wd = 4 ∨ wd = 8) (hP : P.length ≤ 990)
    (hret : ∀ h' tk' its' nn', Fr h₀ L h' m → News h₀ L h' [(pl, W.listOf its' nn'), (bx, bObj dx vt ba hv th big tm fin), (dx, dictOf [] 0), (ba, baObj b)] → IntsAre its'.toList (layP P x wd) → Q .none { s with heap := h', toks := tk' }) :
    wpAny (model PR w) (ktrTop dp un (some []) cn cs L a ccd [] []) (call (.ref 735) [.ref pl, .int x ta, .int wd tw]) Q E s :=
  c_lay B F X (pile_split2 N D m1 m2 m3 m4) T hcs hdp hi hw hP fun _ _ _ _ F' S' hi' => hret _ _ _ _ F' S'.news hi'
/-- the law's last call of Finish: what it leaves is what the pile holds by then -/
theorem c_Finish_N {P1 P3 : List Int} (B : Below A₀ base [] h₀) (F : Fr h₀ L s.heap m) (X : (Mine.hd.heap_39 w.params).In h₀) (N : News h₀ L s.heap all) (T : Top p loose mean mg mb h₀) (hcs : cs.kind = .function)
    (hdp : dp + 24 < recursionLimit) (D : Dis3 bx dx ba pl) (m1 : (bx, bObj dx vt ba hv th big tm false) ∈ all) (m2 : (dx, dictOf [] 0) ∈ all) (m3 : (ba, baObj b) ∈ all) (m4 : (pl, op) ∈ all)
    (FX : BFx bx dx ba b hv 0 (octs P)) (hm : big = 1 ∨ big = 2 ∨ big = 4 ∨ big = 8) (hP : P.length ≤ 860) (e1 : P1 = upP (upP P big 4) 4 0) (e3 : P3 = layP P1 (P1.length - n + 4) 4) (h1 : 0 ≤ n) (h2 : n ≤ 4294967295) (h3 : n ≤ (P1.length : Int))
    (hret : ∀ h' tk' ba' b' hv' th' ma' tm', Fr h₀ L h' m → News h₀ L h' [(bx, bObj dx vt ba' hv' th' ma' tm' true), (dx, dictOf [] 0), (ba', baObj b'), (pl, op)] → Dis3 bx dx ba' pl → BFx bx dx ba' b' hv' 0 (octs P3) → Q (.int hv' th') { s with heap := h', toks := tk' }) :
    gAny (model PR w) (ktrTop dp un (some []) cn cs L a ccd [] []) (call (.ref 451) [.ref bx, .int n t1]) Q E s := by
  subst e1 e3
  have hC : (octs P).length ≤ 870 := by rw [octs_length]; omega
  have eu : upC 4 0 (upC big 4 (octs P)) = octs (upP (upP P big 4) 4 0) := by rw [octs_up, octs_up]
  refine c_Finish_ok B F X (law_split2 N D m1 m2 m3 m4) T hcs hdp FX hm hC h1 h2 (by rw [eu, octs_length]; exact h3) fun h' tk' ba' b' hv' th' tm' F' S' FX' => hret _ _ _ _ _ _ _ _ F' S'.news (dis3_next S') (bfx_eq ?_ FX')
  rw [eu, octs_length, ← octs_lay _ _ (by decide)]
  show _ = _ ++ upC 4 0 (octs (upP (upP P big 4) 4 0))
  rw [← octs_up, up_up _ (by decide)]
  rfl
end
-- part N4
theorem turn_end {g : Heap} {L bx dx vt ba pl sl it : Addr} {vs : List Value} {len i : Nat} {s : Shared} {h' : Heap} {tk' : Nat} {all : List (Addr × Obj)} {b : Array UInt8} {hv : Int} {th : Tok} {ma : Int} {tm : Tok} {P : List Int} {its : Array Value} {nn : Nat} {o : Obj} {MM : Str → Option Value} {tb : Tok}
    (hlt : i < len) (F : Fr g L h' MM) (e1 : MM "b" = some (.ref bx)) (e2 : MM "pile" = some (.ref pl)) (e3 : MM "big" = some (.int ma tb)) (N : News g L h' all)
    (m1 : (bx, bObj dx vt ba hv th ma tm false) ∈ all) (m2 : (dx, dictOf [] 0) ∈ all) (m3 : (ba, baObj b) ∈ all) (m4 : (pl, W.listOf its nn) ∈ all) (m5 : (sl, W.listOf vs.toArray 0) ∈ all) (m6 : (it, o) ∈ all)
    (hi : IntsAre its.toList P) (hs : Small P) (FX : BFx bx dx ba b hv 0 (octs P)) (hP : P.length ≤ 30 * i + 30) (hm : ma = 1 ∨ ma = 2 ∨ ma = 4 ∨ ma = 8) (ho : LitAt o sl (i + 1)) (D : Dis bx dx ba pl sl it) :
    TurnNext g L bx dx vt pl sl it vs len s (len - i) { s with heap := h', toks := tk' } :=
  ⟨len - (i + 1), by omega, i + 1, h', tk', b, hv, th, ma, tm, ba, P, its, nn, o, MM, tb, rfl, hlt, rfl, ⟨F, e1, e2, e3, fun p hp => N p (by
    simp only [List.mem_append, List.mem_cons, List.not_mem_nil, or_false] at hp
    rcases hp with (h | h) | h | h | h | h <;> rw [h] <;> assumption), hi, hs, FX, by omega, hm⟩, ho, D⟩
theorem half_bounds (n : Nat) : 0 ≤ (n : Int).fdiv 2 ∧ (n : Int).fdiv 2 ≤ n := by
  rw [Int.fdiv_eq_ediv_of_nonneg _ (by decide)]; omega
theorem up_ge (P : List Int) (wd ah : Int) : P.length ≤ (upP P wd ah).length := by rw [upP_length]; omega
section
variable {w : World} {dp un : Nat} {cn : Str} {cs : Scope} {a : Addr} {ccd : Value} {A₀ : Around} {base h₀ : Heap} {L : Addr} {m : Str → Option Value} {mean : ExcName → Option Value} {mg mb : Str → Option Value} {p : Program} {loose : List Str} {s : Shared} {Q E : Value → Shared → Prop}
  {bx dx vt ba pl : Addr} {b : Array UInt8} {hv : Int} {th : Tok} {big : Int} {tm : Tok} {all : List (Addr × Obj)} {n : Int} {P : List Int} {its : Array Value} {nn : Nat}
theorem c_lay_F {tw ta : Tok} {fin : Bool} (B : Below A₀ base [] h₀) (F : Fr h₀ L s.heap m) (X : (Mine.hd.heap_39 w.params).In h₀) (N : News h₀ L s.heap all) (T : Top p loose mean mg mb h₀) (hcs : cs.kind = .function)
    (hdp : dp + 8 < recursionLimit) (D : Dis3 bx dx ba pl) (m1 : (bx, bObj dx vt ba hv th big tm fin) ∈ all) (m2 : (dx, dictOf [] 0) ∈ all) (m3 : (ba, baObj b) ∈ all) (m4 : (pl, W.listOf its nn) ∈ all)
    (hi : IntsAre its.toList P) (hs : Small P) (hP : P.length ≤ 990)
    (hret : ∀ h' tk' its' nn' P3, P3 = layP P (P.length - n + 4) 4 → Small P3 → P3.length ≤ 1100 → Fr h₀ L h' m → News h₀ L h' [(pl, W.listOf its' nn'), (bx, bObj dx vt ba hv th big tm fin), (dx, dictOf [] 0), (ba, baObj b)] → IntsAre its'.toList P3 → Q .none { s with heap := h', toks := tk' }) :
    wpAny (model PR w) (ktrTop dp un (some []) cn cs L a ccd [] []) (call (.ref 735) [.ref pl, .int ((its.size : Int) - n + 4) ta, .int 4 tw]) Q E s := by
  rw [ints_size hi]
  exact c_lay_N B F X N T hcs hdp D m1 m2 m3 m4 hi (by decide) hP fun h' tk' its' nn' F' N' hi' => hret h' tk' its' nn' _ rfl (small_lay hs _ _) (by have := lay_len (P := P) (wd := 4) (P.length - n + 4) (by decide); omega) F' N' hi'
end
-- part J1
def CutQ (s : Shared) (v : Value) (s' : Shared) : Prop := ∃ n t tk, v = .int n t ∧ 0 ≤ n ∧ n < 30 ∧ s' = { s with toks := tk }
theorem cut_int {M : Model} {A : Around} {t : Sem Value} {Q : Value → Shared → Prop} {E : Value → Shared → Prop} {s : Shared} (h : wpAny M A t (CutQ s) (fun _ _ => False) s) (k : ∀ n t tk, 0 ≤ n → n < 30 → Q (.int n t) { s with toks := tk }) : wpAny M A t Q E s :=
  wpAny_mono h (fun v s' hq => by obtain ⟨n, t, tk, rfl, h0, h1, rfl⟩ := hq; exact k n t tk h0 h1) fun _ _ x => x.elim
def StopW (P : Prop) : Prop := P
theorem stop_w {P : Prop} (h : StopW P) : P := h
local macro_rules | `(tactic| walk_at "gAny") => `(tactic| (k_here; (with_reducible show gAny _ _ (call (Value.ref 673) _) _ _ _); k_dflt (refine' c_Builder ?B ?F ?X ?N ?T ?c ?d ?h0 ?h1 ?_; (case B => k_asm); (case F => k_asm); (case X => k_asm); (case N => k_asm); (case T => k_asm); (case c => exact rfl); (case d => ktr_room); (case h0 => omega); (case h1 => omega); k_whole); intro h' tk' bx' dx' vt' ba' th' tm' F' S' n1' n2' n3'; walk_at "my back"))
local macro_rules | `(tactic| walk_at "eval IfExp") => `(tactic| (k_here; refine cut_int ?cutw ?_))
local macro_rules | `(tactic| walk_at "gAny") => `(tactic| ((with_reducible show gAny _ _ (execs (Stmt.For _ _ _ _ _ :: _) _) _ _ _); refine stop_w ?_))
local macro_rules | `(tactic| walk_at "pyIter ref") => `(tactic| (k_here; refine stop_w ?_))
local macro_rules | `(tactic| walk_at "subscriptTail") => `(tactic| (k_here; (with_reducible show wpAny _ _ (subscriptTail (Expr.Attribute _ _ _) (Expr.Slice _ _ _ _) (Value.ref _) (Value.ref _)) _ _ _); k_dflt (refine PySem.W.kba_turn (value' := Expr.Name (Str.ofString "_") ⟨0, 0, 0, 0⟩) (fun _ => rfl) ?_)))
local macro_rules | `(tactic| walk_at "my dec") => `(tactic| (simp only [ne_eq, not_true_eq_false, decide_false, Bool.false_eq_true, not_false_eq_true]; done))
local macro_rules | `(tactic| walk_at "my sub") => `(tactic| (refine' law_split2 ?N ?D ?m1 ?m2 ?m3 ?m4; (case N => k_asm); (case m1 => k_mem); (case m2 => k_mem); (case m3 => k_mem); (case D => assumption); (case m4 => k_mem)))
local macro_rules | `(tactic| walk_at "my sub") => `(tactic| (refine' law_split ?N ?D ?m1 ?m2 ?m3 ?m4 ?m5 ?m6; (case N => k_asm); (case m1 => k_mem); (case m2 => k_mem); (case m3 => k_mem); (case D => assumption); (case m4 => k_mem); (case m5 => k_mem); (case m6 => k_mem)))
local macro_rules | `(tactic| walk_at "call ref") => `(tactic| (k_here; (with_reducible show wpAny _ _ (call (Value.ref 749) _) _ _ _); k_dflt (refine' c_due_N ?B ?F ?X ?N ?T ?c ?d ?D ?m1 ?m2 ?m3 ?m4 ?m5 ?m6 ?hi ?hw ?hP ?_; (case B => k_asm); (case F => k_asm); (case X => k_asm); (case N => k_asm); (case T => k_asm); (case c => exact rfl); (case d => first | ktr_room | decide); (case m4 => k_mem); (case D => assumption); (case m1 => k_mem); (case m2 => k_mem); (case m3 => k_mem); (case m5 => k_mem); (case m6 => k_mem); (case hi => assumption); (case hw => assumption); (case hP => omega); k_whole); intro h' tk' its' nn' tp' d' k' x' ev' c' b2' P2' t1' t2' t3' t4' t5' due' F' N' hi'; (have hz' := ints_size hi'); (have dk1' := (due_keeps due' (by assumption) (by assumption)).1); (have dk2' := (due_keeps due' (by assumption) (by assumption)).2.1); (have dk3' := (due_keeps due' (by assumption) (by assumption)).2.2); (try k_sweep)))
local macro_rules | `(tactic| walk_at "gAny") => `(tactic| (k_here; (with_reducible show gAny _ _ (call (Value.ref 756) _) _ _ _); k_dflt (refine' c_deed_N ?B ?F ?X ?XB ?N ?T ?TB ?c ?d ?D ?m1 ?m2 ?m3 ?m4 ?m5 ?m6 ?fx ?hP ?hm ?du ?_; (case B => k_asm); (case F => k_asm); (case X => k_asm); (case XB => k_asm); (case N => k_asm); (case T => k_asm); (case TB => k_asm); (case c => exact rfl); (case d => first | ktr_room | decide); (case m1 => k_mem); (case m2 => k_mem); (case m3 => k_mem); (case D => assumption); (case m4 => k_mem); (case m5 => k_mem); (case m6 => k_mem); (case fx => assumption); (case hP => omega); (case hm => assumption); (case du => assumption); k_whole); intro h' tk' ba' b' hv' th' tm' tc' F' N' D' FX'; (have q8' := bfx_len FX'); (rw [octs_length] at q8'); (have q4' := FX'.z); (have q6' := FX'.r1); (have q7' := FX'.h2); (try k_sweep)))
local macro_rules | `(tactic| walk_at "gAny") => `(tactic| ((with_reducible show gAny _ _ (execs (Stmt.If _ _ _ _ :: _) _) _ _ _); k_dflt (refine g_cons (g_If ?_))))
local macro_rules | `(tactic| walk_at "gAny") => `(tactic| ((with_reducible show gAny _ _ (execs (Stmt.If (Expr.Compare (Expr.Call (Expr.Name ("_law_deed" : Str) _) _ _ _) _ _ _) _ _ _ :: _) _) _ _ _); k_dflt (refine g_cons (g_IfG (g_isTrue_Compare1 (g_CallName ?_))))))
local macro_rules | `(tactic| walk_at "call type:bytes") => `(tactic| (k_here; (with_reducible show wpAny _ _ (call (Value.type "bytes") [Value.ref _]) _ _ _); k_dflt (refine' bytes_pile ?F ?N ?m ?i ?s ?z ?h ?_; (case F => k_asm); (case N => k_asm); (case m => k_mem); (case i => assumption); (case s => assumption); (case z => omega); (case h => exact rfl); k_whole); intro h' t' k' F' N'; (try k_sweep)))
local macro_rules | `(tactic| walk_at "compareOp NotEq bytes bytes") => `(tactic| (refine' ne_same ?e ?_; (case e => exact bytes_same (by assumption))))
local macro_rules | `(tactic| walk_at "compareOp Eq bytes bytes") => `(tactic| (refine' eq_same ?e ?_; (case e => exact bytes_same (by assumption))))
local macro_rules | `(tactic| walk_at "call ref") => `(tactic| (k_here; (with_reducible show wpAny _ _ (call (Value.ref 728) _) _ _ _); k_dflt (refine' c_up_N ?B ?F ?X ?N ?T ?c ?d ?D ?m1 ?m2 ?m3 ?m4 ?hi ?hw ?h0 ?h1 ?hP ?_; (case B => k_asm); (case F => k_asm); (case X => k_asm); (case N => k_asm); (case T => k_asm); (case c => exact rfl); (case d => first | ktr_room | decide); (case m4 => k_mem); (case D => assumption); (case m1 => k_mem); (case m2 => k_mem); (case m3 => k_mem); (case hi => assumption); (case hw => first | (with_reducible assumption) | omega); (case h0 => omega); (case h1 => omega); (case hP => omega); k_whole); intro h' tk' its' nn' F' N' hi'; (have hz' := ints_size hi'); (try k_sweep)))
local macro_rules | `(tactic| walk_at "call ref") => `(tactic| (k_here; (with_reducible show wpAny _ _ (call (Value.ref 735) _) _ _ _); k_dflt (refine' c_lay_F ?B ?F ?X ?N ?T ?c ?d ?D ?m1 ?m2 ?m3 ?m4 ?hi ?hs ?hP ?_; (case B => k_asm); (case F => k_asm); (case X => k_asm); (case N => k_asm); (case T => k_asm); (case c => exact rfl); (case d => first | ktr_room | decide); (case m4 => k_mem); (case D => assumption); (case m1 => k_mem); (case m2 => k_mem); (case m3 => k_mem); (case hi => assumption); (case hs => exact small_up (small_up (by assumption) _ _) _ _); (case hP => omega); k_whole); intro h' tk' its' nn' P3' e3' s3' l3' F' N' hi'; (try k_sweep)))
local macro_rules | `(tactic| walk_at "gAny") => `(tactic| (k_here; (with_reducible show gAny _ _ (call (Value.ref 451) _) _ _ _); k_dflt (refine' c_Finish_N ?B ?F ?X ?N ?T ?c ?d ?D ?m1 ?m2 ?m3 ?m4 ?fx ?hm ?hP ?e1 ?e3 ?h1 ?h2 ?h3 ?_; (case B => k_asm); (case F => k_asm); (case X => k_asm); (case N => k_asm); (case T => k_asm); (case c => exact rfl); (case d => first | ktr_room | decide); (case m1 => k_mem); (case m2 => k_mem); (case m3 => k_mem); (case D => assumption); (case m4 => k_mem); (case fx => assumption); (case hm => assumption); (case e1 => exact rfl); (case e3 => assumption); (case hP => omega); (case h1 => omega); (case h2 => omega); (case h3 => omega); k_whole); intro h' tk' ba' b' hv' th' ma' tm' F' N' D' FX'; (have q4' := FX'.z); (have q6' := FX'.r1); (have q7' := FX'.h2); (try k_sweep)))
local macro_rules | `(tactic| walk_at "call ref") => `(tactic| (k_here; (with_reducible show wpAny _ _ (call (Value.ref 301) _) _ _ _); k_dflt (refine' c_Output_ok ?B ?F ?X ?S ?T ?c ?d ?fx ?hf ?_; (case B => k_asm); (case F => k_asm); (case X => k_asm); (case S => walk_at "my sub"); (case T => k_asm); (case c => exact rfl); (case d => first | ktr_room | decide); (case fx => assumption); (case hf => exact rfl); k_whole); intro h' tk' D' F' S'; walk_at "my back"))
theorem main : PySem.Challenge.rw_eh5017_01.Holds := by
  refine Mine.hd ?_
  k_fill
  intro w s₀ s₁ mg mb G Y fa o pm cd doc dV kV ho hd hcd hD hmg hg args vals as hpre hlay hrd hwl hlo
  have KX := kIn_of Y
  have X := (Ground.X G).1
  have V := (Ground.X G).2
  try w_nolog (first | (have GL := glob_more (Ground.glob G (by first | k_qdec | decide +kernel) (by first | k_qdec | decide +kernel)) V) | (have GL := glob_more (Ground.glob G (by decide +kernel)) V))
  refine Ground.open G ?_
  intro T B D TE TW
  try (refine guard_noD D (by decide +kernel) ?_; clear D)
  obtain ⟨_, _, M⟩ := bmod_of_top T
  have TA := at_of_top T
  try (obtain ⟨_, _, he, B0⟩ := based_of_top T rfl hmg ho hd; have he' : cd = _ := he; subst he'; clear he)
  clear hmg
  wrow_args hpre hlay hrd hwl hlo
  refine Mine.g_enter_call ?_
  w_top on
  have K0 := below_caller (Top.heap T)
  have he := Dflts.none hD rfl; subst he
  refine Mine.g_fullW (by decide) ho hd (Top.nolimit T) hcd (BindsTo.of_eq rfl) (locs rfl) fun h₁ F => ?_
  w_binds F
  have N0 := (News.nil : News _ _ _ []).at F
  clear hd TA hD
  have hBW := And.intro trivial B0
  k_drop
  rename IntsAre _ _ => hI
  rename Heap.IsList _ _ _ => hL
  refine g_cons (g_AssignName (g_CallName ?_))
  k_steps
  · exact ⟨_, _, _, rfl, Int.fmod_nonneg_of_pos _ (by decide), Int.fmod_lt_of_pos _ (by decide), rfl⟩
  · exact ⟨0, _, _, rfl, by decide, by decide, rfl⟩
  refine g_cons (g_For ?_)
  k_steps
  rename Fr _ _ _ (fun y => if y = "big" then _ else _) => kF'
  rename News _ _ _ [_, _, _, _, _] => kN'
  rename IntsAre _ (List.take _ _) => kI'
  refine law_loop rfl kF' kN' rfl rfl rfl kI' (by omega) (by assumption) (by assumption) (by assumption) (by assumption) (by assumption) (by assumption) (by assumption) ?turn ?done
  case turn =>
    clear kF' kN'
    intro it i num tnum h' tk' b hv th ma tm ba P its nn o MM tb hlt hP F1 N1 hi hs FX hm ho D
    have hz := ints_size hi
    k_steps
    rename Fr _ _ _ _ => kF'
    rename News _ _ _ _ => kN'
    rename BFx _ _ _ _ _ _ (octs _) => fX
    rename Dis _ _ _ _ _ _ => dX
    exact turn_end hlt kF' rfl rfl rfl kN' (by k_mem) (by k_mem) (by k_mem) (by k_mem) (by k_mem) (by k_mem) (by assumption) (by assumption) fX (by omega) (by assumption) ho dX
  case done =>
    clear kF' kN'
    intro h' tk' b hv th ma tm ba P its nn MM tb hP F1 N1 hi hs FX hm D
    have hz := ints_size hi
    have hr := half_bounds its.size
    have g1 := up_ge P ma 4
    have g2 := up_ge (upP P ma 4) 4 0
    have g3 := up_len (P := P) 4 hm
    have g4 := up_len (P := upP P ma 4) (wd := 4) 0 (by decide)
    have q4' := FX.z
    k_steps
    dsimp only
    exact goodWG_reads hBW.2 (by assumption) (by row_bare) (raisesW_false (by wrow_none_raised))
      (by w_reads)
      (by first | exact unshared_nil | exact fun h => absurd h (by decide)) (postW_of (by wrow_shape) (by wtm_val) (by str_meet; first | done | w_fin)) (by row_os)
end Mine
theorem PySem.Challenge.cw_eh5017_01_holds : PySem.Challenge.rw_eh5017_01.Holds :=
  Mine.main
