import PyProof.Rows.All
import Wide.All
import OpenK.AllK
import Wide.FinOn
import Lean
import PySem.Challenge.RW_pe0018_02
open PySem PySem.W PySem.Calls PyProof.Rows
set_option Elab.async false
set_option maxRecDepth 100000
set_option maxHeartbeats 8000000
namespace Mine
/-- a code that holds a bytearray's memory while it runs, beyond the guards -/
def decoder : Code → Bool
  | .builtin id _ => Builtin.Bytes.decodersThatHold.contains id
  | _ => false
/-- no code of the stack is a decoder -/
def Tidy (Γ : Ctx) : Prop := decoder Γ.code = false ∧ ∀ q ∈ Γ.below, decoder q.1 = false
def wpC {α : Type} (M : Model) (A : Around) (t : Sem α) (Q : α → Shared → Prop) (E : Value → Shared → Prop) (s : Shared) : Prop :=
  ∀ Γ p, Γ.In A → Tidy Γ → Sem.wp M Γ t (fun a _ s' => Q a s') (fun e _ s' => E e s') p s
def codeC (M : Model) (A : Around) (c : Code) (R : Result → Shared → Prop) (s : Shared) : Prop :=
  ∀ Γ p, Γ.code = c → Γ.Below A → (∀ q ∈ Γ.below, decoder q.1 = false) → wpCode M Γ R p s
section
variable {α β : Type} {M : Model} {A : Around} {E : Value → Shared → Prop} {s : Shared}
theorem wpC_of_any {t : Sem α} {Q : α → Shared → Prop} (h : wpAny M A t Q E s) : wpC M A t Q E s := fun Γ p hΓ _ => h Γ p hΓ
theorem codeC_of_any {c : Code} {R : Result → Shared → Prop} (h : codeAny M A c R s) : codeC M A c R s := fun Γ p hc hΓ _ => h Γ p hc hΓ
theorem wpC_mono {t : Sem α} {Q Q' : α → Shared → Prop} {E' : Value → Shared → Prop} (h : wpC M A t Q E s)
    (hQ : ∀ a s, Q a s → Q' a s) (hE : ∀ e s, E e s → E' e s) : wpC M A t Q' E' s :=
  fun Γ p hΓ hT => Sem.wp_mono M Γ t (fun a _ s => hQ a s) (fun e _ s => hE e s) p s (h Γ p hΓ hT)
theorem wpC_bind {m : Sem α} {f : α → Sem β} {Q : β → Shared → Prop} (h : wpC M A m (fun a s' => wpC M A (f a) Q E s') E s) :
    wpC M A (m >>= f) Q E s := fun Γ p hΓ hT => by
  rw [Sem.wp_bind']
  exact Sem.wp_mono M Γ m (fun a p' s' h' => h' Γ p' hΓ hT) (fun _ _ _ h' => h') p s (h Γ p hΓ hT)
theorem wpC_bindA {m : Sem α} {f : α → Sem β} {Q : β → Shared → Prop} (h : wpAny M A m (fun a s' => wpC M A (f a) Q E s') E s) :
    wpC M A (m >>= f) Q E s := wpC_bind (wpC_of_any h)
theorem wpC_holding {vs : List Value} {m : Sem α} {Q : α → Shared → Prop} (h : wpC M A m Q E s) : wpC M A (holding vs m) Q E s :=
  fun Γ p hΓ hT => by rw [Sem.wp_holding]; exact h Γ p hΓ hT
theorem wpC_onRaise {m : Sem α} {k : Value → Sem Unit} {Q : α → Shared → Prop}
    (h : wpC M A m Q (fun e s' => wpAny M A (k e) (fun _ s'' => E e s'') E s') s) : wpC M A (m.onRaise k) Q E s := fun Γ p hΓ hT => by
  rw [Sem.wp_onRaise]
  exact Sem.wp_mono M Γ m (fun _ _ _ h' => h') (fun e p' s' h' => h' Γ p' hΓ) p s (h Γ p hΓ hT)
theorem wpC_runValue {c : Code} {Q : Value → Shared → Prop}
    (hc : codeC M A c (fun r s' => match r with | .ok (.ret v) => Q v s' | .ok _ => False | .error e => E e s') s) :
    wpC M A (runValue c) Q E s := fun Γ p hΓ hT => by
  rw [Sem.wp_runValue]
  refine hc _ p rfl (hΓ.enter c none p (by intro x; cases x)) ?_
  intro q hq
  rcases List.mem_cons.mp hq with rfl | hq
  · exact hT.1
  · exact hT.2 q hq
theorem wpC_run {c : Code} {Q : Flow → Shared → Prop}
    (hc : codeC M (A.mark none) c (fun r s' => match r with | .ok f => Q f s' | .error e => E e s') s) :
    wpC M A (run c none) Q E s := fun Γ p hΓ hT => by
  rw [Sem.wp_run]
  refine hc _ p rfl (hΓ.enter c none p (by intro x; cases x)) ?_
  intro q hq
  rcases List.mem_cons.mp hq with rfl | hq
  · exact hT.1
  · exact hT.2 q hq
theorem wpC_call {f : Value} {pos : List Value} {kw : List (Str × Value)} {Q : Value → Shared → Prop}
    (hc : codeC M A (.call f ⟨pos, kw⟩) (fun r s' => match r with | .ok (.ret v) => Q v s' | .ok _ => False | .error e => E e s') s) :
    wpC M A (call f pos kw) Q E s := wpC_runValue hc
theorem codeC_mono {c : Code} {R R' : Result → Shared → Prop} (h : codeC M A c R s) (hR : ∀ r s, R r s → R' r s) : codeC M A c R' s :=
  fun Γ p hc hΓ hT => wpCode_mono hR (h Γ p hc hΓ hT)
theorem codeC_of_tree {c : Code} {R : Result → Shared → Prop} (hd : decoder c = false)
    (h : wpC M (A.under c) (M.den c) (fun fin s' => match fin with | .done f => R (.ok f) s' | .again c' => c'.quiet = true ∧ codeC M A c' R s')
      (fun e s' => R (.error e) s') s) : codeC M A c R s := fun Γ p hc hΓ hT => by
  rw [wpCode_iff_wp, hc]
  refine Sem.wp_mono M Γ _ (fun fin p' s' h' => ?_) (fun _ _ _ h' => h') p s (h Γ p (hc ▸ hΓ.in) ⟨by rw [hc]; exact hd, hT⟩)
  cases fin with
  | done f => exact h'
  | again c' => exact ⟨h'.1, h'.2 (Γ.goto c') p' rfl (hΓ.goto c') hT⟩
theorem codeC_of_in1 {c : Code} {R : Result → Shared → Prop} (h : codeC M A.in1 c R s) : codeC M A c R s :=
  fun Γ p hc hΓ hT => h Γ p hc ⟨hΓ.1, hΓ.2.1, hΓ.2.2.1, hΓ.2.2.2.1, Nat.le_succ_of_le hΓ.2.2.2.2⟩ hT
end
section
variable {prog : Program} {w : World} {A A₀ : Around} {s : Shared} {R : Result → Shared → Prop}
theorem codeC_func {body : List Stmt} {env : Env}
    (h : wpC (model prog w) (A.deeper env) (execs body env) (fun f s' => R (.ok (.ret (match f with | .ret v => v | _ => .none))) s')
      (fun e s' => wpAny (model prog w) (A.deeper env) (leaving env e) (fun _ s'' => R (.error e) s'') (fun e' s'' => R (.error e') s'') s') s) :
    codeC (model prog w) A (.func body env) R s := by
  refine codeC_of_tree rfl ?_
  show wpC _ (A.deeper env) (do point; match ← (execs body env).onRaise (leaving env) with | .ret v => ret v | _ => ret .none) _ _ s
  refine wpC_bindA (wpAny_point (wpC_bind (wpC_onRaise (wpC_mono h (fun f s' h' => ?_) fun _ _ h' => h'))))
  cases f <;> exact wpC_of_any (wpAny_pure h')
theorem codeC_call_function {a : Addr} {args : Args} {o : Obj} {fd : FuncData} {body : List Stmt} (hroom : A.depth < recursionLimit)
    (ho : s.heap.get? a = some o)
    (hd' : o.data = .func fd) (hco : fd.scope.isCoroutine = false) (hgen : fd.scope.isGenerator = false) (hbody : fd.body = .stmts body) (hcd : s.heap.CodeRec fd.code fd.qualname)
    (h : wpAny (model prog w) A.in1 (bindArgs fd args) (fun binds s₁ =>
      wpAny (model prog w) A.in1 (newFunctionEnv fd.scope fd.globals fd.closure binds (fd.qualname ++ ".<locals>.") (some a) fd.code none fd.builtins)
        (fun env s₂ => s₂.heap.NoLimit ∧ codeC (model prog w) A (.func body env) R s₂) (fun e s' => R (.error e) s') s₁) (fun e s' => R (.error e) s') s) :
    codeC (model prog w) A (.call (.ref a) args) R s := by
  refine codeC_of_tree rfl (wpC_of_any ?_)
  show wpAny _ A.in1 (callAny (.ref a) args) _ _ s
  simp only [callAny]
  refine wpAny_bind (wpAny_load ho ?_)
  obtain ⟨c, oc, vs, tq, hc, hoc, hdc, hq⟩ := hcd
  simp only [hd', callFunction, hco, hgen, hbody, hc]
  rw [hc] at h
  refine wpAny_bind (m := field (.ref c) 1) (wpAny_field hoc hdc hq (wpAny_bind (wpAny_pure ?_)))
  exact wpAny_bind (wpAny_mono h (fun binds s₁ h₁ => wpAny_bind (wpAny_mono h₁ (fun env s₂ h₂ => wpAny_bind (wpAny_enterFrame h₂.1 hroom
    (wpAny_pure (And.intro rfl h₂.2)))) fun _ _ h' => h')) fun _ _ h' => h')
theorem codeC_call_def {a : Addr} {o : Obj} {fd : FuncData} {body : List Stmt} {args : Args} {binds : List (Str × Value)}
    (hroom : A.depth < recursionLimit) (ho : s.heap.get? a = some o) (hdata : o.data = .func fd) (hlim : s.heap.NoLimit) (hcd : s.heap.CodeRec fd.code fd.qualname)
    (hbody : fd.body = .stmts body) (hbind : BindsTo s fd args binds)
    (hcell : ∀ x ∈ fd.scope.names, x.2 ≠ .cell) (hloc : ∀ x ∈ binds, fd.scope.names.lookup x.1 = some .local)
    (h : ∀ h₀, h₀.Ns s.heap.objs.size (fun x => binds.reverse.lookup x) → (∀ b o, s.heap.get? b = some o → h₀.get? b = some o) →
      wpC (model prog w) (A.deeper (callEnv fd s.heap.objs.size a)) (execs body (callEnv fd s.heap.objs.size a)) (fun f s' => R (.ok (.ret (match f with | .ret v => v | _ => .none))) s')
        (fun e s' => wpAny (model prog w) (A.deeper (callEnv fd s.heap.objs.size a)) (leaving (callEnv fd s.heap.objs.size a) e) (fun _ s'' => R (.error e) s'') (fun e' s'' => R (.error e') s'') s')
        { s with heap := h₀, toks := s.toks + binds.length })
    (hco : fd.scope.isCoroutine = false := by rfl) (hgen : fd.scope.isGenerator = false := by rfl) (hk : fd.scope.kind = .function := by rfl) :
    codeC (model prog w) A (.call (.ref a) args) R s := by
  refine codeC_call_function hroom ho hdata hco hgen hbody hcd (hbind _ _ _ _ ?_)
  refine wpAny_newFunctionEnv hcell hloc (fun h₀ hns₀ hsb₀ => ⟨hlim.fresh _ hsb₀, codeC_func (h h₀ hns₀ fun b o e => ?_)⟩) hk
  exact hsb₀.extBut b o (Nat.ne_of_lt (Heap.lt_size e)) (Heap.get?_push_of_some _ e)
end
section
variable {prog : Program} {w : World} {A A₀ : Around} {E : Value → Shared → Prop} {s : Shared} {K : Frag} {C L : Addr} {h₀ base : Heap} {m mg mb : Str → Option Value} {news : List (Addr × Obj)} {p : Program} {loose : List Str} {mean : ExcName → Option Value} {Q : Value → Shared → Prop}
/-- a def entered, in the tidy logic -/
theorem enterC {env : Env} {outer : List Env} {R : Result → Shared → Prop} {name qual : Str} {params : Arguments} {body : List Stmt} {scope : Scope} {dV kV doc pm cdv ct oc : Value} {an od : Option Addr} {osl : Array (Option Value)} {f : Addr} {args : Args} {binds : List (Str × Value)}
    (B : Below A₀ base outer h₀) (F : Fr h₀ L s.heap m) (X₀ : K.In h₀) (N : News h₀ L s.heap news) (T : Top p loose mean mg mb h₀) (hA : A.frames = some (env :: outer)) (hf : env.frame = some L) (hke : env.scope.kind = .function)
    (ho : K.lookup f = some ⟨oc, od, .func (fnOf name qual params body scope dV kV doc pm an cdv ct), osl⟩) (hcd : codeIn K cdv qual = true) (hroom : A.depth < recursionLimit)
    (hbind : BindsTo s (fnOf name qual params body scope dV kV doc pm an cdv ct) args binds) (hloc : ∀ y ∈ binds, scope.names.lookup y.1 = some .local)
    (h : ∀ g L' h₁, Fr h₀ L g m → Fr g L' h₁ (fun y => binds.reverse.lookup y) → News g L' h₁ news → Below A base (env :: outer) g → K.In g → Top p loose mean mg mb g →
      wpC (model prog w) (A.deeper (envOf qual scope L' f cdv)) (execs body (envOf qual scope L' f cdv))
        (fun fl s' => LeaveK h₀ L m g R (match fl with | .ret v => v | _ => .none) s')
        (fun e s' => wpAny (model prog w) (A.deeper (envOf qual scope L' f cdv)) (leaving (envOf qual scope L' f cdv) e) (fun _ s'' => R (.error e) s'') (fun e' s'' => R (.error e') s'') s')
        { s with heap := h₁, toks := s.toks + binds.length })
    (hco : scope.isCoroutine = false) (hgen : scope.isGenerator = false) (hk : scope.kind = .function)
    (hcell : ∀ x ∈ scope.names, x.2 ≠ .cell) : codeC (model prog w) A (.call (.ref f) args) R s := by
  have hlim := T.nolimit
  obtain ⟨FG, BG, st, lv⟩ := groundX (R := R) B F N hA hf hke
  refine codeC_call_def (fd := fnOf name qual params body scope dV kV doc pm an cdv ct) (body := body) (binds := binds) hroom ((X₀.keeps F.keep) _ _ ho) rfl (hlim.keeps F.keep) (codeRec_of (X₀.keeps F.keep) hcd) rfl hbind hcell hloc (fun h₁ hns hk₁ => ?_) hco hgen hk
  exact wpC_mono (h _ s.heap.objs.size h₁ FG ⟨hns, fun b o e => hk₁ b o (of_hideAll _ e), Nat.le_of_eq (hideAll_size _ _)⟩
    (fun p hp => ⟨hk₁ _ _ (N p hp).1, Nat.ne_of_lt (Heap.lt_size (N p hp).1), hideAll_none _ (List.mem_map_of_mem hp)⟩) BG (X₀.keeps st) (T.keeps st)) (fun fl s' hl => lv _ _ hl) fun _ _ y => y
end
end Mine
namespace Mine
section
variable {prog : Program} {w : World} {A : Around} {E : Value → Shared → Prop} {s : Shared}
theorem codeC_builtin {id : String} {args : Args} {b : Builtin} {R : Result → Shared → Prop} (hd : Builtin.Bytes.decodersThatHold.contains id = false) (hb : entryFor table id = some b)
    (h : wpC (model prog w) (A.under (.builtin id args)) (b args)
      (fun fin s' => match fin with | .done f => R (.ok f) s' | .again c' => c'.quiet = true ∧ codeC (model prog w) A c' R s') (fun e s' => R (.error e) s') s) :
    codeC (model prog w) A (.builtin id args) R s := by
  refine codeC_of_tree hd ?_
  show wpC _ _ (match entryFor table id with | some b => b args | none => unsupported ((withoutEnding? id "#data").getD id)) _ _ s
  rw [hb]; exact h
theorem codeC_call_builtin {id : String} {args : Args} {b : Builtin} {R : Result → Shared → Prop} (hd : Builtin.Bytes.decodersThatHold.contains id = false) (hq : plainId id = true) (hb : entryFor table id = some b)
    (h : wpAny (model prog w) A.in1 (checkBuiltinCall id args) (fun _ s₁ => wpC (model prog w) A.in1 (b args)
      (fun fin s' => match fin with | .done f => R (.ok f) s' | .again c' => c'.quiet = true ∧ codeC (model prog w) A c' R s') (fun e s' => R (.error e) s') s₁)
      (fun e s' => R (.error e) s') s) : codeC (model prog w) A (.call (.builtin id) args) R s := by
  refine codeC_of_tree rfl (wpC_of_any ?_)
  show wpAny _ A.in1 (do checkBuiltinCall id args; again (.builtin id args)) _ _ s
  refine wpAny_bind (wpAny_mono h (fun _ s₁ h₁ => wpAny_pure (And.intro (plainId_quiet hq args) (codeC_builtin hd hb ?_))) fun _ _ h' => h')
  rw [Around.under_plainId hq args]; exact h₁
theorem callTypeC {T newId initId : String} {args : List Value} {Q Q₁ : Value → Shared → Prop} (ft : TypeCalled T newId initId)
    (hct : checkTypeCall T ⟨args, []⟩ = pure ())
    (hnew : codeAny (model prog w) A.in1 (.call (.builtin newId) ⟨.type T :: args, []⟩) (wants Q₁ E) s)
    (hnext : ∀ obj s₁, Q₁ obj s₁ → s₁.TypeIs obj T ∧ codeC (model prog w) A.in1 (.call (.builtin initId) ⟨obj :: args, []⟩) (wants (fun r s₂ => r = .none ∧ Q obj s₂) E) s₁) :
    wpC (model prog w) A (call (.type T) args) Q E s := by
  obtain ⟨c, tl, hmro⟩ := ft.mro
  have hmade := ft.made
  have hsub := ft.sub
  refine wpC_call (codeC_of_tree rfl (wpC_of_any ?_))
  show wpAny _ _ (callAny (.type T) _) _ _ _
  refine wpAny_pure ⟨Code.quiet_builtin _ (by decide +kernel), codeC_builtin (by decide +kernel) F.entry_type_call ?_⟩
  rw [Around.under_plain (weight_type_call_type T args []) rfl]
  have h1 := ft.notType
  have h2 := ft.canCreate
  unfold Builtin.«type.__call__»
  simp only [h1, h2, hct, hmro, hmade, pure_bind, if_false, Bool.false_eq_true, List.isEmpty_cons]
  refine wpC_bindA (wpAny_holding (wpAny_call (codeAny_mono hnew fun r s₁ hr => ?_)))
  cases r with
  | error e => exact hr
  | ok fl =>
    cases fl with
    | ret obj =>
      obtain ⟨hT, hin⟩ := hnext _ _ hr
      refine wpC_bindA (wpAny_isInstance hT hsub ?_)
      simp only [Bool.not_true, Bool.false_eq_true, if_false]
      refine wpC_bind (wpC_holding ?_)
      unfold callSpecial?
      refine wpC_bindA (wpAny_specialOf hT ft.init.lookup ?_)
      dsimp only
      refine wpC_holding ?_
      refine wpC_bindA (wpAny_of_eq (ft.init.bind obj) ?_)
      refine wpC_bind (wpC_call (codeC_mono hin fun r₂ s₂ hr₂ => ?_))
      cases r₂ with
      | error e => exact hr₂
      | ok fl₂ =>
        cases fl₂ with
        | ret r =>
          obtain ⟨rfl, hq⟩ := hr₂
          refine wpC_of_any (wpAny_pure ?_)
          refine wpC_of_any (wpAny_pure ?_)
          exact hq
        | _ => exact hr₂.elim
    | _ => exact hr.elim
end
namespace FA
theorem mro_ba : mroOf (.type "bytearray") = pure [.type "bytearray", .type "object"] := by rw [mroOf_type]; kernel_rfl
theorem lookup_ba_new : typeLookup (.type "bytearray") "__new__" = pure (some (.builtin "bytearray.__new__")) := by rw [typeLookup_type, builtinLookup_eq_fast]; kernel_rfl
theorem slot_ba_init : Slot "bytearray" "__init__" "bytearray.__init__" :=
  .of (owner := "bytearray") (n := "__init__") (by rw [typeLookup_type, builtinLookup_eq_fast]; kernel_rfl) (by decide +kernel) (by decide +kernel) (by decide +kernel)
    (by first | exact .inl (by decide +kernel) | exact .inr (by decide +kernel)) (by rw [isSubtype_type]; kernel_rfl)
theorem called_ba : TypeCalled "bytearray" "bytearray.__new__" "bytearray.__init__" :=
  ⟨by decide +kernel, by decide +kernel, ⟨_, _, mro_ba⟩, madeBy_type mro_ba lookup_ba_new (by decide +kernel), by decide +kernel, by rw [isSubtype_type]; kernel_rfl, slot_ba_init⟩
theorem typeCall_ba (a : Value) : checkTypeCall "bytearray" ⟨[a], []⟩ = pure () := by kernel_rfl
theorem newCall_ba (a : Value) : checkBuiltinCall "bytearray.__new__" ⟨[.type "bytearray", a], []⟩ = pure () := by kernel_rfl
theorem entry_ba_new : entryFor table "bytearray.__new__" = some Builtin.«list.__new__» :=
  entryFor_alias (id' := "list.__new__") (by kernel_rfl) (by first | rfl | decide +kernel) (by decide +kernel) (by kernel_rfl)
theorem plain_ba_new : plainId "bytearray.__new__" = true := by decide +kernel
theorem entry_ba_init : entryFor table "bytearray.__init__" = some Builtin.«bytearray.__init__» := by first | exact entryFor_of_fast (by kernel_rfl) | exact entryFor_of_tree (by kernel_rfl)
theorem plain_ba_init : plainId "bytearray.__init__" = true := by decide +kernel
theorem sub_ba : isSubtype (.type "bytearray") (.type "bytearray") = pure true := by rw [isSubtype_type]; kernel_rfl
end FA
theorem owner_ba_new : ("bytearray.__new__".splitOn ".__new__").headD "" = "bytearray" := by simp +decide [String.splitOn, String.splitOnAux]
end Mine
namespace Mine
section
variable {prog : Program} {w : World} {A : Around} {E : Value → Shared → Prop} {s : Shared}
theorem code_ba_new (a : Value) {Q₁ : Value → Shared → Prop}
    (h : Q₁ (.ref s.heap.objs.size) { s with heap := s.heap.push { cls := .type "bytearray", data := .bytearray #[] } }) :
    codeAny (model prog w) A (.call (.builtin "bytearray.__new__") ⟨[.type "bytearray", a], []⟩) (wants Q₁ E) s := by
  refine codeAny_of_tree ?_
  show wpAny _ A.in1 (do checkBuiltinCall "bytearray.__new__" ⟨[.type "bytearray", a], []⟩; again (.builtin "bytearray.__new__" ⟨[.type "bytearray", a], []⟩)) _ _ s
  refine wpAny_bind (wpAny_of_eq (FA.newCall_ba a) (wpAny_pure ⟨plainId_quiet FA.plain_ba_new _, codeAny_builtin_stack FA.entry_ba_new rfl fun p st => ?_⟩))
  rw [Around.under_plainId FA.plain_ba_new _]
  have hsub := FA.sub_ba
  have hown := owner_ba_new
  obtain ⟨hp, g, d, tk, os⟩ := s
  simp only [hown]
  wp_walk
  exact h
theorem ifC_no {α : Type} {c : Prop} [Decidable c] {a b : Sem α} {Q : α → Shared → Prop} (hc : ¬ c) (h : wpC (model prog w) A b Q E s) : wpC (model prog w) A (if c then a else b) Q E s := by
  rw [if_neg hc]; exact h
theorem ifC_yes {α : Type} {c : Prop} [Decidable c] {a b : Sem α} {Q : α → Shared → Prop} (hc : c) (h : wpC (model prog w) A a Q E s) : wpC (model prog w) A (if c then a else b) Q E s := by
  rw [if_pos hc]; exact h
namespace FA
theorem lk_release : typeLookup (.type "bytearray") "__release_buffer__" = pure (some (.builtin "bytearray.__release_buffer__")) := by rw [typeLookup_type, builtinLookup_eq_fast]; kernel_rfl
theorem lk_buffer : typeLookup (.type "bytearray") "__buffer__" = pure (some (.builtin "bytearray.__buffer__")) := by rw [typeLookup_type, builtinLookup_eq_fast]; kernel_rfl
theorem ends_release : ("bytearray.__release_buffer__".endsWith ("." ++ "__release_buffer__")) = true := by decide +kernel
theorem drop_release : ("bytearray.__release_buffer__".dropRight ("__release_buffer__".length + 1)) = "bytearray" := by decide +kernel
end FA
theorem own_release {S : Addr} {Q : Bool → Shared → Prop} (hT : s.TypeIs (.ref S) "bytearray") (h : Q false s) : wpAny (model prog w) A (Builtin.Bytes.ownRelease (.ref S)) Q E s := by
  unfold Builtin.Bytes.ownRelease Builtin.Bytes.slotIsOwn
  refine wpAny_bind (wpAny_bind (wpAny_specialOf hT FA.lk_release ?_))
  dsimp only
  rw [FA.ends_release, FA.drop_release]
  simp only [Bool.not_true, Bool.false_eq_true, if_false]
  refine wpAny_isInstance hT FA.sub_ba ?_
  exact wpAny_pure h
/-- in a tidy context nothing has exported the memory -/
theorem not_exported {S : Addr} {Q : Bool → Shared → Prop} (hg : A.guards = some []) (h : Q false s) : wpC (model prog w) A (Builtin.Bytes.exported (.ref S)) Q E s := by
  intro Γ p hΓ hT
  unfold Builtin.Bytes.exported
  show Q (((Γ.code, p) :: Γ.below).any _) s
  have hgs : guardsOf ((Γ.code, p) :: Γ.below) = [] := by rw [guardsOf_cons]; exact hΓ.2.2.2.1 [] hg
  have hno : ∀ q ∈ ((Γ.code, p) :: Γ.below), q.1.isGuard = false ∧ decoder q.1 = false := by
    intro q hq
    refine ⟨?_, ?_⟩
    · cases hgq : q.1.isGuard with
      | false => rfl
      | true =>
        have : q.1 ∈ guardsOf ((Γ.code, p) :: Γ.below) := by
          unfold guardsOf
          exact List.mem_filter.mpr ⟨List.mem_map_of_mem hq, hgq⟩
        rw [hgs] at this
        cases this
    · rcases List.mem_cons.mp hq with rfl | hq
      · exact hT.1
      · exact hT.2 q hq
  rw [List.any_eq_false.mpr]
  · exact h
  · intro q hq
    obtain ⟨h1, h2⟩ := hno q hq
    split
    · exact absurd h1 (by simp +decide [Code.isGuard, guardIds])
    · exact absurd h1 (by simp +decide [Code.isGuard, guardIds])
    · exact absurd h1 (by simp +decide [Code.isGuard, guardIds])
    · exact absurd h1 (by simp +decide [Code.isGuard, guardIds])
    · exact absurd h1 (by simp +decide [Code.isGuard, guardIds])
    · have h3 : Builtin.Bytes.decodersThatHold.contains _ = false := h2
      rw [h3, Bool.and_false]; exact Bool.false_ne_true
    · exact Bool.false_ne_true
theorem write_ba {S : Addr} {b : Array UInt8} {f : Array UInt8 → Array UInt8} {Q : Unit → Shared → Prop} (hS : s.heap.get? S = some { cls := .type "bytearray", data := .bytearray b }) (hz : (f b).size ≤ sizeLine)
    (h : Q () { s with heap := s.heap.update S (Obj.mapBytearray f) }) : wpAny (model prog w) A (Builtin.Bytes.write (.ref S) f) Q E s := by
  show wpAny _ _ (updateBytearray S f) _ _ _
  unfold updateBytearray
  refine wpAny_bind (wpAny_load hS ?_)
  show wpAny _ _ (update S (Obj.mapBytearray f) >>= fun _ => lookBehind S) _ _ _
  refine wpAny_bind (wpAny_update hS ?_)
  have hS₂ : (s.heap.update S (Obj.mapBytearray f)).get? S = some { cls := .type "bytearray", data := .bytearray (f b) } := Heap.get?_update_self (Obj.mapBytearray f) hS rfl
  refine wpAny_lookBehind hS₂ ?_ h
  show (if (f b).size > sizeLine then some "bytearray:memory" else none) = none
  rw [if_neg (Nat.not_lt.mpr hz)]
theorem ba_init_C {n : Int} {u : Tok} {S : Addr} {Q : PySem.Fin → Shared → Prop} (hg : A.guards = some []) (hS : s.heap.get? S = some { cls := .type "bytearray", data := .bytearray #[] }) (h0 : 0 ≤ n) (hn : n ≤ 1048576)
    (h : ∀ h', h'.get? S = some { cls := .type "bytearray", data := .bytearray (Array.replicate n.toNat 0) } → Heap.SameBut S s.heap h' → Q (.done (.ret .none)) { s with heap := h' }) :
    wpC (model prog w) A (Builtin.«bytearray.__init__» ⟨[.ref S, .int n u], []⟩) Q E s := by
  have hT : s.TypeIs (.ref S) "bytearray" := ⟨_, hS, rfl⟩
  have hb : Builtin.Bytes.bindOptional "bytearray.__init__" "bytearray" ["source", "encoding", "errors"] [.int n u] [] = pure [some (.int n u), none, none] := by kernel_rfl
  unfold Builtin.«bytearray.__init__»
  refine wpC_bindA (own_release hT ?_)
  refine ifC_no Bool.false_ne_true ?_
  refine wpC_bindA (wpAny_of_eq hb ?_)
  refine wpC_bindA (wpAny_of_eq (a := ()) rfl ?_)
  refine wpC_bindA (wpAny_of_eq (a := ()) rfl ?_)
  refine wpC_bind ?_
  show wpC _ _ (Builtin.Bytes.exported (.ref S) >>= _) _ _ _
  refine wpC_bind (not_exported hg ?_)
  refine wpC_of_any ?_
  show wpAny _ _ (Builtin.Bytes.exportsOf (.ref S) >>= _) _ _ _
  refine wpAny_bind ?_
  show wpAny _ _ (load S >>= _) _ _ _
  refine wpAny_bind (wpAny_load hS (wpAny_pure (wpAny_pure ?_)))
  refine ifC_no (by decide) ?_
  refine wpC_bindA (write_ba hS (Nat.zero_le _) ?_)
  have hS' : (s.heap.update S (Obj.mapBytearray fun _ => #[])).get? S = some { cls := .type "bytearray", data := .bytearray #[] } := Heap.get?_update_self (Obj.mapBytearray fun _ => #[]) hS rfl
  dsimp only
  refine wpC_bindA (wpAny_of_eq (a := none) rfl ?_)
  refine ifC_no Bool.false_ne_true ?_
  refine wpC_bindA (wpAny_of_eq (a := ()) rfl ?_)
  refine wpC_bindA (wpAny_specialOf (typeIs_int _ n u) F.slot_int_index.lookup ?_)
  refine ifC_yes rfl ?_
  refine wpC_bindA (wpAny_attempt (wpAny_of_eq (rfl : asIndex (.int n u) = pure n) ?_))
  dsimp only
  have hf : Builtin.Bytes.fitsIndex n = true := by
    simp only [Builtin.Bytes.fitsIndex, Bool.and_eq_true, decide_eq_true_eq]
    omega
  have hl : Builtin.Bytes.tooLong n.toNat = false := by
    simp only [Builtin.Bytes.tooLong, decide_eq_false_iff_not, sizeLine_eq]
    omega
  have h63 : ¬ (n == 2 ^ 63 - 1) = true := by
    rw [beq_iff_eq]; omega
  have hlt : ¬ n < 0 := by omega
  rw [hf, hl]
  refine ifC_no (by decide) ?_
  refine ifC_no hlt ?_
  refine ifC_no h63 ?_
  refine ifC_no Bool.false_ne_true ?_
  refine wpC_bindA (wpAny_rule ?_)
  by_cases hpos : n > 0
  · refine ifC_yes hpos ?_
    refine wpC_bindA (write_ba hS' (by rw [Array.size_replicate, sizeLine_eq]; omega) ?_)
    refine wpC_of_any (wpAny_pure ?_)
    exact h _ (Heap.get?_update_self (Obj.mapBytearray fun _ => Array.replicate n.toNat 0) hS' rfl) ((Heap.SameBut.update ..).trans (Heap.SameBut.update ..))
  · refine ifC_no hpos ?_
    refine wpC_of_any (wpAny_pure ?_)
    have e : n = 0 := by omega
    subst e
    exact h _ hS' (Heap.SameBut.update ..)
end
end Mine
namespace Mine
/-- a bytearray -/
def baObj (b : Array UInt8) : Obj := { cls := .type "bytearray", data := .bytearray b }
namespace FA
theorem args_ba_init (a b : Value) : argsOk "bytearray.__init__" ⟨[a, b], []⟩ := by unfold argsOk; kernel_rfl
theorem slot_ba_setitem : Slot "bytearray" "__setitem__" "bytearray.__setitem__" :=
  .of (owner := "bytearray") (n := "__setitem__") (by rw [typeLookup_type, builtinLookup_eq_fast]; kernel_rfl) (by decide +kernel) (by decide +kernel) (by decide +kernel)
    (by first | exact .inl (by decide +kernel) | exact .inr (by decide +kernel)) (by rw [isSubtype_type]; kernel_rfl)
theorem entry_ba_setitem : entryFor table "bytearray.__setitem__" = some Builtin.«bytearray.__setitem__» := by first | exact entryFor_of_fast (by kernel_rfl) | exact entryFor_of_tree (by kernel_rfl)
theorem args_ba_setitem (a b c : Value) : argsOk "bytearray.__setitem__" ⟨[a, b, c], []⟩ := by unfold argsOk; kernel_rfl
theorem lk_no_bytes : typeLookup (.type "bytearray") "__bytes__" = pure none := by rw [typeLookup_type, builtinLookup_eq_fast]; kernel_rfl
theorem lk_no_index : typeLookup (.type "bytearray") "__index__" = pure none := by rw [typeLookup_type, builtinLookup_eq_fast]; kernel_rfl
theorem ends_buffer : ("bytearray.__buffer__".endsWith ("." ++ "__buffer__")) = true := by decide +kernel
theorem drop_buffer : ("bytearray.__buffer__".dropRight ("__buffer__".length + 1)) = "bytearray" := by decide +kernel
end FA
section
variable {prog : Program} {w : World} {A : Around} {E : Value → Shared → Prop} {s : Shared} {h₀ : Heap} {L : Addr} {m : Str → Option Value} {news news' : List (Addr × Obj)}
theorem ifA_no {α : Type} {c : Prop} [Decidable c] {a b : Sem α} {Q : α → Shared → Prop} (hc : ¬ c) (h : wpAny (model prog w) A b Q E s) : wpAny (model prog w) A (if c then a else b) Q E s := by
  rw [if_neg hc]; exact h
theorem ifA_yes {α : Type} {c : Prop} [Decidable c] {a b : Sem α} {Q : α → Shared → Prop} (hc : c) (h : wpAny (model prog w) A a Q E s) : wpAny (model prog w) A (if c then a else b) Q E s := by
  rw [if_pos hc]; exact h
/-- bytearray(n) -/
theorem bytearray_C {n : Int} {u : Tok} {Q : Value → Shared → Prop} (F : Fr h₀ L s.heap m) (N : News h₀ L s.heap news) (hg : A.guards = some []) (h0 : 0 ≤ n) (hn : n ≤ 1048576)
    (h : ∀ a h', Fr h₀ L h' m → News h₀ L h' ((a, baObj (Array.replicate n.toNat 0)) :: news) → (∀ p ∈ news, p.1 < a) → Q (.ref a) { s with heap := h' }) :
    wpC (model prog w) A (call (.type "bytearray") [.int n u]) Q E s := by
  refine callTypeC (Q₁ := fun obj s₁ => obj = .ref s.heap.objs.size ∧ s₁ = { s with heap := s.heap.push (baObj #[]) }) FA.called_ba (FA.typeCall_ba _) (code_ba_new _ ⟨rfl, rfl⟩) ?_
  rintro obj s₁ ⟨rfl, rfl⟩
  have hS : (s.heap.push (baObj #[])).get? s.heap.objs.size = some { cls := .type "bytearray", data := .bytearray #[] } := Heap.get?_push_size _ rfl
  have hT : ({ s with heap := s.heap.push (baObj #[]) } : Shared).TypeIs (.ref s.heap.objs.size) "bytearray" := ⟨_, hS, rfl⟩
  refine ⟨hT, codeC_call_builtin (by decide +kernel) FA.plain_ba_init FA.entry_ba_init (FA.slot_ba_init.check _ _ _ _ _ _ _ _ hT (FA.args_ba_init _ _) ?_)⟩
  refine ba_init_C hg hS h0 hn fun h' ho hs => ?_
  have F₁ := F.push (baObj #[])
  have N₁ := News.push F N (baObj #[])
  have hnew := N₁ _ (.head _)
  have hap : ∀ p ∈ news, p.1 ≠ s.heap.objs.size := fun p hp => Nat.ne_of_lt (Heap.lt_size (N p hp).1)
  exact ⟨rfl, h _ h' (F₁.change hs hnew.2.1 hnew.2.2) (News.setHead N₁ hap hs ho) fun p hp => Heap.lt_size (N p hp).1⟩
/-- b[k] = v of a bytearray -/
theorem setItem_ba {D : Addr} {b : Array UInt8} {k v : Int} {t tv : Tok} {Q : Unit → Shared → Prop} (F : Fr h₀ L s.heap m) (N : News h₀ L s.heap news) (U : Upd D (baObj b) (baObj (b.setIfInBounds k.toNat v.toNat.toUInt8)) news news')
    (hz : b.size ≤ 16777216) (h0 : 0 ≤ k) (hk : k < b.size) (v0 : 0 ≤ v) (v1 : v < 256)
    (h : ∀ h', Fr h₀ L h' m → News h₀ L h' news' → Q () { s with heap := h' }) : wpAny (model prog w) A (setItem (.ref D) (.int k t) (.int v tv)) Q E s := by
  obtain ⟨pre, post, rfl, rfl, ha, hb⟩ := U.split
  have z := N (D, baObj b) (List.mem_append.mpr (.inr (.head _)))
  have hT : s.TypeIs (.ref D) "bytearray" := ⟨_, z.1, rfl⟩
  unfold setItem
  refine wpAny_holding ?_
  refine wpAny_bind (wpAny_sequenceKey hT (by decide) ?_)
  refine wpAny_bind (wpAny_callSpecial?_slot (name := Str.ofString "__setitem__") hT FA.slot_ba_setitem
    (wpAny_call_entry FA.slot_ba_setitem hT FA.entry_ba_setitem ?_ (FA.args_ba_setitem _ _ _)))
  have hf : Builtin.Bytes.fitsIndex k = true := by
    simp only [Builtin.Bytes.fitsIndex, Bool.and_eq_true, decide_eq_true_eq]
    omega
  have e : seqIndex? k b.size = some k.toNat := by
    simp [seqIndex?]
    omega
  unfold Builtin.«bytearray.__setitem__»
  refine wpAny_bind ?_
  unfold Builtin.Bytes.subscript?
  refine wpAny_bind (wpAny_specialOf (typeIs_int _ k t) PySem.F.slot_int_index.lookup ?_)
  refine ifA_no Bool.false_ne_true ?_
  refine wpAny_bind (wpAny_of_eq (rfl : asIndex (.int k t) = pure k) ?_)
  dsimp only
  rw [hf]
  refine ifA_no (by decide) ?_
  refine wpAny_pure ?_
  dsimp only
  refine wpAny_bind ?_
  unfold Builtin.Bytes.byteValue
  refine wpAny_bind (wpAny_of_eq (rfl : asIndex (.int v tv) = pure v) ?_)
  refine ifA_no (by simp only [Bool.or_eq_true, decide_eq_true_eq]; omega) ?_
  refine wpAny_pure ?_
  refine wpAny_bind ?_
  unfold Builtin.Bytes.payload Builtin.Bytes.payload?
  refine wpAny_bind (wpAny_bind (wpAny_load z.1 ?_))
  refine wpAny_pure (wpAny_pure ?_)
  rw [e]
  dsimp only
  refine wpAny_bind (write_ba z.1 (by rw [Array.size_setIfInBounds, sizeLine_eq]; exact hz) ?_)
  refine wpAny_bind (wpAny_pure (wpAny_pure ⟨_, rfl, wpAny_pure ?_⟩))
  have hs : Heap.SameBut D s.heap (s.heap.update D (Obj.mapBytearray fun x => x.setIfInBounds k.toNat v.toNat.toUInt8)) := Heap.SameBut.update ..
  have ho : (s.heap.update D (Obj.mapBytearray fun x => x.setIfInBounds k.toNat v.toNat.toUInt8)).get? D = some (baObj (b.setIfInBounds k.toNat v.toNat.toUInt8)) := Heap.get?_update_self _ z.1 rfl
  exact h _ (F.change hs z.2.1 z.2.2) (News.setAt N ha hb hs ho)
/-- bytes(b) of a bytearray -/
theorem bytes_ba {D : Addr} {b : Array UInt8} {Q : Value → Shared → Prop} (N : News h₀ L s.heap news) (hm : (D, baObj b) ∈ news) (hz : b.size ≤ 16777216)
    (h : ∀ t k, Q (.bytes b t) { s with toks := k }) : wpAny (model prog w) A (call (.type "bytes") [.ref D]) Q E s := by
  have z := N (D, baObj b) hm
  have hT : s.TypeIs (.ref D) "bytearray" := ⟨_, z.1, rfl⟩
  refine callType_codes (Q₁ := fun obj s₁ => s₁.TypeIs obj "bytes" ∧ Q obj s₁) F.bm_called (F.bm_typeCall _) F.entry_object_init ?_ fun obj s₁ h₁ => ?_
  · refine codeAny_of_tree ?_
    show wpAny _ A.in1.in1 (do checkBuiltinCall "bytes.__new__" ⟨[.type "bytes", .ref D], []⟩; again (.builtin "bytes.__new__" ⟨[.type "bytes", .ref D], []⟩)) _ _ s
    refine wpAny_bind (wpAny_of_eq (F.bm_newCall _) (wpAny_pure ⟨plainId_quiet F.bm_plain _, codeAny_builtin F.bm_entry ?_⟩))
    rw [Around.under_plainId F.bm_plain _]
    unfold Builtin.«bytes.__new__»
    refine wpAny_bind (wpAny_of_eq (a := true) rfl ?_)
    refine ifA_no (by decide) ?_
    refine wpAny_bind (wpAny_of_eq F.bm_sub ?_)
    refine ifA_no (by decide) ?_
    refine wpAny_bind (wpAny_of_eq (F.bm_bind _) ?_)
    refine wpAny_bind (wpAny_of_eq (a := ()) rfl ?_)
    refine wpAny_bind (wpAny_of_eq (a := ()) rfl ?_)
    refine ifA_no (by decide) ?_
    refine wpAny_bind (wpAny_specialOf hT FA.lk_no_bytes ?_)
    refine wpAny_bind (wpAny_bind ?_)
    show wpAny _ _ (load D >>= _) _ _ _
    refine wpAny_bind (wpAny_load z.1 ?_)
    refine wpAny_pure (wpAny_pure ?_)
    refine ifA_no (by decide) ?_
    refine wpAny_bind (wpAny_specialOf hT FA.lk_no_index ?_)
    refine ifA_yes rfl ?_
    refine wpAny_bind ?_
    unfold Builtin.Bytes.buffer?
    refine wpAny_bind (wpAny_specialOf hT FA.lk_buffer ?_)
    dsimp only
    refine wpAny_bind ?_
    unfold Builtin.Bytes.slotIsOwn
    refine wpAny_bind (wpAny_specialOf hT FA.lk_buffer ?_)
    dsimp only
    rw [FA.ends_buffer, FA.drop_buffer]
    refine ifA_no (by decide) ?_
    refine wpAny_isInstance hT FA.sub_ba ?_
    refine ifA_no (by decide) ?_
    refine wpAny_bind (wpAny_specialOf hT FA.lk_buffer ?_)
    refine wpAny_bind (own_release hT ?_)
    refine ifA_no (by decide) ?_
    refine wpAny_bind ?_
    unfold Builtin.Bytes.payload Builtin.Bytes.payload?
    refine wpAny_bind (wpAny_bind (wpAny_load z.1 ?_))
    refine wpAny_pure (wpAny_pure (wpAny_pure ?_))
    refine wpAny_bind (wpAny_rule ?_)
    refine wpAny_bind (wpAny_mkBytes ?_ (by rw [sizeLine_eq]; exact hz))
    show wpAny _ _ (if (Value.type "bytes" == Value.type "bytes") = true then _ else _) _ _ _
    refine ifA_yes (by decide) ?_
    exact wpAny_pure ⟨typeIs_bytes _ _ _, h _ _⟩
  · exact ⟨h₁.1, F.args_object_init_2 obj _, object_init_meets F.bm_called.init.lookup F.bm_called.made (by decide) prog w A.in1 _ s₁ ⟨h₁.1, rfl, h₁.2⟩⟩
end
end Mine
namespace Mine
section
variable {M : Model} {A : Around} {E : Value → Shared → Prop} {s : Shared} {env : Env} {K : Frag}
theorem wpC_pure {α : Type} {a : α} {Q : α → Shared → Prop} (h : Q a s) : wpC M A (pure a) Q E s := wpC_of_any (wpAny_pure h)
theorem wpC_execs_cons {st : Stmt} {rest : List Stmt} {Q : Flow → Shared → Prop}
    (h : wpC M A (exec st env) (fun f s' => match f with | .next => wpC M A (execs rest env) Q E s' | f => Q f s') E s) :
    wpC M A (execs (st :: rest) env) Q E s := by
  rw [execs_cons]
  refine wpC_bind (wpC_mono h (fun f s' h' => ?_) fun _ _ x => x)
  cases f <;> first | exact h' | exact wpC_pure h'
theorem wpC_execs_any {st : Stmt} {rest : List Stmt} {Q : Flow → Shared → Prop}
    (h : wpAny M A (exec st env) (fun f s' => match f with | .next => wpC M A (execs rest env) Q E s' | f => Q f s') E s) :
    wpC M A (execs (st :: rest) env) Q E s := wpC_execs_cons (wpC_of_any h)
theorem wpC_execs_nil {Q : Flow → Shared → Prop} (h : Q .next s) : wpC M A (execs [] env) Q E s := wpC_of_any (wpAny_execs_nil h)
theorem wpC_Assign_Name {x : Str} {pos' pos : Pos} {value : PySem.Expr} {Q : Flow → Shared → Prop}
    (h : wpC M A (eval value env) (fun v s₁ => wpAny M A (storeName env x v) (fun _ => Q .next) E s₁) E s)
    (hs : swapsWith value (some (.Name x pos')) pos.line env = pure false := by rfl) :
    wpC M A (exec (.Assign [.Name x pos'] value pos) env) Q E s := by
  rw [exec_Assign_Name env x pos' value pos hs]
  refine wpC_bindA (wpAny_standAt (wpC_bind (wpC_mono h (fun v s₁ h₁ => ?_) fun _ _ x => x)))
  refine wpC_bindA (wpAny_standAt (wpC_bindA ?_))
  exact wpAny_mono (wpAny_bindName h₁) (fun _ _ q => wpC_pure q) fun _ _ x => x
theorem wpC_Call {func : PySem.Expr} {args : List PySem.Expr} {pos : Pos} {Q : Value → Shared → Prop}
    (h : wpAny M A (eval func env) (fun f s₁ => wpC M A (callWith pos f [] (backTo pos (starEach args env)) []) Q E s₁) E s)
    (he : eval (.Call func args [] pos) env = (do callWith pos (← eval func env) [] (backTo pos (starEach args env)) (backToKw pos (keywordEach [] env))) := by rfl) :
    wpC M A (eval (.Call func args [] pos) env) Q E s := by
  rw [he]; exact wpC_bindA h
theorem wpC_BinOp {l r : PySem.Expr} {op : Operator} {pos : Pos} {Q : Value → Shared → Prop}
    (h : wpAny M A (eval l env) (fun a s₁ => wpC M A (eval r env) (fun b s₂ => wpAny M A (binaryOp op a b) Q E s₂) E s₁) E s)
    (he : eval (.BinOp l op r pos) env = (do
      let a ← eval l env
      let b ← holding [a] (eval r env)
      standAt pos
      operate [a, b] (binaryOp op a b)) := by rfl) :
    wpC M A (eval (.BinOp l op r pos) env) Q E s := by
  rw [he]
  refine wpC_bindA (wpAny_mono h (fun a s₁ h₁ => wpC_bind (wpC_holding (wpC_mono h₁ (fun b s₂ h₂ => ?_) fun _ _ x => x))) fun _ _ x => x)
  exact wpC_bindA (wpAny_standAt (wpC_of_any (wpAny_operateT h₂)))
theorem wpC_If {test : PySem.Expr} {body orelse : List Stmt} {pos : Pos} {Q : Flow → Shared → Prop}
    (h : wpAny M A (isTrue test env (eval test env)) (fun b s₁ => if b = true then wpC M A (execs body env) Q E s₁ else wpC M A (execs orelse env) Q E s₁) E s)
    (he : exec (.If test body orelse pos) env = (do
      standAt pos
      if ← isTrue test env (eval test env) then execs body env else execs orelse env) := by rfl) :
    wpC M A (exec (.If test body orelse pos) env) Q E s := by
  rw [he]
  refine wpC_bindA (wpAny_standAt (wpC_bindA (wpAny_mono h (fun b s₁ h₁ => ?_) fun _ _ x => x)))
  cases b with
  | true => simpa using h₁
  | false => simpa using h₁
theorem wpC_callWith_of {P : Heap → Prop} {pos : Pos} {f : Value} {first : List Value} {Q : Value → Shared → Prop} {args : List (Bool × Sem Value)} {keywords : List (Option Str × Sem Value)} (hplain : (args.any (·.1) || keywords.any (·.1.isNone)) = false)
    (hk : ∀ h, P h → ∃ k, (k = Keeper.frame ∨ k = Keeper.machine ∨ k = Keeper.boundFrame) ∧ Looks M h (keeperOf f) k)
    (h : wpAny M A (evalArgs f true args keywords) (fun a s₁ => P s₁.heap ∧ wpC M A (call f (first ++ a.pos) a.kw) Q E s₁) E s) : wpC M A (callWith pos f first args keywords) Q E s := by
  unfold callWith
  refine wpC_bindA (wpAny_holding (wpAny_mono h (fun a s₁ h₁ => wpC_bindA (wpAny_standAt ?_)) fun _ _ x => x))
  obtain ⟨k, hk', L⟩ := hk _ h₁.1
  simp only [hplain]
  refine wpC_bindA (L.here ?_)
  have tail : ∀ {t : Sem Value}, wpC M A t Q E s₁ → wpC M A (t >>= fun r => holding [r] point >>= fun _ => pure r) Q E s₁ :=
    fun ht => wpC_bind (wpC_mono ht (fun r s₂ hr => wpC_of_any (wpAny_bind (wpAny_holding (wpAny_point (wpAny_pure hr))))) fun _ _ x => x)
  have marked (mk : Value) : wpC M A (callMarked mk f (first ++ a.pos) a.kw) Q E s₁ := by
    unfold callMarked
    intro Γ p hΓ hT
    rw [Sem.wp_keep]
    exact h₁.2 Γ p hΓ hT
  rcases hk' with rfl | rfl | rfl <;> dsimp only <;> first | exact tail h₁.2 | (split <;> first | exact tail h₁.2 | exact tail (marked _))
theorem wpC_callWith_K {pos : Pos} {f : Value} {first : List Value} {Q : Value → Shared → Prop} {e : PySem.Expr} {rest : List PySem.Expr} {h₀ : Heap} (_X : K.In h₀) (hk : keepIn K f = true)
    (h : wpAny M A (spliced (backTo pos (starEach (e :: rest) env))) (fun vs s₁ => K.In s₁.heap ∧ wpC M A (call f (first ++ vs)) Q E s₁) E s)
    (he : starEach (e :: rest) env = (false, eval e env) :: starEach rest env := by rfl) (hplain : (backTo pos (starEach rest env)).any (·.1) = false := by rfl) :
    wpC M A (callWith pos f first (backTo pos (starEach (e :: rest) env)) []) Q E s := by
  rw [he] at h ⊢
  exact wpC_callWith_of (by show ((false || (backTo pos (starEach rest env)).any (·.1)) || false) = false; rw [hplain]; rfl) (keeps_K hk) (evalArgs_plain h)
theorem wpC_callWith_type {pos : Pos} {T : String} {first : List Value} {Q : Value → Shared → Prop} {e : PySem.Expr} {rest : List PySem.Expr}
    (h : wpAny M A (spliced (backTo pos (starEach (e :: rest) env))) (fun vs s₁ => wpC M A (call (.type T) (first ++ vs)) Q E s₁) E s)
    (he : starEach (e :: rest) env = (false, eval e env) :: starEach rest env := by rfl) (hplain : (backTo pos (starEach rest env)).any (·.1) = false := by rfl) :
    wpC M A (callWith pos (.type T) first (backTo pos (starEach (e :: rest) env)) []) Q E s := by
  rw [he] at h ⊢
  refine wpC_callWith_of (P := fun _ => True) (by show ((false || (backTo pos (starEach rest env)).any (·.1)) || false) = false; rw [hplain]; rfl) (fun _ _ => ⟨.machine, .inr (.inl rfl), Looks.of_pure rfl⟩) (evalArgs_plain ?_)
  exact wpAny_mono h (fun _ _ x => ⟨trivial, x⟩) fun _ _ x => x
end
end Mine
namespace Mine
abbrev WalkC (q : Program) (loose : List Str) (XP : (Str → Option Value) → Heap → Prop) (YP : World → Heap → Prop) (r : RowW) (d : DefRec) (kwd : List (Str × PySem.Expr)) : Prop :=
  ∀ (w : World) (s₀ s₁ : Shared) (mg mb : Str → Option Value), Ground q loose r.records XP w s₀ mg mb s₁.heap → YP w s₁.heap → ∀ (a : Addr) (o : Obj) (pm cd doc dV kV : Value), s₁.heap.get? a = some o →
    o.data = .func { docDef d.name d.params d.body d.scope pm cd doc with defaults := dV, kwdefaults := kV } → s₁.heap.CodeRec cd d.name → Dflts mg s₁.heap d.params kwd dV kV → mg d.name = some (.ref a) → s₁.gens = #[] →
    ∀ (args : List WData) (vals : List Value) (as : List Addr), r.claim.pre args = true → WData.layableAll args = true → ReadsAllW r.records (classAt s₀.heap) s₁.heap vals args as → WellAll w.params s₁.heap vals args → (∀ a ∈ as, (a == sysModules) = false) →
      wpC (model r.prog w) callerA (call (.ref a) vals) (fun v s' => GoodWG r.claim (classAt s₀.heap) (ExcName.means s₀.heap) args s₁ (.ok (.ret v)) s')
        (fun e s' => GoodWG r.claim (classAt s₀.heap) (ExcName.means s₀.heap) args s₁ (.error e) s') s₁
theorem caller_tidy : Tidy (⟨.builtin "claim.caller" {}, none, none, [], none⟩ : Ctx) := ⟨by decide +kernel, fun _ h => nomatch h⟩
theorem thread_C {prog : Program} {w : World} {t : Sem PySem.Fin} {s : Shared} {R : Result → Shared → Prop} (hreg : s.asleep)
    (h : wpC (model prog w) callerA t (fun fin s' => ∃ f, fin = .done f ∧ (R (.ok f) s' ∧ leftWithCleanup s'.gens = false)) (fun e s' => R (.error e) s' ∧ leftWithCleanup s'.gens = false) s) :
    ∃ n r s' s'', runN (denote table) prog w n s ⟨t, .builtin "claim.caller" {}, default, []⟩ = .halted (outcomeOf r) s' ∧
      schedN (denote table) prog w n (.single s ⟨t, .builtin "claim.caller" {}, default, []⟩) = .halted (outcomeOf r) s' ∧ s'.forget = s''.forget ∧ R r s'' := by
  have hw : Sem.wp (model prog w) ⟨.builtin "claim.caller" {}, none, none, [], none⟩ t (Sem.finPost (model prog w) ⟨.builtin "claim.caller" {}, none, none, [], none⟩ fun r s' => R r s' ∧ leftWithCleanup s'.gens = false)
      (fun e _ s' => R (.error e) s' ∧ leftWithCleanup s'.gens = false) default s := by
    refine Sem.wp_mono _ _ t (fun fin p' s' h' => ?_) (fun _ _ _ h' => h') _ _ (h _ default caller_in caller_tidy)
    obtain ⟨f, rfl, hf⟩ := h'
    exact hf
  obtain ⟨n, r, s₁, s₂, hs, hn, hfo, hR⟩ := wp_halts_full (M := model prog w) (R := R) hreg hw
  exact ⟨n, r, s₂, s₁, hn, hs, hfo, hR⟩
theorem callFrom_C {c : ClaimW} {tree : List Value → Sem PySem.Fin} {w : World} {s : Shared} {free : Addr → Prop} {gens : Prop} {kept : Heap → Prop} (hz : s.asleep) (hgens : s.gens = #[])
    (hspec : ∀ args, c.pre args = true → WData.layableAll args = true →
      ∀ ord : List DictEntry → List DictEntry, (∀ l, (ord l).Perm l) →
      ∃ vs s₁, layAllW c.records (classAt s.heap) w.params ord args s = some (vs, s₁) ∧
        wpC (model c.prog w) callerA (tree vs) (fun fin s' => ∃ f, fin = .done f ∧ (c.Ends s args vs s₁ (.ok f) s' ∧ s'.os = s.os ∧ AllBare s'.gens ∧ kept s'.heap))
          (fun e s' => c.Ends s args vs s₁ (.error e) s' ∧ s'.os = s.os ∧ AllBare s'.gens ∧ kept s'.heap) s₁) :
    c.CallFrom (fun vs => ⟨tree vs, .builtin "claim.caller" {}, default, []⟩) w free gens kept s := by
  intro args hpre hlay ord hord
  obtain ⟨vs, s₁, hlaid, hcode⟩ := hspec args hpre hlay ord hord
  have hal := layAllW_rest _ _ _ hlaid
  obtain ⟨k, r, s', s'', hrun, hsched, hfo, hcase, hos, hkp⟩ := thread_C (prog := c.prog) (w := w) (t := tree vs) (s := s₁)
    (R := fun r s' => c.Ends s args vs s₁ r s' ∧ s'.os = s.os ∧ kept s'.heap)
    (Shared.asleep_of_life hal.2.2.2 hz)
    (wpC_mono hcode (by
      rintro fin s' ⟨f, e, h1, h2, h3, h4⟩
      exact ⟨f, e, ⟨h1, h2, h4⟩, leftWithCleanup_false_of_bare h3⟩) (by
      rintro e s' ⟨h1, h2, h3, h4⟩
      exact ⟨⟨h1, h2, h4⟩, leftWithCleanup_false_of_bare h3⟩))
  obtain ⟨eh, _, _, eo, _⟩ := Shared.forget_eq hfo
  have hcase := hcase.congr eh
  have hkp : kept s'.heap := by first | exact eh ▸ hkp | (rw [eh] at hkp; exact hkp) | (rw [← eh] at hkp; exact hkp)
  rw [← eo] at hos
  have hlife : s'.heap.life = s.heap.life := (runN_life _ _ _ hrun).trans hal.2.2.2
  refine ⟨vs, s₁, hlaid, k, _, s', hsched, ?_, (fun _ i x hx => by rw [hgens] at hx; simp at hx), hkp, by rw [hlife], Shared.rest_eq hos⟩
  rcases hcase with ⟨v, rfl, d1, d2, d3, d4, d5⟩ | ⟨e, ob, cls, rfl, d1, d2, d3, d4, d5⟩
  · exact .inl ⟨v, rfl, d1, d2, d3, fun b o y _ => d4 b o y, d5⟩
  · exact .inr ⟨e, ob, cls, rfl, d1, d2, d3, d4, fun b o y _ => d5 b o y⟩
/-- the head, in the tidy logic: the name stands where the head's line looks for it -/
theorem PySem.W.holds_open {r : OpenRow} {q : Program} {loose : List Str} {Xt : Shared → Bool} {XP : (Str → Option Value) → Heap → Prop} {α : Type} {Yf : Shared → α} {Ya : World → α} {YP : World → Heap → Prop} {d : DefRec} {kwd : List (Str × PySem.Expr)} {N : Nat}
    (left : LeftO r.prog q loose Xt Yf Ya N) (hY : ∀ w s, Yf s = Ya w → YP w s.heap) (hYk : ∀ w h h', YP w h → (∀ b o, h.get? b = some o → h'.get? b = some o) → YP w h')
    (hX : ∀ s, Xt s = true → XP (s.heap.nsMap mainGlobals) s.heap) (hXk : ∀ mg h h', XP mg h → (∀ b o, h.get? b = some o → h'.get? b = some o) → XP mg h')
    (hdef : defOf q r.name = some (d, kwd)) (hp : r.prog.theDef r.name = some (d.params, d.body, d.scope)) (hk : kwWritten? d.params.kwonlyargs d.params.kw_defaults = some kwd) (hRf : ∀ s, Xt s = true → RecFacts r.records s.heap) (hwr : (!r.writes || r.records.isEmpty) = true)
    (k1 : r.wellSaid = true) (ok : (chainsOk q && opensWell r.prog && (frees r.toRowW && r.within.isEmpty)) = true) (hb : r.prog.bare) (hw : r.toRowW.promised)
    (walk : WalkC q loose XP YP r.toRowW d kwd) : r.Holds := by
  refine ⟨k1, hw, ?_⟩
  obtain ⟨ok, k5⟩ := Bool.and_eq_true_iff.mp ok
  obtain ⟨hch, o1⟩ := Bool.and_eq_true_iff.mp ok
  obtain ⟨k5, k6⟩ := Bool.and_eq_true_iff.mp k5
  obtain ⟨hsame, hu, ha, hap, hm⟩ := frees_parts k5
  refine ⟨⟨hb, o1, by show r.makers.map _ = []; rw [hm]; rfl⟩, hw.witness, fun w => ⟨(left.behind hX hch w).1, fun s' hs' => ?_⟩⟩
  obtain ⟨s₀, hf, hg0, s, hT, hz, hgens, hg, G00, y⟩ := (left.behind (XP := fun mg h => XP mg h ∧ RecFacts r.records h) (fun s hs => ⟨hX s hs, hRf s hs⟩) hch w).2 s' hs'
  have G0 : Ground q loose [] XP w s (s.heap.nsMap mainGlobals) (s.heap.nsMap builtinsNs) s.heap := ⟨G00.T, G00.B, G00.D, G00.TE, G00.TD, G00.W, G00.X.1, G00.cls, G00.has, G00.apart, G00.once, G00.K⟩
  have RF := G00.X.2
  have hT' := hT
  refine ⟨s₀, hf, hg0, s, hT, fun n hn => ?_, RF.1, RF.2.1, ?_⟩
  · obtain rfl : n = r.name := by split at hn <;> simp_all
    exact pinned_of_view hg G0 hdef hp hk
  have hgens : s.gens = #[] := Array.eq_empty_of_size_eq_zero (beq_iff_eq.mp hgens)
  have G : Ground q loose r.records XP w s _ _ s.heap := RF.ground G0
  refine callFrom_C (c := r.toRowW.claim) hz hgens fun args hpre hlay ord hord => ?_
  obtain ⟨⟨vs, s₁⟩, hlaid⟩ := Option.isSome_iff_exists.mp (layAllW_isSome (P := w.params) (ord := ord) G.has args r.args s (pre_splitW hpre).1)
  have keeps := layAllW_keeps _ _ _ hlaid
  have hal := layAllW_rest _ _ _ hlaid
  obtain ⟨as, hrd, hin, hold⟩ := reads_layAllW hord _ _ _ hlaid hlay s₁.heap (fun _ _ e => e)
  have L : Laid r.records w s s₁ args vs as := ⟨⟨ord, hord, hlaid⟩, hrd, hin, hold, keeps, hal.1.trans hgens, hal.2.2.1⟩
  have G₁ := G.keeps hXk keeps
  obtain ⟨a, o, pm, cd, doc, dV, kV, h1, h2, h3, h4, h5⟩ := G₁.fn hdef
  have h := walk w s s₁ _ _ G₁ (hYk _ _ _ (hY w s y) keeps) a o pm cd doc dV kV h2 h3 h4 h5 (defOf_name hdef ▸ h1) L.gens args vs as hpre hlay L.reads L.well (L.low G.low)
  have hi := ident_freeW hu ha hap
  have hwi : r.toRowW.claim.within = [] := List.isEmpty_iff.mp k6
  refine ⟨vs, s₁, hlaid, ?_⟩
  refine wpC_bindA (wpAny_nsGet G₁.T.g ?_)
  rw [show (s.heap.nsMap mainGlobals) r.name = some (.ref a) from h1]
  refine wpC_bind (wpC_mono h (fun v s' g => wpC_pure ?_) fun e s' g => ?_)
  · exact ⟨_, rfl, have z := g.laid (c := r.toRowW.claim) hsame hwi hi L; ⟨z.1, z.2.1, z.2.2, fun q => ⟨namesKept_of hT' hg _ keeps g.2.1.old, noTable hwr q⟩⟩⟩
  · exact have z := g.laid (c := r.toRowW.claim) hsame hwi hi L; ⟨z.1, z.2.1, z.2.2, fun q => ⟨namesKept_of hT' hg _ keeps g.2.1.old, noTable hwr q⟩⟩
end Mine
namespace Mine
def Halt (P : Prop) : Prop := P
theorem Halt.of {P : Prop} (h : Halt P) : P := h
theorem Halt.on {P : Prop} (h : P) : Halt P := h
/-- a slice of a list by two places -/
def cut (l : List UInt8) (lo hi : Nat) : List UInt8 := (l.drop lo).take (hi - lo)
section
variable {prog : Program} {w : World} {A : Around} {E : Value → Shared → Prop} {s : Shared} {h₀ : Heap} {L : Addr} {m : Str → Option Value} {news : List (Addr × Obj)}
theorem addB {b c : List UInt8} {t u : Tok} {Q : Value → Shared → Prop} (hsz : b.length + c.length ≤ 16777216) (h : ∀ t' k, Q (.bytes (b ++ c).toArray t') { s with toks := k }) :
    wpAny (model prog w) A (binaryOp .Add (.bytes b.toArray t) (.bytes c.toArray u)) Q E s := by
  refine KBy.add_bytes (by simpa using hsz) fun t' k => ?_
  rw [List.append_toArray]
  exact h t' k
theorem lenB {b : List UInt8} {t : Tok} {Q : Value → Shared → Prop} (hsz : b.length ≤ 16777216) (h : Q (.int b.length (s.toks + 1)) { s with toks := s.toks + 1 + 1 }) : wpAny (model prog w) A (call (.builtin "len") [.bytes b.toArray t]) Q E s := by
  refine len_bytes (by simp; omega) ?_
  simpa using h
theorem mulA {n : Int} {t u : Tok} {Q : Value → Shared → Prop} (hlo : -1048576 ≤ n) (hn : n ≤ 1048576) (h : ∀ t' k, Q (.bytes (List.replicate n.toNat 65).toArray t') { s with toks := k }) :
    wpAny (model prog w) A (binaryOp .Mult (.bytes #[65] t) (.int n u)) Q E s := by
  refine bytes_mul_any (b := [65]) (by decide) hlo hn (by decide) fun t' k => ?_
  have e : (List.replicate n.toNat [(65 : UInt8)]).flatten = List.replicate n.toNat 65 := by
    generalize n.toNat = j
    induction j with
    | zero => rfl
    | succ j ih => rw [List.replicate_succ, List.flatten_cons, ih, List.replicate_succ]; rfl
  rw [e]
  exact h t' k
theorem cut_clip (l : List UInt8) (lo hi : Nat) : (l.drop (min lo l.length)).take (min hi l.length - min lo l.length) = cut l lo hi := by
  unfold cut
  rcases Nat.le_total lo l.length with h1 | h1
  · rw [Nat.min_eq_left h1]
    rcases Nat.le_total hi l.length with h2 | h2
    · rw [Nat.min_eq_left h2]
    · rw [Nat.min_eq_right h2]
      have e1 : (l.drop lo).length = l.length - lo := List.length_drop
      rw [List.take_of_length_le (by omega), List.take_of_length_le (by omega)]
  · rw [Nat.min_eq_right h1, List.drop_of_length_le (Nat.le_refl _), List.drop_of_length_le h1]
    simp
theorem picked_cut (l : List UInt8) {lo hi : Int} (h0 : 0 ≤ lo) (h1 : 0 ≤ hi) : KBy.picked l.toArray (some lo) (some hi) = (cut l lo.toNat hi.toNat).toArray := by
  rw [KBc.picked_eq]
  have e : ∀ k : Int, 0 ≤ k → clipAt l.toArray.size k = min k.toNat l.length := by
    intro k hk
    have h2 := clipAt_nat l.toArray.size k.toNat
    rw [Int.toNat_of_nonneg hk] at h2
    rw [h2, List.size_toArray]
  simp only [Option.elim, e lo h0, e hi h1]
  rw [cut_clip]
theorem picked_cut0 (l : List UInt8) {hi : Int} (h1 : 0 ≤ hi) : KBy.picked l.toArray none (some hi) = (cut l 0 hi.toNat).toArray := by
  rw [KBc.picked_eq]
  have h2 := clipAt_nat l.toArray.size hi.toNat
  rw [Int.toNat_of_nonneg h1, List.size_toArray] at h2
  simp only [Option.elim, List.size_toArray, h2]
  have := cut_clip l 0 hi.toNat
  rw [Nat.zero_min] at this
  rw [this]
theorem sliceB {value slice : PySem.Expr} {b : List UInt8} {t tl tu : Tok} {lo hi : Int} {Q : Value → Shared → Prop} (hF : Fr h₀ L s.heap m) (hN : News h₀ L s.heap news) (h0 : 0 ≤ lo) (h1 : 0 ≤ hi) (hz : b.length ≤ 16777216)
    (h : ∀ h' t' k, Fr h₀ L h' m → News h₀ L h' news → Q (.bytes (cut b lo.toNat hi.toNat).toArray t') { s with heap := h', toks := k })
    (hs : subscripted slice false (.bytes b.toArray t) (.ref s.heap.objs.size) = operate [.ref s.heap.objs.size, .bytes b.toArray t] (getItem (.bytes b.toArray t) (.ref s.heap.objs.size)) := by with_unfolding_all rfl)
    (ht : ∀ r, letTemporaryGo value (.bytes b.toArray t) r = pure () := by intro _; with_unfolding_all rfl) :
    wpAny (model prog w) A (subscriptTail value slice (.bytes b.toArray t) (.ref s.heap.objs.size)) Q E { s with heap := s.heap.push { cls := .type "slice", data := .fields #[.int lo tl, .int hi tu, .none] } } := by
  refine KBc.slice_K (l := .int lo tl) (u := .int hi tu) hF hN rfl (by constructor) (by constructor) (by rw [KBw.ints_length]; simpa using hz) (fun h' t' k F' N' _ => ?_) hs ht
  rw [picked_cut b h0 h1]
  exact h h' t' k F' N'
theorem sliceB0 {value slice : PySem.Expr} {b : List UInt8} {t tu : Tok} {hi : Int} {Q : Value → Shared → Prop} (hF : Fr h₀ L s.heap m) (hN : News h₀ L s.heap news) (h1 : 0 ≤ hi) (hz : b.length ≤ 16777216)
    (h : ∀ h' t' k, Fr h₀ L h' m → News h₀ L h' news → Q (.bytes (cut b 0 hi.toNat).toArray t') { s with heap := h', toks := k })
    (hs : subscripted slice false (.bytes b.toArray t) (.ref s.heap.objs.size) = operate [.ref s.heap.objs.size, .bytes b.toArray t] (getItem (.bytes b.toArray t) (.ref s.heap.objs.size)) := by with_unfolding_all rfl)
    (ht : ∀ r, letTemporaryGo value (.bytes b.toArray t) r = pure () := by intro _; with_unfolding_all rfl) :
    wpAny (model prog w) A (subscriptTail value slice (.bytes b.toArray t) (.ref s.heap.objs.size)) Q E { s with heap := s.heap.push { cls := .type "slice", data := .fields #[.none, .int hi tu, .none] } } := by
  refine KBc.slice_K (l := .none) (u := .int hi tu) hF hN rfl (by constructor) (by constructor) (by rw [KBw.ints_length]; simpa using hz) (fun h' t' k F' N' _ => ?_) hs ht
  rw [picked_cut0 b h1]
  exact h h' t' k F' N'
end
/-- the word of a number in the letters A to P -/
def apW (n : Nat) : List UInt8 := if n = 0 then [] else apW (n / 16) ++ [UInt8.ofNat (65 + n % 16)]
theorem apW_zero : apW 0 = [] := by unfold apW; simp
theorem apW_pos {n : Nat} (h : n ≠ 0) : apW n = apW (n / 16) ++ [UInt8.ofNat (65 + n % 16)] := by rw [apW]; simp [h]
end Mine
namespace Mine
section
variable {prog : Program} {w : World} {A : Around} {E : Value → Shared → Prop} {s : Shared} {env : Env} {h₀ : Heap} {x : Str} {body : List Stmt} {Q : Flow → Shared → Prop}
/-- a loop over a range of any step, by what holds of its state -/
theorem kst_step {σ : Type} {r : Addr} {a₀ b₀ d₀ : Int} {t₀ u₀ v₀ : Tok} {n : Nat} {m₀ : Str → Option Value} (Led : σ → List (Addr × Obj)) (ps : σ → List (Str × Value)) (Facts : σ → Prop) (stored : List Str) (P : List Int → σ → Prop) (c₀ : σ)
    (hh : A.handled = none) (hr : IsRange s.heap r a₀ b₀ d₀ t₀ u₀ v₀) (hsmall : Builtin.Range.small a₀ b₀ d₀ = true) (hn : Builtin.Range.rangeSize a₀ b₀ d₀ = (n : Int)) (F : Fr h₀ env.locals s.heap m₀) (N : News h₀ env.locals s.heap (Led c₀)) (hf : Facts c₀) (hk : ∀ p ∈ ps c₀, m₀ p.1 = some p.2) (hp : P [] c₀)
    (turn : ∀ (c : σ) (pre : List Int) (k : Int) t (u : Str → Option Value) h tk own, k = a₀ + (pre.length : Int) * d₀ → pre.length < n → OwnOff own ((Led c₀).map (·.1)) → Facts c → P pre c →
      Fr h₀ env.locals h (fun y => if y = x then some (.int k t) else kstB (fun z => if stored.contains z then u z else m₀ z) (ps c) y) → News h₀ env.locals h (Led c ++ own) →
      wpAny (model prog w) A (execs body env) (InvPostN h₀ env.locals (KstS Led ps Facts x stored m₀ P (pre ++ [k])) own ((Led c₀).map (·.1)) { s with heap := h, toks := tk } Q) E { s with heap := h, toks := tk })
    (done : ∀ (c : σ) (u : Str → Option Value) h tk, Facts c → P (rangeInts a₀ d₀ n) c → Fr h₀ env.locals h (fun y => if y = x then u y else kstB (fun z => if stored.contains z then u z else m₀ z) (ps c) y) → News h₀ env.locals h (Led c) → Q .next { s with heap := h, toks := tk }) :
    wpAny (model prog w) A (pyIter (.ref r)) (fun it s₂ => LoopAtV prog w A h₀ env x body Q E it s₂) E s := by
  refine wpAny_pyIter_range hr hsmall ?_
  have W : Walks prog w A s.heap.objs.size [s.heap.objs.size] [s.heap.objs.size] n (fun i v => i < n ∧ ∃ t, v = .int (a₀ + i * d₀) t)
      (fun i h => IsRangeIter h s.heap.objs.size (a₀ + (i : Nat) * d₀) ((n : Int) - (i : Nat)) d₀) := (Walks.range hh _ a₀ d₀ n).bound
  refine loop_invN (fun i m nx => KstS Led ps Facts x stored m₀ P ((rangeInts a₀ d₀ n).take i) m nx) W ?_ ?_ ?_ ?_ (by show IsRangeIter _ _ _ _ _; rw [hn]; simpa using Heap.get?_push_size _ rfl) (F.push _) (fun p hp => ⟨Heap.get?_push_of_some _ (N p hp).1, (N p hp).2⟩) ⟨c₀, rfl, hf, hk, fun _ _ _ _ => rfl, by simpa using hp⟩ ?_ ?_
  · intro hm
    exact absurd F.ns.lt ((List.mem_singleton.mp hm) ▸ Nat.lt_irrefl _)
  · intro b hb
    rw [List.mem_singleton.mp hb]
    exact next_is_new F
  · intro p hp hI
    exact absurd (Heap.lt_size (N p hp).1) ((List.mem_singleton.mp hI) ▸ Nat.lt_irrefl _)
  · intro p hp hI
    exact absurd (Heap.lt_size (N p hp).1) ((List.mem_singleton.mp hI) ▸ Nat.lt_irrefl _)
  · rintro i v m₁ nx h tk own hi ⟨_, t, rfl⟩ _ hoff ⟨c, rfl, hf', h1, h2, hp'⟩ F₁ N₁
    have hs : (rangeInts a₀ d₀ n).take (i + 1) = (rangeInts a₀ d₀ n).take i ++ [a₀ + (i : Int) * d₀] := by simp [List.take_add_one, rangeInts_get hi]
    have hlen : ((rangeInts a₀ d₀ n).take i).length = i := by rw [List.length_take, rangeInts_length]; omega
    rw [hs]
    exact turn c _ _ t m₁ h tk own (by rw [hlen]) (by rw [hlen]; exact hi) hoff hf' hp' (kst_fr h1 h2 F₁) N₁
  · rintro m₁ nx h tk ⟨c, rfl, hf', h1, h2, hp'⟩ F₁ N₁
    have hl : (rangeInts a₀ d₀ n).take n = rangeInts a₀ d₀ n := List.take_of_length_le (Nat.le_of_eq (rangeInts_length _ _ _))
    rw [hl] at hp'
    exact done c m₁ h tk hf' hp' (kst_frOut h1 h2 F₁) N₁
end
/-- each group of wd letters turned about, k groups -/
def swapN (wd : Nat) : Nat → List UInt8 → List UInt8
  | 0, _ => []
  | k + 1, d => (d.take wd).reverse ++ swapN wd k (d.drop wd)
/-- the bytearray within the turn p of the outer loop, q turns of the inner one done -/
def midA (wd k p q : Nat) (d : List UInt8) : List UInt8 :=
  swapN wd p d ++ (List.replicate (wd - q) 0 ++ ((d.drop (p * wd)).take q).reverse) ++ List.replicate ((k - p - 1) * wd) 0
theorem swapN_length {wd : Nat} : ∀ {p : Nat} {d : List UInt8}, p * wd ≤ d.length → (swapN wd p d).length = p * wd
  | 0, _, _ => by simp [swapN]
  | p + 1, d, h => by
    rw [Nat.succ_mul] at h
    have h1 : wd ≤ d.length := by omega
    rw [swapN, List.length_append, List.length_reverse, List.length_take, Nat.min_eq_left h1, swapN_length (by rw [List.length_drop]; omega), Nat.succ_mul]
    omega
theorem swapN_succ {wd : Nat} : ∀ {p : Nat} {d : List UInt8}, swapN wd (p + 1) d = swapN wd p d ++ ((d.drop (p * wd)).take wd).reverse
  | 0, d => by simp [swapN]
  | p + 1, d => by
    rw [swapN, swapN_succ, swapN, List.append_assoc, List.drop_drop, Nat.succ_mul, Nat.add_comm wd]
theorem set_mid (P X S : List UInt8) (r : Nat) (v : UInt8) : (P ++ (List.replicate (r + 1) 0 ++ X) ++ S).set (P.length + r) v = P ++ (List.replicate r 0 ++ (v :: X)) ++ S := by
  have e : List.replicate (r + 1) (0 : UInt8) = List.replicate r 0 ++ [0] := List.replicate_succ'
  rw [e]
  simp only [List.append_assoc]
  rw [List.set_append_right _ _ (by omega), Nat.add_sub_cancel_left, List.set_append_right _ _ (by simp)]
  simp
theorem midA_start {wd k p : Nat} {d : List UInt8} (hp : p < k) : swapN wd p d ++ List.replicate ((k - p) * wd) 0 = midA wd k p 0 d := by
  unfold midA
  have e : (k - p) * wd = wd + (k - p - 1) * wd := by
    obtain ⟨j, hj⟩ : ∃ j, k - p = j + 1 := ⟨k - p - 1, by omega⟩
    rw [hj, Nat.succ_mul, Nat.add_sub_cancel]; omega
  rw [e, List.take_zero, List.reverse_nil, List.append_nil, Nat.sub_zero, List.append_assoc, List.replicate_append_replicate]
theorem midA_end {wd k p : Nat} {d : List UInt8} : midA wd k p wd d = swapN wd (p + 1) d ++ List.replicate ((k - (p + 1)) * wd) 0 := by
  unfold midA
  rw [Nat.sub_self, List.replicate_zero, List.nil_append, swapN_succ]
  rfl
theorem midA_step {wd k p q : Nat} {d : List UInt8} (hq : q < wd) (hp : p < k) (hd : d.length = k * wd) :
    (midA wd k p q d).set (p * wd + (wd - 1 - q)) (d.getD (p * wd + q) 0) = midA wd k p (q + 1) d := by
  have hle : p * wd + wd ≤ d.length := by
    rw [hd, ← Nat.succ_mul]; exact Nat.mul_le_mul_right _ hp
  unfold midA
  have e : wd - q = (wd - 1 - q) + 1 := by omega
  have hl : (swapN wd p d).length = p * wd := swapN_length (by omega)
  rw [e, ← hl, set_mid, hl]
  have e2 : wd - (q + 1) = wd - 1 - q := by omega
  have e3 : (d.drop (p * wd)).take (q + 1) = (d.drop (p * wd)).take q ++ [d.getD (p * wd + q) 0] := by
    rw [List.take_add_one, List.getElem?_drop, List.getD_eq_getElem?_getD, List.getElem?_eq_getElem (by omega)]
    rfl
  rw [e2, e3, List.reverse_append]
  rfl
theorem midA_length {wd k p q : Nat} {d : List UInt8} (hq : q ≤ wd) (hp : p < k) (hd : d.length = k * wd) : (midA wd k p q d).length = k * wd := by
  have hle : p * wd + wd ≤ d.length := by
    rw [hd, ← Nat.succ_mul]; exact Nat.mul_le_mul_right _ hp
  have hl : (swapN wd p d).length = p * wd := swapN_length (by omega)
  unfold midA
  simp only [List.length_append, List.length_replicate, List.length_reverse, List.length_take, List.length_drop, hl]
  have e : k * wd = p * wd + wd + (k - p - 1) * wd := by
    obtain ⟨j, rfl⟩ : ∃ j, k = p + 1 + j := ⟨k - p - 1, by omega⟩
    rw [show p + 1 + j - p - 1 = j by omega, Nat.add_mul, Nat.add_mul, Nat.one_mul]
  omega
end Mine
namespace Mine
/-- what a call of the def at f hands back, whatever the ledger -/
abbrev Said (prog : Program) (w : World) (K : Frag) (p : Program) (loose : List Str) (mean : ExcName → Option Value) (mg mb : Str → Option Value) (f : Addr) (k : Nat) (news : List (Addr × Obj)) (pre : Prop) (vs : List Value) (R : Tok → Value) : Prop :=
  ∀ (dp un : Nat) (gd : Option (List Code)) (cn : Str) (cs : Scope) (a : Addr) (ccd : Value) (cl : List (Str × Addr)) (outer : List Env) (A₀ : Around) (base h₀ : Heap) (L : Addr) (m : Str → Option Value) (s : Shared) (Q E : Value → Shared → Prop),
    Below A₀ base outer h₀ → Fr h₀ L s.heap m → K.In h₀ → News h₀ L s.heap news → Top p loose mean mg mb h₀ → cs.kind = .function → pre → dp + k < recursionLimit → un + 8 * k < cLine →
    (∀ (t : Tok) (h' : Heap) (tk' : Nat), Fr h₀ L h' m → News h₀ L h' news → Q (R t) { s with heap := h', toks := tk' }) →
      wpAny (model prog w) (ktrTop dp un gd cn cs L a ccd cl outer) (call (.ref f) vs) Q E s
/-- the same in the tidy logic -/
abbrev SaidC (prog : Program) (w : World) (K : Frag) (p : Program) (loose : List Str) (mean : ExcName → Option Value) (mg mb : Str → Option Value) (f : Addr) (k : Nat) (news : List (Addr × Obj)) (pre : Prop) (vs : List Value) (R : Tok → Value) : Prop :=
  ∀ (dp un : Nat) (cn : Str) (cs : Scope) (a : Addr) (ccd : Value) (cl : List (Str × Addr)) (outer : List Env) (A₀ : Around) (base h₀ : Heap) (L : Addr) (m : Str → Option Value) (s : Shared) (Q E : Value → Shared → Prop),
    Below A₀ base outer h₀ → Fr h₀ L s.heap m → K.In h₀ → News h₀ L s.heap news → Top p loose mean mg mb h₀ → cs.kind = .function → pre → dp + k < recursionLimit → un + 8 * k < cLine →
    (∀ (t : Tok) (h' : Heap) (tk' : Nat), Fr h₀ L h' m → News h₀ L h' news → Q (R t) { s with heap := h', toks := tk' }) →
      wpC (model prog w) (ktrTop dp un (some []) cn cs L a ccd cl outer) (call (.ref f) vs) Q E s
section
variable {prog : Program} {w : World} {K : Frag} {p : Program} {loose : List Str} {mean : ExcName → Option Value} {mg mb : Str → Option Value} {f : Addr} {k : Nat} {news : List (Addr × Obj)} {pre : Prop} {vs : List Value} {R : Tok → Value}
  {dp un : Nat} {gd : Option (List Code)} {cn : Str} {cs : Scope} {a : Addr} {ccd : Value} {cl : List (Str × Addr)} {outer : List Env} {A₀ : Around} {base h₀ : Heap} {L : Addr} {m : Str → Option Value} {s : Shared} {Q E : Value → Shared → Prop}
theorem said_use (C : Said prog w K p loose mean mg mb f k news pre vs R) (B : Below A₀ base outer h₀) (F : Fr h₀ L s.heap m) (X : K.In h₀) (N : News h₀ L s.heap news) (T : Top p loose mean mg mb h₀) (hk : cs.kind = .function) (hp : pre) (hd : dp + k < recursionLimit) (hu : un + 8 * k < cLine)
    (ret : ∀ (t : Tok) (h' : Heap) (tk' : Nat), Fr h₀ L h' m → News h₀ L h' news → Q (R t) { s with heap := h', toks := tk' }) :
    wpAny (model prog w) (ktrTop dp un gd cn cs L a ccd cl outer) (call (.ref f) vs) Q E s := C _ _ _ _ _ _ _ _ _ _ _ _ _ _ _ _ _ B F X N T hk hp hd hu ret
theorem saidC_use (C : SaidC prog w K p loose mean mg mb f k news pre vs R) (B : Below A₀ base outer h₀) (F : Fr h₀ L s.heap m) (X : K.In h₀) (N : News h₀ L s.heap news) (T : Top p loose mean mg mb h₀) (hk : cs.kind = .function) (hp : pre) (hd : dp + k < recursionLimit) (hu : un + 8 * k < cLine)
    (ret : ∀ (t : Tok) (h' : Heap) (tk' : Nat), Fr h₀ L h' m → News h₀ L h' news → Q (R t) { s with heap := h', toks := tk' }) :
    wpC (model prog w) (ktrTop dp un (some []) cn cs L a ccd cl outer) (call (.ref f) vs) Q E s := C _ _ _ _ _ _ _ _ _ _ _ _ _ _ _ _ B F X N T hk hp hd hu ret
end
theorem range_size {k wd : Nat} (hw : 0 < wd) : Builtin.Range.rangeSize 0 ((k * wd : Nat) : Int) (wd : Int) = (k : Int) := by
  unfold Builtin.Range.rangeSize
  rw [if_pos (by omega)]
  rcases Nat.eq_zero_or_pos k with rfl | hk
  · simp
  · have h1 : 0 < k * wd := Nat.mul_pos hk hw
    rw [if_pos (by omega)]
    obtain ⟨j, rfl⟩ : ∃ j, k = j + 1 := ⟨k - 1, by omega⟩
    have e : (((j + 1) * wd : Nat) : Int) - 0 - 1 = ((j * wd + (wd - 1) : Nat) : Int) := by
      rw [Nat.succ_mul]; omega
    rw [e, ← Int.natCast_ediv]
    have e2 : (j * wd + (wd - 1)) / wd = j := by
      rw [Nat.mul_comm, Nat.mul_add_div hw, Nat.div_eq_of_lt (by omega)]; omega
    rw [e2]; rfl
theorem range_small {b : Nat} {k wd : Nat} (hb : (b : Int) = (k : Int) * wd) (hw : 0 < wd) (hw' : wd ≤ 1000) (hb' : b ≤ 1000) : Builtin.Range.small 0 (b : Int) (wd : Int) = true := by
  have hb2 : b = k * wd := by
    have := hb
    rw [← Int.natCast_mul] at this
    exact Int.ofNat.inj this
  have hs : Builtin.Range.rangeSize 0 (b : Int) (wd : Int) = (k : Int) := by rw [hb2]; exact range_size hw
  have hk : k ≤ b := by rw [hb2]; exact Nat.le_mul_of_pos_right _ hw
  unfold Builtin.Range.small
  rw [hs, if_pos (by omega)]
  simp only [Builtin.Range.rangeFitsLong, Bool.and_eq_true, Bool.or_eq_true, decide_eq_true_eq, beq_iff_eq]
  omega
theorem range1_size {wd : Nat} : Builtin.Range.rangeSize 0 (wd : Int) 1 = (wd : Int) := by
  have := range_size (k := wd) (wd := 1) (by decide)
  rwa [Nat.mul_one] at this
theorem range1_small {wd : Nat} (hw' : wd ≤ 1000) : Builtin.Range.small 0 (wd : Int) 1 = true :=
  range_small (b := wd) (k := wd) (wd := 1) (by omega) (by decide) (by decide) hw'
theorem cut_ap : ∀ k, k < 16 → cut [65, 66, 67, 68, 69, 70, 71, 72, 73, 74, 75, 76, 77, 78, 79, 80] k (k + 1) = [UInt8.ofNat (65 + k)] := by decide
theorem apW_step {num : Nat} {val l : List UInt8} (h : num ≠ 0) (e : apW num ++ val = l) : apW (num / 16) ++ ([UInt8.ofNat (65 + num % 16)] ++ val) = l := by
  rw [← e, apW_pos h, List.append_assoc]
end Mine
namespace Mine
/-- the ledger lies below an address -/
structure Low (news : List (Addr × Obj)) (L : Addr) : Prop where
  all : ∀ p ∈ news, p.1 < L
section
variable {prog : Program} {w : World} {A : Around} {E : Value → Shared → Prop} {s : Shared} {t u : Tok} {Q : Value → Shared → Prop} {a b c k n : Nat}
theorem addNN (h : Q (.int ((a + b : Nat) : Int) s.toks) { s with toks := s.toks + 1 }) : wpAny (model prog w) A (binaryOp .Add (.int (a : Int) t) (.int (b : Int) u)) Q E s := add_int h
theorem addNL (h : Q (.int ((a + k : Nat) : Int) s.toks) { s with toks := s.toks + 1 }) : wpAny (model prog w) A (binaryOp .Add (.int (a : Int) t) (.int (@OfNat.ofNat Int k instOfNat) u)) Q E s := add_int h
theorem addLN (h : Q (.int ((k + a : Nat) : Int) s.toks) { s with toks := s.toks + 1 }) : wpAny (model prog w) A (binaryOp .Add (.int (@OfNat.ofNat Int k instOfNat) u) (.int (a : Int) t)) Q E s := add_int h
theorem bits64 (hb : b < 2 ^ 64) : Builtin.Int.intBits (b : Int) ≤ 64 := intBits_le (by simpa using hb)
theorem mulNN (hb : b < 2 ^ 64) (h : Q (.int ((a * b : Nat) : Int) s.toks) { s with toks := s.toks + 1 }) : wpAny (model prog w) A (binaryOp .Mult (.int (a : Int) t) (.int (b : Int) u)) Q E s :=
  mul_int h (IntMulOk.of_right (bits64 hb))
theorem mulNL (hb : k < 2 ^ 64) (h : Q (.int ((a * k : Nat) : Int) s.toks) { s with toks := s.toks + 1 }) : wpAny (model prog w) A (binaryOp .Mult (.int (a : Int) t) (.int (@OfNat.ofNat Int k instOfNat) u)) Q E s :=
  mul_int h (IntMulOk.of_right (bits64 hb))
theorem mulLN (hb : k < 2 ^ 64) (h : Q (.int ((k * a : Nat) : Int) s.toks) { s with toks := s.toks + 1 }) : wpAny (model prog w) A (binaryOp .Mult (.int (@OfNat.ofNat Int k instOfNat) u) (.int (a : Int) t)) Q E s :=
  mul_int h (IntMulOk.of_left (bits64 hb))
theorem noPy {x : Int} (hb : b < 2 ^ 9000) : Builtin.divisionGoesByPylong x (b : Int) = false := by
  refine PyProof.noPylong_of_log2 ?_
  rw [Int.natAbs_natCast]
  by_cases h0 : b = 0
  · subst h0; decide
  · exact (Nat.log2_lt h0).mpr hb
theorem pow_lt_big (hc : c ≤ 16) (hn : n ≤ 1000) : c ^ n < 2 ^ 9000 := by
  have h1 : c ^ n ≤ 16 ^ n := Nat.pow_le_pow_left hc n
  have h2 : (16 : Nat) ^ n ≤ 16 ^ 1000 := Nat.pow_le_pow_right (by decide) hn
  have h3 : (16 : Nat) ^ 1000 = 2 ^ 4000 := by rw [show (16 : Nat) = 2 ^ 4 by decide, ← Nat.pow_mul]
  have h4 : (2 : Nat) ^ 4000 < 2 ^ 9000 := Nat.pow_lt_pow_right (by decide) (by decide)
  omega
theorem fdivNN (hb : 0 < b) (hl : b < 2 ^ 9000) (h : Q (.int ((a / b : Nat) : Int) s.toks) { s with toks := s.toks + 1 }) : wpAny (model prog w) A (binaryOp .FloorDiv (.int (a : Int) t) (.int (b : Int) u)) Q E s := by
  refine floordiv_int (by omega) ?_ (Or.inl (noPy hl))
  rw [Int.fdiv_eq_ediv_of_nonneg _ (by omega)]
  exact h
theorem fdivP (hc : 0 < c) (hc' : c ≤ 16) (hn : n ≤ 1000) (h : Q (.int ((a / c ^ n : Nat) : Int) s.toks) { s with toks := s.toks + 1 }) : wpAny (model prog w) A (binaryOp .FloorDiv (.int (a : Int) t) (.int ((c ^ n : Nat) : Int) u)) Q E s :=
  fdivNN (Nat.pow_pos hc) (pow_lt_big hc' hn) h
theorem two64_lt {k : Nat} (h : k < 2 ^ 64) : k < 2 ^ 9000 := Nat.lt_trans h (Nat.pow_lt_pow_right (by decide) (by decide))
theorem fdivNL (hb : 0 < k) (hl : k < 2 ^ 64) (h : Q (.int ((a / k : Nat) : Int) s.toks) { s with toks := s.toks + 1 }) : wpAny (model prog w) A (binaryOp .FloorDiv (.int (a : Int) t) (.int (@OfNat.ofNat Int k instOfNat) u)) Q E s :=
  fdivNN hb (two64_lt hl) h
theorem modNN (hb : 0 < b) (h : Q (.int ((a % b : Nat) : Int) s.toks) { s with toks := s.toks + 1 }) : wpAny (model prog w) A (binaryOp .Mod (.int (a : Int) t) (.int (b : Int) u)) Q E s := by
  refine mod_int (by omega) ?_
  rw [Int.fmod_eq_emod_of_nonneg _ (by omega)]
  exact h
theorem modP (hc : 0 < c) (h : Q (.int ((a % c ^ n : Nat) : Int) s.toks) { s with toks := s.toks + 1 }) : wpAny (model prog w) A (binaryOp .Mod (.int (a : Int) t) (.int ((c ^ n : Nat) : Int) u)) Q E s := modNN (Nat.pow_pos hc) h
theorem modNL (hb : 0 < k) (h : Q (.int ((a % k : Nat) : Int) s.toks) { s with toks := s.toks + 1 }) : wpAny (model prog w) A (binaryOp .Mod (.int (a : Int) t) (.int (@OfNat.ofNat Int k instOfNat) u)) Q E s := modNN hb h
theorem powLN (hk : k < 2 ^ 64) (hn : n ≤ 1000000) (h : Q (.int ((k ^ n : Nat) : Int) s.toks) { s with toks := s.toks + 1 }) : wpAny (model prog w) A (binaryOp .Pow (.int (@OfNat.ofNat Int k instOfNat) t) (.int (n : Int) u)) Q E s := by
  refine pow_int_small (Int.natCast_nonneg _) (by omega) (by show (k : Int).natAbs < 2 ^ 64; rw [Int.natAbs_natCast]; exact hk) ?_
  rw [Int.toNat_natCast]
  have e : (@OfNat.ofNat Int k instOfNat) ^ n = ((k ^ n : Nat) : Int) := by
    show (k : Int) ^ n = _
    rw [Int.natCast_pow]
  rw [e]
  exact h
end
end Mine
namespace Mine
section
variable {prog : Program} {w : World} {A : Around} {E : Value → Shared → Prop} {s : Shared} {h₀ : Heap} {L : Addr} {m : Str → Option Value} {env : Env} {news : List (Addr × Obj)}
theorem maxNN {a b : Nat} {t u : Tok} {Q : Value → Shared → Prop} (hh : A.handled = none) (F : Fr h₀ L s.heap m) (N : News h₀ L s.heap news)
    (h : ∀ t' h' tk, Fr h₀ L h' m → News h₀ L h' news → Q (.int ((max a b : Nat) : Int) t') { s with heap := h', toks := tk }) :
    wpAny (model prog w) A (call (.builtin "max") [.int (a : Int) t, .int (b : Int) u]) Q E s := by
  refine max_two_N hh F N fun h' tk F' N' => ?_
  have e : (if (b : Int) > (a : Int) then (b : Int) else (a : Int)) = ((max a b : Nat) : Int) := by split <;> omega
  rw [e]
  exact h _ h' tk F' N'
theorem minNN {a b : Nat} {t u : Tok} {Q : Value → Shared → Prop} (hh : A.handled = none) (F : Fr h₀ L s.heap m) (N : News h₀ L s.heap news)
    (h : ∀ t' h' tk, Fr h₀ L h' m → News h₀ L h' news → Q (.int ((min a b : Nat) : Int) t') { s with heap := h', toks := tk }) :
    wpAny (model prog w) A (call (.builtin "min") [.int (a : Int) t, .int (b : Int) u]) Q E s := by
  refine min_two_N hh F N fun h' tk F' N' => ?_
  have e : (if (b : Int) < (a : Int) then (b : Int) else (a : Int)) = ((min a b : Nat) : Int) := by split <;> omega
  rw [e]
  exact h _ h' tk F' N'
/-- what is asked of the source of a comprehension: a range of any step -/
def CompD (prog : Program) (w : World) (A : Around) (h₀ : Heap) (L : Addr) (m : Str → Option Value) (env : Env) (elt : PySem.Expr) (x : Str) (scope : Scope) (cl : List (Str × Addr)) (Q : Value → Shared → Prop) (xv : Value) (s₁ : Shared) : Prop :=
  ∃ r a b d t u v n news, xv = .ref r ∧ A.handled = none ∧ Fr h₀ L s₁.heap m ∧ News h₀ L s₁.heap news ∧ IsRange s₁.heap r a b d t u v ∧ Builtin.Range.small a b d = true ∧ Builtin.Range.rangeSize a b d = ((n : Nat) : Int) ∧ n ≤ sizeLine ∧
    ∀ g : Heap, LCg.CompRest prog w A h₀ L m env elt x scope cl { s₁ with heap := g } (fun _ => True) (fun i v => i < n ∧ ∃ t, v = .int (a + (i : Int) * d) t) (LCg.FinE h₀ L m { s₁ with heap := g } Q) n 0 [] news
theorem CompD.of {elt : PySem.Expr} {x : Str} {scope : Scope} {cl : List (Str × Addr)} {Q : Value → Shared → Prop} {r : Addr} {a b d : Int} {t u v : Tok} {n : Nat} {s₁ : Shared}
    (hh : A.handled = none) (F : Fr h₀ L s₁.heap m) (N : News h₀ L s₁.heap news) (hr : IsRange s₁.heap r a b d t u v) (hsm : Builtin.Range.small a b d = true) (hn : Builtin.Range.rangeSize a b d = ((n : Nat) : Int)) (hsz : n ≤ sizeLine)
    (h : ∀ g : Heap, LCg.CompRest prog w A h₀ L m env elt x scope cl { s₁ with heap := g } (fun _ => True) (fun i v => i < n ∧ ∃ t, v = .int (a + (i : Int) * d) t) (LCg.FinE h₀ L m { s₁ with heap := g } Q) n 0 [] news) :
    CompD prog w A h₀ L m env elt x scope cl Q (.ref r) s₁ := ⟨r, a, b, d, t, u, v, n, news, rfl, hh, F, N, hr, hsm, hn, hsz, h⟩
theorem iter_st {I : Addr} {a d : Int} {n : Nat} : ∀ i (h h' : Heap) (o : Obj) (nw : List (Addr × Obj)), IsRangeIter h I (a + (i : Nat) * d) ((n : Int) - (i : Nat)) d → h.get? I = some o → h'.get? I = some o → (∀ b o, h₀.get? b = some o → h'.get? b = some o) → News h₀ L h' nw → True → IsRangeIter h' I (a + (i : Nat) * d) ((n : Int) - (i : Nat)) d :=
  fun i h h' o nw st e e' _ _ _ => by
    have st' : h.get? I = some _ := st
    show h'.get? I = some _
    rw [e', ← e]; exact st'
theorem ListComp_D {elt iter : PySem.Expr} {x : Str} {px : Pos} {scope : Scope} {cl : List (Str × Addr)} {pos : Pos} {Q : Value → Shared → Prop} (F₀ : Fr h₀ L s.heap m)
    (hclos : closureFor scope env = pure cl) (hcell : ∀ y ∈ scope.names, y.2 ≠ .cell) (hkind : scope.kind = .function)
    (hnames : ∀ y ∈ scope.names, y.2 = .local → scope.names.lookup y.1 = some .local) (hx : scope.names.lookup x = some .local)
    (h : wpAny (model prog w) A (eval iter env) (CompD prog w A h₀ L m env elt x scope cl Q) E s)
    (hs : ∀ x, foldedSetIterable iter env x = pure x := by intro _; rfl) :
    wpAny (model prog w) A (eval (.ListComp elt [⟨.Name x px, iter, [], 0⟩] scope pos) env) Q E s := by
  rw [eval_ListComp]
  refine wpAny_comprehension_free (use := none) rfl hs hclos hkind hnames (wpAny_mono h (fun xv s₁ h₁ => ?_) fun _ _ e => e)
  obtain ⟨r, a, b, d, t, u, v, n, news, rfl, hh, F, N, hr, hsm, hn, hsz, R⟩ := h₁
  refine wpAny_pyIter_range hr hsm ?_
  have W : Walks prog w A s₁.heap.objs.size [s₁.heap.objs.size] [s₁.heap.objs.size] n (fun i v => i < n ∧ ∃ t, v = .int (a + i * d) t)
      (fun i h => IsRangeIter h s₁.heap.objs.size (a + (i : Nat) * d) ((n : Int) - (i : Nat)) d) := (Walks.range hh _ a d n).bound
  refine LCg.block_U W hsz (fun i h st => ⟨_, st⟩) iter_st hcell hkind hx (by show IsRangeIter _ _ _ _ _; rw [hn]; simpa using Heap.get?_push_size _ rfl) (fun b hb => ?_)
    (F.keeps fun _ _ e => Heap.get?_push_of_some _ e) (N.grown fun _ _ e => Heap.get?_push_of_some _ e) (Nat.ne_of_lt F.ns.lt) (next_is_new F) (fun p hp => Nat.ne_of_lt (Heap.lt_size (N p hp).1)) trivial (R _) ?_
  · rw [List.mem_singleton.mp hb]
    show s₁.heap.objs.size < (s₁.heap.push _).objs.size
    rw [Heap.size_push]; exact Nat.lt_succ_self _
  · intro D C h tk m' ys news' F' N' o1 hn hC₀ hD₀ hCL hDL hCD offC fin
    refine ⟨m', hn, fun h'' hs'' => fin D h'' tk (F'.change hs'' hCL hC₀) (fun p hp => ?_) o1⟩
    refine ⟨hs''.extBut _ _ ?_ (N' p hp).1, (N' p hp).2⟩
    rcases List.mem_cons.mp hp with rfl | hp
    · exact Ne.symm hCD
    · exact offC p hp
end
theorem rangeA_size {wd : Nat} (h : 1 ≤ wd) : Builtin.Range.rangeSize 1 (wd : Int) 1 = ((wd - 1 : Nat) : Int) := by
  unfold Builtin.Range.rangeSize
  rw [if_pos (by decide)]
  by_cases h1 : (1 : Int) < wd
  · rw [if_pos h1]; omega
  · rw [if_neg h1]; omega
theorem rangeA_small {wd : Nat} (h : 1 ≤ wd) (h7 : wd ≤ 7) : Builtin.Range.small 1 (wd : Int) 1 = true := by
  unfold Builtin.Range.small
  rw [rangeA_size h, if_pos (by decide)]
  simp only [Builtin.Range.rangeFitsLong, Bool.and_eq_true, Bool.or_eq_true, decide_eq_true_eq, beq_iff_eq]
  omega
theorem rangeD_size {wd : Nat} : Builtin.Range.rangeSize (wd : Int) (-1) (-1) = ((wd + 1 : Nat) : Int) := by
  unfold Builtin.Range.rangeSize
  rw [if_neg (by decide), if_pos (by omega), show (- (-1) : Int) = 1 from rfl, Int.ediv_one]
  omega
theorem rangeD_small {wd : Nat} (h7 : wd ≤ 7) : Builtin.Range.small (wd : Int) (-1) (-1) = true := by
  unfold Builtin.Range.small
  rw [rangeD_size, if_neg (by decide)]
  simp only [Builtin.Range.rangeFitsLong, Bool.and_eq_true, Bool.or_eq_true, decide_eq_true_eq, beq_iff_eq]
  omega
end Mine
namespace Mine
/-- natural numbers as ints -/
def castL (ks : List Nat) : List Int := ks.map fun k => Int.ofNat k
theorem castL_length (ks : List Nat) : (castL ks).length = ks.length := List.length_map ..
theorem castL_append (a b : List Nat) : castL (a ++ b) = castL a ++ castL b := List.map_append ..
theorem castL_get {ks : List Nat} {i : Nat} (h : i < ks.length) : (castL ks)[i]? = some ((ks[i] : Nat) : Int) := by
  unfold castL
  rw [List.getElem?_map, List.getElem?_eq_getElem h]
  rfl
theorem cast_of : ∀ (ns : List Int), (∀ n ∈ ns, 0 ≤ n) → ∃ ks : List Nat, ns = castL ks ∧ ks = ns.map Int.toNat
  | [], _ => ⟨[], rfl, rfl⟩
  | n :: r, h => by
    obtain ⟨ks, e, e'⟩ := cast_of r fun x hx => h x (List.mem_cons_of_mem _ hx)
    have h0 := h n (List.mem_cons_self ..)
    refine ⟨n.toNat :: ks, ?_, by rw [List.map_cons, ← e']⟩
    rw [castL, List.map_cons, e]
    congr 1
    show n = ((n.toNat : Nat) : Int)
    omega
theorem castL_sum : ∀ ks : List Nat, (castL ks).sum = ((ks.sum : Nat) : Int)
  | [] => rfl
  | k :: r => by
    have := castL_sum r
    rw [castL] at this
    rw [castL, List.map_cons, List.sum_cons, this, List.sum_cons]
    rfl
theorem ints_cast {ys : List Value} {ks : List Int} (h : IntsAre ys ks) (h0 : ∀ n ∈ ks, 0 ≤ n) : ∃ ds : List Nat, IntsAre ys (castL ds) ∧ ds = ks.map Int.toNat := by
  obtain ⟨ds, e, e'⟩ := cast_of ks h0
  exact ⟨ds, e ▸ h, e'⟩
theorem fmod_all {f : Int → Int} {d : Int} (hd : 0 < d) (hf : ∀ k, f k = k.fmod d) (xs : List Int) : ∀ n ∈ xs.map f, 0 ≤ n ∧ n < d := by
  intro n hn
  obtain ⟨k, _, rfl⟩ := List.mem_map.mp hn
  rw [hf, Int.fmod_eq_emod_of_nonneg _ (Int.le_of_lt hd)]
  exact ⟨Int.emod_nonneg _ (by omega), Int.emod_lt_of_pos _ hd⟩
theorem ints_replicate (n : Nat) (v : Int) (t : Tok) : IntsAre (List.replicate n (Value.int v t)) (List.replicate n v) := by
  induction n with
  | zero => exact .nil
  | succ n ih => rw [List.replicate_succ, List.replicate_succ]; exact .cons _ _ ih
section
variable {prog : Program} {w : World} {A : Around} {E : Value → Shared → Prop} {s : Shared} {h₀ : Heap} {L : Addr} {m : Str → Option Value} {env : Env} {news : List (Addr × Obj)} {Q : Value → Shared → Prop}
theorem lowN (N : News h₀ L s.heap news) : ∀ p ∈ news, p.1 < s.heap.objs.size := fun p hp => Heap.lt_size (N p hp).1
/-- [v] * n -/
theorem mulL1 {l : Addr} {v : Value} {k n : Nat} {u : Tok} (F : Fr h₀ L s.heap m) (N : News h₀ L s.heap news) (hm : (l, listOf #[v] k) ∈ news) (hn : n ≤ 1000000)
    (h : ∀ D h', Fr h₀ L h' m → News h₀ L h' ((D, listOf (List.replicate n v).toArray 0) :: news) → (∀ p ∈ news, p.1 < D) → Q (.ref D) { s with heap := h' }) :
    wpAny (model prog w) A (binaryOp .Mult (.ref l) (.int (n : Int) u)) Q E s := by
  have e : ∀ (n : Nat) (a : Array Value), List.foldl (fun x1 x2 => x1 ++ x2) a (List.replicate n #[v]) = a ++ (List.replicate n v).toArray := by
    intro n
    induction n with
    | zero => intro a; simp
    | succ n ih => intro a; rw [List.replicate_succ, List.foldl_cons, ih, List.replicate_succ, Array.append_assoc]; congr 1; exact List.append_toArray [v] (List.replicate n v)
  refine mul_list F N (N _ hm).1 (by omega) (by omega) (by rw [Int.toNat_natCast]; show 1 * n ≤ 2 ^ 24; omega) fun h' F' N' => ?_
  refine h _ h' F' ?_ (lowN N)
  rw [show (if (#[v] : Array Value).isEmpty = true then 0 else (n : Int).toNat) = n from by rw [Int.toNat_natCast]; rfl, e, Array.empty_append] at N'
  exact N'
theorem lenL {l : Addr} {us : List Value} {k : Nat} (N : News h₀ L s.heap news) (hm : (l, listOf us.toArray k) ∈ news) (hn : us.length ≤ 1000000) (h : ∀ t tk, Q (.int (us.length : Int) t) { s with toks := tk }) :
    wpAny (model prog w) A (call (.builtin "len") [.ref l]) Q E s := by
  refine call_len_list (items := us.toArray) (N.isList hm) (by rw [List.size_toArray]; omega) ?_
  rw [List.size_toArray]
  exact h _ _
theorem addL {l b : Addr} {us ws : List Value} {k j : Nat} (F : Fr h₀ L s.heap m) (N : News h₀ L s.heap news) (hl : (l, listOf us.toArray k) ∈ news) (hb : (b, listOf ws.toArray j) ∈ news) (hn : us.length + ws.length ≤ 1000000)
    (h : ∀ D h', Fr h₀ L h' m → News h₀ L h' ((D, listOf (us ++ ws).toArray 0) :: news) → (∀ p ∈ news, p.1 < D) → Q (.ref D) { s with heap := h' }) :
    wpAny (model prog w) A (binaryOp .Add (.ref l) (.ref b)) Q E s :=
  add_lists F N (N.isList hl) (N.isList hb) (fun h' F' N' => h _ h' F' N' (lowN N)) (by rw [sizeLine_eq]; omega)
theorem itemN {value slice : PySem.Expr} {l : Addr} {us : List Value} {ks : List Nat} {k j : Nat} {u : Tok} (N : News h₀ L s.heap news) (hl : (l, listOf us.toArray k) ∈ news) (hi : IntsAre us (castL ks)) (hj : j < ks.length) (hn : ks.length ≤ 1000000)
    (h : ∀ t, Q (.int (((ks[j] : Nat)) : Int) t) s)
    (hs : subscripted slice false (.ref l) (.int (j : Int) u) = operate [.ref l, .int (j : Int) u] (getItem (.ref l) (.int (j : Int) u)) := by with_unfolding_all rfl) (hg : ∀ r, letTemporaryGo value (.ref l) r = pure () := by intro _; with_unfolding_all rfl) :
    wpAny (model prog w) A (subscriptTail value slice (.ref l) (.int (j : Int) u)) Q E s := by
  have hlen : us.length = ks.length := by rw [hi.length, castL_length]
  obtain ⟨x, hx⟩ : ∃ x, us[j]? = some x := ⟨us[j]'(by omega), List.getElem?_eq_getElem (by omega)⟩
  obtain ⟨n, t, rfl, hn'⟩ := IntsAre.at hi j x hx
  rw [castL_get hj] at hn'
  have e : ((ks[j] : Nat) : Int) = n := Option.some.inj hn'
  refine item_list (items := us.toArray) (N.isList hl) (Int.natCast_nonneg _) (by omega) (by rw [Int.toNat_natCast]; simpa using hx) ?_ hs hg
  rw [← e]
  exact h t
end
end Mine
namespace Mine
section
variable {prog : Program} {w : World} {A : Around} {E : Value → Shared → Prop} {s : Shared} {h₀ : Heap} {L : Addr} {m : Str → Option Value} {env : Env} {news : List (Addr × Obj)} {Q : Value → Shared → Prop}
theorem mulRep {l : Addr} {x : Nat} {t : Tok} {k n : Nat} {u : Tok} (F : Fr h₀ L s.heap m) (N : News h₀ L s.heap news) (hm : (l, listOf #[.int (x : Int) t] k) ∈ news) (hn : n ≤ 1000000)
    (h : ∀ D um h', IntsAre um (castL (List.replicate n x)) → Fr h₀ L h' m → News h₀ L h' ((D, listOf (List.toArray um) 0) :: news) → (∀ p ∈ news, p.1 < D) → Q (.ref D) { s with heap := h' }) :
    wpAny (model prog w) A (binaryOp .Mult (.ref l) (.int (n : Int) u)) Q E s :=
  mulL1 F N hm hn fun D h' F' N' l' => h D _ h' (by unfold castL; rw [List.map_replicate]; exact ints_replicate _ _ _) F' N' l'
theorem modZP {x : Int} {c n : Nat} {t u : Tok} (hc : 0 < c) (h : Q (.int (x.fmod ((c ^ n : Nat) : Int)) s.toks) { s with toks := s.toks + 1 }) : wpAny (model prog w) A (binaryOp .Mod (.int x t) (.int ((c ^ n : Nat) : Int) u)) Q E s := by
  have hp : 0 < c ^ n := Nat.pow_pos hc
  exact mod_int (by omega) h
theorem fdivZP {x : Int} {c n : Nat} {t u : Tok} (hc : 0 < c) (hc' : c ≤ 16) (hn : n ≤ 1000) (h : Q (.int (x.fdiv ((c ^ n : Nat) : Int)) s.toks) { s with toks := s.toks + 1 }) : wpAny (model prog w) A (binaryOp .FloorDiv (.int x t) (.int ((c ^ n : Nat) : Int) u)) Q E s := by
  have hp : 0 < c ^ n := Nat.pow_pos hc
  exact floordiv_int (by omega) h (Or.inl (noPy (pow_lt_big hc' hn)))
theorem subLN {a k : Nat} {t u : Tok} (ha : a ≤ k) (h : Q (.int ((k - a : Nat) : Int) s.toks) { s with toks := s.toks + 1 }) : wpAny (model prog w) A (binaryOp .Sub (.int (@OfNat.ofNat Int k instOfNat) t) (.int (a : Int) u)) Q E s := by
  refine sub_int ?_
  have e : (@OfNat.ofNat Int k instOfNat) - (a : Int) = ((k - a : Nat) : Int) := by
    show (k : Int) - (a : Int) = _
    omega
  rw [e]
  exact h
theorem subNL {a k : Nat} {t u : Tok} (ha : k ≤ a) (h : Q (.int ((a - k : Nat) : Int) s.toks) { s with toks := s.toks + 1 }) : wpAny (model prog w) A (binaryOp .Sub (.int (a : Int) t) (.int (@OfNat.ofNat Int k instOfNat) u)) Q E s := by
  refine sub_int ?_
  have e : (a : Int) - (@OfNat.ofNat Int k instOfNat) = ((a - k : Nat) : Int) := by
    show (a : Int) - (k : Int) = _
    omega
  rw [e]
  exact h
end
/-- a list's letter: its values, its numbers, its count -/
abbrev LV := List Value × List Nat × Nat
section
variable {prog : Program} {w : World} {A : Around} {E : Value → Shared → Prop} {s : Shared} {env : Env} {h₀ : Heap} {x : Str} {body : List Stmt} {Q : Flow → Shared → Prop}
/-- a loop over range(n) that changes two lists of numbers -/
theorem step_two {r D₁ D₂ : Addr} {rest : List (Addr × Obj)} {n : Nat} {t₀ u₀ v₀ : Tok} {m₀ : Str → Option Value} (stored : List Str) (P : Nat → LV → LV → Prop) (c₁ c₂ : LV)
    (hh : A.handled = none) (hr : IsRange s.heap r 0 (n : Int) 1 t₀ u₀ v₀) (hn : n ≤ 1000) (F : Fr h₀ env.locals s.heap m₀) (N : News h₀ env.locals s.heap ((D₁, listOf c₁.1.toArray c₁.2.2) :: (D₂, listOf c₂.1.toArray c₂.2.2) :: rest)) (i₁ : IntsAre c₁.1 (castL c₁.2.1)) (i₂ : IntsAre c₂.1 (castL c₂.2.1)) (hp : P 0 c₁ c₂)
    (turn : ∀ (c d : LV) (i : Nat) t (u : Str → Option Value) h tk own, i < n → OwnOff own (D₁ :: D₂ :: rest.map (·.1)) → IntsAre c.1 (castL c.2.1) → IntsAre d.1 (castL d.2.1) → P i c d →
      Fr h₀ env.locals h (fun y => if y = x then some (.int (i : Int) t) else if stored.contains y then u y else m₀ y) → News h₀ env.locals h ((D₁, listOf c.1.toArray c.2.2) :: (D₂, listOf d.1.toArray d.2.2) :: (rest ++ own)) →
      wpAny (model prog w) A (execs body env) (InvPostN h₀ env.locals (fun m nx => ∃ c' d' : LV, nx = (D₁, listOf c'.1.toArray c'.2.2) :: (D₂, listOf d'.1.toArray d'.2.2) :: rest ∧ IntsAre c'.1 (castL c'.2.1) ∧ IntsAre d'.1 (castL d'.2.1) ∧ (∀ z, z ≠ x → stored.contains z = false → m z = m₀ z) ∧ P (i + 1) c' d') own (D₁ :: D₂ :: rest.map (·.1)) { s with heap := h, toks := tk } Q) E { s with heap := h, toks := tk })
    (done : ∀ (c d : LV) (u : Str → Option Value) h tk, IntsAre c.1 (castL c.2.1) → IntsAre d.1 (castL d.2.1) → P n c d → Fr h₀ env.locals h (fun y => if y = x then u y else if stored.contains y then u y else m₀ y) → News h₀ env.locals h ((D₁, listOf c.1.toArray c.2.2) :: (D₂, listOf d.1.toArray d.2.2) :: rest) → Q .next { s with heap := h, toks := tk }) :
    wpAny (model prog w) A (pyIter (.ref r)) (fun it s₂ => LoopAtV prog w A h₀ env x body Q E it s₂) E s := by
  refine kst_step (σ := LV × LV) (n := n) (fun c => (D₁, listOf c.1.1.toArray c.1.2.2) :: (D₂, listOf c.2.1.toArray c.2.2.2) :: rest) (fun _ => []) (fun c => IntsAre c.1.1 (castL c.1.2.1) ∧ IntsAre c.2.1 (castL c.2.2.1)) stored (fun pre c => P pre.length c.1 c.2) (c₁, c₂) hh hr (range1_small hn) range1_size F N ⟨i₁, i₂⟩ (fun p hp => nomatch hp) hp ?_ ?_
  · rintro ⟨c, d⟩ pre k t u h tk own hk hlen hoff ⟨j₁, j₂⟩ hP F₁ N₁
    rw [Int.zero_add, Int.mul_one] at hk
    subst hk
    refine wpAny_mono (turn c d pre.length t u h tk own hlen hoff j₁ j₂ hP F₁ N₁) (fun f s₂ hf => ?_) fun _ _ e => e
    have up : InvEndN h₀ env.locals (fun m nx => ∃ c' d' : LV, nx = (D₁, listOf c'.1.toArray c'.2.2) :: (D₂, listOf d'.1.toArray d'.2.2) :: rest ∧ IntsAre c'.1 (castL c'.2.1) ∧ IntsAre d'.1 (castL d'.2.1) ∧ (∀ z, z ≠ x → stored.contains z = false → m z = m₀ z) ∧ P (pre.length + 1) c' d') own (D₁ :: D₂ :: rest.map (·.1)) { s with heap := h, toks := tk } s₂ →
        InvEndN h₀ env.locals (KstS (σ := LV × LV) (fun c => (D₁, listOf c.1.1.toArray c.1.2.2) :: (D₂, listOf c.2.1.toArray c.2.2.2) :: rest) (fun _ => []) (fun c => IntsAre c.1.1 (castL c.1.2.1) ∧ IntsAre c.2.1 (castL c.2.2.1)) x stored m₀ (fun pre c => P pre.length c.1 c.2) (pre ++ [(pre.length : Int)])) own (D₁ :: D₂ :: rest.map (·.1)) { s with heap := h, toks := tk } s₂ := by
      rintro ⟨h', tk', m', news', nx, e, F', N', hn', ho', ha, c', d', e1, e2, e3, e4, e5⟩
      refine ⟨h', tk', m', news', nx, e, F', N', hn', ho', ha, (c', d'), e1, ⟨e2, e3⟩, (fun p hp => nomatch hp), (fun z h1 _ h3 => e4 z h1 h3), ?_⟩
      show P (pre ++ [(pre.length : Int)]).length c' d'
      rw [List.length_append, List.length_singleton]
      exact e5
    cases f with
    | ret v => exact hf
    | brk => exact hf
    | next => exact up hf
    | cont => exact up hf
  · rintro ⟨c, d⟩ u h tk ⟨j₁, j₂⟩ hP F₁ N₁
    have hP' : P (rangeInts 0 1 n).length c d := hP
    rw [rangeInts_length] at hP'
    exact done c d u h tk j₁ j₂ hP' F₁ N₁
theorem two_end {D₁ D₂ : Addr} {rest : List (Addr × Obj)} {m₀ m' : Str → Option Value} {stored : List Str} {R : LV → LV → Prop} {L : Addr} {own news' : List (Addr × Obj)} {s₁ : Shared} {h' : Heap} {tk : Nat} (c' d' : LV)
    (F : Fr h₀ L h' m') (N : News h₀ L h' news') (hn : ∀ p ∈ (D₁, listOf c'.1.toArray c'.2.2) :: (D₂, listOf d'.1.toArray d'.2.2) :: rest, p ∈ news') (ho : ∀ p ∈ own, p ∈ news') (i₁ : IntsAre c'.1 (castL c'.2.1)) (i₂ : IntsAre d'.1 (castL d'.2.1)) (hr : ∀ z, z ≠ x → stored.contains z = false → m' z = m₀ z) (hp : R c' d') :
    InvEndN h₀ L (fun m nx => ∃ c' d' : LV, nx = (D₁, listOf c'.1.toArray c'.2.2) :: (D₂, listOf d'.1.toArray d'.2.2) :: rest ∧ IntsAre c'.1 (castL c'.2.1) ∧ IntsAre d'.1 (castL d'.2.1) ∧ (∀ z, z ≠ x → stored.contains z = false → m z = m₀ z) ∧ R c' d') own (D₁ :: D₂ :: rest.map (·.1)) s₁ { s₁ with heap := h', toks := tk } :=
  InvEndN.intro F N ⟨c', d', rfl, i₁, i₂, hr, hp⟩ rfl hn ho
end
end Mine
namespace Mine
section
variable {prog : Program} {w : World} {A : Around} {E : Value → Shared → Prop} {s : Shared} {h₀ : Heap} {L : Addr} {m : Str → Option Value} {env : Env} {news news' : List (Addr × Obj)} {Q : Value → Shared → Prop}
theorem addLI {l b : Addr} {us ws : List Value} {a c : List Nat} {k j : Nat} (F : Fr h₀ L s.heap m) (N : News h₀ L s.heap news) (i₁ : IntsAre us (castL a)) (i₂ : IntsAre ws (castL c)) (hl : (l, listOf us.toArray k) ∈ news) (hb : (b, listOf ws.toArray j) ∈ news) (hn : a.length + c.length ≤ 1000000)
    (h : ∀ D vs h', IntsAre vs (castL (a ++ c)) → Fr h₀ L h' m → News h₀ L h' ((D, listOf (List.toArray vs) 0) :: news) → (∀ p ∈ news, p.1 < D) → Q (.ref D) { s with heap := h' }) :
    wpAny (model prog w) A (binaryOp .Add (.ref l) (.ref b)) Q E s :=
  addL F N hl hb (by rw [i₁.length, i₂.length, castL_length, castL_length]; exact hn) fun D h' F' N' l1 => h D _ h' (by rw [castL_append]; exact i₁.append i₂) F' N' l1
theorem appN {D : Addr} {us : List Value} {ks : List Nat} {k n : Nat} {t : Tok} (F : Fr h₀ L s.heap m) (N : News h₀ L s.heap news) (hi : IntsAre us (castL ks)) (hn : ks.length ≤ 1000000) (U : Upd D (PySem.W.listOf us.toArray k) (PySem.W.listOf (us ++ [Value.int (n : Int) t]).toArray (k + 1)) news news')
    (h : ∀ h' ws, IntsAre (us ++ ws) (castL (ks ++ [n])) → ws = [Value.int (n : Int) t] → Fr h₀ L h' m → News h₀ L h' news' → Q .none { s with heap := h' }) : wpAny (model prog w) A (call (.builtin "list.append") [.ref D, .int (n : Int) t]) Q E s := by
  refine append_K (its := us.toArray) (n := k) F N (by rw [List.push_toArray]; exact U) (fun h' F' N' => h h' _ ?_ rfl F' N') (by rw [List.size_toArray, hi.length, castL_length, sizeLine_eq]; omega)
  rw [castL_append]
  exact hi.append (.cons _ _ .nil)
theorem castL_reverse (ks : List Nat) : (castL ks).reverse = castL ks.reverse := by unfold castL; rw [List.map_reverse]
theorem castL_mem {n : Int} {ks : List Nat} (h : n ∈ castL ks) : ∃ k : Nat, k ∈ ks ∧ n = (k : Int) := by
  obtain ⟨k, hk, e⟩ := List.mem_map.mp h
  exact ⟨k, hk, e.symm⟩
theorem all_snoc {P : Nat → Prop} {ks : List Nat} {n : Nat} (h : ∀ k ∈ ks, P k) (hn : P n) : ∀ k ∈ ks ++ [n], P k := fun k hk => (List.mem_append.mp hk).elim (h k) fun h' => List.mem_singleton.mp h' ▸ hn
theorem all_join {P : Nat → Prop} {a b : List Nat} (h : ∀ k ∈ a, P k) (h' : ∀ k ∈ b, P k) : ∀ k ∈ a ++ b, P k := fun k hk => (List.mem_append.mp hk).elim (h k) (h' k)
theorem all_ne {D : Addr} {l : List (Addr × Obj)} (h : ∀ p ∈ l, p.1 < D) : ∀ p ∈ l, p.1 ≠ D := fun p hp => Nat.ne_of_lt (h p hp)
theorem ne_mem {D a : Addr} {o : Obj} {l : List (Addr × Obj)} (h : ∀ p ∈ l, p.1 < D) (hm : (a, o) ∈ l) : D ≠ a := Nat.ne_of_gt (h _ hm)
theorem all_app {D : Addr} {a b : List (Addr × Obj)} (h : ∀ p ∈ a, p.1 ≠ D) (h' : ∀ p ∈ b, p.1 ≠ D) : ∀ p ∈ a ++ b, p.1 ≠ D := fun p hp => (List.mem_append.mp hp).elim (h p) (h' p)
end
section
variable {prog : Program} {w : World} {A : Around} {E : Value → Shared → Prop} {s : Shared} {env : Env} {h₀ : Heap} {x : Str} {body : List Stmt} {Q : Flow → Shared → Prop}
theorem step_two' {r D₁ D₂ : Addr} {rest : List (Addr × Obj)} {n : Nat} {t₀ u₀ v₀ : Tok} {m₀ : Str → Option Value} (stored : List Str) (P : Nat → LV → LV → Prop) (c₁ c₂ : LV)
    (hh : A.handled = none) (hr : IsRange s.heap r 0 (n : Int) 1 t₀ u₀ v₀) (hn : n ≤ 1000) (F : Fr h₀ env.locals s.heap m₀) (N : News h₀ env.locals s.heap ((D₁, listOf c₁.1.toArray c₁.2.2) :: (D₂, listOf c₂.1.toArray c₂.2.2) :: rest)) (i₁ : IntsAre c₁.1 (castL c₁.2.1)) (i₂ : IntsAre c₂.1 (castL c₂.2.1)) (hp : P 0 c₁ c₂) (d₁ : ∀ p ∈ rest, p.1 ≠ D₁) (d₂ : ∀ p ∈ rest, p.1 ≠ D₂)
    (turn : ∀ (c d : LV) (i : Nat) t (u : Str → Option Value) h tk own, i < n → OwnOff own (D₁ :: D₂ :: rest.map (·.1)) → (∀ p ∈ rest ++ own, p.1 ≠ D₁) → (∀ p ∈ rest ++ own, p.1 ≠ D₂) → IntsAre c.1 (castL c.2.1) → IntsAre d.1 (castL d.2.1) → P i c d →
      Fr h₀ env.locals h (fun y => if y = x then some (.int (i : Int) t) else if stored.contains y then u y else m₀ y) → News h₀ env.locals h ((D₁, listOf c.1.toArray c.2.2) :: (D₂, listOf d.1.toArray d.2.2) :: (rest ++ own)) →
      wpAny (model prog w) A (execs body env) (InvPostN h₀ env.locals (fun m nx => ∃ c' d' : LV, nx = (D₁, listOf c'.1.toArray c'.2.2) :: (D₂, listOf d'.1.toArray d'.2.2) :: rest ∧ IntsAre c'.1 (castL c'.2.1) ∧ IntsAre d'.1 (castL d'.2.1) ∧ (∀ z, z ≠ x → stored.contains z = false → m z = m₀ z) ∧ P (i + 1) c' d') own (D₁ :: D₂ :: rest.map (·.1)) { s with heap := h, toks := tk } Q) E { s with heap := h, toks := tk })
    (done : ∀ (c d : LV) (u : Str → Option Value) h tk, IntsAre c.1 (castL c.2.1) → IntsAre d.1 (castL d.2.1) → P n c d → Fr h₀ env.locals h (fun y => if y = x then u y else if stored.contains y then u y else m₀ y) → News h₀ env.locals h ((D₁, listOf c.1.toArray c.2.2) :: (D₂, listOf d.1.toArray d.2.2) :: rest) → Q .next { s with heap := h, toks := tk }) :
    wpAny (model prog w) A (pyIter (.ref r)) (fun it s₂ => LoopAtV prog w A h₀ env x body Q E it s₂) E s :=
  step_two stored P c₁ c₂ hh hr hn F N i₁ i₂ hp (fun c d i t u h tk own hi hoff => turn c d i t u h tk own hi hoff (all_app d₁ (hoff.ne (.head _))) (all_app d₂ (hoff.ne (.tail _ (.head _))))) done
end
end Mine
namespace Mine
theorem enter_callC {M : Model} {A : Around} {s : Shared} {f : Value} {pos : List Value} {kw : List (Str × Value)} {c : ClaimW} {cl : Str → Option Addr} {mean : ExcName → Option Value} {args : List WData} {s₁ : Shared}
    (h : codeC M A (.call f ⟨pos, kw⟩) (GoodWG c cl mean args s₁) s) : wpC M A (PySem.call f pos kw) (fun v s' => GoodWG c cl mean args s₁ (.ok (.ret v)) s') (fun e s' => GoodWG c cl mean args s₁ (.error e) s') s :=
  wpC_call (codeC_mono h fun res s' g => by rcases g.1 with ⟨v, _, _, rfl, _⟩ | ⟨e, _, _, rfl, _⟩ <;> exact g)
theorem call_fullC {prog : Program} {w : World} {A : Around} {R : Result → Shared → Prop} {s : Shared} {name : Str} {params : Arguments} {body : List Stmt} {scope : Scope}
    {dV kV pm cd doc : Value} {a : Addr} {o : Obj} {args : Args} {binds : List (Str × Value)}
    (hroom : A.depth < recursionLimit) (ho : s.heap.get? a = some o) (hdata : o.data = .func { docDef name params body scope pm cd doc with defaults := dV, kwdefaults := kV }) (hlim : s.heap.NoLimit) (hcd : s.heap.CodeRec cd name)
    (hbind : BindsTo s { docDef name params body scope pm cd doc with defaults := dV, kwdefaults := kV } args binds)
    (hloc : ∀ x ∈ binds, scope.names.lookup x.1 = some .local)
    (h : ∀ h₁, Fr s.heap s.heap.objs.size h₁ (fun x => binds.reverse.lookup x) →
      wpC (model prog w) (A.deeper (envOf name scope s.heap.objs.size a cd)) (execs body (envOf name scope s.heap.objs.size a cd))
        (fun f s' => R (.ok (.ret (match f with | .ret v => v | _ => .none))) s')
        (fun e s' => wpAny (model prog w) (A.deeper (envOf name scope s.heap.objs.size a cd)) (leaving (envOf name scope s.heap.objs.size a cd) e)
          (fun _ s'' => R (.error e) s'') (fun e' s'' => R (.error e') s'') s')
        { s with heap := h₁, toks := s.toks + binds.length })
    (hco : scope.isCoroutine = false := by rfl) (hgen : scope.isGenerator = false := by rfl) (hk : scope.kind = .function := by rfl)
    (hcell : ∀ x ∈ scope.names, x.2 ≠ .cell := by decide) :
    codeC (model prog w) A (.call (.ref a) args) R s :=
  codeC_call_def hroom ho hdata hlim hcd rfl hbind hcell hloc (fun h₁ hns hkeep => h h₁ ⟨hns, hkeep, Nat.le_refl _⟩) hco hgen hk
end Mine
namespace Mine
section
variable {prog : Program} {w : World} {A : Around} {E : Value → Shared → Prop} {s : Shared} {Q : Value → Shared → Prop} {t u : Tok}
theorem eqB_no {b : List UInt8} {c : Array UInt8} (hne : b ≠ c.toList) (h : Q (.bool false) s) : wpAny (model prog w) A (compareOp .Eq (.bytes b.toArray t) (.bytes c u)) Q E s := by
  refine eq_bytes ?_
  have e : (b.toArray.toList == c.toList) = false := beq_eq_false_iff_ne.mpr hne
  rw [e]
  exact h
theorem neB_no {b c : List UInt8} (he : b = c) (h : Q (.bool false) s) : wpAny (model prog w) A (compareOp .NotEq (.bytes b.toArray t) (.bytes c.toArray u)) Q E s := by
  refine ne_bytes ?_
  have e : (b.toArray.toList != c.toArray.toList) = false := by subst he; exact bne_self_eq_false _
  rw [e]
  exact h
end
end Mine
namespace Mine
section
variable {M : Model} {A : Around} {E : Value → Shared → Prop} {s : Shared} {env : Env}
theorem codeC_loop {c : Code} {R : Result → Shared → Prop} (hd : decoder c = false) (hq : c.quiet = true) (I : Nat → Shared → Prop)
    (turn : ∀ n s, I n s → wpC M (A.under c) (M.den c)
      (fun fin s' => match fin with
        | .done f => R (.ok f) s'
        | .again c' => (c' = c ∧ ∃ m, m < n ∧ I m s') ∨ (c'.quiet = true ∧ codeC M A c' R s')) (fun e s' => R (.error e) s') s)
    (n : Nat) (h : I n s) : codeC M A c R s := by
  induction n using Nat.strongRecOn generalizing s with
  | ind n ih =>
    refine codeC_of_tree hd (wpC_mono (turn n s h) (fun fin s' hf => ?_) fun _ _ h' => h')
    cases fin with
    | done f => exact hf
    | again c' =>
      rcases hf with ⟨rfl, m, hm, hI⟩ | hf
      · exact ⟨hq, ih m hm hI⟩
      · exact hf
theorem wpC_noted {α : Type} {m : Sem α} {Q : α → Shared → Prop} (h : wpC M A m Q (notedBy M A env E) s) : wpC M A (m.onRaise fun x => do noteFrame x env; theTreesLotGoes x) Q E s :=
  wpC_onRaise (wpC_mono h (fun _ _ q => q) fun _ _ hx => wpAny_bind (wpAny_mono hx (fun _ _ e => wpAny_theTreesLotGoes e) fun _ _ e => e))
theorem wpC_runOwn {c : Code} {Q : Flow → Shared → Prop}
    (hc : codeC M (A.mark none) c (fun r s' => match r with | .ok f => Q f s' | .error e => cameBackBy M A env E e s') s) :
    wpC M A (runOwn c env none) Q E s := by
  unfold runOwn
  exact wpC_onRaise (wpC_run hc)
theorem wpC_For {target iter body orelse pos} {Q : Flow → Shared → Prop}
    (h : wpAny M A (eval iter env) (fun x s₁ => wpAny M A (pyIter x) (fun it s₂ =>
      codeC M A (.forLoop target it body orelse env) (fun r s' => match r with | .ok f => Q f s' | .error e => cameBackBy M A env E e s') s₂) E s₁) E s)
    (hs : ∀ x, foldedSetIterable iter env x = pure x := by intro _; rfl) :
    wpC M A (exec (.For target iter body orelse pos) env) Q E s := by
  rw [exec_For]
  exact wpC_bindA (wpAny_standAt (wpC_bindA (wpAny_mono h (fun x s₁ h₁ => wpC_bindA (wpAny_of_eq (hs x) (wpC_bindA (wpAny_standAt (wpC_bindA (wpAny_holding
    (wpAny_mono h₁ (fun it s₂ h₂ => wpC_runOwn h₂) fun _ _ h' => h'))))))) fun _ _ h' => h')))
end
section
variable {prog : Program} {w : World} {A : Around} {E : Value → Shared → Prop} {s : Shared} {env : Env} {h₀ : Heap}
theorem codeC_forLoop {R : Result → Shared → Prop} {target it body env} (I : Nat → Shared → Prop)
    (turn : ∀ n s, I n s → wpAny (model prog w) A (pyNext it) (fun r s₁ => match r with
      | none => wpAny (model prog w) A (execs [] env) (fun f s₃ => R (.ok f) s₃) (notedBy (model prog w) A env fun e s' => R (.error e) s') s₁
      | some v => wpAny (model prog w) A (assign target env v) (fun _ s₂ => wpC (model prog w) A (execs body env) (fun f s₃ => match f with
          | .next | .cont => ∃ m, m < n ∧ I m s₃
          | .brk => R (.ok .next) s₃
          | .ret v => R (.ok (.ret v)) s₃) (notedBy (model prog w) A env fun e s' => R (.error e) s') s₂) (notedBy (model prog w) A env fun e s' => R (.error e) s') s₁) (notedBy (model prog w) A env fun e s' => R (.error e) s') s)
    (n : Nat) (h : I n s) (ht : ∀ v, letOwnedTupleGo target it v = pure () := by intro _; rfl) : codeC (model prog w) A (.forLoop target it body [] env) R s := by
  refine codeC_loop rfl rfl I (fun n s hI => ?_) n h
  show wpC _ _ ((forTurn target it body [] env).onRaise (fun x => do noteFrame x env; theTreesLotGoes x)) _ _ s
  refine wpC_noted ?_
  simp only [forTurn]
  refine wpC_bindA (wpAny_standAt (wpC_bindA (wpAny_onRaise (wpAny_mono (turn n s hI) (fun r s₁ h₁ => ?_) fun _ _ h' => wpAny_standAt h'))))
  cases r with
  | none => exact wpC_pure (.inr ⟨rfl, codeC_of_any (codeAny_block h₁)⟩)
  | some v =>
    refine wpC_bindA (wpAny_of_eq (ht v) ?_)
    refine wpC_bindA (wpAny_mono h₁ (fun _ s₂ h₂ => wpC_bind (wpC_mono h₂ (fun f s₃ h₃ => ?_) fun _ _ h' => h')) fun _ _ h' => h')
    cases f with
    | next => exact wpC_pure (.inl ⟨rfl, h₃⟩)
    | cont => exact wpC_pure (.inl ⟨rfl, h₃⟩)
    | brk => exact wpC_pure h₃
    | ret v => exact wpC_pure h₃
/-- a loop over a range in the tidy logic, by what holds of its state -/
def LoopAtC (prog : Program) (w : World) (A : Around) (h₀ : Heap) (env : Env) (x : Str) (body : List Stmt) (Q : Flow → Shared → Prop) (E : Value → Shared → Prop) (it : Value) (s₂ : Shared) : Prop :=
  ∃ (I : Addr) (fp wr : List Addr) (n : Nat) (P : Nat → Value → Prop) (St : Nat → Heap → Prop) (m : Str → Option Value) (news : List (Addr × Obj)) (J : Nat → (Str → Option Value) → List (Addr × Obj) → Prop),
    it = .ref I ∧ Walks prog w A I fp wr n P St ∧ env.locals ∉ fp ∧ (∀ b ∈ wr, h₀.get? b = none) ∧ (∀ p ∈ news, p.1 ∉ wr) ∧ St 0 s₂.heap ∧ Fr h₀ env.locals s₂.heap m ∧ News h₀ env.locals s₂.heap news ∧ J 0 m news ∧
    (∀ i v m₁ news₁ s₁ own, (∃ h tk, s₁ = { s₂ with heap := h, toks := tk }) → i < n → P i v → J i m₁ news₁ → (∀ p ∈ news₁, p.1 ∉ wr) → (∀ p ∈ own, p.1 ∈ fp) → (∀ p ∈ own, s₁.heap.get? p.1 = some p.2) → (∀ b ∈ fp, h₀.get? b = none → ∀ o, s₁.heap.get? b = some o → (b, o) ∈ own) → St (i + 1) s₁.heap →
      Fr h₀ env.locals s₁.heap (fun y => if y = x then some v else m₁ y) → News h₀ env.locals s₁.heap (own ++ news₁) →
      wpC (model prog w) A (execs body env) (LoopStepV h₀ env.locals wr own (J (i + 1)) s₁ (fun v s' => Q (.ret v) s') fun s' => Q .next s') E s₁) ∧
    ∀ h' tk m' news', Fr h₀ env.locals h' m' → News h₀ env.locals h' news' → (∀ p ∈ news', p.1 ∉ wr) → J n m' news' → Q .next { s₂ with heap := h', toks := tk }
theorem codeC_forLoop_fr {R : Result → Shared → Prop} {x : Str} {px : Pos} {body : List Stmt} {I : Addr} {fp wr : List Addr} {n : Nat} {P : Nat → Value → Prop} {St : Nat → Heap → Prop} {m : Str → Option Value}
    {news : List (Addr × Obj)} (W : Walks prog w A I fp wr n P St) (hx : env.kindOf x = some .local)
    (hp : (env.scope.kind == .class || (env.scope.kind == .module && env.locals != env.globals)) = false)
    (hLf : env.locals ∉ fp) (hwr : ∀ b ∈ wr, h₀.get? b = none) (hnw : ∀ p ∈ news, p.1 ∉ wr)
    (hst : St 0 s.heap) (F : Fr h₀ env.locals s.heap m) (N : News h₀ env.locals s.heap news)
    (J : Nat → (Str → Option Value) → List (Addr × Obj) → Prop) (h0 : J 0 m news)
    (step : ∀ i v m₁ news₁ s₁ own, (∃ h tk, s₁ = { s with heap := h, toks := tk }) → i < n → P i v → J i m₁ news₁ → (∀ p ∈ news₁, p.1 ∉ wr) → (∀ p ∈ own, p.1 ∈ fp) → (∀ p ∈ own, s₁.heap.get? p.1 = some p.2) → (∀ b ∈ fp, h₀.get? b = none → ∀ o, s₁.heap.get? b = some o → (b, o) ∈ own) → St (i + 1) s₁.heap →
      Fr h₀ env.locals s₁.heap (fun y => if y = x then some v else m₁ y) → News h₀ env.locals s₁.heap (own ++ news₁) →
      wpC (model prog w) A (execs body env) (LoopStepV h₀ env.locals wr own (J (i + 1)) s₁ (fun v s' => R (.ok (.ret v)) s') fun s' => R (.ok .next) s') (notedBy (model prog w) A env fun e s' => R (.error e) s') s₁)
    (hR : ∀ h' tk m' news', Fr h₀ env.locals h' m' → News h₀ env.locals h' news' → (∀ p ∈ news', p.1 ∉ wr) → J n m' news' → R (.ok .next) { s with heap := h', toks := tk }) :
    codeC (model prog w) A (.forLoop (.Name x px) (.ref I) body [] env) R s := by
  have hLw : env.locals ∉ wr := fun h => hLf (W.sub _ h)
  have old : ∀ b o, h₀.get? b = some o → b ∉ wr := fun b o e hb => by rw [hwr b hb] at e; cases e
  refine codeC_forLoop
    (fun k s' => ∃ h' tk m' news' i, s' = { s with heap := h', toks := tk } ∧ St i h' ∧ Fr h₀ env.locals h' m' ∧ News h₀ env.locals h' news' ∧ (∀ p ∈ news', p.1 ∉ wr) ∧ J i m' news' ∧ i ≤ n ∧ k = n + 1 - i) ?_ (n + 1)
    ⟨s.heap, s.toks, m, news, 0, rfl, hst, F, N, hnw, h0, Nat.zero_le _, rfl⟩
  rintro k s' ⟨h', tk, m', news', i, rfl, hst', F', N', hnw', hJ, hi, rfl⟩
  have next : ∀ h₁ : Heap, (∀ b o, b ∉ wr → h'.get? b = some o → h₁.get? b = some o) → Fr h₀ env.locals h₁ m' ∧ News h₀ env.locals h₁ news' := fun h₁ hk₁ =>
    ⟨⟨F'.ns.at' fun o e => hk₁ _ o hLw e, fun b o e => hk₁ b o (old b o e) (F'.keep b o e), F'.above⟩, fun p hp => ⟨hk₁ _ _ (hnw' p hp) (N' p hp).1, (N' p hp).2⟩⟩
  by_cases hlt : i < n
  · refine W.item i _ _ _ hlt hst' fun v h₁ tk₁ hP hst₁ hk₁ => ?_
    obtain ⟨F₁, N₁⟩ := next h₁ hk₁
    refine wpAny_assign_Name (wpAny_storeName_local hx F₁.ns (fun h₂ hn₂ hs₂ => ?_) hp)
    have F₂ := F₁.set hn₂ hs₂
    have Nown : News h₀ env.locals h₂ (ownOf h₀ fp h₂) := news_ownOf hLf
    have hst₂ : St (i + 1) h₂ := W.frame _ _ _ hst₁ fun b hb o e => (hs₂.2 b fun q => hLf (q ▸ hb)).trans e
    refine wpC_mono (step i v m' news' _ (ownOf h₀ fp h₂) ⟨_, _, rfl⟩ hlt hP hJ hnw' ownOf_sub (fun p hp => (Nown p hp).1) (fun b hb hn o e => mem_ownOf hb hn e) hst₂ F₂ (Nown.append (N₁.set hs₂))) (fun f s₃ h₃ => ?_) fun _ _ e => e
    have fin : LoopStepU h₀ env.locals wr (ownOf h₀ fp h₂) (J (i + 1)) { s with heap := h₂, toks := tk₁ } .next s₃ → ∃ m, m < n + 1 - i ∧ ∃ h' tk m' news' i, s₃ = { s with heap := h', toks := tk } ∧ St i h' ∧ Fr h₀ env.locals h' m' ∧ News h₀ env.locals h' news' ∧ (∀ p ∈ news', p.1 ∉ wr) ∧ J i m' news' ∧ i ≤ n ∧ m = n + 1 - i := by
      rintro ⟨_, h₃', tk₃, m₂, news₂, rfl, F₃, N₃, ha₃, hJ₃⟩
      refine ⟨n + 1 - (i + 1), by omega, h₃', tk₃, m₂, news₂, i + 1, rfl, ?_, F₃, N₃.right, ha₃, hJ₃, hlt, rfl⟩
      refine W.frame _ _ _ hst₁ fun b hb o e => ?_
      have e₂ : h₂.get? b = some o := (hs₂.2 b fun q => hLf (q ▸ hb)).trans e
      cases hn : h₀.get? b with
      | some o₀ =>
        have : o₀ = o := by have := F₂.keep b o₀ hn; rw [e₂] at this; exact (Option.some.inj this).symm
        exact this ▸ F₃.keep b o₀ hn
      | none => exact (N₃ _ (List.mem_append_left _ (mem_ownOf hb hn e₂))).1
    cases f with
    | ret v => exact h₃
    | brk => exact h₃
    | cont => exact fin h₃
    | next => exact fin h₃
  · have hin : i = n := by omega
    subst hin
    refine W.done _ _ _ hst' fun h₁ tk₁ hk₁ => wpAny_execs_nil ?_
    obtain ⟨F₁, N₁⟩ := next h₁ hk₁
    exact hR h₁ tk₁ m' news' F₁ N₁ hnw' hJ
theorem For_C {Q : Flow → Shared → Prop} {x : Str} {px pos : Pos} {iter : PySem.Expr} {body : List Stmt} {m : Str → Option Value} (_F : Fr h₀ env.locals s.heap m) (hx : env.kindOf x = some .local)
    (hp : (env.scope.kind == .class || (env.scope.kind == .module && env.locals != env.globals)) = false)
    (h : wpAny (model prog w) A (eval iter env) (fun xv s₁ => wpAny (model prog w) A (pyIter xv) (fun it s₂ => LoopAtC prog w A h₀ env x body Q E it s₂) E s₁) E s)
    (hs : ∀ x, foldedSetIterable iter env x = pure x := by intro _; rfl)
    (hE : PassesOwn (model prog w) A env E := by passes_own) :
    wpC (model prog w) A (exec (.For (.Name x px) iter body [] pos) env) Q E s := by
  refine wpC_For (wpAny_mono h (fun xv s₁ h₁ => wpAny_mono h₁ (fun it s₂ h₂ => ?_) fun _ _ e => e) fun _ _ e => e) hs
  obtain ⟨I, fp, wr, n, P, St, m, news, J, rfl, W, hLf, hwr, hnw, hst, F, N, h0, step, hQ⟩ := h₂
  exact codeC_forLoop_fr (R := fun r s' => match r with | .ok f => Q f s' | .error e => cameBackBy (model prog w) A env E e s') W hx hp hLf hwr hnw hst F N J h0 (by intros; exact wpC_mono (by apply step <;> assumption) (fun _ _ x => x) hE) hQ
end
section
variable {prog : Program} {w : World} {A : Around} {E : Value → Shared → Prop} {s : Shared} {env : Env} {h₀ : Heap} {x : Str} {body : List Stmt} {Q : Flow → Shared → Prop}
theorem loop_invC {I : Addr} {fp wr : List Addr} {n : Nat} {P : Nat → Value → Prop} {St : Nat → Heap → Prop} {m₀ : Str → Option Value} {news : List (Addr × Obj)} (J : Nat → (Str → Option Value) → List (Addr × Obj) → Prop)
    (W : Walks prog w A I fp wr n P St) (hLf : env.locals ∉ fp) (hwr : ∀ b ∈ wr, h₀.get? b = none) (hnw : ∀ p ∈ news, p.1 ∉ wr) (hfp : ∀ q ∈ news, q.1 ∉ fp) (hst : St 0 s.heap) (F : Fr h₀ env.locals s.heap m₀) (N : News h₀ env.locals s.heap news) (hj : J 0 m₀ news)
    (turn : ∀ i v m₁ news₁ h tk own, i < n → P i v → news₁.map (·.1) = news.map (·.1) → OwnOff own (news.map (·.1)) → J i m₁ news₁ → Fr h₀ env.locals h (fun y => if y = x then some v else m₁ y) → News h₀ env.locals h (news₁ ++ own) →
      wpC (model prog w) A (execs body env) (InvPostN h₀ env.locals (J (i + 1)) own (news.map (·.1)) { s with heap := h, toks := tk } Q) E { s with heap := h, toks := tk })
    (done : ∀ m₁ news₁ h tk, J n m₁ news₁ → Fr h₀ env.locals h m₁ → News h₀ env.locals h news₁ → Q .next { s with heap := h, toks := tk }) :
    LoopAtC prog w A h₀ env x body Q E (.ref I) s := by
  let J' : Nat → (Str → Option Value) → List (Addr × Obj) → Prop := fun i m₁ news₁ => news₁.map (·.1) = news.map (·.1) ∧ J i m₁ news₁
  refine ⟨I, fp, wr, n, P, St, m₀, news, J', rfl, W, hLf, hwr, hnw, hst, F, N, ⟨rfl, hj⟩, ?_, ?_⟩
  · rintro i v m₁ news₁ s₁ own ⟨hh', tk', rfl⟩ hin hP ⟨hadr, hJ⟩ hoff hown _ _ _ F₁ N₁
    have hsep : OwnOff own (news.map (·.1)) := by
      intro p hp b hb e
      obtain ⟨q, hq, rfl⟩ := List.mem_map.mp hb
      exact hfp q hq (e ▸ hown p hp)
    have N₂ : News h₀ env.locals hh' (news₁ ++ own) := fun p hp => N₁ p ((List.mem_append.mp hp).elim (fun h => List.mem_append.mpr (.inr h)) fun h => List.mem_append.mpr (.inl h))
    refine wpC_mono (turn i v m₁ news₁ hh' tk' own hin hP hadr hsep hJ F₁ N₂) (fun f s₂ p => ?_) fun _ _ e => e
    have fin : InvEndN h₀ env.locals (J (i + 1)) own (news.map (·.1)) { s with heap := hh', toks := tk' } s₂ → LoopStepU h₀ env.locals wr own (J' (i + 1)) { s with heap := hh', toks := tk' } .next s₂ := by
      rintro ⟨h', tk, m', news', nx, e, F', N', hn, ho, ha, hm⟩
      refine ⟨rfl, h', tk, m', nx, e, F', fun p hp => N' p ((List.mem_append.mp hp).elim (ho p) (hn p)), fun p hp hq => ?_, ha, hm⟩
      have h1 : p.1 ∈ nx.map (·.1) := List.mem_map.mpr ⟨p, hp, rfl⟩
      rw [ha, ← hadr] at h1
      obtain ⟨q, hq1, hq2⟩ := List.mem_map.mp h1
      exact hoff q hq1 (by rw [hq2]; exact hq)
    cases f with
    | ret v => exact .ret p
    | brk => exact .brk p
    | next => exact .next (fin p)
    | cont => exact .cont (fin p)
  · rintro h' tk m' news' F' N' _ ⟨_, hJ⟩
    exact done m' news' h' tk hJ F' N'
theorem kst_stepC {σ : Type} {r : Addr} {a₀ b₀ d₀ : Int} {t₀ u₀ v₀ : Tok} {n : Nat} {m₀ : Str → Option Value} (Led : σ → List (Addr × Obj)) (ps : σ → List (Str × Value)) (Facts : σ → Prop) (stored : List Str) (P : List Int → σ → Prop) (c₀ : σ)
    (hh : A.handled = none) (hr : IsRange s.heap r a₀ b₀ d₀ t₀ u₀ v₀) (hsmall : Builtin.Range.small a₀ b₀ d₀ = true) (hn : Builtin.Range.rangeSize a₀ b₀ d₀ = (n : Int)) (F : Fr h₀ env.locals s.heap m₀) (N : News h₀ env.locals s.heap (Led c₀)) (hf : Facts c₀) (hk : ∀ p ∈ ps c₀, m₀ p.1 = some p.2) (hp : P [] c₀)
    (turn : ∀ (c : σ) (pre : List Int) (k : Int) t (u : Str → Option Value) h tk own, k = a₀ + (pre.length : Int) * d₀ → pre.length < n → OwnOff own ((Led c₀).map (·.1)) → Facts c → P pre c →
      Fr h₀ env.locals h (fun y => if y = x then some (.int k t) else kstB (fun z => if stored.contains z then u z else m₀ z) (ps c) y) → News h₀ env.locals h (Led c ++ own) →
      wpC (model prog w) A (execs body env) (InvPostN h₀ env.locals (KstS Led ps Facts x stored m₀ P (pre ++ [k])) own ((Led c₀).map (·.1)) { s with heap := h, toks := tk } Q) E { s with heap := h, toks := tk })
    (done : ∀ (c : σ) (u : Str → Option Value) h tk, Facts c → P (rangeInts a₀ d₀ n) c → Fr h₀ env.locals h (fun y => if y = x then u y else kstB (fun z => if stored.contains z then u z else m₀ z) (ps c) y) → News h₀ env.locals h (Led c) → Q .next { s with heap := h, toks := tk }) :
    wpAny (model prog w) A (pyIter (.ref r)) (fun it s₂ => LoopAtC prog w A h₀ env x body Q E it s₂) E s := by
  refine wpAny_pyIter_range hr hsmall ?_
  have W : Walks prog w A s.heap.objs.size [s.heap.objs.size] [s.heap.objs.size] n (fun i v => i < n ∧ ∃ t, v = .int (a₀ + i * d₀) t)
      (fun i h => IsRangeIter h s.heap.objs.size (a₀ + (i : Nat) * d₀) ((n : Int) - (i : Nat)) d₀) := (Walks.range hh _ a₀ d₀ n).bound
  refine loop_invC (fun i m nx => KstS Led ps Facts x stored m₀ P ((rangeInts a₀ d₀ n).take i) m nx) W ?_ ?_ ?_ ?_ (by show IsRangeIter _ _ _ _ _; rw [hn]; simpa using Heap.get?_push_size _ rfl) (F.push _) (fun p hp => ⟨Heap.get?_push_of_some _ (N p hp).1, (N p hp).2⟩) ⟨c₀, rfl, hf, hk, fun _ _ _ _ => rfl, by simpa using hp⟩ ?_ ?_
  · intro hm
    exact absurd F.ns.lt ((List.mem_singleton.mp hm) ▸ Nat.lt_irrefl _)
  · intro b hb
    rw [List.mem_singleton.mp hb]
    exact next_is_new F
  · intro p hp hI
    exact absurd (Heap.lt_size (N p hp).1) ((List.mem_singleton.mp hI) ▸ Nat.lt_irrefl _)
  · intro p hp hI
    exact absurd (Heap.lt_size (N p hp).1) ((List.mem_singleton.mp hI) ▸ Nat.lt_irrefl _)
  · rintro i v m₁ nx h tk own hi ⟨_, t, rfl⟩ _ hoff ⟨c, rfl, hf', h1, h2, hp'⟩ F₁ N₁
    have hs : (rangeInts a₀ d₀ n).take (i + 1) = (rangeInts a₀ d₀ n).take i ++ [a₀ + (i : Int) * d₀] := by simp [List.take_add_one, rangeInts_get hi]
    have hlen : ((rangeInts a₀ d₀ n).take i).length = i := by rw [List.length_take, rangeInts_length]; omega
    rw [hs]
    exact turn c _ _ t m₁ h tk own (by rw [hlen]) (by rw [hlen]; exact hi) hoff hf' hp' (kst_fr h1 h2 F₁) N₁
  · rintro m₁ nx h tk ⟨c, rfl, hf', h1, h2, hp'⟩ F₁ N₁
    have hl : (rangeInts a₀ d₀ n).take n = rangeInts a₀ d₀ n := List.take_of_length_le (Nat.le_of_eq (rangeInts_length _ _ _))
    rw [hl] at hp'
    exact done c m₁ h tk hf' hp' (kst_frOut h1 h2 F₁) N₁
end
end Mine
namespace Mine
/-- a slice of a list by two places -/
def cutL {α : Type} (l : List α) (lo hi : Nat) : List α := (l.drop lo).take (hi - lo)
theorem cutL_clip {α : Type} (l : List α) (lo hi : Nat) : (l.drop (min lo l.length)).take (min hi l.length - min lo l.length) = cutL l lo hi := by
  unfold cutL
  rcases Nat.le_total lo l.length with h1 | h1
  · rw [Nat.min_eq_left h1]
    rcases Nat.le_total hi l.length with h2 | h2
    · rw [Nat.min_eq_left h2]
    · rw [Nat.min_eq_right h2]
      have e1 : (l.drop lo).length = l.length - lo := List.length_drop
      rw [List.take_of_length_le (by omega), List.take_of_length_le (by omega)]
  · rw [Nat.min_eq_right h1, List.drop_of_length_le (Nat.le_refl _), List.drop_of_length_le h1]
    simp
theorem castL_cut (ks : List Nat) (lo hi : Nat) : castL (cutL ks lo hi) = cutL (castL ks) lo hi := by
  unfold castL cutL
  rw [List.map_take, List.map_drop]
theorem castL_drop (ks : List Nat) (lo : Nat) : castL (ks.drop lo) = (castL ks).drop lo := by
  unfold castL
  rw [List.map_drop]
theorem castL_take (ks : List Nat) (lo : Nat) : castL (ks.take lo) = (castL ks).take lo := by
  unfold castL
  rw [List.map_take]
theorem castL_inj {a b : List Nat} (h : castL a = castL b) : a = b := by
  have e : ∀ l : List Nat, (castL l).map Int.toNat = l := by
    intro l
    unfold castL
    rw [List.map_map]
    exact (List.map_congr_left fun _ _ => rfl).trans (List.map_id l)
  rw [← e a, ← e b, h]
theorem castL_dropLast (ks : List Nat) : castL ks.dropLast = (castL ks).dropLast := by
  unfold castL
  rw [List.map_dropLast]
theorem castL_any (ks : List Nat) (k : Nat) : (castL ks).any (· == (k : Int)) = ks.contains k := by
  induction ks with
  | nil => rfl
  | cons a r ih =>
    rw [castL] at ih
    rw [castL, List.map_cons, List.any_cons, ih, List.contains_cons]
    congr 1
    by_cases h : a = k
    · subst h; simp
    · have h1 : ¬ (k = a) := fun e => h e.symm
      rw [beq_eq_false_iff_ne.mpr h1, beq_eq_false_iff_ne]
      intro e
      exact h (Int.ofNat.inj e)
theorem cutL_length_le {α : Type} (l : List α) (lo hi : Nat) : (cutL l lo hi).length ≤ l.length := by
  unfold cutL
  rw [List.length_take, List.length_drop]
  omega
theorem ints_kf {us : List Value} {ns : List Int} (h : IntsAre us ns) : kf_ints us = true := by
  induction h with
  | nil => rfl
  | cons _ _ _ ih => exact ih
section
variable {prog : Program} {w : World} {A : Around} {E : Value → Shared → Prop} {s : Shared} {h₀ : Heap} {L : Addr} {m : Str → Option Value} {env : Env} {news news' : List (Addr × Obj)} {Q : Value → Shared → Prop}
theorem room_of {us : List Value} {ks : List Nat} (hi : IntsAre us (castL ks)) (hn : ks.length ≤ 1000000) : us.toArray.size ≤ sizeLine := by
  rw [List.size_toArray, hi.length, castL_length, sizeLine_eq]; omega
theorem extN {D b : Addr} {us ws : List Value} {ks js : List Nat} {k j : Nat} (F : Fr h₀ L s.heap m) (N : News h₀ L s.heap news) (hi : IntsAre us (castL ks)) (hj : IntsAre ws (castL js)) (hb : (b, listOf ws.toArray j) ∈ news) (hn : ks.length + js.length ≤ 1000000)
    (U : Upd D (PySem.W.listOf us.toArray k) (PySem.W.listOf (us ++ ws).toArray (if js.length = 0 then k else k + 1)) news news')
    (h : ∀ h', IntsAre (us ++ ws) (castL (ks ++ js)) → Fr h₀ L h' m → News h₀ L h' news' → Q .none { s with heap := h' }) : wpAny (model prog w) A (call (.builtin "list.extend") [.ref D, .ref b]) Q E s := by
  have l1 : us.length = ks.length := by rw [hi.length, castL_length]
  have l2 : ws.length = js.length := by rw [hj.length, castL_length]
  have hi2 : IntsAre (us ++ ws) (castL (ks ++ js)) := by rw [castL_append]; exact hi.append hj
  have hd : ¬(!us.toArray.isEmpty && Builtin.List.listTooLong (us.toArray.size + ws.toArray.size)) = true := by
    have : Builtin.List.listTooLong (us.toArray.size + ws.toArray.size) = false := by
      unfold Builtin.List.listTooLong
      rw [List.size_toArray, List.size_toArray, sizeLine_eq]
      exact decide_eq_false (by omega)
    rw [this, Bool.and_false]
    exact Bool.false_ne_true
  by_cases h0 : js.length = 0
  · have e0 : ws = [] := List.eq_nil_of_length_eq_zero (by omega)
    rw [if_pos h0] at U
    subst e0
    rw [List.append_nil] at U hi2
    refine kxn_extend F N hb rfl U hd (by show us.length ≤ _; rw [sizeLine_eq]; omega) (by rw [List.size_toArray, List.size_toArray, sizeLine_eq]; omega) fun h' F' N' => h h' (by rw [List.append_nil]; exact hi2) F' N'
  · rw [if_neg h0] at U
    exact kl_extend (its := us.toArray) (its2 := ws.toArray) F N hb rfl (by show ws.length ≠ 0; omega) U hd (by show us.length ≤ _; rw [sizeLine_eq]; omega) (by rw [List.size_toArray, List.size_toArray, sizeLine_eq]; omega) fun h' F' N' => h h' hi2 F' N'
theorem popN {D : Addr} {us : List Value} {ks : List Nat} {k : Nat} (F : Fr h₀ L s.heap m) (N : News h₀ L s.heap news) (hi : IntsAre us (castL ks)) (hne : 0 < ks.length) (hn : ks.length ≤ 1000000)
    (U : Upd D (listOf us.toArray k) (listOf us.dropLast.toArray (k + 1)) news news')
    (h : ∀ h' v, Fr h₀ L h' m → News h₀ L h' news' → IntsAre us.dropLast (castL ks.dropLast) → Q v { s with heap := h' }) : wpAny (model prog w) A (call (.builtin "list.pop") [.ref D]) Q E s := by
  have l1 : us.length = ks.length := by rw [hi.length, castL_length]
  refine kpa_pop F N U hi (by omega) (by rw [sizeLine_eq]; omega) fun h' t F' N' hi' => h h' _ F' N' ?_
  rw [castL_dropLast]
  exact hi'
theorem neN' {a b : Addr} {us ws : List Value} {ks js : List Nat} {k j : Nat} (N : News h₀ L s.heap news) (ha : (a, listOf us.toArray k) ∈ news) (hb : (b, listOf ws.toArray j) ∈ news) (hi : IntsAre us (castL ks)) (hj : IntsAre ws (castL js)) (hu : A.units + 64 < cLine)
    (h : Q (.bool (!decide (ks = js))) s) : wpAny (model prog w) A (compareOp .NotEq (.ref a) (.ref b)) Q E s := by
  refine ne_intsK (N.isList ha) hi (N.isList hb) hj hu ?_
  have e : decide (castL ks = castL js) = decide (ks = js) := by
    by_cases h : ks = js
    · subst h; rw [decide_eq_true rfl, decide_eq_true rfl]
    · rw [decide_eq_false h, decide_eq_false fun e => h (castL_inj e)]
  rw [e]
  exact h
theorem notinN {D : Addr} {us : List Value} {ks : List Nat} {k n : Nat} {t : Tok} (N : News h₀ L s.heap news) (ha : (D, listOf us.toArray k) ∈ news) (hi : IntsAre us (castL ks))
    (h : Q (.bool (!ks.contains n)) s) : wpAny (model prog w) A (compareOp .NotIn (.int (n : Int) t) (.ref D)) Q E s := by
  refine kf_notin N ha (ints_kf hi) ?_ h
  show (!us.any (isInt (n : Int))) = _
  rw [any_isInt _ hi, castL_any]
theorem lastN {value slice : PySem.Expr} {l : Addr} {us : List Value} {ks : List Nat} {k : Nat} {u : Tok} (N : News h₀ L s.heap news) (hl : (l, listOf us.toArray k) ∈ news) (hi : IntsAre us (castL ks)) (hne : 0 < ks.length)
    (h : ∀ t, Q (.int ((ks.getLastD 0 : Nat) : Int) t) s)
    (hs : subscripted slice false (.ref l) (.int (-1) u) = operate [.ref l, .int (-1) u] (getItem (.ref l) (.int (-1) u)) := by with_unfolding_all rfl) (hg : ∀ r, letTemporaryGo value (.ref l) r = pure () := by intro _; with_unfolding_all rfl) :
    wpAny (model prog w) A (subscriptTail value slice (.ref l) (.int (-1) u)) Q E s := by
  refine item_list_ints_neg (N.isList hl) hi (by decide) (by rw [castL_length]; omega) (by decide) (fun t => ?_) hs hg
  have e : (castL ks).getD (-1 + ((castL ks).length : Int)).toNat 0 = ((ks.getLastD 0 : Nat) : Int) := by
    rw [castL_length, show (-1 + (ks.length : Int)).toNat = ks.length - 1 by omega]
    rw [List.getD_eq_getElem?_getD, castL_get (by omega), Option.getD_some, List.getLastD_eq_getLast?, List.getLast?_eq_getElem?, List.getElem?_eq_getElem (by omega), Option.getD_some]
  rw [e]
  exact h t
theorem sliceN {value slice : PySem.Expr} {l : Addr} {us : List Value} {ks : List Nat} {k lo hi : Nat} {t u : Tok} (F : Fr h₀ L s.heap m) (N : News h₀ L s.heap news) (hl : (l, listOf us.toArray k) ∈ news) (i : IntsAre us (castL ks)) (hn : ks.length ≤ 1000000)
    (h : ∀ D ws h', IntsAre ws (castL (cutL ks lo hi)) → Fr h₀ L h' m → News h₀ L h' ((D, listOf (List.toArray ws) 0) :: news) → (∀ p ∈ news, p.1 < D) → Q (.ref D) { s with heap := h' })
    (hs : subscripted slice false (.ref l) (.ref s.heap.objs.size) = operate [.ref s.heap.objs.size, .ref l] (getItem (.ref l) (.ref s.heap.objs.size)) := by with_unfolding_all rfl) (ht : ∀ r, letTemporaryGo value (.ref l) r = pure () := by intro _; with_unfolding_all rfl) :
    wpAny (model prog w) A (subscriptTail value slice (.ref l) (.ref s.heap.objs.size)) Q E { s with heap := s.heap.push { cls := .type "slice", data := .fields #[.int (lo : Int) t, .int (hi : Int) u, .none] } } := by
  refine kms_slice_lit F N (N.isList hl) (.int _ _) (.int _ _) rfl (fun D h' F' N' l1 => h D _ h' ?_ F' N' l1) hs ht (room_of i hn)
  show IntsAre (kms_pick us (some (lo : Int)) (some (hi : Int))) _
  have e : kms_pick us (some (lo : Int)) (some (hi : Int)) = cutL us lo hi := by
    unfold kms_pick kms_lo kms_hi
    dsimp only
    rw [if_neg (by omega), if_neg (by omega), Int.toNat_natCast, Int.toNat_natCast, cutL_clip]
  rw [e, castL_cut]
  exact (i.drop _).take _
theorem sliceTo {value slice : PySem.Expr} {l : Addr} {us : List Value} {ks : List Nat} {k hi : Nat} {u : Tok} (F : Fr h₀ L s.heap m) (N : News h₀ L s.heap news) (hl : (l, listOf us.toArray k) ∈ news) (i : IntsAre us (castL ks)) (hn : ks.length ≤ 1000000)
    (h : ∀ D ws h', IntsAre ws (castL (ks.take hi)) → Fr h₀ L h' m → News h₀ L h' ((D, listOf (List.toArray ws) 0) :: news) → (∀ p ∈ news, p.1 < D) → Q (.ref D) { s with heap := h' })
    (hs : subscripted slice false (.ref l) (.ref s.heap.objs.size) = operate [.ref s.heap.objs.size, .ref l] (getItem (.ref l) (.ref s.heap.objs.size)) := by with_unfolding_all rfl) (ht : ∀ r, letTemporaryGo value (.ref l) r = pure () := by intro _; with_unfolding_all rfl) :
    wpAny (model prog w) A (subscriptTail value slice (.ref l) (.ref s.heap.objs.size)) Q E { s with heap := s.heap.push { cls := .type "slice", data := .fields #[.none, .int (hi : Int) u, .none] } } := by
  refine kms_slice_lit F N (N.isList hl) .none (.int _ _) rfl (fun D h' F' N' l1 => h D _ h' ?_ F' N' l1) hs ht (room_of i hn)
  show IntsAre (kms_pick us none (some (hi : Int))) _
  have e : kms_pick us none (some (hi : Int)) = us.take hi := by
    unfold kms_pick kms_lo kms_hi
    dsimp only
    rw [if_neg (by omega), Int.toNat_natCast, List.drop_zero, Nat.sub_zero]
    rcases Nat.le_total hi us.length with h2 | h2
    · rw [Nat.min_eq_left h2]
    · rw [Nat.min_eq_right h2, List.take_of_length_le (Nat.le_refl _), List.take_of_length_le h2]
  rw [e, castL_take]
  exact i.take _
theorem sliceFrom {value slice : PySem.Expr} {l : Addr} {us : List Value} {ks : List Nat} {k lo : Nat} {u : Tok} (F : Fr h₀ L s.heap m) (N : News h₀ L s.heap news) (hl : (l, listOf us.toArray k) ∈ news) (i : IntsAre us (castL ks)) (hn : ks.length ≤ 1000000)
    (h : ∀ D ws h', IntsAre ws (castL (ks.drop lo)) → Fr h₀ L h' m → News h₀ L h' ((D, listOf (List.toArray ws) 0) :: news) → (∀ p ∈ news, p.1 < D) → Q (.ref D) { s with heap := h' })
    (hs : subscripted slice false (.ref l) (.ref s.heap.objs.size) = operate [.ref s.heap.objs.size, .ref l] (getItem (.ref l) (.ref s.heap.objs.size)) := by with_unfolding_all rfl) (ht : ∀ r, letTemporaryGo value (.ref l) r = pure () := by intro _; with_unfolding_all rfl) :
    wpAny (model prog w) A (subscriptTail value slice (.ref l) (.ref s.heap.objs.size)) Q E { s with heap := s.heap.push { cls := .type "slice", data := .fields #[.int (lo : Int) u, .none, .none] } } := by
  refine kms_slice_lit F N (N.isList hl) (.int _ _) .none rfl (fun D h' F' N' l1 => h D _ h' ?_ F' N' l1) hs ht (room_of i hn)
  show IntsAre (kms_pick us (some (lo : Int)) none) _
  have e : kms_pick us (some (lo : Int)) none = us.drop lo := by
    unfold kms_pick kms_lo kms_hi
    dsimp only
    rw [if_neg (by omega), Int.toNat_natCast]
    rcases Nat.le_total lo us.length with h2 | h2
    · rw [Nat.min_eq_left h2, List.take_of_length_le (by rw [List.length_drop]; omega)]
    · rw [Nat.min_eq_right h2, List.drop_of_length_le (Nat.le_refl _), List.drop_of_length_le h2, List.take_nil]
  rw [e, castL_drop]
  exact i.drop _
end
section
variable {prog : Program} {w : World} {A : Around} {h₀ : Heap} {L : Addr} {m : Str → Option Value} {env : Env} {elt : PySem.Expr} {x : Str} {scope : Scope} {cl : List (Str × Addr)} {s : Shared} {S : List (Addr × Obj) → Prop} {P : Nat → Value → Prop} {Fin : List Value → List (Addr × Obj) → Prop} {news : List (Addr × Obj)}
/-- a comprehension whose elements are told one by one -/
theorem comp_rel {n : Nat} (Rel : Nat → Value → Prop)
    (turn : ∀ i v I oI C oC D m₂ ys h tk (E' : Value → Shared → Prop), i < n → P i v → LCg.NsObj oC m₂ → m₂ x = some v → Fr h₀ L h m → News h₀ L h ((I, oI) :: (C, oC) :: (D, LCg.lst ys) :: news) → LCg.Off3 I C D news → ((@Ne Nat I C) ∧ (@Ne Nat I D) ∧ (@Ne Nat C D)) →
      wpAny (model prog w) A (eval elt (compEnvC scope cl C env)) (LCg.CompEnd h₀ L m { s with heap := h, toks := tk } I oI C oC D (LCg.lst ys) S (fun y news' => news' = news ∧ Rel i y)) E' { s with heap := h, toks := tk })
    (fin : ∀ ys : List Value, ys.length = n → (∀ i y, ys[i]? = some y → Rel i y) → Fin ys news) : LCg.CompRest prog w A h₀ L m env elt x scope cl s S P Fin n 0 [] news := by
  have key : ∀ (j i : Nat) (ys : List Value), i + j = n → ys.length = i → (∀ i y, ys[i]? = some y → Rel i y) → LCg.CompRest prog w A h₀ L m env elt x scope cl s S P Fin j i ys news := by
    intro j
    induction j with
    | zero =>
      intro i ys hi hl hy
      exact LCg.CompRest.zero (fin ys (by omega) hy)
    | succ j ih =>
      intro i ys hi hl hy
      refine LCg.CompRest.succ ?_
      intro v I oI C oC D m₂ h tk E' hv hC hx F N off ne
      refine wpAny_mono (turn i v I oI C oC D m₂ ys h tk E' (by omega) hv hC hx F N off ne) (fun y s₂ hq => ?_) fun _ _ e => e
      obtain ⟨h', tk', nw, e, F', N', off', hS, hn, hy'⟩ := hq
      rw [hn] at N' off' hS
      refine ⟨h', tk', news, e, F', N', off', hS, ?_⟩
      refine ih (i + 1) _ (by omega) (by rw [List.length_append, List.length_singleton, hl]) ?_
      intro k z hz
      rcases Nat.lt_or_ge k ys.length with hk | hk
      · rw [List.getElem?_append_left hk] at hz
        exact hy k z hz
      · rw [List.getElem?_append_right hk] at hz
        have hk0 : k = i := by
          rcases Nat.lt_or_ge (k - ys.length) 1 with h1 | h1
          · omega
          · rw [List.getElem?_eq_none (by simpa using h1)] at hz
            cases hz
        subst hk0
        rw [hl, Nat.sub_self] at hz
        cases hz
        exact hy'
  exact key n 0 [] (by omega) rfl fun i y h => by simp at h
end
end Mine
namespace Mine
/-- a while's end: the test fails -/
def WEnd {σ : Type} (h₀ : Heap) (L : Addr) (s : Shared) (Led : σ → List (Addr × Obj)) (ps : σ → List (Str × Value)) (stored : List Str) (m₀ : Str → Option Value) (X : σ → Prop) (c : σ) (s₂ : Shared) : Prop :=
  ∃ (u : Str → Option Value) (h' : Heap) (tk : Nat) (news' : List (Addr × Obj)), s₂ = { s with heap := h', toks := tk } ∧ X c ∧ Fr h₀ L h' (kstB (fun z => if stored.contains z then u z else m₀ z) (ps c)) ∧ News h₀ L h' news' ∧ ∀ p ∈ Led c, p ∈ news'
section
variable {prog : Program} {w : World} {A : Around} {E : Value → Shared → Prop} {Q : Flow → Shared → Prop} {s : Shared} {env : Env} {h₀ : Heap} {L : Addr}
theorem whileD {σ : Type} {test : PySem.Expr} {body : List Stmt} {pos : Pos} {m₀ : Str → Option Value} (Led : σ → List (Addr × Obj)) (ps : σ → List (Str × Value)) (Facts : σ → Prop) (stored : List Str) (P : σ → Prop) (X : σ → Prop) (μ : σ → Nat) (c₀ : σ)
    (F : Fr h₀ L s.heap m₀) (N : News h₀ L s.heap (Led c₀)) (hf : Facts c₀) (hk : ∀ p ∈ ps c₀, m₀ p.1 = some p.2) (hp : P c₀)
    (turn : ∀ (c : σ) (u : Str → Option Value) h tk, Facts c → P c → Fr h₀ L h (kstB (fun z => if stored.contains z then u z else m₀ z) (ps c)) → News h₀ L h (Led c) →
      wpAny (model prog w) A (isTrue test env (eval test env)) (fun b s₂ =>
        if b = true then wpAny (model prog w) A (execs body env) (KswPost h₀ L s Led ps Facts stored m₀ P μ Q c) E s₂ else WEnd h₀ L s Led ps stored m₀ X c s₂) E { s with heap := h, toks := tk })
    (done : ∀ (c : σ) (u : Str → Option Value) h tk, Facts c → P c → X c → Fr h₀ L h (kstB (fun z => if stored.contains z then u z else m₀ z) (ps c)) → News h₀ L h (Led c) → Q .next { s with heap := h, toks := tk })
    (hE : PassesOwn (model prog w) A env E := by passes_own) :
    wpAny (model prog w) A (exec (.While test body [] pos) env) Q E s := by
  refine ksw_while Led ps Facts stored P μ c₀ F N hf hk hp (fun c u h tk hfc hpc F' N' => ?_) hE
  refine wpAny_mono (turn c u h tk hfc hpc F' N') (fun b s₂ hb => ?_) fun _ _ e => e
  cases b with
  | true => simpa using hb
  | false =>
    have hb' : WEnd h₀ L s Led ps stored m₀ X c s₂ := by simpa using hb
    obtain ⟨u', h', tk', news', rfl, hx, F'', N'', sub⟩ := hb'
    show (if false = true then _ else Q .next _)
    rw [if_neg Bool.false_ne_true]
    exact done c u' h' tk' hfc hpc hx F'' fun p hp => N'' p (sub p hp)
end
end Mine
namespace Mine
section
variable {prog : Program} {w : World} {A : Around} {E : Value → Shared → Prop} {s : Shared} {env : Env} {h₀ : Heap} {x : Str} {body : List Stmt} {Q : Flow → Shared → Prop}
/-- a loop over a list of any values, the ledger as it stands -/
theorem vals_loop {σ : Type} {l : Addr} {vs : List Value} {nn : Nat} {m₀ : Str → Option Value} {news : List (Addr × Obj)} (ps : σ → List (Str × Value)) (stored : List Str) (P : Nat → σ → Prop) (c₀ : σ)
    (hh : A.handled = none) (hl : (l, listOf vs.toArray nn) ∈ news) (F : Fr h₀ env.locals s.heap m₀) (N : News h₀ env.locals s.heap news) (hk : ∀ p ∈ ps c₀, m₀ p.1 = some p.2) (hp : P 0 c₀)
    (turn : ∀ (c : σ) i v (u : Str → Option Value) h tk own, vs[i]? = some v → OwnOff own (news.map (·.1)) → P i c →
      Fr h₀ env.locals h (fun y => if y = x then some v else kstB (fun z => if stored.contains z then u z else m₀ z) (ps c) y) → News h₀ env.locals h (news ++ own) →
      wpAny (model prog w) A (execs body env) (InvPostN h₀ env.locals (KstS (Function.const _ news) ps (fun _ => True) x stored m₀ (fun pre c => P pre.length c) (List.replicate (i + 1) 0)) own (news.map (·.1)) { s with heap := h, toks := tk } Q) E { s with heap := h, toks := tk })
    (done : ∀ (c : σ) (u : Str → Option Value) h tk, P vs.length c → Fr h₀ env.locals h (fun y => if y = x then u y else kstB (fun z => if stored.contains z then u z else m₀ z) (ps c) y) → News h₀ env.locals h news → Q .next { s with heap := h, toks := tk }) :
    wpAny (model prog w) A (pyIter (.ref l)) (fun it s₂ => LoopAtV prog w A h₀ env x body Q E it s₂) E s := by
  refine kdl_iter (fun i m nx => KstS (Function.const _ news) ps (fun _ => True) x stored m₀ (fun pre c => P pre.length c) (List.replicate i 0) m nx) hh hl F N ⟨c₀, rfl, trivial, hk, fun _ _ _ _ => rfl, hp⟩ ?_ ?_
  · rintro i v m₁ nx h tk own hv hoff _ ⟨c, e0, _, h1, h2, hp'⟩ F₁ N₁
    have e0' : news = nx := e0.symm
    subst e0'
    have hp2 : P i c := by
      have := hp'
      rw [List.length_replicate] at this
      exact this
    refine wpAny_mono (turn c i v m₁ h tk own hv hoff hp2 (kst_fr h1 h2 F₁) N₁) (fun f s₂ p => ?_) fun _ _ e => e
    have up : InvEndN h₀ env.locals (KstS (Function.const _ news) ps (fun _ => True) x stored m₀ (fun pre c => P pre.length c) (List.replicate (i + 1) 0)) own (news.map (·.1)) { s with heap := h, toks := tk } s₂ →
        InvEndG h₀ env.locals (fun m' nx => (l, listOf vs.toArray nn) ∈ nx ∧ KstS (Function.const _ news) ps (fun _ => True) x stored m₀ (fun pre c => P pre.length c) (List.replicate (i + 1) 0) m' nx) own { s with heap := h, toks := tk } s₂ := by
      rintro ⟨h', tk', m', news', nx', e', F', N', hn', ho', ha, hS⟩
      refine ⟨h', tk', m', news', nx', e', F', N', hn', ho', ?_, ?_, hS⟩
      · rw [ha]
        exact hoff
      · obtain ⟨c', e1, _⟩ := hS
        rw [e1]
        exact hl
    cases f with
    | ret v => exact p
    | brk => exact p
    | next => exact up p
    | cont => exact up p
  · rintro m₁ nx h tk ⟨c, e0, _, h1, h2, hp'⟩ F₁ N₁
    have e0' : news = nx := e0.symm
    subst e0'
    have hp2 : P vs.length c := by
      have := hp'
      rw [List.length_replicate] at this
      exact this
    exact done c m₁ h tk hp2 (kst_frOut h1 h2 F₁) N₁
end
/-- texts of bytes, one by one -/
def BytesAre (us : List Value) (bs : List (List UInt8)) : Prop := us.length = bs.length ∧ ∀ i y, us[i]? = some y → ∃ t, y = Value.bytes (bs.getD i []).toArray t
theorem BytesAre.at {us : List Value} {bs : List (List UInt8)} (h : BytesAre us bs) {i : Nat} (hi : i < bs.length) : ∃ t, us[i]? = some (Value.bytes bs[i].toArray t) := by
  have hl : i < us.length := by rw [h.1]; exact hi
  obtain ⟨t, e⟩ := h.2 i us[i] (List.getElem?_eq_getElem hl)
  refine ⟨t, ?_⟩
  rw [List.getElem?_eq_getElem hl, e, List.getD_eq_getElem?_getD, List.getElem?_eq_getElem hi, Option.getD_some]
section
variable {prog : Program} {w : World} {A : Around} {E : Value → Shared → Prop} {s : Shared} {h₀ : Heap} {L : Addr} {news : List (Addr × Obj)} {Q : Value → Shared → Prop}
theorem bytesN {value slice : PySem.Expr} {l : Addr} {us : List Value} {bs : List (List UInt8)} {k j : Nat} {u : Tok} (N : News h₀ L s.heap news) (hl : (l, listOf us.toArray k) ∈ news) (hi : BytesAre us bs) (hj : j < bs.length) (hn : bs.length ≤ 1000000)
    (h : ∀ t, Q (.bytes bs[j].toArray t) s)
    (hs : subscripted slice false (.ref l) (.int (j : Int) u) = operate [.ref l, .int (j : Int) u] (getItem (.ref l) (.int (j : Int) u)) := by with_unfolding_all rfl) (hg : ∀ r, letTemporaryGo value (.ref l) r = pure () := by intro _; with_unfolding_all rfl) :
    wpAny (model prog w) A (subscriptTail value slice (.ref l) (.int (j : Int) u)) Q E s := by
  obtain ⟨t, ht⟩ := hi.at hj
  exact item_list (items := us.toArray) (N.isList hl) (Int.natCast_nonneg _) (by omega) (by rw [Int.toNat_natCast, List.getElem?_toArray]; exact ht) (h t) hs hg
theorem refN {value slice : PySem.Expr} {l : Addr} {vs : List Value} {v : Value} {k j : Nat} {u : Tok} (N : News h₀ L s.heap news) (hl : (l, listOf vs.toArray k) ∈ news) (hj : vs[j]? = some v) (hn : vs.length ≤ 1000000)
    (h : Q v s)
    (hs : subscripted slice false (.ref l) (.int (j : Int) u) = operate [.ref l, .int (j : Int) u] (getItem (.ref l) (.int (j : Int) u)) := by with_unfolding_all rfl) (hg : ∀ r, letTemporaryGo value (.ref l) r = pure () := by intro _; with_unfolding_all rfl) :
    wpAny (model prog w) A (subscriptTail value slice (.ref l) (.int (j : Int) u)) Q E s := by
  have hlt : j < vs.length := (List.getElem?_eq_some_iff.mp hj).1
  exact item_list (items := vs.toArray) (N.isList hl) (Int.natCast_nonneg _) (by omega) (by rw [Int.toNat_natCast, List.getElem?_toArray]; exact hj) h hs hg
theorem lenV {l : Addr} {us : List Value} {k : Nat} (N : News h₀ L s.heap news) (hm : (l, listOf us.toArray k) ∈ news) (hn : us.length ≤ 1000000) (h : ∀ t tk, Q (.int (us.length : Int) t) { s with toks := tk }) :
    wpAny (model prog w) A (call (.builtin "len") [.ref l]) Q E s := lenL N hm hn h
end
end Mine
namespace Mine
open_top hd for PySem.Challenge.rw_pe0018_02
end Mine
namespace Mine
local macro_rules | `(tactic| walk_at "mine:enterC") => `(tactic| (refine' enterC ?k1 ?k2 ?k3 ?k4 ?k5 ?kA ?kF ?kK ?k6 ?k7 ?k8 ?k9 ?kB ?_ ?c2 ?c3 ?c4 ?c5; (case kA => exact rfl); (case kF => exact rfl); (case kK => assumption); (case k1 => k_asm); (case k2 => k_asm); (case k3 => k_asm); (case k4 => k_asm); (case k5 => k_asm); (case k6 => k_is); (case k7 => k_is); (case k8 => ktr_room); (case k9 => exact BindsTo.of_eq rfl); (case c5 => decide); (case kB => exact locs rfl); (case c2 => exact rfl); (case c3 => exact rfl); (case c4 => exact rfl); k_whole; intro g' L' h' FG' F' N' B' X' T'; (try dsimp only); (try k_lift B'); (try k_fold)))
local macro_rules | `(tactic| walk_at "call builtin:len") => `(tactic| ((with_reducible show wpAny _ _ (call (Value.builtin "len") [Value.bytes (List.toArray _) _]) _ _ _); (refine lenB (by omega) ?_)))
theorem int2ap (w : World) (mean mg mb) (n : Int) (t : Tok) (news) : Said PySem.Challenge.rw_pe0018_02.row.prog w (Mine.hd.heap_39 w.params) Mine.hd.view_39 (looseW Mine.hd.view_39 []) mean mg mb 28 1 news ((apW n.natAbs).length ≤ 1000) [.int n t] (fun t => .bytes (apW n.natAbs).toArray t) := by
  dsimp only [Said]
  k_fill
  intros
  rename_i hret
  refine wpAny_call ?_
  k_dflt cell_enter
  (k_with "exec While Name cons nil" => refine Halt.of ?_)
  k_steps
  k_with_none
  refine Halt.on ?_
  rename Fr _ _ _ _ => lF'
  rename News _ _ _ _ => lN'
  rw [show (if n < 0 then -n else n) = (n.natAbs : Int) by split <;> omega] at lF'
  with_unfolding_all refine' ksw_while (σ := Nat × List UInt8 × Tok × Tok) (fun _ => news) (fun c => [(Str.ofString "num", .int (c.1 : Int) c.2.2.1), (Str.ofString "val", .bytes c.2.1.toArray c.2.2.2)]) (fun _ => True) [Str.ofString "mod"] (fun c => apW c.1 ++ c.2.1 = apW n.natAbs) (fun c => c.1) (n.natAbs, [], ?tA, ?tB) lF' lN' trivial ?kk (List.append_nil _) ?kt
  case kk => kst_all
  case kt =>
    clear lF' lN'
    rintro ⟨num, val, tn, tv⟩ kU kH kTk - kInv kFr kNews
    dsimp only [kstB] at kInv kFr kNews
    have hL := congrArg List.length kInv
    rw [List.length_append] at hL
    (try k_fold)
    have e1 : (num : Int).fdiv 16 = ((num / 16 : Nat) : Int) := by rw [Int.fdiv_eq_ediv_of_nonneg _ (by decide)]; rfl
    have e2 : (num : Int).fmod 16 = ((num % 16 : Nat) : Int) := by rw [Int.fmod_eq_emod_of_nonneg _ (by decide)]; rfl
    have e3 : ((num % 16 : Nat) : Int) + 1 = ((num % 16 + 1 : Nat) : Int) := rfl
    k_steps
    · rename Fr _ _ _ _ => F'
      rename News _ _ _ _ => N'
      simp only [e1, e2, e3] at F' N' ⊢
      refine sliceB (s := ⟨_, _, _, _, _⟩) F' N' (Int.natCast_nonneg _) (Int.natCast_nonneg _) (by decide) ?_
      intro h'' t'' k'' F'' N''
      (k_with "binaryOp Add bytes bytes" => refine Halt.of ?_)
      k_steps
      k_with_none
      refine Halt.on ?_
      have e4 : cut [65, 66, 67, 68, 69, 70, 71, 72, 73, 74, 75, 76, 77, 78, 79, 80] ((num % 16 : Nat) : Int).toNat ((num % 16 + 1 : Nat) : Int).toNat = [UInt8.ofNat (65 + num % 16)] := by
        rw [Int.toNat_natCast, Int.toNat_natCast]
        exact cut_ap _ (Nat.mod_lt _ (by decide))
      rw [e4]
      have hne : num ≠ 0 := by omega
      refine addB (by simp only [List.length_cons, List.length_nil]; omega) ?_
      intro t3 k3
      (k_with "state" => exact apW_step hne kInv)
      k_steps
      k_with_none
    · have hz : num = 0 := by omega
      subst hz
      rw [apW_zero, List.nil_append] at kInv
      rw [kInv]
      exact hret _ _ _ (by assumption) (by assumption)
theorem byteswap_C (w : World) (mean mg mb) (d : List UInt8) (wd k : Nat) (t u : Tok) (news) : SaidC PySem.Challenge.rw_pe0018_02.row.prog w (Mine.hd.heap_39 w.params) Mine.hd.view_39 (looseW Mine.hd.view_39 []) mean mg mb 21 1 news (0 < wd ∧ wd ≤ 1000 ∧ d.length = k * wd ∧ d.length ≤ 1000) [.bytes d.toArray t, .int wd u] (fun t => .bytes (swapN wd k d).toArray t) := by
  dsimp only [SaidC]
  k_fill
  intros
  rename_i hpre _ _ hret
  obtain ⟨hw, hw', hd, hd'⟩ := hpre
  refine wpC_call ?_
  k_dflt (walk_at "mine:enterC")
  refine wpC_execs_cons (wpC_Assign_Name (wpC_Call ?_))
  k_steps
  refine wpC_callWith_type ?_
  k_steps
  rename Fr _ _ _ _ => F'
  rename News _ _ _ _ => N'
  refine bytearray_C F' N' rfl (Int.natCast_nonneg _) (by omega) ?_
  clear F' N'
  intro ba h1 F1 N1 hlt
  (k_with "pyIter ref" => refine Halt.of ?_)
  k_steps
  refine wpC_of_any ?_
  k_steps
  k_with_none
  refine Halt.on ?_
  rename Fr _ _ _ _ => F2
  rename News _ _ _ _ => N2
  rename IsRange _ _ _ _ _ _ _ _ => hR
  rw [show (↑d.length : Int).toNat = k * wd by omega] at N2
  with_unfolding_all refine' kst_step (σ := List UInt8) (n := k) (fun c => (ba, baObj c.toArray) :: news) (fun _ => []) (fun _ => True) [Str.ofString "j"] (fun pre c => c = swapN wd pre.length d ++ List.replicate ((k - pre.length) * wd) 0) (List.replicate (k * wd) 0) rfl hR ?small ?size F2 ?nn trivial (fun p hp => nomatch hp) ?p0 ?turn ?done
  case small =>
    refine range_small (k := k) ?_ hw hw' hd'
    rw [hd, Int.natCast_mul]
  case size => rw [hd]; exact range_size hw
  case nn => rw [List.toArray_replicate]; exact N2
  case p0 => simp [swapN]
  case turn =>
    intro c pre i ti u h3 tk3 own hi hlen hoff _ hP F3 N3
    dsimp only [kstB] at F3 N3 hP
    (try k_fold)
    have hne : ∀ p ∈ news ++ own, p.1 ≠ ba := by
      intro p hp
      rcases List.mem_append.mp hp with hp | hp
      · exact Nat.ne_of_lt (hlt p hp)
      · exact hoff p hp ba (List.mem_cons_self ..)
    rw [midA_start hlen] at hP
    subst hP
    obtain ⟨p, hp⟩ : ∃ p, pre.length = p := ⟨_, rfl⟩
    rw [hp] at hi hlen N3
    rw [Int.zero_add] at hi
    subst hi
    (k_with "pyIter ref" => refine Halt.of ?_)
    k_steps
    k_with_none
    refine Halt.on ?_
    rename Fr _ _ _ _ => F4
    rename News _ _ _ _ => N4
    rename IsRange _ _ _ _ _ _ _ _ => hR4
    with_unfolding_all refine' kst_step (σ := List UInt8) (n := wd) (fun c => ((ba, baObj c.toArray) :: news) ++ own) (fun _ => []) (fun _ => True) [] (fun pre' c => c = midA wd k p pre'.length d) (midA wd k p 0 d) rfl hR4 ?small2 ?size2 F4 N4 trivial (fun p hp => nomatch hp) rfl ?turn2 ?done2
    case small2 => exact range1_small hw'
    case size2 => exact range1_size
    case turn2 =>
      intro c pre' j tj u' h5 tk5 own' hj hlen' hoff' _ hP' F5 N5
      dsimp only [kstB] at F5 N5 hP'
      (try k_fold)
      subst hP'
      obtain ⟨q, hq⟩ : ∃ q, pre'.length = q := ⟨_, rfl⟩
      rw [hq] at hj hlen' N5
      rw [Int.zero_add, Int.mul_one] at hj
      subst hj
      have hidx : p * wd + wd ≤ d.length := by
        rw [hd, ← Nat.succ_mul]; exact Nat.mul_le_mul_right _ hlen
      have eI : (p : Int) * (wd : Int) + (q : Int) = ((p * wd + q : Nat) : Int) := by rw [Int.natCast_add, Int.natCast_mul]
      have eJ : (p : Int) * (wd : Int) + (wd : Int) - 1 - (q : Int) = ((p * wd + (wd - 1 - q) : Nat) : Int) := by
        rw [← Int.natCast_mul]; omega
      (k_with "subscriptTail Name BinOp bytes int" => refine Halt.of ?_)
      k_steps
      k_with_none
      refine Halt.on ?_
      rw [eI]
      refine KBy.item_N (by omega) (Int.natCast_nonneg _) (by omega) ?_
      (k_with "setItem" => refine Halt.of ?_)
      k_steps
      k_with_none
      refine Halt.on ?_
      rw [eJ]
      rename Fr _ _ _ _ => F6
      rename News _ _ _ _ => N6
      have hml : (midA wd k p q d).length = k * wd := midA_length (Nat.le_of_lt hlen') hlen hd
      refine setItem_ba (news' := (ba, baObj (midA wd k p (q + 1) d).toArray) :: ((news ++ own) ++ own')) F6 N6 ?upd (by rw [List.size_toArray, hml]; omega) (Int.natCast_nonneg _) (by rw [List.size_toArray, hml]; omega) (Int.natCast_nonneg _) ?_ ?_
      case upd =>
        have e : baObj ((midA wd k p q d).toArray.setIfInBounds (((p * wd + (wd - 1 - q) : Nat) : Int)).toNat (((d.getD (((p * wd + q : Nat) : Int)).toNat 0).toNat : Int).toNat.toUInt8)) = baObj (midA wd k p (q + 1) d).toArray := by
          rw [Int.toNat_natCast, Int.toNat_natCast, Int.toNat_natCast, List.setIfInBounds_toArray, ← midA_step hlen' hlen hd]
          congr 3
          exact UInt8.ofNat_toNat
        rw [e]
        refine Upd.head fun r hr => ?_
        rcases List.mem_append.mp hr with hr | hr
        · exact hne r hr
        · exact hoff' r hr ba (List.mem_cons_self ..)
      · have := (d.getD (((p * wd + q : Nat) : Int)).toNat 0).toNat_lt
        omega
      intro h7 F7 N7
      clear F6 N6
      (k_with "InvEndN" => refine Halt.of ?_)
      k_steps
      k_with_none
      refine Halt.on ?_
      have N8 : News _ _ _ ((((ba, baObj (midA wd k p (q + 1) d).toArray) :: news) ++ own) ++ own') := N7
      refine kst_end (midA wd k p (q + 1) d) F7 N8 (fun r hr => List.mem_append.mpr (.inl hr)) (fun r hr => List.mem_append.mpr (.inr hr)) rfl trivial (fun r hr => nomatch hr) (by kst_same) ?_
      show _ = midA wd k p (pre' ++ [(q : Int)]).length d
      rw [List.length_append, hq]
      rfl
    case done2 =>
      intro c u h5 tk5 _ hP' F5 N5
      dsimp only [kstB] at F5 N5 hP'
      rw [rangeInts_length, midA_end] at hP'
      subst hP'
      (k_with "InvEndN" => refine Halt.of ?_)
      k_steps
      k_with_none
      refine Halt.on ?_
      refine kst_end _ F5 N5 (fun r hr => List.mem_append.mpr (.inl hr)) (fun r hr => List.mem_append.mpr (.inr hr)) rfl trivial (fun r hr => nomatch hr) (by kst_same) ?_
      show _ = swapN wd (pre ++ [_]).length d ++ List.replicate ((k - (pre ++ [_]).length) * wd) 0
      rw [List.length_append, hp]
      rfl
  case done =>
    intro c u h3 tk3 _ hP F3 N3
    dsimp only [kstB] at F3 N3 hP
    rw [rangeInts_length, Nat.sub_self, Nat.zero_mul, List.replicate_zero, List.append_nil] at hP
    subst hP
    (k_with "call type:bytes" => refine Halt.of ?_)
    k_steps
    k_with_none
    refine Halt.on ?_
    rename News _ _ _ _ => N6
    refine bytes_ba N6 (List.mem_cons_self ..) (by rw [List.size_toArray, swapN_length (Nat.le_of_eq hd.symm)]; omega) ?_
    intro t6 k6
    k_steps
    rename Fr _ _ _ _ => F9
    rename News _ _ _ _ => N9
    exact hret _ _ _ F9 (fun r hr => N9 r (List.mem_cons_of_mem _ hr))
end Mine
namespace Mine
local macro_rules | `(tactic| walk_at "mine:enterCell") => `(tactic| (refine' code_defC ?k1 ?k2 ?k3 ?k4 ?k5 ?kA ?kF ?kK ?k6 ?k7 ?k8 ?k9 ?kB ?kD ?_ ?c2 ?c3 ?c4; (case kA => exact rfl); (case kF => exact rfl); (case kK => assumption); (case k1 => k_asm); (case k2 => k_asm); (case k3 => k_asm); (case k4 => k_asm); (case k5 => k_asm); (case k6 => k_is); (case k7 => k_is); (case k8 => ktr_room); (case k9 => exact BindsTo.of_eq rfl); (case kB => exact rfl); (case kD => decide +kernel); (case c2 => exact rfl); (case c3 => exact rfl); (case c4 => exact rfl); k_whole; intro g' L' h' tk' cells' FG' F' N' Y' B' X' T' l1; (have hLow := Low.mk l1); (try k_lt l1); k_cells Y'; (try simp only [List.cons_append, List.nil_append] at N'); (try dsimp only); (try k_lift B'); (try k_fold)))
local macro_rules | `(tactic| walk_at "mine:prem") => `(tactic| ((case k1 => k_asm); (case k2 => k_asm); (case k3 => k_asm); (case k4 => k_asm); (case k5 => k_asm); (case kK => first | exact rfl | assumption); (case kd => ktr_room); (case ku => ktr_units)))
local macro_rules | `(tactic| walk_at "call builtin:len") => `(tactic| ((with_reducible show wpAny _ _ (call (Value.builtin "len") [Value.bytes (List.toArray _) _]) _ _ _); (refine lenB (by omega) ?_)))
local macro_rules | `(tactic| walk_at "binaryOp Mult bytes int") => `(tactic| (refine mulA (by omega) (by omega) ?_; intro _ _))
local macro_rules | `(tactic| walk_at "binaryOp Add int int") => `(tactic| with_reducible (first | refine addNN ?_ | refine addNL ?_ | refine addLN ?_))
local macro_rules | `(tactic| walk_at "binaryOp Mult int int") => `(tactic| with_reducible (first | refine mulNL (by decide) ?_ | refine mulLN (by decide) ?_))
local macro_rules | `(tactic| walk_at "binaryOp FloorDiv int int") => `(tactic| with_reducible (first | refine fdivNL (by decide) (by decide) ?_ | refine fdivP (by decide) (by decide) (by omega) ?_ | refine fdivZP (by decide) (by decide) (by omega) ?_))
local macro_rules | `(tactic| walk_at "binaryOp Mod int int") => `(tactic| with_reducible (first | refine modNL (by decide) ?_ | refine modP (by decide) ?_ | refine modNN (by omega) ?_ | refine modZP (by decide) ?_))
local macro_rules | `(tactic| walk_at "binaryOp Pow int int") => `(tactic| with_reducible (refine powLN (by decide) (by omega) ?_))
local macro_rules | `(tactic| k_all) => `(tactic| (intro r9 hr9; (have hm9 := ltN (Low.all (by assumption) r9 hr9)); refine neN ?_; omega))
local macro_rules | `(tactic| walk_at "storeName") => `(tactic| (k_here; k_dflt (refine' storeX_C ?sF ?sN ?sc ?sU ?sd ?_ ?sa ?sb; (case sa => rfl); (case sb => rfl); (case sF => k_asm); (case sN => k_asm); (case sc => rfl); (case sU => k_updF); (case sd => k_asm); k_whole; intro h' o' F' N' d'; (try dsimp only at N'); (try k_sweep))))
local macro_rules | `(tactic| walk_at "call builtin:max") => `(tactic| (k_here; k_dflt (refine' maxNN ?mh ?mF ?mN ?_; (case mh => rfl); (case mF => k_asm); (case mN => k_asm); k_whole); intro _ _ _ F' N'))
local macro_rules | `(tactic| walk_at "call builtin:min") => `(tactic| (k_here; k_dflt (refine' minNN ?mh ?mF ?mN ?_; (case mh => rfl); (case mF => k_asm); (case mN => k_asm); k_whole); intro _ _ _ F' N'))
local macro_rules | `(tactic| walk_at "eval ListComp") => `(tactic| k_extra "eval ListComp")
local macro_rules | `(tactic| walk_at "exec Assign cons ListComp") => `(tactic| k_extra "exec Assign cons ListComp")
local macro_rules | `(tactic| walk_at "pyIter ref") => `(tactic| k_extra "pyIter ref")
local macro_rules | `(tactic| walk_at "pyIter bytes") => `(tactic| k_extra "pyIter bytes")
local macro_rules | `(tactic| walk_at "call ref") => `(tactic| k_extra "call ref")
local macro_rules | `(tactic| walk_at "InvEndN") => `(tactic| k_extra "InvEndN")
local macro_rules | `(tactic| walk_at "exec Assign") => `(tactic| k_extra "exec Assign")
local macro_rules | `(tactic| walk_at "call builtin:len") => `(tactic| k_extra "call builtin:len")
local macro_rules | `(tactic| walk_at "exec For") => `(tactic| k_extra "exec For")
local macro_rules | `(tactic| walk_at "binaryOp Sub int int") => `(tactic| with_reducible (first | refine subLN (by omega) ?_ | refine subNL (by omega) ?_))
local macro_rules | `(tactic| walk_at "call type:range") => `(tactic| (k_here; (with_reducible show wpAny _ _ (call (Value.type "range") [Value.int _ _]) _ _ _); k_dflt (refine' range1_rows ?rF ?rN ?_; (case rF => k_asm); (case rN => k_asm)); intro h' tk' t1' u1' v1' R' F' N' K'))
local macro_rules | `(tactic| walk_at "binaryOp Sub int int") => `(tactic| k_extra "binaryOp Sub int int")
local macro_rules | `(tactic| walk_at "binaryOp Mult ref int") => `(tactic| k_extra "binaryOp Mult ref int")
local macro_rules | `(tactic| walk_at "binaryOp Add ref ref") => `(tactic| k_extra "binaryOp Add ref ref")
local macro_rules | `(tactic| walk_at "storeName") => `(tactic| k_extra "storeName")
local macro_rules | `(tactic| walk_at "execs cons") => `(tactic| refine wpAny_execs_cons ?_)
local macro_rules | `(tactic| walk_at "call builtin:list.append") => `(tactic| k_extra "call builtin:list.append")
local macro_rules | `(tactic| walk_at "subscriptTail BinOp Name ref int") => `(tactic| k_extra "subscriptTail BinOp Name ref int")
local macro_rules | `(tactic| k_all) => `(tactic| ((try (refine List.forall_mem_cons.mpr ⟨by k_ne, ?_⟩)); exact all_app (all_ne (kst_ltOf (by first | assumption | exact And.right (by assumption)))) (OwnOff.ne (by assumption) (by k_memK))))
local macro_rules | `(tactic| walk_at "subscriptTail Name Slice ref ref") => `(tactic| k_extra "subscriptTail Name Slice ref ref")
local macro_rules | `(tactic| walk_at "binaryOp Add bytes bytes") => `(tactic| k_extra "binaryOp Add bytes bytes")
local macro_rules | `(tactic| walk_at "subscriptTail Name Slice bytes ref") => `(tactic| k_extra "subscriptTail Name Slice bytes ref")
local macro_rules | `(tactic| walk_at "subscriptTail Name Name ref int") => `(tactic| k_extra "subscriptTail Name Name ref int")
local macro_rules | `(tactic| walk_at "compareOp NotEq bytes bytes") => `(tactic| k_extra "compareOp NotEq bytes bytes")
/-- the marks of the first k runs -/
def mkI (rs : List Nat) : Nat → List Nat
  | 0 => []
  | k + 1 => mkI rs k ++ List.replicate (rs.getD k 0) (1 - k % 2)
theorem mkI_length (rs : List Nat) (h : ∀ r ∈ rs, r ≤ 10) : ∀ k, (mkI rs k).length ≤ 10 * k
  | 0 => Nat.zero_le _
  | k + 1 => by
    rw [mkI, List.length_append, List.length_replicate]
    have := mkI_length rs h k
    have h2 : rs.getD k 0 ≤ 10 := by
      rcases Nat.lt_or_ge k rs.length with hk | hk
      · rw [List.getD_eq_getElem?_getD, List.getElem?_eq_getElem hk]
        exact h _ (List.getElem_mem hk)
      · rw [List.getD_eq_getElem?_getD, List.getElem?_eq_none hk]
        exact Nat.zero_le _
    omega
theorem marks (w : World) (mean mg mb) (l : Addr) (us : List Value) (rs : List Nat) (j : Nat) (news : List (Addr × Obj)) :
  ∀ (dp un : Nat) (gd : Option (List Code)) (cn : Str) (cs : Scope) (a : Addr) (ccd : Value) (cl : List (Str × Addr)) (outer : List Env) (A₀ : Around) (base h₀ : Heap) (L : Addr) (m : Str → Option Value) (s : Shared) (Q E : Value → Shared → Prop),
    Below A₀ base outer h₀ → Fr h₀ L s.heap m → (Mine.hd.heap_39 w.params).In h₀ → News h₀ L s.heap news → Top Mine.hd.view_39 (looseW Mine.hd.view_39 []) mean mg mb h₀ → cs.kind = .function →
    (l, listOf us.toArray j) ∈ news → IntsAre us (castL rs) → rs.length ≤ 5 → (∀ r ∈ rs, r ≤ 10) → dp + 1 < recursionLimit → un + 8 * 1 < cLine →
    (∀ (D : Addr) (vs : List Value) (nn : Nat) (h' : Heap) (tk' : Nat), Fr h₀ L h' m → News h₀ L h' ((D, listOf vs.toArray nn) :: news) → (∀ p ∈ news, p.1 < D) → IntsAre vs (castL (mkI rs rs.length)) →
      Q (.ref D) { s with heap := h', toks := tk' }) →
      wpAny (model PySem.Challenge.rw_pe0018_02.row.prog w) (ktrTop dp un gd cn cs L a ccd cl outer) (call (.ref 35) [.ref l]) Q E s := by
  k_fill
  intros
  rename_i hl hi hlen hr _ _ hret
  refine wpAny_call ?_
  k_dflt cell_enter
  (k_with "call builtin:len" => refine Halt.of ?_)
  k_steps
  k_with_none
  refine Halt.on ?_
  rename News _ _ _ _ => N2
  refine lenL (s := ⟨_, _, _, _, _⟩) N2 (.tail _ hl) (by rw [hi.length, castL_length]; omega) ?_
  intro t2 k2
  rw [hi.length, castL_length]
  (try dsimp only)
  (k_with "pyIter ref" => refine Halt.of ?_)
  k_steps
  k_with_none
  refine Halt.on ?_
  (try dsimp only)
  rename Fr _ _ _ _ => F5
  rename News _ _ _ _ => N5
  rename IsRange _ _ _ _ _ _ _ _ => hR5
  rename (∀ p : Addr × Obj, p ∈ news → p.1 < _) => lf
  refine kst_step (s := ⟨_, _, _, _, _⟩) (σ := LV) (n := rs.length) (fun c => (_, listOf c.1.toArray c.2.2) :: news) (fun _ => []) (fun c => IntsAre c.1 (castL c.2.1)) [] (fun pre c => c.2.1 = mkI rs pre.length) ([], [], 0) rfl hR5 (range1_small (by omega)) range1_size F5 N5 .nil (fun p hp => nomatch hp) rfl ?turn ?done
  case turn =>
    rintro ⟨vs, ks, nn⟩ pre q tq u h3 tk3 own hq hlen3 hoff hf hP F6 N6
    dsimp only [kstB] at F6 N6 hf hP
    rw [Int.zero_add, Int.mul_one] at hq
    obtain ⟨i, hi0⟩ : ∃ i, pre.length = i := ⟨_, rfl⟩
    rw [hi0] at hq hlen3 hP
    subst hq
    (try k_fold)
    (k_with "binaryOp Sub int int" => refine Halt.of ?_)
    k_steps
    k_with_none
    refine Halt.on ?_
    (try dsimp only)
    refine sub_int ?_
    rw [show (1 : Int) - ((i % 2 : Nat) : Int) = ((1 - i % 2 : Nat) : Int) by omega]
    (k_with "subscriptTail Name Name ref int" => refine Halt.of ?_)
    k_steps
    k_with_none
    refine Halt.on ?_
    (try dsimp only)
    rename News _ _ _ _ => N7
    refine itemN (s := ⟨_, _, _, _, _⟩) N7 (.tail _ (.tail _ (List.mem_append_left _ hl))) hi hlen3 (by omega) ?_
    intro t8
    (try dsimp only)
    have hri := hr rs[i] (List.getElem_mem hlen3)
    (k_with "binaryOp Mult ref int" => refine Halt.of ?_)
    k_steps
    k_with_none
    refine Halt.on ?_
    (try dsimp only)
    rename Fr _ _ _ _ => F8
    refine mulRep (s := ⟨_, _, _, _, _⟩) (n := rs[i]) F8 N7 (List.mem_cons_self ..) (by omega) ?_
    clear F8 N7
    intro D9 v9 h9 hi9 F9 N9 l9
    (try dsimp only)
    (k_with "call builtin:list.extend" => refine Halt.of ?_)
    k_steps
    k_with_none
    refine Halt.on ?_
    (try dsimp only)
    rename (∀ p : Addr × Obj, p ∈ _ :: news ++ own → p.1 < _) => l8
    have hkl := mkI_length rs hr i
    rw [← hP] at hkl
    refine extN (s := ⟨_, _, _, _, _⟩) F9 N9 hf hi9 (List.mem_cons_self ..) (by rw [List.length_replicate]; omega) (Upd.tail (ne_mem l9 (.tail _ (.head _))) (Upd.tail (ne_mem l8 (.head _)) (Upd.head (all_app (all_ne lf) (hoff.ne (.head _)))))) ?_
    clear F9 N9
    intro h10 hi10 F10 N10
    (try dsimp only)
    (k_with "InvEndN" => refine Halt.of ?_)
    k_steps
    k_with_none
    refine Halt.on ?_
    refine kst_end (_, ks ++ List.replicate rs[i] (1 - i % 2), _) F10 N10 (fun r hr => .tail _ (.tail _ (List.mem_append_left _ hr))) (fun r hr => .tail _ (.tail _ (.tail _ (List.mem_append_right _ hr)))) rfl hi10 (fun p hp => nomatch hp) (by kst_same) ?_
    show ks ++ List.replicate rs[i] (1 - i % 2) = mkI rs (pre ++ [(i : Int)]).length
    rw [List.length_append, List.length_singleton, hi0, mkI, hP, List.getD_eq_getElem?_getD, List.getElem?_eq_getElem hlen3, Option.getD_some]
  case done =>
    rintro ⟨vs, ks, nn⟩ u h3 tk3 hf hP F6 N6
    dsimp only [kstB] at F6 N6 hf hP
    rw [rangeInts_length] at hP
    subst hP
    (try dsimp only)
    (try k_fold)
    k_steps
    exact hret _ vs nn _ _ (by assumption) (by assumption) lf hf
end Mine
namespace Mine
local macro_rules | `(tactic| walk_at "mine:enterCell") => `(tactic| (refine' code_defC ?k1 ?k2 ?k3 ?k4 ?k5 ?kA ?kF ?kK ?k6 ?k7 ?k8 ?k9 ?kB ?kD ?_ ?c2 ?c3 ?c4; (case kA => exact rfl); (case kF => exact rfl); (case kK => assumption); (case k1 => k_asm); (case k2 => k_asm); (case k3 => k_asm); (case k4 => k_asm); (case k5 => k_asm); (case k6 => k_is); (case k7 => k_is); (case k8 => ktr_room); (case k9 => exact BindsTo.of_eq rfl); (case kB => exact rfl); (case kD => decide +kernel); (case c2 => exact rfl); (case c3 => exact rfl); (case c4 => exact rfl); k_whole; intro g' L' h' tk' cells' FG' F' N' Y' B' X' T' l1; (have hLow := Low.mk l1); (try k_lt l1); k_cells Y'; (try simp only [List.cons_append, List.nil_append] at N'); (try dsimp only); (try k_lift B'); (try k_fold)))
local macro_rules | `(tactic| walk_at "mine:prem") => `(tactic| ((case k1 => k_asm); (case k2 => k_asm); (case k3 => k_asm); (case k4 => k_asm); (case k5 => k_asm); (case kK => first | exact rfl | assumption); (case kd => ktr_room); (case ku => ktr_units)))
local macro_rules | `(tactic| walk_at "call builtin:len") => `(tactic| ((with_reducible show wpAny _ _ (call (Value.builtin "len") [Value.bytes (List.toArray _) _]) _ _ _); (refine lenB (by omega) ?_)))
local macro_rules | `(tactic| walk_at "binaryOp Mult bytes int") => `(tactic| (refine mulA (by omega) (by omega) ?_; intro _ _))
local macro_rules | `(tactic| walk_at "binaryOp Add int int") => `(tactic| with_reducible (first | refine addNN ?_ | refine addNL ?_ | refine addLN ?_))
local macro_rules | `(tactic| walk_at "binaryOp Mult int int") => `(tactic| with_reducible (first | refine mulNL (by decide) ?_ | refine mulLN (by decide) ?_))
local macro_rules | `(tactic| walk_at "binaryOp FloorDiv int int") => `(tactic| with_reducible (first | refine fdivNL (by decide) (by decide) ?_ | refine fdivP (by decide) (by decide) (by omega) ?_ | refine fdivZP (by decide) (by decide) (by omega) ?_))
local macro_rules | `(tactic| walk_at "binaryOp Mod int int") => `(tactic| with_reducible (first | refine modNL (by decide) ?_ | refine modP (by decide) ?_ | refine modNN (by omega) ?_ | refine modZP (by decide) ?_))
local macro_rules | `(tactic| walk_at "binaryOp Pow int int") => `(tactic| with_reducible (refine powLN (by decide) (by omega) ?_))
local macro_rules | `(tactic| k_all) => `(tactic| (intro r9 hr9; (have hm9 := ltN (Low.all (by assumption) r9 hr9)); refine neN ?_; omega))
local macro_rules | `(tactic| walk_at "storeName") => `(tactic| (k_here; k_dflt (refine' storeX_C ?sF ?sN ?sc ?sU ?sd ?_ ?sa ?sb; (case sa => rfl); (case sb => rfl); (case sF => k_asm); (case sN => k_asm); (case sc => rfl); (case sU => k_updF); (case sd => k_asm); k_whole; intro h' o' F' N' d'; (try dsimp only at N'); (try k_sweep))))
local macro_rules | `(tactic| walk_at "call builtin:max") => `(tactic| (k_here; k_dflt (refine' maxNN ?mh ?mF ?mN ?_; (case mh => rfl); (case mF => k_asm); (case mN => k_asm); k_whole); intro _ _ _ F' N'))
local macro_rules | `(tactic| walk_at "call builtin:min") => `(tactic| (k_here; k_dflt (refine' minNN ?mh ?mF ?mN ?_; (case mh => rfl); (case mF => k_asm); (case mN => k_asm); k_whole); intro _ _ _ F' N'))
local macro_rules | `(tactic| walk_at "eval ListComp") => `(tactic| k_extra "eval ListComp")
local macro_rules | `(tactic| walk_at "exec Assign cons ListComp") => `(tactic| k_extra "exec Assign cons ListComp")
local macro_rules | `(tactic| walk_at "pyIter ref") => `(tactic| k_extra "pyIter ref")
local macro_rules | `(tactic| walk_at "pyIter bytes") => `(tactic| k_extra "pyIter bytes")
local macro_rules | `(tactic| walk_at "call ref") => `(tactic| k_extra "call ref")
local macro_rules | `(tactic| walk_at "InvEndN") => `(tactic| k_extra "InvEndN")
local macro_rules | `(tactic| walk_at "exec Assign") => `(tactic| k_extra "exec Assign")
local macro_rules | `(tactic| walk_at "call builtin:len") => `(tactic| k_extra "call builtin:len")
local macro_rules | `(tactic| walk_at "exec For") => `(tactic| k_extra "exec For")
local macro_rules | `(tactic| walk_at "binaryOp Sub int int") => `(tactic| with_reducible (first | refine subLN (by omega) ?_ | refine subNL (by omega) ?_))
local macro_rules | `(tactic| walk_at "call type:range") => `(tactic| (k_here; (with_reducible show wpAny _ _ (call (Value.type "range") [Value.int _ _]) _ _ _); k_dflt (refine' range1_rows ?rF ?rN ?_; (case rF => k_asm); (case rN => k_asm)); intro h' tk' t1' u1' v1' R' F' N' K'))
local macro_rules | `(tactic| walk_at "binaryOp Sub int int") => `(tactic| k_extra "binaryOp Sub int int")
local macro_rules | `(tactic| walk_at "binaryOp Mult ref int") => `(tactic| k_extra "binaryOp Mult ref int")
local macro_rules | `(tactic| walk_at "binaryOp Add ref ref") => `(tactic| k_extra "binaryOp Add ref ref")
local macro_rules | `(tactic| walk_at "storeName") => `(tactic| k_extra "storeName")
local macro_rules | `(tactic| walk_at "execs cons") => `(tactic| refine wpAny_execs_cons ?_)
local macro_rules | `(tactic| walk_at "call builtin:list.append") => `(tactic| k_extra "call builtin:list.append")
local macro_rules | `(tactic| walk_at "subscriptTail BinOp Name ref int") => `(tactic| k_extra "subscriptTail BinOp Name ref int")
local macro_rules | `(tactic| k_all) => `(tactic| ((try (refine List.forall_mem_cons.mpr ⟨by k_ne, ?_⟩)); exact all_app (all_ne (kst_ltOf (by first | assumption | exact And.right (by assumption)))) (OwnOff.ne (by assumption) (by k_memK))))
local macro_rules | `(tactic| walk_at "subscriptTail Name Slice ref ref") => `(tactic| k_extra "subscriptTail Name Slice ref ref")
local macro_rules | `(tactic| walk_at "binaryOp Add bytes bytes") => `(tactic| k_extra "binaryOp Add bytes bytes")
local macro_rules | `(tactic| walk_at "subscriptTail Name Slice bytes ref") => `(tactic| k_extra "subscriptTail Name Slice bytes ref")
local macro_rules | `(tactic| walk_at "subscriptTail Name Name ref int") => `(tactic| k_extra "subscriptTail Name Name ref int")
local macro_rules | `(tactic| walk_at "compareOp NotEq bytes bytes") => `(tactic| k_extra "compareOp NotEq bytes bytes")
/-- the number of figures -/
def numI (ks : List Nat) : Nat := ks.foldl (fun a k => a * 16 + k) 0
theorem numI_snoc (ks : List Nat) (k : Nat) : numI (ks ++ [k]) = numI ks * 16 + k := by
  unfold numI
  rw [List.foldl_append]
  rfl
theorem backI (ks : List Nat) : (castL ks).map Int.toNat = ks := by
  unfold castL
  rw [List.map_map]
  exact (List.map_congr_left fun _ _ => rfl).trans (List.map_id ks)
theorem number (w : World) (mean mg mb) (l : Addr) (us : List Value) (ks : List Nat) (j : Nat) (news : List (Addr × Obj)) : Said PySem.Challenge.rw_pe0018_02.row.prog w (Mine.hd.heap_39 w.params) Mine.hd.view_39 (looseW Mine.hd.view_39 []) mean mg mb 42 1 news ((l, listOf us.toArray j) ∈ news ∧ IntsAre us (castL ks) ∧ ks.length ≤ 100) [.ref l] (fun t => .int ((numI ks : Nat) : Int) t) := by
  dsimp only [Said]
  k_fill
  intros
  rename_i hpre _ _ hret
  obtain ⟨hl, hi, hlen⟩ := hpre
  refine wpAny_call ?_
  k_dflt cell_enter
  (k_with "pyIter ref" => refine Halt.of ?_)
  k_steps
  k_with_none
  refine Halt.on ?_
  (try dsimp only)
  rename Fr _ _ _ _ => F2
  rename News _ _ _ _ => N2
  refine kst_listL (s := ⟨_, _, _, _, _⟩) (σ := Nat × Tok) (Function.const _ _) (fun c => [(Str.ofString "number", .int (c.1 : Int) c.2)]) (fun _ => True) [] (fun pre c => c.1 = numI (pre.map Int.toNat)) (0, _) rfl (fun _ => hl) hi F2 N2 trivial (by kst_all) rfl ?turn ?done
  case turn =>
    rintro ⟨c, tc⟩ pre post n3 t3 u3 h5 tk5 own3 hsp hn3 hoff3 _ hP3 F10 N10
    dsimp only [kstB, Function.const] at F10 N10 hP3
    obtain ⟨k3, hk3, rfl⟩ := castL_mem hn3
    (try k_fold)
    (k_with "InvEndN" => refine Halt.of ?_)
    k_steps
    k_with_none
    refine Halt.on ?_
    refine kst_end (c * 16 + k3, _) (by assumption) (by assumption) (fun r hr => List.mem_append.mpr (.inl hr)) (fun r hr => List.mem_append.mpr (.inr hr)) rfl trivial (by kst_all) (by kst_same) ?_
    show c * 16 + k3 = numI ((pre ++ [(k3 : Int)]).map Int.toNat)
    rw [List.map_append, List.map_singleton, Int.toNat_natCast, numI_snoc, hP3]
  case done =>
    rintro ⟨c, tc⟩ u3 h5 tk5 _ hP3 F3 N3
    dsimp only [kstB, Function.const] at F3 N3 hP3
    rw [backI] at hP3
    subst hP3
    (try k_fold)
    k_steps
    exact hret _ _ _ (by assumption) (by assumption)
end Mine
namespace Mine
local macro_rules | `(tactic| walk_at "mine:enterCell") => `(tactic| (refine' code_defC ?k1 ?k2 ?k3 ?k4 ?k5 ?kA ?kF ?kK ?k6 ?k7 ?k8 ?k9 ?kB ?kD ?_ ?c2 ?c3 ?c4; (case kA => exact rfl); (case kF => exact rfl); (case kK => assumption); (case k1 => k_asm); (case k2 => k_asm); (case k3 => k_asm); (case k4 => k_asm); (case k5 => k_asm); (case k6 => k_is); (case k7 => k_is); (case k8 => ktr_room); (case k9 => exact BindsTo.of_eq rfl); (case kB => exact rfl); (case kD => decide +kernel); (case c2 => exact rfl); (case c3 => exact rfl); (case c4 => exact rfl); k_whole; intro g' L' h' tk' cells' FG' F' N' Y' B' X' T' l1; (have hLow := Low.mk l1); (try k_lt l1); k_cells Y'; (try simp only [List.cons_append, List.nil_append] at N'); (try dsimp only); (try k_lift B'); (try k_fold)))
local macro_rules | `(tactic| walk_at "mine:prem") => `(tactic| ((case k1 => k_asm); (case k2 => k_asm); (case k3 => k_asm); (case k4 => k_asm); (case k5 => k_asm); (case kK => first | exact rfl | assumption); (case kd => ktr_room); (case ku => ktr_units)))
local macro_rules | `(tactic| walk_at "call builtin:len") => `(tactic| ((with_reducible show wpAny _ _ (call (Value.builtin "len") [Value.bytes (List.toArray _) _]) _ _ _); (refine lenB (by omega) ?_)))
local macro_rules | `(tactic| walk_at "binaryOp Mult bytes int") => `(tactic| (refine mulA (by omega) (by omega) ?_; intro _ _))
local macro_rules | `(tactic| walk_at "binaryOp Add int int") => `(tactic| with_reducible (first | refine addNN ?_ | refine addNL ?_ | refine addLN ?_))
local macro_rules | `(tactic| walk_at "binaryOp Mult int int") => `(tactic| with_reducible (first | refine mulNL (by decide) ?_ | refine mulLN (by decide) ?_))
local macro_rules | `(tactic| walk_at "binaryOp FloorDiv int int") => `(tactic| with_reducible (first | refine fdivNL (by decide) (by decide) ?_ | refine fdivP (by decide) (by decide) (by omega) ?_ | refine fdivZP (by decide) (by decide) (by omega) ?_))
local macro_rules | `(tactic| walk_at "binaryOp Mod int int") => `(tactic| with_reducible (first | refine modNL (by decide) ?_ | refine modP (by decide) ?_ | refine modNN (by omega) ?_ | refine modZP (by decide) ?_))
local macro_rules | `(tactic| walk_at "binaryOp Pow int int") => `(tactic| with_reducible (refine powLN (by decide) (by omega) ?_))
local macro_rules | `(tactic| k_all) => `(tactic| (intro r9 hr9; (have hm9 := ltN (Low.all (by assumption) r9 hr9)); refine neN ?_; omega))
local macro_rules | `(tactic| walk_at "storeName") => `(tactic| (k_here; k_dflt (refine' storeX_C ?sF ?sN ?sc ?sU ?sd ?_ ?sa ?sb; (case sa => rfl); (case sb => rfl); (case sF => k_asm); (case sN => k_asm); (case sc => rfl); (case sU => k_updF); (case sd => k_asm); k_whole; intro h' o' F' N' d'; (try dsimp only at N'); (try k_sweep))))
local macro_rules | `(tactic| walk_at "call builtin:max") => `(tactic| (k_here; k_dflt (refine' maxNN ?mh ?mF ?mN ?_; (case mh => rfl); (case mF => k_asm); (case mN => k_asm); k_whole); intro _ _ _ F' N'))
local macro_rules | `(tactic| walk_at "call builtin:min") => `(tactic| (k_here; k_dflt (refine' minNN ?mh ?mF ?mN ?_; (case mh => rfl); (case mF => k_asm); (case mN => k_asm); k_whole); intro _ _ _ F' N'))
local macro_rules | `(tactic| walk_at "eval ListComp") => `(tactic| k_extra "eval ListComp")
local macro_rules | `(tactic| walk_at "exec Assign cons ListComp") => `(tactic| k_extra "exec Assign cons ListComp")
local macro_rules | `(tactic| walk_at "pyIter ref") => `(tactic| k_extra "pyIter ref")
local macro_rules | `(tactic| walk_at "pyIter bytes") => `(tactic| k_extra "pyIter bytes")
local macro_rules | `(tactic| walk_at "call ref") => `(tactic| k_extra "call ref")
local macro_rules | `(tactic| walk_at "InvEndN") => `(tactic| k_extra "InvEndN")
local macro_rules | `(tactic| walk_at "exec Assign") => `(tactic| k_extra "exec Assign")
local macro_rules | `(tactic| walk_at "call builtin:len") => `(tactic| k_extra "call builtin:len")
local macro_rules | `(tactic| walk_at "exec For") => `(tactic| k_extra "exec For")
local macro_rules | `(tactic| walk_at "binaryOp Sub int int") => `(tactic| with_reducible (first | refine subLN (by omega) ?_ | refine subNL (by omega) ?_))
local macro_rules | `(tactic| walk_at "call type:range") => `(tactic| (k_here; (with_reducible show wpAny _ _ (call (Value.type "range") [Value.int _ _]) _ _ _); k_dflt (refine' range1_rows ?rF ?rN ?_; (case rF => k_asm); (case rN => k_asm)); intro h' tk' t1' u1' v1' R' F' N' K'))
local macro_rules | `(tactic| walk_at "binaryOp Sub int int") => `(tactic| k_extra "binaryOp Sub int int")
local macro_rules | `(tactic| walk_at "binaryOp Mult ref int") => `(tactic| k_extra "binaryOp Mult ref int")
local macro_rules | `(tactic| walk_at "binaryOp Add ref ref") => `(tactic| k_extra "binaryOp Add ref ref")
local macro_rules | `(tactic| walk_at "storeName") => `(tactic| k_extra "storeName")
local macro_rules | `(tactic| walk_at "execs cons") => `(tactic| refine wpAny_execs_cons ?_)
local macro_rules | `(tactic| walk_at "call builtin:list.append") => `(tactic| k_extra "call builtin:list.append")
local macro_rules | `(tactic| walk_at "subscriptTail BinOp Name ref int") => `(tactic| k_extra "subscriptTail BinOp Name ref int")
local macro_rules | `(tactic| k_all) => `(tactic| ((try (refine List.forall_mem_cons.mpr ⟨by k_ne, ?_⟩)); exact all_app (all_ne (kst_ltOf (by first | assumption | exact And.right (by assumption)))) (OwnOff.ne (by assumption) (by k_memK))))
local macro_rules | `(tactic| walk_at "subscriptTail Name Slice ref ref") => `(tactic| k_extra "subscriptTail Name Slice ref ref")
local macro_rules | `(tactic| walk_at "binaryOp Add bytes bytes") => `(tactic| k_extra "binaryOp Add bytes bytes")
local macro_rules | `(tactic| walk_at "subscriptTail Name Slice bytes ref") => `(tactic| k_extra "subscriptTail Name Slice bytes ref")
local macro_rules | `(tactic| walk_at "subscriptTail Name Name ref int") => `(tactic| k_extra "subscriptTail Name Name ref int")
local macro_rules | `(tactic| walk_at "compareOp NotEq bytes bytes") => `(tactic| k_extra "compareOp NotEq bytes bytes")
local macro_rules | `(tactic| walk_at "CompSrc") => `(tactic| k_extra "CompSrc")
local macro_rules | `(tactic| walk_at "last exec While") => `(tactic| k_extra "last exec While")
local macro_rules | `(tactic| walk_at "compareOp NotEq ref ref") => `(tactic| k_extra "compareOp NotEq ref ref")
local macro_rules | `(tactic| walk_at "call builtin:list.pop") => `(tactic| k_extra "call builtin:list.pop")
local macro_rules | `(tactic| walk_at "subscriptTail Name UnaryOp ref int") => `(tactic| k_extra "subscriptTail Name UnaryOp ref int")
local macro_rules | `(tactic| walk_at "KswEnd") => `(tactic| k_extra "KswEnd")
local macro_rules | `(tactic| walk_at "call builtin:max") => `(tactic| k_extra "call builtin:max")
local macro_rules | `(tactic| walk_at "compareOp NotIn int ref") => `(tactic| k_extra "compareOp NotIn int ref")
/-- the figures of a number's 255th part, 24 of them, the last first -/
def figs (n : Nat) : List Nat := (List.range 24).map fun k => n / 255 / 16 ^ k % 16
/-- the nothings at the end dropped -/
def trimN (l : List Nat) : List Nat := (l.reverse.dropWhile (· == 0)).reverse
def besideB (ks : List Nat) (k : Nat) : List Nat := cutL ks (k - 1) k ++ cutL ks (k + 1) (k + 2)
def okAt (ks : List Nat) (k : Nat) : Bool := decide (ks.getD k 0 ≤ 1) && (besideB ks k).contains (ks.getD k 0)
def suchB (n : Nat) : Bool := (n % 255 == 0) && (trimN (figs n) == (trimN (figs n)).reverse) && (List.range (trimN (figs n)).length).all (okAt (trimN (figs n)))
theorem figs_ints (n : Nat) : (rangeInts 0 1 24).map (fun k => ((n / 255 / 16 ^ k.toNat % 16 : Nat) : Int)) = castL (figs n) := by
  unfold rangeInts castL figs
  rw [List.map_map, List.map_map]
  refine List.map_congr_left fun i _ => ?_
  show ((n / 255 / 16 ^ (0 + (i : Int) * 1).toNat % 16 : Nat) : Int) = _
  rw [Int.zero_add, Int.mul_one, Int.toNat_natCast]
  rfl
theorem figs_length (n : Nat) : (figs n).length = 24 := by
  unfold figs
  rw [List.length_map, List.length_range]
theorem off1_ne {D : Addr} : ∀ {l : List (Addr × Obj)}, LCg.Off1 D l → ∀ p ∈ l, p.1 ≠ D
  | [], _, _, h => nomatch h
  | _ :: _, x, p, h => by
    rcases List.mem_cons.mp h with rfl | h
    · exact x.1
    · exact off1_ne x.2 p h
theorem trimN_pop {ks : List Nat} (h : ks.getLastD 0 = 0) : trimN ks.dropLast = trimN ks := by
  rcases List.eq_nil_or_concat ks with rfl | ⟨l, b, rfl⟩
  · rfl
  · have hb : b = 0 := by simpa using h
    subst hb
    unfold trimN
    simp
theorem trimN_stop {ks : List Nat} (h : ks ≠ []) (h' : ks.getLastD 0 ≠ 0) : trimN ks = ks := by
  rcases List.eq_nil_or_concat ks with rfl | ⟨l, b, rfl⟩
  · exact absurd rfl h
  · have hb : b ≠ 0 := by simpa using h'
    unfold trimN
    simp [hb]
theorem such_no1 {n : Nat} (h : n % 255 ≠ 0) : suchB n = false := by
  unfold suchB
  rw [beq_eq_false_iff_ne.mpr h, Bool.false_and, Bool.false_and]
theorem such_no2 {n : Nat} (h : ¬ trimN (figs n) = (trimN (figs n)).reverse) : suchB n = false := by
  unfold suchB
  rw [beq_eq_false_iff_ne.mpr h, Bool.and_false, Bool.false_and]
theorem such_no3 {n k : Nat} (hk : k < (trimN (figs n)).length) (h : okAt (trimN (figs n)) k = false) : suchB n = false := by
  unfold suchB
  have e : (List.range (trimN (figs n)).length).all (okAt (trimN (figs n))) = false := by
    rw [List.all_eq_false]
    exact ⟨k, List.mem_range.mpr hk, by rw [h]; exact Bool.false_ne_true⟩
  rw [e, Bool.and_false]
theorem such_yes {n : Nat} (h : n % 255 = 0) (h' : trimN (figs n) = (trimN (figs n)).reverse) (h3 : ∀ k, k < (trimN (figs n)).length → okAt (trimN (figs n)) k = true) : suchB n = true := by
  unfold suchB
  rw [h, beq_self_eq_true, beq_iff_eq.mpr h', Bool.true_and, Bool.true_and, List.all_eq_true]
  exact fun k hk => h3 k (List.mem_range.mp hk)
theorem such (w : World) (mean mg mb) (n : Nat) (t : Tok) (news) : Said PySem.Challenge.rw_pe0018_02.row.prog w (Mine.hd.heap_39 w.params) Mine.hd.view_39 (looseW Mine.hd.view_39 []) mean mg mb 47 10 news True [.int n t] (fun _ => .bool (suchB n)) := by
  dsimp only [Said]
  k_fill
  intros
  rename_i _ _ hret
  refine wpAny_call ?_
  k_dflt (walk_at "mine:enterCell")
  (k_with "CompSrc" => refine Halt.of ?_)
  k_steps
  k_with_none
  refine Halt.on ?_
  (try dsimp only)
  rename Fr _ _ _ _ => F7
  rename News _ _ _ _ => N7
  rename IsRange _ _ _ _ _ _ _ _ => hR7
  refine LCg.CompSrc.range rfl F7 N7 hR7 (range1_small (wd := 24) (by decide)) (range1_size (wd := 24)) (by rw [sizeLine_eq]; decide) ?_
  clear F7 N7
  intro g
  refine kcf_rest (ks := rangeInts 0 1 24) (fun k => ((n / 255 / 16 ^ k.toNat % 16 : Nat) : Int)) (rangeInts_length _ _ _) ?hP ?tn ?fn
  case hP =>
    rintro i v hi ⟨t, rfl⟩
    exact ⟨_, t, rangeInts_get hi, by rw [Int.mul_one]⟩
  case tn =>
    intro k tk I oI C oC D m₂ ys h8 tk8 E' hk hC hx F8 N8 off ne mk
    obtain ⟨j, hj, hjk⟩ : ∃ j : Nat, j < 24 ∧ k = (j : Int) := by
      simp only [rangeInts, List.mem_map, List.mem_range] at hk
      obtain ⟨i, hi, rfl⟩ := hk
      exact ⟨i, hi, by omega⟩
    subst hjk
    k_steps
    refine kcf_el (r' := ((n / 255 / 16 ^ j % 16 : Nat) : Int)) ?_ rfl rfl
    exact congrArg (fun z : Nat => ((n / 255 / 16 ^ z % 16 : Nat) : Int)) (Int.toNat_natCast j)
  case fn =>
    unfold KPfDone
    intro ys hys
    have hys' : IntsAre ys (castL (figs n)) := by
      rw [figs_ints] at hys
      exact hys
    clear hys
    (k_with "exec While" => refine Halt.of ?_)
    (k_with "last exec While" => refine Halt.of ?_)
    k_steps
    k_with_none
    k_with_none
    refine Halt.on ?_
    rename Fr _ _ _ _ => F9
    rename News _ _ _ _ => N9
    rename (_ ∧ LCg.Off1 _ _) => o1
    refine whileD (s := ⟨_, _, _, _, _⟩) (σ := LV) (fun c => (_, listOf c.1.toArray c.2.2) :: _) (fun _ => []) (fun c => IntsAre c.1 (castL c.2.1)) [] (fun c => trimN c.2.1 = trimN (figs n) ∧ c.2.1.length ≤ 24) (fun c => c.2.1 = trimN c.2.1) (fun c => c.2.1.length) (ys, figs n, ys.length) F9 N9 hys' (fun p hp => nomatch hp) ⟨rfl, by rw [figs_length]; decide⟩ ?turn ?done
    case turn =>
      rintro ⟨vs, ks, nn⟩ u h10 tk10 hf ⟨hP1, hP2⟩ F10 N10
      dsimp only [kstB] at F10 N10 hf hP1 hP2
      clear F9 N9
      (try k_fold)
      (k_with "compareOp NotEq ref ref" => refine Halt.of ?_)
      k_steps
      k_with_none
      refine Halt.on ?_
      (try dsimp only)
      rename News _ _ _ _ => N11
      rename (_ < _ ∧ _ < _ ∧ AllLt _ news) => l1
      refine neN' (s := ⟨_, _, _, _, _⟩) (js := []) N11 (.tail _ (.head _)) (.head _) hf .nil (by ktr_units) ?_
      (try dsimp only)
      by_cases h0 : ks = []
      · rw [decide_eq_true h0, Bool.not_true]
        k_steps
        exact ⟨u, _, _, _, rfl, (by subst h0; rfl), (by assumption), N11, fun r hr => .tail _ hr⟩
      · rw [decide_eq_false h0, Bool.not_false]
        (k_with "subscriptTail Name UnaryOp ref int" => refine Halt.of ?_)
        k_steps
        k_with_none
        refine Halt.on ?_
        (try dsimp only)
        refine lastN (s := ⟨_, _, _, _, _⟩) N11 (.tail _ (.head _)) hf (List.length_pos_iff.mpr h0) ?_
        intro t12
        (try dsimp only)
        (k_with "call builtin:list.pop" => refine Halt.of ?_)
        k_steps
        k_with_none
        · refine Halt.on ?_
          (try dsimp only)
          have hz : ks.getLastD 0 = 0 := by omega
          rename Fr _ _ _ _ => F12
          refine popN (s := ⟨_, _, _, _, _⟩) F12 N11 hf (List.length_pos_iff.mpr h0) (by omega) (Upd.tail (Nat.ne_of_gt l1.1) (Upd.head (List.forall_mem_cons.mpr ⟨o1.1, off1_ne o1.2⟩))) ?_
          clear F12 N11
          intro h13 v13 F13 N13 hi13
          (try dsimp only)
          (k_with "KswEnd" => refine Halt.of ?_)
          k_steps
          k_with_none
          refine Halt.on ?_
          refine ksw_end (_, ks.dropLast, nn + 1) F13 N13 (fun r hr => .tail _ hr) hi13 (fun p hp => nomatch hp) (fun _ _ _ => rfl) ⟨(trimN_pop hz).trans hP1, by rw [List.length_dropLast]; omega⟩ ?_
          show ks.dropLast.length < ks.length
          rw [List.length_dropLast]
          have := List.length_pos_iff.mpr h0
          omega
        · exact ⟨u, _, _, _, rfl, (trimN_stop h0 (by omega)).symm, (by assumption), N11, fun r hr => .tail _ hr⟩
    case done =>
      rintro ⟨vs, ks, nn⟩ u h10 tk10 hf ⟨hP1, hP2⟩ hX F10 N10
      dsimp only [kstB] at F10 N10 hf hP1 hP2 hX
      rw [hP1] at hX
      subst hX
      clear F9 N9
      (try dsimp only)
      (try k_fold)
      (k_with "subscriptTail Name Slice ref ref" => refine Halt.of ?_)
      k_steps
      k_with_none
      · rename News _ _ _ _ => N11
        rename Fr _ _ _ _ => F11
        rename (((n % 255 : Nat) : Int) ≠ 0) => hm
        have e : suchB n = false := such_no1 (fun e => hm (congrArg Int.ofNat e))
        rw [e] at hret
        exact hret 0 _ _ F11 (fun r hr => N11 r (.tail _ (.tail _ hr)))
      refine Halt.on ?_
      (try dsimp only)
      rename (((n % 255 : Nat) : Int) = 0) => hm
      have hm0 : n % 255 = 0 := Int.ofNat.inj (show Int.ofNat (n % 255) = Int.ofNat 0 from hm)
      refine krv_ints (s := ⟨h10, _, _, _, _⟩) F10 N10 (N10.isList (.head _)) (IsPart.int _ _) hf ?_ (by with_unfolding_all rfl) (fun _ => rfl) (room_of hf (by omega))
      clear F10 N10
      intro D11 v11 h11 F11 N11 l11 hi11 _
      rw [castL_reverse] at hi11
      (try dsimp only)
      (k_with "compareOp NotEq ref ref" => refine Halt.of ?_)
      k_steps
      k_with_none
      refine Halt.on ?_
      (try dsimp only)
      refine neN' (s := ⟨_, _, _, _, _⟩) N11 (.tail _ (.head _)) (.head _) hf hi11 (by ktr_units) ?_
      (try dsimp only)
      by_cases hpal : trimN (figs n) = (trimN (figs n)).reverse
      · rw [decide_eq_true hpal, Bool.not_true]
        (k_with "call builtin:len" => refine Halt.of ?_)
        k_steps
        k_with_none
        refine Halt.on ?_
        (try dsimp only)
        rename Fr _ _ _ _ => F12
        refine lenL (s := ⟨_, _, _, _, _⟩) N11 (.tail _ (.head _)) (by rw [hf.length, castL_length]; omega) ?_
        intro t13 k13
        rw [hf.length, castL_length]
        (try dsimp only)
        clear hR7
        (k_with "pyIter ref" => refine Halt.of ?_)
        k_steps
        k_with_none
        refine Halt.on ?_
        (try dsimp only)
        rename Fr _ _ _ _ => F13
        rename News _ _ _ _ => N13
        rename IsRange _ _ _ _ _ _ _ _ => hR13
        refine kst_step (s := ⟨_, _, _, _, _⟩) (σ := Unit) (n := (trimN (figs n)).length) (Function.const _ _) (fun _ => []) (fun _ => True) [Str.ofString "beside"] (fun pre _ => ∀ k, k < pre.length → okAt (trimN (figs n)) k = true) () rfl hR13 (range1_small (by omega)) range1_size F13 N13 trivial (fun p hp => nomatch hp) (fun k hk => nomatch hk) ?turn2 ?done2
        case turn2 =>
          rintro ⟨⟩ pre q tq u5 h14 tk14 own hq hlen3 hoff3 _ hP3 F14 N14
          dsimp only [kstB, Function.const] at F14 N14
          rw [Int.zero_add, Int.mul_one] at hq
          obtain ⟨i, hi0⟩ : ∃ i, pre.length = i := ⟨_, rfl⟩
          rw [hi0] at hq hlen3 hP3
          subst hq
          (try k_fold)
          (k_with "call builtin:max" => refine Halt.of ?_)
          k_steps
          k_with_none
          refine Halt.on ?_
          (try dsimp only)
          refine max_two_N (s := ⟨_, _, _, _, _⟩) rfl F14 N14 ?_
          clear F14 N14
          intro h15 tk15 F15 N15
          (try dsimp only)
          rw [show (if (0 : Int) > (i : Int) - 1 then (0 : Int) else (i : Int) - 1) = ((i - 1 : Nat) : Int) by split <;> omega]
          (k_with "subscriptTail Name Slice ref ref" => refine Halt.of ?_)
          k_steps
          k_with_none
          refine Halt.on ?_
          (try dsimp only)
          refine sliceN (s := ⟨h15, _, _, _, _⟩) F15 N15 (.tail _ (.head _)) hf (by omega) ?_
          clear F15 N15
          intro D16 v16 h16 hi16 F16 N16 l16
          (try dsimp only)
          (k_with "subscriptTail Name Slice ref ref" => refine Halt.of ?_)
          k_steps
          k_with_none
          refine Halt.on ?_
          (try dsimp only)
          refine sliceN (s := ⟨h16, _, _, _, _⟩) F16 N16 (.tail _ (.tail _ (.head _))) hf (by omega) ?_
          clear F16 N16
          intro D17 v17 h17 hi17 F17 N17 l17
          (try dsimp only)
          (k_with "binaryOp Add ref ref" => refine Halt.of ?_)
          k_steps
          k_with_none
          refine Halt.on ?_
          (try dsimp only)
          refine addLI (s := ⟨_, _, _, _, _⟩) F17 N17 hi16 hi17 (.tail _ (.head _)) (.head _) (by have := cutL_length_le (trimN (figs n)) (i - 1) i; have := cutL_length_le (trimN (figs n)) (i + 1) (i + 2); omega) ?_
          clear F17 N17
          intro D18 v18 h18 hi18 F18 N18 l18
          (try dsimp only)
          (k_with "subscriptTail Name Name ref int" => refine Halt.of ?_)
          k_steps
          k_with_none
          refine Halt.on ?_
          (try dsimp only)
          rename News _ _ _ _ => N19
          refine itemN (s := ⟨_, _, _, _, _⟩) N19 (.tail _ (.tail _ (.tail _ (.tail _ (.head _))))) hf hlen3 (by omega) ?_
          intro t19
          (try dsimp only)
          have hgd : (trimN (figs n)).getD i 0 = (trimN (figs n))[i] := by rw [List.getD_eq_getElem?_getD, List.getElem?_eq_getElem hlen3, Option.getD_some]
          obtain ⟨K, hK⟩ : ∃ K, (trimN (figs n))[i] = K := ⟨_, rfl⟩
          rw [hK] at hgd ⊢
          (k_with "subscriptTail Name Name ref int" => refine Halt.of ?_)
          k_steps
          k_with_none
          · rename (_ < (K : Int)) => hgt
            have e : suchB n = false := such_no3 hlen3 (by unfold okAt; rw [hgd, decide_eq_false (by omega), Bool.false_and])
            rw [e] at hret
            rename News _ _ _ _ => N20
            rename Fr _ _ _ _ => F20
            exact hret 0 _ _ F20 (fun r hr => N20 r (.tail _ (.tail _ (.tail _ (List.mem_append_left own (.tail _ (.tail _ (.tail _ hr))))))))
          refine Halt.on ?_
          (try dsimp only)
          rename (¬ (_ < (K : Int))) => hgt
          refine itemN (s := ⟨_, _, _, _, _⟩) N19 (.tail _ (.tail _ (.tail _ (.tail _ (.head _))))) hf hlen3 (by omega) ?_
          intro t20
          rw [hK]
          (try dsimp only)
          (k_with "compareOp NotIn int ref" => refine Halt.of ?_)
          k_steps
          k_with_none
          refine Halt.on ?_
          (try dsimp only)
          refine notinN (s := ⟨_, _, _, _, _⟩) N19 (.head _) hi18 ?_
          (try dsimp only)
          cases hin : (cutL (trimN (figs n)) (i - 1) i ++ cutL (trimN (figs n)) (i + 1) (i + 2)).contains K with
          | true =>
            rw [Bool.not_true]
            (k_with "InvEndN" => refine Halt.of ?_)
            k_steps
            k_with_none
            refine Halt.on ?_
            refine kst_end () (by assumption) N19 (fun r hr => .tail _ (.tail _ (.tail _ (List.mem_append_left own hr)))) (fun r hr => .tail _ (.tail _ (.tail _ (List.mem_append_right _ hr)))) rfl trivial (fun p hp => nomatch hp) (by kst_same) ?_
            show ∀ k, k < (pre ++ [(i : Int)]).length → _
            rw [List.length_append, List.length_singleton, hi0]
            intro k hk
            rcases Nat.lt_or_ge k i with h | h
            · exact hP3 k h
            · have hki : k = i := by omega
              subst hki
              unfold okAt besideB
              rw [hgd, hin, decide_eq_true (by omega), Bool.true_and]
          | false =>
            rw [Bool.not_false]
            have e : suchB n = false := such_no3 hlen3 (by unfold okAt besideB; rw [hgd, hin, Bool.and_false])
            rw [e] at hret
            k_steps
            rename News _ _ _ _ => N20
            rename Fr _ _ _ _ => F20
            exact hret 0 _ _ F20 (fun r hr => N20 r (.tail _ (.tail _ (.tail _ (List.mem_append_left own (.tail _ (.tail _ (.tail _ hr))))))))
        case done2 =>
          rintro ⟨⟩ u5 h14 tk14 _ hP3 F14 N14
          dsimp only [kstB, Function.const] at F14 N14
          rw [rangeInts_length] at hP3
          (try dsimp only)
          (try k_fold)
          have e : suchB n = true := such_yes hm0 hpal hP3
          rw [e] at hret
          k_steps
          rename News _ _ _ _ => N15
          rename Fr _ _ _ _ => F15
          exact hret 0 _ _ F15 (fun r hr => N15 r (.tail _ (.tail _ (.tail _ hr))))
      · rw [decide_eq_false hpal, Bool.not_false]
        have e : suchB n = false := such_no2 hpal
        rw [e] at hret
        k_steps
        rename News _ _ _ _ => N12
        rename Fr _ _ _ _ => F12
        exact hret 0 _ _ F12 (fun r hr => N12 r (.tail _ (.tail _ (.tail _ hr))))
end Mine
namespace Mine
def filW (wd n : Nat) : List UInt8 := List.replicate (wd - (apW n).length) 65 ++ apW n
def otherI (N : Nat) : Nat → Nat
  | 0 => 0
  | k + 1 => otherI N k * 16 + N / 16 ^ k % 16
/-- a number's word of a width -/
def digW : Nat → Nat → List UInt8
  | 0, _ => []
  | k + 1, n => digW k (n / 16) ++ [UInt8.ofNat (65 + n % 16)]
theorem digW_length : ∀ k n, (digW k n).length = k
  | 0, _ => rfl
  | k + 1, n => by rw [digW, List.length_append, digW_length k]; rfl
theorem filW_succ (k n : Nat) : filW (k + 1) n = filW k (n / 16) ++ [UInt8.ofNat (65 + n % 16)] := by
  unfold filW
  by_cases h : n = 0
  · subst h
    show List.replicate (k + 1 - (apW 0).length) 65 ++ apW 0 = (List.replicate (k - (apW 0).length) 65 ++ apW 0) ++ [65]
    rw [apW_zero, List.append_nil, List.append_nil]
    exact List.replicate_succ'
  · rw [apW_pos h, List.length_append, List.length_singleton, Nat.add_sub_add_right, List.append_assoc]
theorem filW_dig : ∀ k n, n < 16 ^ k → filW k n = digW k n
  | 0, n, h => by
    have : n = 0 := by rw [Nat.pow_zero] at h; omega
    subst this
    unfold filW
    rw [apW_zero]
    rfl
  | k + 1, n, h => by rw [filW_succ, digW, filW_dig k (n / 16) (by rw [Nat.pow_succ] at h; omega)]
theorem digW_front : ∀ k n, digW (k + 1) n = UInt8.ofNat (65 + n / 16 ^ k % 16) :: digW k n
  | 0, n => by rw [digW, digW, digW, Nat.pow_zero, Nat.div_one]; rfl
  | k + 1, n => by
    rw [digW, digW_front k, digW, Nat.div_div_eq_div_mul, Nat.pow_succ, Nat.mul_comm 16]
    rfl
theorem otherI_lt (n : Nat) : ∀ k, otherI n k < 16 ^ k
  | 0 => by rw [otherI, Nat.pow_zero]; omega
  | k + 1 => by
    have := otherI_lt n k
    rw [otherI, Nat.pow_succ]
    omega
theorem digW_reverse (n : Nat) : ∀ k, (digW k n).reverse = digW k (otherI n k)
  | 0 => rfl
  | k + 1 => by
    rw [digW_front, List.reverse_cons, digW_reverse n k, digW, otherI]
    have e1 : (otherI n k * 16 + n / 16 ^ k % 16) / 16 = otherI n k := by omega
    have e2 : (otherI n k * 16 + n / 16 ^ k % 16) % 16 = n / 16 ^ k % 16 := by omega
    rw [e1, e2]
def blocks (wd : Nat) (ns : List Nat) : List UInt8 := (ns.map (digW wd)).flatten
theorem blocks_nil (wd : Nat) : blocks wd [] = [] := rfl
theorem blocks_cons (wd n : Nat) (ns : List Nat) : blocks wd (n :: ns) = digW wd n ++ blocks wd ns := rfl
theorem blocks_snoc (wd n : Nat) (ns : List Nat) : blocks wd (ns ++ [n]) = blocks wd ns ++ digW wd n := by
  unfold blocks
  rw [List.map_append, List.flatten_append]
  show _ ++ (digW wd n ++ []) = _
  rw [List.append_nil]
theorem blocks_length (wd : Nat) : ∀ ns : List Nat, (blocks wd ns).length = ns.length * wd
  | [] => by rw [blocks_nil, List.length_nil, List.length_nil, Nat.zero_mul]
  | n :: ns => by rw [blocks_cons, List.length_append, digW_length, blocks_length wd ns, List.length_cons, Nat.succ_mul, Nat.add_comm]
theorem blocks_swap (wd : Nat) : ∀ ns : List Nat, swapN wd ns.length (blocks wd ns) = blocks wd (ns.map fun n => otherI n wd)
  | [] => rfl
  | n :: ns => by
    rw [List.length_cons, swapN, blocks_cons, List.take_left' (digW_length wd n), List.drop_left' (digW_length wd n), digW_reverse, blocks_swap wd ns]
    rfl
theorem blocks_cut (wd : Nat) : ∀ (ns : List Nat) (i : Nat) (h : i < ns.length), cut (blocks wd ns) (i * wd) ((i + 1) * wd) = digW wd ns[i]
  | n :: ns, 0, _ => by
    unfold cut
    rw [Nat.zero_mul, List.drop_zero, Nat.zero_add, Nat.one_mul, Nat.sub_zero, blocks_cons, List.take_left' (digW_length wd n)]
    rfl
  | n :: ns, i + 1, h => by
    have ih := blocks_cut wd ns i (by rw [List.length_cons] at h; omega)
    unfold cut at ih ⊢
    rw [blocks_cons, Nat.succ_mul i wd, Nat.add_comm (i * wd) wd, ← List.drop_drop, List.drop_left' (digW_length wd n)]
    have e : (i + 1 + 1) * wd - (wd + i * wd) = (i + 1) * wd - i * wd := by
      rw [Nat.succ_mul (i + 1), Nat.succ_mul i]
      omega
    rw [e]
    exact ih
theorem apW_le {n k : Nat} (h : n < 16 ^ k) : (apW n).length ≤ k := by
  have h1 := congrArg List.length (filW_dig k n h)
  rw [digW_length, filW, List.length_append, List.length_replicate] at h1
  omega
theorem nat_of (k : Nat) : (k : Int).natAbs = k := Int.natAbs_natCast k
theorem let_inj : ∀ x, x < 16 → ∀ y, y < 16 → UInt8.ofNat (65 + x) = UInt8.ofNat (65 + y) → x = y := by decide
theorem dig_inj : ∀ {k a b : Nat}, a < 16 ^ k → b < 16 ^ k → digW k a = digW k b → a = b
  | 0, a, b, ha, hb, _ => by rw [Nat.pow_zero] at ha hb; omega
  | k + 1, a, b, ha, hb, h => by
    rw [digW, digW] at h
    obtain ⟨h1, h2⟩ := List.append_inj h (by rw [digW_length, digW_length])
    have e1 := dig_inj (k := k) (by rw [Nat.pow_succ] at ha; omega) (by rw [Nat.pow_succ] at hb; omega) h1
    have e2 := let_inj (a % 16) (Nat.mod_lt _ (by decide)) (b % 16) (Nat.mod_lt _ (by decide)) (List.cons.inj h2).1
    omega
/-- below the number of letters -/
theorem apW_lt : ∀ n, n < 16 ^ (apW n).length := by
  intro n
  induction n using Nat.strongRecOn with
  | ind n ih =>
    by_cases h : n = 0
    · subst h
      exact Nat.pow_pos (by decide)
    · have := ih (n / 16) (by omega)
      rw [apW_pos h, List.length_append, List.length_singleton, Nat.pow_succ]
      omega
theorem apW_ge : ∀ n, n ≠ 0 → 16 ^ (apW n).length ≤ 16 * n := by
  intro n
  induction n using Nat.strongRecOn with
  | ind n ih =>
    intro h
    rw [apW_pos h, List.length_append, List.length_singleton, Nat.pow_succ]
    by_cases h2 : n / 16 = 0
    · rw [h2, apW_zero, List.length_nil, Nat.pow_zero]
      omega
    · have := ih (n / 16) (by omega) h2
      omega
theorem apW_dig (n : Nat) : apW n = digW (apW n).length n := by
  rw [← filW_dig _ _ (apW_lt n), filW, Nat.sub_self]
  rfl
/-- a word turned about is the word of fifteen times the number just if the number is -/
theorem alike_iff (n : Nat) : (apW n).reverse = apW (15 * n) ↔ 15 * n = otherI n (apW n).length := by
  have hl := apW_lt n
  constructor
  · intro h
    have e : (apW (15 * n)).length = (apW n).length := by rw [← h, List.length_reverse]
    have h15 := apW_lt (15 * n)
    rw [apW_dig (15 * n), e] at h
    rw [e] at h15
    have h2 := digW_reverse n (apW n).length
    rw [← apW_dig, h] at h2
    exact dig_inj h15 (otherI_lt _ _) h2
  · intro h
    have h15 : 15 * n < 16 ^ (apW n).length := by rw [h]; exact otherI_lt _ _
    have e : (apW (15 * n)).length = (apW n).length := by
      by_cases h0 : n = 0
      · subst h0; rfl
      · refine Nat.le_antisymm (apW_le h15) (Nat.le_of_not_lt fun hlt => ?_)
        have h1 := apW_lt (15 * n)
        have h2 := apW_ge n h0
        have h3 : 16 ^ ((apW (15 * n)).length + 1) ≤ 16 ^ (apW n).length := Nat.pow_le_pow_right (by decide) hlt
        rw [Nat.pow_succ] at h3
        -- 15n < 16^l, 16^l*16 ≤ 16^L ≤ 16 n
        omega
    rw [apW_dig (15 * n), e]
    have h2 := digW_reverse n (apW n).length
    rw [← apW_dig] at h2
    rw [h2, h]
end Mine
namespace Mine
/-- the number of figures, the last first -/
def valF (f : Nat → Nat) : Nat → Nat
  | 0 => 0
  | i + 1 => valF f i + f i * 16 ^ i
theorem valF_lt {f : Nat → Nat} : ∀ n, (∀ i, i < n → f i < 16) → valF f n < 16 ^ n
  | 0, _ => by rw [valF, Nat.pow_zero]; omega
  | n + 1, h => by
    have h1 := valF_lt n fun i hi => h i (by omega)
    have h2 : f n * 16 ^ n ≤ 15 * 16 ^ n := Nat.mul_le_mul_right _ (by have := h n (by omega); omega)
    rw [valF, Nat.pow_succ]
    omega
theorem valF_dig {f : Nat → Nat} : ∀ n, (∀ i, i < n → f i < 16) → ∀ k, k < n → valF f n / 16 ^ k % 16 = f k
  | n + 1, h, k, hk => by
    have h0 : ∀ i, i < n → f i < 16 := fun i hi => h i (by omega)
    have h1 := valF_lt n h0
    rw [valF]
    rcases Nat.lt_or_ge k n with hkn | hkn
    · obtain ⟨d, rfl⟩ : ∃ d, n = k + 1 + d := ⟨n - k - 1, by omega⟩
      have e : f (k + 1 + d) * 16 ^ (k + 1 + d) = 16 ^ k * (16 * (f (k + 1 + d) * 16 ^ d)) := by
        rw [Nat.pow_add, Nat.pow_succ]
        ac_rfl
      rw [e, Nat.add_mul_div_left _ _ (Nat.pow_pos (by decide)), Nat.add_mul_mod_self_left]
      exact valF_dig _ h0 k hkn
    · have hkn' : k = n := by omega
      subst hkn'
      rw [Nat.mul_comm, Nat.add_mul_div_left _ _ (Nat.pow_pos (by decide)), Nat.div_eq_of_lt h1, Nat.zero_add]
      exact Nat.mod_eq_of_lt (h k (by omega))
theorem valF_mod (N : Nat) : ∀ n, valF (fun i => N / 16 ^ i % 16) n = N % 16 ^ n
  | 0 => by rw [valF, Nat.pow_zero, Nat.mod_one]
  | n + 1 => by
    rw [valF, valF_mod N n, Nat.pow_succ, Nat.mod_mul]
    rw [Nat.mul_comm (16 ^ n)]
theorem valF_congr {f g : Nat → Nat} : ∀ n, (∀ i, i < n → f i = g i) → valF f n = valF g n
  | 0, _ => rfl
  | n + 1, h => by rw [valF, valF, valF_congr n fun i hi => h i (by omega), h n (by omega)]
theorem other_div (N : Nat) : ∀ n i, i < n → otherI N n / 16 ^ i % 16 = N / 16 ^ (n - 1 - i) % 16
  | n + 1, 0, _ => by
    rw [otherI, Nat.pow_zero, Nat.div_one]
    show _ = N / 16 ^ n % 16
    omega
  | n + 1, i + 1, h => by
    have ih := other_div N n i (by omega)
    rw [otherI, Nat.pow_succ, Nat.mul_comm (16 ^ i), ← Nat.div_div_eq_div_mul]
    have e : (otherI N n * 16 + N / 16 ^ n % 16) / 16 = otherI N n := by omega
    rw [e, ih]
    have e2 : n + 1 - 1 - (i + 1) = n - 1 - i := by omega
    rw [e2]
/-- the carry into a place, fifteen times -/
def carW (N i : Nat) : Nat := 15 * (N % 16 ^ i) / 16 ^ i
theorem carW_le (N i : Nat) : carW N i ≤ 14 := by
  have h0 : 0 < 16 ^ i := Nat.pow_pos (by decide)
  have h1 := Nat.mod_lt N h0
  have h2 : carW N i < 15 := (Nat.div_lt_iff_lt_mul h0).mpr (by omega)
  omega
theorem carW_step (N i : Nat) : 15 * (N / 16 ^ i % 16) + carW N i = 15 * N / 16 ^ i % 16 + 16 * carW N (i + 1) := by
  unfold carW
  generalize hq : 16 ^ i = q
  have q0 : 0 < q := hq ▸ Nat.pow_pos (by decide)
  rw [Nat.pow_succ, hq]
  have eN := Nat.div_add_mod N q
  have eA := Nat.div_add_mod (N / q) 16
  have eM : N % (q * 16) = N % q + q * (N / q % 16) := Nat.mod_mul
  generalize N / q % 16 = a at *
  generalize N / q / 16 = b at *
  generalize N % q = x at *
  rw [eM]
  have e1 : 15 * (x + q * a) = 15 * x + q * (15 * a) := by rw [Nat.mul_add, Nat.mul_left_comm]
  have e2 : 15 * N = 15 * x + q * (15 * a + 16 * (15 * b)) := by
    rw [← eN, ← eA, Nat.mul_add, Nat.mul_left_comm 15 q]
    have : 15 * (16 * b + a) = 15 * a + 16 * (15 * b) := by omega
    rw [this, Nat.add_comm]
  rw [e1, e2, Nat.add_mul_div_left _ _ q0, ← Nat.div_div_eq_div_mul, Nat.add_mul_div_left _ _ q0]
  generalize 15 * x / q = t
  omega
section
variable {n : Nat} {a c : Nat → Nat}
/-- the states of the outer pairs -/
theorem pair_states (ha : ∀ i, a i < 16) (hc : ∀ i, c i ≤ 14) (h0 : c 0 = 0) (hn : c n = 0) (E : ∀ i, i < n → 15 * a i + c i = a (n - 1 - i) + 16 * c (i + 1)) :
    ∀ i, 2 * i ≤ n → (c i = 0 ∨ c i = 14) ∧ (c (n - i) = 0 ∨ c (n - i) = 14)
  | 0, _ => ⟨.inl h0, .inl hn⟩
  | i + 1, h => by
    obtain ⟨h1, h2⟩ := pair_states ha hc h0 hn E i (by omega)
    have e1 := E i (by omega)
    have e2 := E (n - 1 - i) (by omega)
    rw [show n - 1 - (n - 1 - i) = i by omega, show n - 1 - i + 1 = n - i by omega] at e2
    rw [show n - (i + 1) = n - 1 - i by omega]
    have a1 := ha i
    have a2 := ha (n - 1 - i)
    have c1 := hc (i + 1)
    have c2 := hc (n - 1 - i)
    rcases h1 with h1 | h1 <;> rcases h2 with h2 | h2 <;> rw [h1] at e1 <;> rw [h2] at e2 <;> omega
theorem pair_back (ha : ∀ i, a i < 16) (hc : ∀ i, c i ≤ 14) (h0 : c 0 = 0) (hn : c n = 0) (E : ∀ i, i < n → 15 * a i + c i = a (n - 1 - i) + 16 * c (i + 1)) (i : Nat) (h : 2 * i + 1 ≤ n) : c (n - 1 - i) = c i := by
  obtain ⟨h1, h2⟩ := pair_states ha hc h0 hn E i (by omega)
  have e1 := E i (by omega)
  have e2 := E (n - 1 - i) (by omega)
  rw [show n - 1 - (n - 1 - i) = i by omega, show n - 1 - i + 1 = n - i by omega] at e2
  have a1 := ha i
  have a2 := ha (n - 1 - i)
  have c1 := hc (i + 1)
  have c2 := hc (n - 1 - i)
  rcases h1 with h1 | h1 <;> rcases h2 with h2 | h2 <;> rw [h1] at e1 <;> rw [h2] at e2 <;> omega
theorem pair_pal (ha : ∀ i, a i < 16) (hc : ∀ i, c i ≤ 14) (h0 : c 0 = 0) (hn : c n = 0) (E : ∀ i, i < n → 15 * a i + c i = a (n - 1 - i) + 16 * c (i + 1)) (i : Nat) (h : i < n) : c (n - 1 - i) = c i := by
  by_cases h1 : 2 * i + 1 ≤ n
  · exact pair_back ha hc h0 hn E i h1
  · have := pair_back ha hc h0 hn E (n - 1 - i) (by omega)
    rw [show n - 1 - (n - 1 - i) = i by omega] at this
    exact this.symm
theorem pair_all (ha : ∀ i, a i < 16) (hc : ∀ i, c i ≤ 14) (h0 : c 0 = 0) (hn : c n = 0) (E : ∀ i, i < n → 15 * a i + c i = a (n - 1 - i) + 16 * c (i + 1)) (i : Nat) (h : i ≤ n) : c i = 0 ∨ c i = 14 := by
  by_cases h1 : 2 * i ≤ n
  · exact (pair_states ha hc h0 hn E i h1).1
  · have := (pair_states ha hc h0 hn E (n - i) (by omega)).2
    rw [show n - (n - i) = i by omega] at this
    exact this
end
end Mine
namespace Mine
theorem valF_top {g : Nat → Nat} {L : Nat} (h : ∀ k, L ≤ k → g k = 0) : ∀ m, L ≤ m → valF g m = valF g L := by
  intro m hm
  obtain ⟨d, rfl⟩ : ∃ d, m = L + d := ⟨m - L, by omega⟩
  clear hm
  induction d with
  | zero => rfl
  | succ d ih => rw [← Nat.add_assoc, valF, ih, h _ (by omega), Nat.zero_mul, Nat.add_zero]
/-- figures of the shape 15, -1, 1 tell 255 times -/
theorem val_mu {n : Nat} {f mu : Nat → Nat} (h1 : ∀ j, mu j ≤ 1) (m0 : mu 0 = 0) (m1 : mu 1 = 0) (hf : ∀ i, i < n → f i + mu (i + 1) = 15 * mu (i + 2) + mu i) :
    ∀ i, i ≤ n → valF f i + 16 * valF (fun k => mu (k + 2)) i + 16 * (16 ^ i * mu (i + 1)) + 16 ^ i * mu i = 271 * valF (fun k => mu (k + 2)) i + 16 ^ i * mu (i + 1)
  | 0, _ => by rw [m0, m1]; rfl
  | i + 1, h => by
    have ih := val_mu h1 m0 m1 hf i (by omega)
    have e := hf i (by omega)
    have a0 := h1 i
    have a1 := h1 (i + 1)
    have a2 := h1 (i + 2)
    rw [valF, valF, Nat.pow_succ]
    generalize valF f i = A at *
    generalize valF (fun k => mu (k + 2)) i = B at *
    generalize 16 ^ i = X at *
    generalize f i = F at *
    show A + F * X + 16 * (B + mu (i + 2) * X) + 16 * (X * 16 * mu (i + 2)) + X * 16 * mu (i + 1) = 271 * (B + mu (i + 2) * X) + X * 16 * mu (i + 2)
    generalize mu (i + 2) = z at *
    generalize mu (i + 1) = y at *
    generalize mu i = x at *
    obtain rfl | rfl : x = 0 ∨ x = 1 := by omega
    all_goals obtain rfl | rfl : y = 0 ∨ y = 1 := by omega
    all_goals obtain rfl | rfl : z = 0 ∨ z = 1 := by omega
    all_goals try omega
    · have : F = 0 := by omega
      subst this; omega
    · have : F = 15 := by omega
      subst this; omega
    · have : F = 14 := by omega
      subst this; omega
    · have : F = 1 := by omega
      subst this; omega
    · have : F = 16 := by omega
      subst this; omega
    · have : F = 0 := by omega
      subst this; omega
    · have : F = 15 := by omega
      subst this; omega
/-- figures of the shape 1, -1, 15 tell 3825 times -/
theorem val_um {n : Nat} {f mu : Nat → Nat} (h1 : ∀ j, mu j ≤ 1) (m0 : mu 0 = 0) (m1 : mu 1 = 0) (hf : ∀ i, i < n → f i + mu (i + 1) = mu (i + 2) + 15 * mu i) :
    ∀ i, i ≤ n → valF f i + 16 * valF (fun k => mu (k + 2)) i + 240 * (16 ^ i * mu (i + 1)) + 15 * (16 ^ i * mu i) = 3841 * valF (fun k => mu (k + 2)) i + 16 ^ i * mu (i + 1)
  | 0, _ => by rw [m0, m1]; rfl
  | i + 1, h => by
    have ih := val_um h1 m0 m1 hf i (by omega)
    have e := hf i (by omega)
    have a0 := h1 i
    have a1 := h1 (i + 1)
    have a2 := h1 (i + 2)
    rw [valF, valF, Nat.pow_succ]
    generalize valF f i = A at *
    generalize valF (fun k => mu (k + 2)) i = B at *
    generalize 16 ^ i = X at *
    generalize f i = F at *
    show A + F * X + 16 * (B + mu (i + 2) * X) + 240 * (X * 16 * mu (i + 2)) + 15 * (X * 16 * mu (i + 1)) = 3841 * (B + mu (i + 2) * X) + X * 16 * mu (i + 2)
    generalize mu (i + 2) = z at *
    generalize mu (i + 1) = y at *
    generalize mu i = x at *
    obtain rfl | rfl : x = 0 ∨ x = 1 := by omega
    all_goals obtain rfl | rfl : y = 0 ∨ y = 1 := by omega
    all_goals obtain rfl | rfl : z = 0 ∨ z = 1 := by omega
    all_goals try omega
    · have : F = 0 := by omega
      subst this; omega
    · have : F = 1 := by omega
      subst this; omega
    · have : F = 0 := by omega
      subst this; omega
    · have : F = 15 := by omega
      subst this; omega
    · have : F = 16 := by omega
      subst this; omega
    · have : F = 14 := by omega
      subst this; omega
    · have : F = 15 := by omega
      subst this; omega
theorem cut_one {α : Type} (l : List α) (j : Nat) : cutL l j (j + 1) = (l[j]?).toList := by
  unfold cutL
  rw [Nat.add_sub_cancel_left]
  rcases Nat.lt_or_ge j l.length with h | h
  · rw [List.drop_eq_getElem_cons h, List.getElem?_eq_getElem h]
    rfl
  · rw [List.drop_of_length_le h, List.getElem?_eq_none h]
    rfl
theorem okAt_iff {ks : List Nat} {k : Nat} (hk : k < ks.length) : okAt ks k = true ↔ ks.getD k 0 ≤ 1 ∧ ((1 ≤ k ∧ ks.getD (k - 1) 0 = ks.getD k 0) ∨ (k + 1 < ks.length ∧ ks.getD (k + 1) 0 = ks.getD k 0)) := by
  unfold okAt besideB
  rw [Bool.and_eq_true, decide_eq_true_eq, List.contains_iff_mem, List.mem_append, cut_one]
  generalize hx : ks.getD k 0 = x
  have e2 : x ∈ (ks[k + 1]?).toList ↔ (k + 1 < ks.length ∧ ks.getD (k + 1) 0 = x) := by
    rw [Option.mem_toList, List.getD_eq_getElem?_getD]
    rcases Nat.lt_or_ge (k + 1) ks.length with h | h
    · rw [List.getElem?_eq_getElem h]
      simp [h]
    · rw [List.getElem?_eq_none h]
      simp
      omega
  have e1 : x ∈ cutL ks (k - 1) k ↔ (1 ≤ k ∧ ks.getD (k - 1) 0 = x) := by
    rcases Nat.eq_zero_or_pos k with rfl | h0
    · simp [cutL]
    · have h1 : cutL ks (k - 1) k = cutL ks (k - 1) (k - 1 + 1) := by rw [Nat.sub_add_cancel h0]
      rw [h1, cut_one, Option.mem_toList, List.getD_eq_getElem?_getD, List.getElem?_eq_getElem (by omega)]
      simp
      omega
  rw [e1, e2]
theorem trimN_map {f : Nat → Nat} {L : Nat} (hL : 1 ≤ L) (hf : f (L - 1) ≠ 0) (hz : ∀ k, L ≤ k → f k = 0) : ∀ d, trimN ((List.range (L + d)).map f) = (List.range L).map f
  | 0 => by
    obtain ⟨j, rfl⟩ : ∃ j, L = j + 1 := ⟨L - 1, by omega⟩
    rw [Nat.add_zero]
    refine trimN_stop ?_ ?_
    · rw [List.range_succ, List.map_append]
      simp
    · rw [List.range_succ, List.map_append]
      simpa using hf
  | d + 1 => by
    have h := trimN_map hL hf hz d
    rw [← h, ← Nat.add_assoc, List.range_succ, List.map_append]
    have e := trimN_pop (ks := (List.range (L + d)).map f ++ [f (L + d)]) (by simp [hz])
    rw [List.dropLast_concat] at e
    exact e.symm
theorem trimN_app (l : List Nat) : ∃ j, l = trimN l ++ List.replicate j 0 := by
  have key : ∀ r : List Nat, ∃ j, r = List.replicate j 0 ++ r.dropWhile (· == 0) := by
    intro r
    induction r with
    | nil => exact ⟨0, rfl⟩
    | cons x r ih =>
      by_cases hx : x = 0
      · subst hx
        obtain ⟨j, hj⟩ := ih
        refine ⟨j + 1, ?_⟩
        rw [List.dropWhile_cons_of_pos (by rfl), List.replicate_succ, List.cons_append, ← hj]
      · refine ⟨0, ?_⟩
        rw [List.dropWhile_cons_of_neg (by simpa using hx)]
        rfl
  obtain ⟨j, hj⟩ := key l.reverse
  refine ⟨j, ?_⟩
  unfold trimN
  have := congrArg List.reverse hj
  rw [List.reverse_reverse, List.reverse_append, List.reverse_replicate] at this
  exact this
theorem trimN_getD (l : List Nat) (k : Nat) : (trimN l).getD k 0 = l.getD k 0 := by
  obtain ⟨j, hj⟩ := trimN_app l
  generalize trimN l = m at hj
  subst hj
  simp only [List.getD_eq_getElem?_getD]
  rcases Nat.lt_or_ge k m.length with h | h
  · rw [List.getElem?_append_left h]
  · rw [List.getElem?_append_right h, List.getElem?_eq_none h, List.getElem?_replicate]
    split <;> rfl
theorem trimN_last {l : List Nat} (h : trimN l ≠ []) : (trimN l).getD ((trimN l).length - 1) 0 ≠ 0 := by
  unfold trimN at h ⊢
  have h2 : l.reverse.dropWhile (· == 0) ≠ [] := fun e => h (by rw [e]; rfl)
  have h3 := List.head_dropWhile_not (fun x : Nat => x == 0) h2
  obtain ⟨x, r, e⟩ := List.exists_cons_of_ne_nil h2
  rw [e, List.length_reverse, List.length_cons, Nat.add_sub_cancel, List.reverse_cons, List.getD_eq_getElem?_getD, List.getElem?_append_right (by rw [List.length_reverse]; exact Nat.le_refl _), List.length_reverse, Nat.sub_self]
  simp only [e] at h3
  simpa using h3
end Mine
namespace Mine
theorem figs_getD (N k : Nat) (h : k < 24) : (figs N).getD k 0 = N / 255 / 16 ^ k % 16 := by
  unfold figs
  rw [List.getD_eq_getElem?_getD, List.getElem?_map, List.getElem?_range h]
  rfl
theorem figs_getD' (N k : Nat) (hN : N / 255 < 16 ^ 24) : (figs N).getD k 0 = N / 255 / 16 ^ k % 16 := by
  rcases Nat.lt_or_ge k 24 with h | h
  · exact figs_getD N k h
  · have h1 : (figs N).length ≤ k := by rw [figs_length]; exact h
    have h2 : (16 : Nat) ^ 24 ≤ 16 ^ k := Nat.pow_le_pow_right (by decide) h
    rw [List.getD_eq_getElem?_getD, List.getElem?_eq_none h1, Nat.div_eq_of_lt (Nat.lt_of_lt_of_le hN h2)]
    rfl
theorem map_getD (f : Nat → Nat) (L k : Nat) (h : k < L) : ((List.range L).map f).getD k 0 = f k := by
  rw [List.getD_eq_getElem?_getD, List.getElem?_map, List.getElem?_range h]
  rfl
/-- a number whose word turned about is that of fifteen times it is such -/
theorem such_of {N n : Nat} (hn : n ≤ 24) (hN : N < 16 ^ n) (htop : 1 ≤ n → N / 16 ^ (n - 1) % 16 ≠ 0) (h : 15 * N = otherI N n) : suchB N = true := by
  rcases Nat.eq_zero_or_pos n with rfl | hn0
  · rw [Nat.pow_zero] at hN
    obtain rfl : N = 0 := by omega
    decide +kernel
  have ha : ∀ i, N / 16 ^ i % 16 < 16 := fun i => Nat.mod_lt _ (by decide)
  have hc : ∀ i, carW N i ≤ 14 := carW_le N
  have h0 : carW N 0 = 0 := by unfold carW; rw [Nat.pow_zero, Nat.mod_one]
  have hcn : carW N n = 0 := by
    unfold carW
    rw [Nat.mod_eq_of_lt hN, h]
    exact Nat.div_eq_of_lt (otherI_lt N n)
  have E : ∀ i, i < n → 15 * (N / 16 ^ i % 16) + carW N i = N / 16 ^ (n - 1 - i) % 16 + 16 * carW N (i + 1) := by
    intro i hi
    rw [carW_step, h, other_div N n i hi]
  obtain ⟨a, ea⟩ : ∃ a : Nat → Nat, a = fun i => N / 16 ^ i % 16 := ⟨_, rfl⟩
  have ha' : ∀ i, a i < 16 := by rw [ea]; exact ha
  have E' : ∀ i, i < n → 15 * a i + carW N i = a (n - 1 - i) + 16 * carW N (i + 1) := by rw [ea]; exact E
  have pal := pair_pal ha' hc h0 hcn E'
  have st := pair_all ha' hc h0 hcn E'
  have hcn1 : carW N (n - 1) = 0 := by rw [← h0]; have := pal 0 hn0; rwa [Nat.sub_zero] at this
  -- the marks
  obtain ⟨mu, hmu0, hmuS⟩ : ∃ mu : Nat → Nat, mu 0 = 0 ∧ ∀ j, mu (j + 1) = if j ≤ n then carW N j / 14 else 0 :=
    ⟨fun j => match j with | 0 => 0 | j + 1 => if j ≤ n then carW N j / 14 else 0, rfl, fun _ => rfl⟩
  have mu1 : mu 1 = 0 := by rw [hmuS 0, h0]; simp
  have mle : ∀ j, mu j ≤ 1 := by
    intro j
    cases j with
    | zero => omega
    | succ j =>
      rw [hmuS]
      split
      · have := hc j; omega
      · omega
  have mun : mu n = 0 := by
    obtain ⟨j, rfl⟩ : ∃ j, n = j + 1 := ⟨n - 1, by omega⟩
    rw [hmuS, if_pos (by omega)]
    rw [show j + 1 - 1 = j by omega] at hcn1
    rw [hcn1]
  have mun1 : mu (n + 1) = 0 := by rw [hmuS, if_pos (Nat.le_refl _), hcn]
  have mbig : ∀ j, n ≤ j → mu j = 0 := by
    intro j hj
    rcases Nat.lt_or_ge n j with h1 | h1
    · obtain ⟨k, rfl⟩ : ∃ k, j = k + 1 := ⟨j - 1, by omega⟩
      rw [hmuS]
      split
      · obtain rfl : k = n := by omega
        rw [hcn]
      · rfl
    · obtain rfl : j = n := by omega
      exact mun
  have mpal : ∀ i, i < n → mu (n - i) = mu (i + 1) := by
    intro i hi
    obtain ⟨k, hk⟩ : ∃ k, n - i = k + 1 := ⟨n - i - 1, by omega⟩
    rw [hk, hmuS, hmuS, if_pos (by omega), if_pos (by omega), show k = n - 1 - i by omega, pal i hi]
  have hf : ∀ i, i < n → a i + mu (i + 1) = 15 * mu (i + 2) + mu i := by
    intro i hi
    have e1 := E' i hi
    have e2 := E' (n - 1 - i) (by omega)
    rw [show n - 1 - (n - 1 - i) = i by omega, show n - 1 - i + 1 = n - i by omega, pal i hi] at e2
    rw [hmuS, hmuS (i + 1), if_pos (by omega), if_pos (by omega)]
    have s1 := st i (by omega)
    have s2 := st (i + 1) (by omega)
    cases i with
    | zero =>
      rw [show n - 0 = n from Nat.sub_zero n, Nat.sub_zero, hcn, h0] at e2
      rw [h0, Nat.sub_zero] at e1
      rw [hmu0, h0]
      have := ha' 0
      omega
    | succ i =>
      have e3 := pal i (by omega)
      rw [show n - 1 - i = n - (i + 1) by omega] at e3
      rw [e3] at e2
      rw [hmuS i, if_pos (by omega)]
      have s3 := st i (by omega)
      omega
  have hval := val_mu mle hmu0 mu1 hf n (Nat.le_refl _)
  rw [mun, mun1, Nat.mul_zero, Nat.mul_zero, Nat.add_zero] at hval
  have hNv : valF a n = N := by rw [ea, valF_mod, Nat.mod_eq_of_lt hN]
  rw [hNv] at hval
  obtain ⟨M, hM⟩ : ∃ M, valF (fun k => mu (k + 2)) n = M := ⟨_, rfl⟩
  rw [hM] at hval
  have hN255 : N = 255 * M := by omega
  have hg16 : ∀ i, i < n → (fun k => mu (k + 2)) i < 16 := fun i _ => by have := mle (i + 2); show mu (i + 2) < 16; omega
  have hMdig : ∀ k, M / 16 ^ k % 16 = mu (k + 2) := by
    intro k
    rcases Nat.lt_or_ge k n with h1 | h1
    · rw [← hM, valF_dig n hg16 k h1]
    · have h2 := valF_lt n hg16
      rw [hM] at h2
      rw [mbig _ (by omega), Nat.div_eq_of_lt (Nat.lt_of_lt_of_le h2 (Nat.pow_le_pow_right (by decide) h1))]
  have hd : N / 255 = M := by rw [hN255]; exact Nat.mul_div_cancel_left _ (by decide)
  have htop' : mu (n - 1) = 1 := by
    have h1 := hf (n - 1) (by omega)
    have h2 := htop hn0
    have h3 : a (n - 1) ≠ 0 := by rw [ea]; exact h2
    rw [show n - 1 + 1 = n by omega, show n - 1 + 2 = n + 1 by omega, mun, mun1] at h1
    have := mle (n - 1)
    omega
  have hn3 : 3 ≤ n := by
    refine Nat.le_of_not_lt fun hlt => ?_
    have : n - 1 = 0 ∨ n - 1 = 1 := by omega
    rcases this with e | e <;> rw [e] at htop' <;> omega
  have hms : trimN (figs N) = (List.range (n - 2)).map fun k => mu (k + 2) := by
    have e1 : figs N = (List.range (n - 2 + (24 - (n - 2)))).map fun k => mu (k + 2) := by
      unfold figs
      rw [show n - 2 + (24 - (n - 2)) = 24 by omega, hd]
      exact List.map_congr_left fun k _ => hMdig k
    rw [e1]
    refine trimN_map (by omega) ?_ (fun k hk => mbig _ (by omega)) _
    show mu (n - 2 - 1 + 2) ≠ 0
    rw [show n - 2 - 1 + 2 = n - 1 by omega, htop']
    decide
  have hlen : (trimN (figs N)).length = n - 2 := by rw [hms, List.length_map, List.length_range]
  refine such_yes (by rw [hN255]; omega) ?_ ?_
  · rw [hms, ← List.map_reverse]
    refine List.ext_getElem (by simp) fun k h1 h2 => ?_
    rw [List.length_map, List.length_range] at h1
    simp only [List.getElem_map, List.getElem_range, List.getElem_reverse, List.length_range]
    have := mpal (k + 1) (by omega)
    rw [show n - (k + 1) = n - 2 - 1 - k + 2 by omega] at this
    rw [this]
  · intro k hk
    rw [okAt_iff hk]
    rw [hlen] at hk ⊢
    rw [hms, map_getD _ _ _ hk]
    have ek := hf (k + 1) (by omega)
    have b1 := mle (k + 2)
    have b2 := mle (k + 1)
    have b3 := mle (k + 3)
    have b4 := ha' (k + 1)
    refine ⟨b1, ?_⟩
    by_cases hk0 : k = 0
    · subst hk0
      right
      have g0 : mu 2 = 1 := by rw [← htop']; exact (mpal 1 (by omega)).symm
      have g1 : mu 3 = 1 := by
        show mu (0 + 3) = 1
        have : mu (0 + 2) = 1 := g0
        have : mu (0 + 1) = 0 := mu1
        have ek' : a (0 + 1) + mu (0 + 2) = 15 * mu (0 + 3) + mu (0 + 1) := ek
        omega
      have h4 : 0 + 1 < n - 2 := by
        refine Nat.lt_of_not_le fun hle => ?_
        have : n = 3 := by omega
        rw [this] at mun
        omega
      refine ⟨h4, ?_⟩
      rw [map_getD _ _ _ h4]
      show mu 3 = mu 2
      omega
    · have hm1 : ((List.range (n - 2)).map fun k => mu (k + 2)).getD (k - 1) 0 = mu (k + 1) := by
        rw [map_getD _ _ _ (by omega)]
        show mu (k - 1 + 2) = _
        rw [show k - 1 + 2 = k + 1 by omega]
      rw [hm1]
      have ek' : a (k + 1) + mu (k + 2) = 15 * mu (k + 3) + mu (k + 1) := ek
      rcases Nat.lt_or_ge (k + 1) (n - 2) with h5 | h5
      · rw [map_getD _ _ _ h5]
        show (1 ≤ k ∧ mu (k + 1) = mu (k + 2)) ∨ (k + 1 < n - 2 ∧ mu (k + 3) = mu (k + 2))
        omega
      · left
        refine ⟨by omega, ?_⟩
        have h6 : mu (k + 3) = 0 := mbig _ (by omega)
        have h7 : mu (k + 2) = 1 := by rw [← htop']; congr 1; omega
        omega
/-- a such number's word turned about is that of fifteen times it -/
theorem of_such {N : Nat} (hN : N < 16 ^ 24) (h : suchB N = true) : 15 * N = otherI N (apW N).length := by
  unfold suchB at h
  rw [Bool.and_eq_true, Bool.and_eq_true, beq_iff_eq, beq_iff_eq, List.all_eq_true] at h
  obtain ⟨⟨h1, h2⟩, h3⟩ := h
  obtain ⟨M, hM⟩ : ∃ M, N / 255 = M := ⟨_, rfl⟩
  have hN255 : N = 255 * M := by omega
  have hMlt : N / 255 < 16 ^ 24 := by omega
  obtain ⟨ms, hms⟩ : ∃ ms, trimN (figs N) = ms := ⟨_, rfl⟩
  have hdig : ∀ k, M / 16 ^ k % 16 = ms.getD k 0 := by
    intro k
    rw [← hms, trimN_getD, figs_getD' N k hMlt, hM]
  rw [hms] at h2 h3
  obtain ⟨L, hL⟩ : ∃ L, ms.length = L := ⟨_, rfl⟩
  have hbig : ∀ k, L ≤ k → ms.getD k 0 = 0 := by
    intro k hk
    rw [List.getD_eq_getElem?_getD, List.getElem?_eq_none (by omega)]
    rfl
  have hMv : M = valF (fun k => ms.getD k 0) L := by
    have e1 : M = M % 16 ^ (L + 24) := (Nat.mod_eq_of_lt (Nat.lt_of_lt_of_le (hM ▸ hMlt) (Nat.pow_le_pow_right (by decide) (by omega)))).symm
    rw [e1, ← valF_mod, valF_congr _ fun i _ => hdig i]
    exact valF_top hbig _ (by omega)
  by_cases hne : ms = []
  · subst hne
    have : L = 0 := hL.symm
    subst this
    have e : M = 0 := hMv
    subst e
    subst hN255
    rw [Nat.mul_zero, apW_zero]
    rfl
  have hL1 : 1 ≤ L := by rw [← hL]; exact List.length_pos_iff.mpr hne
  have hlast : ms.getD (L - 1) 0 ≠ 0 := by rw [← hL, ← hms]; exact trimN_last (by rw [hms]; exact hne)
  have hpal : ∀ k, k < L → ms.getD (L - 1 - k) 0 = ms.getD k 0 := by
    intro k hk
    rw [List.getD_eq_getElem?_getD, List.getD_eq_getElem?_getD]
    conv => rhs; rw [h2]
    rw [List.getElem?_reverse (by omega), hL]
  have hok : ∀ k, k < L → ms.getD k 0 ≤ 1 ∧ ((1 ≤ k ∧ ms.getD (k - 1) 0 = ms.getD k 0) ∨ (k + 1 < L ∧ ms.getD (k + 1) 0 = ms.getD k 0)) := by
    intro k hk
    have hk' : k < ms.length := by omega
    have := (okAt_iff hk').mp (h3 k (List.mem_range.mpr hk'))
    rw [hL] at this
    exact this
  have hle : ∀ k, ms.getD k 0 ≤ 1 := by
    intro k
    rcases Nat.lt_or_ge k L with hk | hk
    · exact (hok k hk).1
    · rw [hbig k hk]; omega
  obtain ⟨mu, m0, m1, mS⟩ : ∃ mu : Nat → Nat, mu 0 = 0 ∧ mu 1 = 0 ∧ ∀ j, mu (j + 2) = ms.getD j 0 :=
    ⟨fun j => match j with | 0 => 0 | 1 => 0 | j + 2 => ms.getD j 0, rfl, rfl, fun _ => rfl⟩
  have mle : ∀ j, mu j ≤ 1
    | 0 => by omega
    | 1 => by omega
    | j + 2 => by rw [mS]; exact hle j
  have mbig : ∀ j, L + 2 ≤ j → mu j = 0 := by
    intro j hj
    obtain ⟨k, rfl⟩ : ∃ k, j = k + 2 := ⟨j - 2, by omega⟩
    rw [mS]
    exact hbig k (by omega)
  have mpal : ∀ j, j ≤ L + 3 → mu (L + 3 - j) = mu j := by
    intro j hj
    rcases Nat.lt_or_ge j 2 with h4 | h4
    · rw [mbig _ (by omega)]
      rcases (by omega : j = 0 ∨ j = 1) with rfl | rfl
      · exact m0.symm
      · exact m1.symm
    · rcases Nat.lt_or_ge (L + 1) j with h5 | h5
      · rw [mbig j (by omega)]
        rcases (by omega : L + 3 - j = 0 ∨ L + 3 - j = 1) with e | e
        · rw [e, m0]
        · rw [e, m1]
      · obtain ⟨k, rfl⟩ : ∃ k, j = k + 2 := ⟨j - 2, by omega⟩
        rw [show L + 3 - (k + 2) = (L - 1 - k) + 2 by omega, mS, mS]
        exact hpal k (by omega)
  obtain ⟨a, ea⟩ : ∃ a : Nat → Nat, ∀ i, a i = 15 * mu (i + 2) + mu i - mu (i + 1) := ⟨_, fun _ => rfl⟩
  have hf : ∀ i, i < L + 2 → (a i + mu (i + 1) = 15 * mu (i + 2) + mu i ∧ a i < 16) := by
    intro i hi
    rw [ea]
    have b0 := mle i
    have b1 := mle (i + 1)
    have b2 := mle (i + 2)
    by_cases hi0 : i = 0
    · subst hi0
      have : mu (0 + 1) = 0 := m1
      omega
    · rcases Nat.lt_or_ge L i with h4 | h4
      · have e1 : mu (i + 1) = 0 := mbig _ (by omega)
        have e2 : mu (i + 2) = 0 := mbig _ (by omega)
        omega
      · have h5 := (hok (i - 1) (by omega)).2
        rw [← mS, ← mS, ← mS, show i - 1 + 2 = i + 1 by omega, show i - 1 + 1 + 2 = i + 2 by omega] at h5
        rcases h5 with ⟨h6, h7⟩ | ⟨h6, h7⟩
        · rw [show i - 1 - 1 + 2 = i by omega] at h7
          omega
        · omega
  have g16 : valF (fun k => mu (k + 2)) (L + 2) = M := by
    rw [hMv, ← valF_top hbig (L + 2) (by omega)]
    exact valF_congr _ fun i _ => mS i
  have hv := val_mu mle m0 m1 (fun i hi => (hf i hi).1) (L + 2) (Nat.le_refl _)
  rw [mbig (L + 2) (Nat.le_refl _), mbig (L + 2 + 1) (by omega), Nat.mul_zero, Nat.mul_zero, Nat.add_zero, g16] at hv
  have hNa : valF a (L + 2) = N := by omega
  have hNlt : N < 16 ^ (L + 2) := by rw [← hNa]; exact valF_lt _ fun i hi => (hf i hi).2
  have hda : ∀ i, i < L + 2 → N / 16 ^ i % 16 = a i := by
    intro i hi
    rw [← hNa]
    exact valF_dig _ (fun i hi => (hf i hi).2) i hi
  have htop : a (L + 1) = 1 := by
    have e := (hf (L + 1) (by omega)).1
    rw [mbig (L + 1 + 1) (by omega), mbig (L + 1 + 2) (by omega)] at e
    have e2 : mu (L + 1) = ms.getD (L - 1) 0 := by rw [show L + 1 = L - 1 + 2 by omega, mS]
    have := hle (L - 1)
    omega
  have hlen : (apW N).length = L + 2 := by
    refine Nat.le_antisymm (apW_le hNlt) (Nat.le_of_not_lt fun hlt => ?_)
    have h4 := apW_lt N
    have h5 : 16 ^ (apW N).length ≤ 16 ^ (L + 1) := Nat.pow_le_pow_right (by decide) (by omega)
    have h6 := hda (L + 1) (by omega)
    rw [Nat.div_eq_of_lt (by omega), htop] at h6
    omega
  rw [hlen]
  have hO : otherI N (L + 2) = valF (fun i => a (L + 1 - i)) (L + 2) := by
    rw [← Nat.mod_eq_of_lt (otherI_lt N (L + 2)), ← valF_mod]
    refine valF_congr _ fun i hi => ?_
    rw [other_div N _ i hi, show L + 2 - 1 - i = L + 1 - i by omega]
    exact hda _ (by omega)
  have hv2 := val_um (f := fun i => a (L + 1 - i)) mle m0 m1 (fun i hi => by
    have e := (hf (L + 1 - i) (by omega)).1
    rw [show L + 1 - i + 1 = L + 3 - (i + 1) by omega, mpal (i + 1) (by omega), show L + 1 - i + 2 = L + 3 - i by omega, mpal i (by omega), show L + 1 - i = L + 3 - (i + 2) by omega, mpal (i + 2) (by omega)] at e
    show a (L + 1 - i) + mu (i + 1) = mu (i + 2) + 15 * mu i
    rw [show L + 1 - i = L + 3 - (i + 2) by omega]
    omega) (L + 2) (Nat.le_refl _)
  rw [mbig (L + 2) (Nat.le_refl _), mbig (L + 2 + 1) (by omega), Nat.mul_zero, Nat.mul_zero, g16] at hv2
  rw [hO]
  omega
/-- the law's asking of a number of at most 24 letters -/
theorem alike_such {N : Nat} (h : N < 16 ^ 24) : (apW N).reverse = apW (15 * N) ↔ suchB N = true := by
  rw [alike_iff]
  constructor
  · intro h1
    refine such_of (n := (apW N).length) (apW_le h) (apW_lt N) (fun h2 => ?_) h1
    have h0 : N ≠ 0 := by
      intro e
      subst e
      rw [apW_zero] at h2
      exact absurd h2 (by decide)
    have h3 := apW_ge N h0
    have h4 := apW_lt N
    generalize (apW N).length = n at *
    obtain ⟨j, rfl⟩ : ∃ j, n = j + 1 := ⟨n - 1, by omega⟩
    rw [Nat.pow_succ] at h3 h4
    rw [Nat.add_sub_cancel]
    have q0 : 0 < 16 ^ j := Nat.pow_pos (by decide)
    have h5 : 1 ≤ N / 16 ^ j := (Nat.le_div_iff_mul_le q0).mpr (by omega)
    have h6 : N / 16 ^ j < 16 := (Nat.div_lt_iff_lt_mul q0).mpr (by omega)
    rw [Nat.mod_eq_of_lt h6]
    omega
  · exact of_such h
theorem alike_dec {N : Nat} (h : N < 16 ^ 24) (r : List UInt8) : decide ((apW N).reverse ++ r = apW (15 * N) ++ r) = suchB N := by
  have := alike_such h
  cases hb : suchB N with
  | true => rw [decide_eq_true_eq, this.mpr hb]
  | false =>
    rw [decide_eq_false_iff_not]
    intro e
    have := this.mp (List.append_cancel_right e)
    rw [hb] at this
    exact Bool.false_ne_true this
end Mine
namespace Mine
/-- what a word tells -/
def dval (l : List UInt8) : Nat := l.foldl (fun a x => a * 16 + (x.toNat - 65)) 0
theorem dval_snoc (l : List UInt8) (x : UInt8) : dval (l ++ [x]) = dval l * 16 + (x.toNat - 65) := by
  unfold dval
  rw [List.foldl_append]
  rfl
theorem apW_of : ∀ n, ∀ l : List UInt8, l.length = n → l.all (fun x => decide (65 ≤ x.toNat) && decide (x.toNat ≤ 80)) = true → (l.head? == some 65) = false → apW (dval l) = l := by
  intro n
  induction n with
  | zero =>
    intro l hl _ _
    obtain rfl := List.eq_nil_of_length_eq_zero hl
    exact apW_zero
  | succ n ih =>
    intro l hl ha hh
    rcases List.eq_nil_or_concat l with rfl | ⟨r, x, rfl⟩
    · cases hl
    rw [List.concat_eq_append] at hl ha hh ⊢
    rw [List.all_append, Bool.and_eq_true] at ha
    obtain ⟨ha, hx⟩ := ha
    have hx' : 65 ≤ x.toNat ∧ x.toNat ≤ 80 := by simpa using hx
    rw [dval_snoc]
    have hxe : UInt8.ofNat (65 + (x.toNat - 65)) = x := by
      rw [show 65 + (x.toNat - 65) = x.toNat by omega]
      exact UInt8.ofNat_toNat
    by_cases hr : r = []
    · subst hr
      have hne : x ≠ 65 := by simpa using hh
      have hne' : x.toNat ≠ 65 := fun e => hne (UInt8.toNat_inj.mp e)
      show apW (0 * 16 + (x.toNat - 65)) = [x]
      have e1 : 0 * 16 + (x.toNat - 65) = x.toNat - 65 := by omega
      rw [e1, apW_pos (by omega), show (x.toNat - 65) / 16 = 0 by omega, apW_zero, Nat.mod_eq_of_lt (by omega), hxe]
      rfl
    · have ih' := ih r (by rw [List.length_append, List.length_singleton] at hl; omega) ha (by
        obtain ⟨y, q, rfl⟩ := List.exists_cons_of_ne_nil hr
        exact hh)
      have h0 : dval r ≠ 0 := fun e => by
        rw [e, apW_zero] at ih'
        exact hr ih'.symm
      rw [apW_pos (by omega), show (dval r * 16 + (x.toNat - 65)) / 16 = dval r by omega, show (dval r * 16 + (x.toNat - 65)) % 16 = x.toNat - 65 by omega, ih', hxe]
/-- a run's piece of the word -/
def pieceI (j r : Nat) : List UInt8 := if j % 2 = 1 then List.replicate (r - 2) 65 else [66, 65] ++ List.replicate (r - 2) 80 ++ [79, 80]
def straightI (R : List Nat) : Nat → List UInt8
  | 0 => []
  | j + 1 => straightI R j ++ pieceI j (R.getD j 0)
def oppositeI (R : List Nat) : Nat → List UInt8
  | 0 => []
  | j + 1 => oppositeI R j ++ (pieceI j (R.getD j 0)).reverse
def wordOk (l : List UInt8) (n : Nat) : Bool := l.all (fun x => decide (65 ≤ x.toNat) && decide (x.toNat ≤ 80)) && !(l.head? == some 65) && (dval l == n)
theorem word_of {l : List UInt8} {n : Nat} (h : wordOk l n = true) : apW n = l := by
  unfold wordOk at h
  rw [Bool.and_eq_true, Bool.and_eq_true, beq_iff_eq] at h
  obtain ⟨⟨h1, h2⟩, rfl⟩ := h
  exact apW_of _ l rfl h1 (by simpa using h2)
def numR (R : List Nat) : Nat := 255 * numI (mkI R R.length)
def rowOk (R : List Nat) : Bool := wordOk (straightI R R.length) (numR R) && wordOk (oppositeI R R.length) (15 * numR R)
def few : List Nat := [2, 3, 4]
theorem rows_ok : (few.all fun x => few.all fun y => few.all fun z => rowOk [x, y, z] && rowOk [x, y, z, y, x]) = true := by decide +kernel
theorem few_mem {x : Nat} (h : 2 ≤ x) (h' : x ≤ 4) : x ∈ few := by
  rcases (by omega : x = 2 ∨ x = 3 ∨ x = 4) with rfl | rfl | rfl <;> decide
theorem row_ok {x y z : Nat} (h1 : 2 ≤ x ∧ x ≤ 4) (h2 : 2 ≤ y ∧ y ≤ 4) (h3 : 2 ≤ z ∧ z ≤ 4) : rowOk [x, y, z] = true ∧ rowOk [x, y, z, y, x] = true := by
  have h := List.all_eq_true.mp (List.all_eq_true.mp (List.all_eq_true.mp rows_ok x (few_mem h1.1 h1.2)) y (few_mem h2.1 h2.2)) z (few_mem h3.1 h3.2)
  exact Bool.and_eq_true_iff.mp h
theorem row_words {R : List Nat} (h : rowOk R = true) : apW (numR R) = straightI R R.length ∧ apW (15 * numR R) = oppositeI R R.length := by
  unfold rowOk at h
  rw [Bool.and_eq_true] at h
  exact ⟨word_of h.1, word_of h.2⟩
theorem numI_lt : ∀ n, ∀ l : List Nat, l.length = n → (∀ k ∈ l, k < 16) → numI l < 16 ^ n := by
  intro n
  induction n with
  | zero =>
    intro l hl _
    obtain rfl := List.eq_nil_of_length_eq_zero hl
    decide
  | succ n ih =>
    intro l hl h
    rcases List.eq_nil_or_concat l with rfl | ⟨r, x, rfl⟩
    · cases hl
    rw [List.concat_eq_append] at hl h ⊢
    have h1 := ih r (by rw [List.length_append, List.length_singleton] at hl; omega) fun k hk => h k (List.mem_append_left _ hk)
    have h2 := h x (List.mem_append_right _ (List.mem_singleton.mpr rfl))
    rw [numI_snoc, Nat.pow_succ]
    omega
theorem numI_lt' {l : List Nat} {n : Nat} (hl : l.length ≤ n) (h : ∀ k ∈ l, k < 16) : numI l < 16 ^ n :=
  Nat.lt_of_lt_of_le (numI_lt _ l rfl h) (Nat.pow_le_pow_right (by decide) hl)
theorem mkI_small (rs : List Nat) : ∀ k, ∀ x ∈ mkI rs k, x < 16
  | 0, x, h => nomatch h
  | k + 1, x, h => by
    rw [mkI] at h
    rcases List.mem_append.mp h with h | h
    · exact mkI_small rs k x h
    · have := List.eq_of_mem_replicate h
      omega
theorem mkI_len4 {rs : List Nat} (h : ∀ r ∈ rs, 1 ≤ r ∧ r ≤ 4) : ∀ k, k ≤ rs.length → k ≤ (mkI rs k).length ∧ (mkI rs k).length ≤ 4 * k
  | 0, _ => ⟨Nat.zero_le _, Nat.zero_le _⟩
  | k + 1, hk => by
    have ih := mkI_len4 h k (by omega)
    have h2 := h rs[k] (List.getElem_mem (by omega))
    rw [mkI, List.length_append, List.length_replicate, List.getD_eq_getElem?_getD, List.getElem?_eq_getElem (by omega), Option.getD_some]
    omega
/-- the marks are as many as the runs tell -/
theorem mkI_length_eq (rs : List Nat) : ∀ k, (mkI rs k).length = ((List.range k).map fun i => rs.getD i 0).sum
  | 0 => rfl
  | k + 1 => by
    rw [mkI, List.length_append, List.length_replicate, mkI_length_eq rs k, List.range_succ, List.map_append, List.sum_append]
    simp
theorem flat_one (n : Nat) (x : UInt8) : (List.replicate n [x]).flatten = List.replicate n x := by
  induction n with
  | zero => rfl
  | succ n ih => rw [List.replicate_succ, List.flatten_cons, ih, List.replicate_succ]; rfl
theorem pieceI_length {j r : Nat} (h : r ≤ 4) : (pieceI j r).length ≤ 6 := by
  unfold pieceI
  split
  · rw [List.length_replicate]; omega
  · rw [List.length_append, List.length_append, List.length_replicate]
    show 2 + (r - 2) + 2 ≤ 6
    omega
theorem getD_le {R : List Nat} (h : ∀ x ∈ R, x ≤ 4) (j : Nat) : R.getD j 0 ≤ 4 := by
  rw [List.getD_eq_getElem?_getD]
  rcases Nat.lt_or_ge j R.length with hj | hj
  · rw [List.getElem?_eq_getElem hj]
    exact h _ (List.getElem_mem hj)
  · rw [List.getElem?_eq_none hj]
    exact Nat.zero_le _
theorem straightI_length {R : List Nat} (h : ∀ x ∈ R, x ≤ 4) : ∀ k, (straightI R k).length ≤ 6 * k
  | 0 => Nat.zero_le _
  | k + 1 => by
    have := straightI_length h k
    have := pieceI_length (j := k) (getD_le h k)
    rw [straightI, List.length_append]
    omega
theorem oppositeI_length {R : List Nat} (h : ∀ x ∈ R, x ≤ 4) : ∀ k, (oppositeI R k).length ≤ 6 * k
  | 0 => Nat.zero_le _
  | k + 1 => by
    have := oppositeI_length h k
    have := pieceI_length (j := k) (getD_le h k)
    rw [oppositeI, List.length_append, List.length_reverse]
    omega
/-- how many groups a piece is -/
def oneN (d : List UInt8) : Nat := if d.length = 0 then 0 else 1
theorem one_len (d : List UInt8) : d.length = oneN d * max 1 d.length := by
  unfold oneN
  split <;> omega
theorem one_swap (d : List UInt8) : swapN (max 1 d.length) (oneN d) d = d.reverse := by
  unfold oneN
  split
  · rename_i h
    rw [List.eq_nil_of_length_eq_zero h]
    rfl
  · rename_i h
    rw [show max 1 d.length = d.length by omega, swapN, List.take_length]
    show d.reverse ++ [] = _
    rw [List.append_nil]
theorem piece_odd {j r : Nat} (h : j % 2 ≠ 0) : List.replicate (r - 2) 65 = pieceI j r := by
  unfold pieceI
  rw [if_pos (by omega)]
theorem piece_even {j r : Nat} (h : j % 2 = 0) : [66, 65] ++ (List.replicate (r - 2) [80]).flatten ++ [79, 80] = pieceI j r := by
  unfold pieceI
  rw [if_neg (by omega), flat_one]
end Mine
namespace Mine
local macro_rules | `(tactic| walk_at "mine:enterCell") => `(tactic| (refine' code_defC ?k1 ?k2 ?k3 ?k4 ?k5 ?kA ?kF ?kK ?k6 ?k7 ?k8 ?k9 ?kB ?kD ?_ ?c2 ?c3 ?c4; (case kA => exact rfl); (case kF => exact rfl); (case kK => assumption); (case k1 => k_asm); (case k2 => k_asm); (case k3 => k_asm); (case k4 => k_asm); (case k5 => k_asm); (case k6 => k_is); (case k7 => k_is); (case k8 => ktr_room); (case k9 => exact BindsTo.of_eq rfl); (case kB => exact rfl); (case kD => decide +kernel); (case c2 => exact rfl); (case c3 => exact rfl); (case c4 => exact rfl); k_whole; intro g' L' h' tk' cells' FG' F' N' Y' B' X' T' l1; (have hLow := Low.mk l1); (try k_lt l1); k_cells Y'; (try simp only [List.cons_append, List.nil_append] at N'); (try dsimp only); (try k_lift B'); (try k_fold)))
local macro_rules | `(tactic| walk_at "mine:prem") => `(tactic| ((case k1 => k_asm); (case k2 => k_asm); (case k3 => k_asm); (case k4 => k_asm); (case k5 => k_asm); (case kK => first | exact rfl | assumption); (case kd => ktr_room); (case ku => ktr_units)))
local macro_rules | `(tactic| walk_at "call builtin:len") => `(tactic| ((with_reducible show wpAny _ _ (call (Value.builtin "len") [Value.bytes (List.toArray _) _]) _ _ _); (refine lenB (by omega) ?_)))
local macro_rules | `(tactic| walk_at "binaryOp Mult bytes int") => `(tactic| (refine mulA (by omega) (by omega) ?_; intro _ _))
local macro_rules | `(tactic| walk_at "binaryOp Add int int") => `(tactic| with_reducible (first | refine addNN ?_ | refine addNL ?_ | refine addLN ?_))
local macro_rules | `(tactic| walk_at "binaryOp Mult int int") => `(tactic| with_reducible (first | refine mulNL (by decide) ?_ | refine mulLN (by decide) ?_))
local macro_rules | `(tactic| walk_at "binaryOp FloorDiv int int") => `(tactic| with_reducible (first | refine fdivNL (by decide) (by decide) ?_ | refine fdivP (by decide) (by decide) (by omega) ?_ | refine fdivZP (by decide) (by decide) (by omega) ?_))
local macro_rules | `(tactic| walk_at "binaryOp Mod int int") => `(tactic| with_reducible (first | refine modNL (by decide) ?_ | refine modP (by decide) ?_ | refine modNN (by omega) ?_ | refine modZP (by decide) ?_))
local macro_rules | `(tactic| walk_at "binaryOp Pow int int") => `(tactic| with_reducible (refine powLN (by decide) (by omega) ?_))
local macro_rules | `(tactic| k_all) => `(tactic| (intro r9 hr9; (have hm9 := ltN (Low.all (by assumption) r9 hr9)); refine neN ?_; omega))
local macro_rules | `(tactic| walk_at "storeName") => `(tactic| (k_here; k_dflt (refine' storeX_C ?sF ?sN ?sc ?sU ?sd ?_ ?sa ?sb; (case sa => rfl); (case sb => rfl); (case sF => k_asm); (case sN => k_asm); (case sc => rfl); (case sU => k_updF); (case sd => k_asm); k_whole; intro h' o' F' N' d'; (try dsimp only at N'); (try k_sweep))))
local macro_rules | `(tactic| walk_at "call builtin:max") => `(tactic| (k_here; k_dflt (refine' maxNN ?mh ?mF ?mN ?_; (case mh => rfl); (case mF => k_asm); (case mN => k_asm); k_whole); intro _ _ _ F' N'))
local macro_rules | `(tactic| walk_at "call builtin:min") => `(tactic| (k_here; k_dflt (refine' minNN ?mh ?mF ?mN ?_; (case mh => rfl); (case mF => k_asm); (case mN => k_asm); k_whole); intro _ _ _ F' N'))
local macro_rules | `(tactic| walk_at "eval ListComp") => `(tactic| k_extra "eval ListComp")
local macro_rules | `(tactic| walk_at "exec Assign cons ListComp") => `(tactic| k_extra "exec Assign cons ListComp")
local macro_rules | `(tactic| walk_at "pyIter ref") => `(tactic| k_extra "pyIter ref")
local macro_rules | `(tactic| walk_at "pyIter bytes") => `(tactic| k_extra "pyIter bytes")
local macro_rules | `(tactic| walk_at "call ref") => `(tactic| k_extra "call ref")
local macro_rules | `(tactic| walk_at "InvEndN") => `(tactic| k_extra "InvEndN")
local macro_rules | `(tactic| walk_at "exec Assign") => `(tactic| k_extra "exec Assign")
local macro_rules | `(tactic| walk_at "call builtin:len") => `(tactic| k_extra "call builtin:len")
local macro_rules | `(tactic| walk_at "exec For") => `(tactic| k_extra "exec For")
local macro_rules | `(tactic| walk_at "binaryOp Sub int int") => `(tactic| with_reducible (first | refine subLN (by omega) ?_ | refine subNL (by omega) ?_))
local macro_rules | `(tactic| walk_at "call type:range") => `(tactic| (k_here; (with_reducible show wpAny _ _ (call (Value.type "range") [Value.int _ _]) _ _ _); k_dflt (refine' range1_rows ?rF ?rN ?_; (case rF => k_asm); (case rN => k_asm)); intro h' tk' t1' u1' v1' R' F' N' K'))
local macro_rules | `(tactic| walk_at "binaryOp Sub int int") => `(tactic| k_extra "binaryOp Sub int int")
local macro_rules | `(tactic| walk_at "binaryOp Mult ref int") => `(tactic| k_extra "binaryOp Mult ref int")
local macro_rules | `(tactic| walk_at "binaryOp Add ref ref") => `(tactic| k_extra "binaryOp Add ref ref")
local macro_rules | `(tactic| walk_at "storeName") => `(tactic| k_extra "storeName")
local macro_rules | `(tactic| walk_at "execs cons") => `(tactic| refine wpAny_execs_cons ?_)
local macro_rules | `(tactic| walk_at "call builtin:list.append") => `(tactic| k_extra "call builtin:list.append")
local macro_rules | `(tactic| walk_at "subscriptTail BinOp Name ref int") => `(tactic| k_extra "subscriptTail BinOp Name ref int")
local macro_rules | `(tactic| k_all) => `(tactic| ((try (refine List.forall_mem_cons.mpr ⟨by k_ne, ?_⟩)); exact all_app (all_ne (kst_ltOf (by first | assumption | exact And.right (by assumption)))) (OwnOff.ne (by assumption) (by k_memK))))
local macro_rules | `(tactic| walk_at "subscriptTail Name Slice ref ref") => `(tactic| k_extra "subscriptTail Name Slice ref ref")
local macro_rules | `(tactic| walk_at "binaryOp Add bytes bytes") => `(tactic| k_extra "binaryOp Add bytes bytes")
local macro_rules | `(tactic| walk_at "subscriptTail Name Slice bytes ref") => `(tactic| k_extra "subscriptTail Name Slice bytes ref")
local macro_rules | `(tactic| walk_at "subscriptTail Name Name ref int") => `(tactic| k_extra "subscriptTail Name Name ref int")
local macro_rules | `(tactic| walk_at "compareOp NotEq bytes bytes") => `(tactic| k_extra "compareOp NotEq bytes bytes")
local macro_rules | `(tactic| walk_at "CompSrc") => `(tactic| k_extra "CompSrc")
/-- a row: where it stands, its values, its runs, its count -/
abbrev RowT := Addr × List Value × List Nat × Nat
def rowIn (r : RowT) : Addr × Obj := (r.1, listOf r.2.1.toArray r.2.2.2)
structure RowOk (r : RowT) : Prop where
  hI : IntsAre r.2.1 (castL r.2.2.1)
  hLen : r.2.2.1.length ≤ 5
  hPos : 1 ≤ r.2.2.1.length
  hRun : ∀ x ∈ r.2.2.1, 1 ≤ x ∧ x ≤ 4
theorem News.sub_tail {h₀ h : Heap} {L : Addr} {a b : List (Addr × Obj)} (N : News h₀ L h a) (hs : ∀ r ∈ b, r ∈ a) : News h₀ L h b := fun r hr => N r (hs r hr)
theorem ints_pt : ∀ {ys : List Value} {ks : List Nat}, ys.length = ks.length → (∀ i y, ys[i]? = some y → ∃ t, y = Value.int ((ks.getD i 0 : Nat) : Int) t) → IntsAre ys (castL ks)
  | [], [], _, _ => .nil
  | [], _ :: _, h, _ => nomatch h
  | _ :: _, [], h, _ => nomatch h
  | y :: ys, k :: ks, h, hy => by
    obtain ⟨t, rfl⟩ := hy 0 y rfl
    exact .cons _ _ (ints_pt (Nat.succ.inj h) fun i z hz => hy (i + 1) z hz)
theorem asked (w : World) (mean mg mb) (l : Addr) (rs : List RowT) (jl : Nat) (sc : Addr) (vs : List Value) (ns : List Int) (news : List (Addr × Obj)) :
  ∀ (dp un : Nat) (gd : Option (List Code)) (cn : Str) (cs : Scope) (a : Addr) (ccd : Value) (cl : List (Str × Addr)) (outer : List Env) (A₀ : Around) (base h₀ : Heap) (L : Addr) (m : Str → Option Value) (s : Shared) (Q E : Value → Shared → Prop),
    Below A₀ base outer h₀ → Fr h₀ L s.heap m → (Mine.hd.heap_39 w.params).In h₀ → News h₀ L s.heap news → Top Mine.hd.view_39 (looseW Mine.hd.view_39 []) mean mg mb h₀ → cs.kind = .function →
    (l, listOf (rs.map fun r => Value.ref r.1).toArray jl) ∈ news → rs.length = 4 → (∀ r ∈ rs, rowIn r ∈ news ∧ RowOk r) → base.IsList sc vs.toArray → IntsAre vs ns → ns.length ≤ 63 → dp + 2 < recursionLimit → un + 8 * 2 < cLine →
    (∀ (D : Addr) (us : List Value) (nn : Nat) (ks : List Nat) (h' : Heap) (tk' : Nat), Fr h₀ L h' m → News h₀ L h' ((D, listOf us.toArray nn) :: news) → (∀ p ∈ news, p.1 ≠ D) → IntsAre us (castL ks) → (∀ k ∈ ks, k < 16 ^ 24) → ks.length ≤ 9 → 4 ≤ ks.length → ks.take 4 = rs.map (fun r => numR r.2.2.1) →
      Q (.ref D) { s with heap := h', toks := tk' }) →
      wpAny (model PySem.Challenge.rw_pe0018_02.row.prog w) (ktrTop dp un gd cn cs L a ccd cl outer) (call (.ref 52) [.ref l, .ref sc]) Q E s := by
  k_fill
  intros
  rename_i hl hrs hrow hsc hi hlen _ _ hret
  refine wpAny_call ?_
  k_dflt cell_enter
  (k_with "exec Assign" => refine Halt.of ?_)
  k_steps
  k_with_none
  refine Halt.on ?_
  (try dsimp only)
  walk1
  (k_with "call builtin:sum" => refine Halt.of ?_)
  k_steps
  k_with_none
  refine Halt.on ?_
  (try dsimp only)
  (have hI8 := gn_ints (by assumption) (by assumption) (fun _ => rfl))
  rename Fr _ _ _ _ => F2
  rename News _ _ _ _ => N2
  rename Heap.IsList _ _ _ => hL2
  refine LSm.sum_ints (s := ⟨_, _, _, _, _⟩) F2 N2 rfl hL2 hI8 ?_
  clear F2 N2
  intro h3 tk3 t3 F3 N3
  (try dsimp only)
  obtain ⟨sp, hsp⟩ : ∃ sp : Nat, (List.map (fun a : Int => a.fmod (10 ^ Int.toNat 6)) (List.take 6 ns)).sum = (sp : Int) := by
    obtain ⟨ds, hds, _⟩ := cast_of _ (fun n hn => (fmod_all (f := fun a : Int => a.fmod (10 ^ Int.toNat 6)) (d := 10 ^ Int.toNat 6) (by decide) (fun _ => rfl) (List.take 6 ns) n hn).1)
    exact ⟨ds.sum, by rw [hds, castL_sum]⟩
  rw [hsp]
  (k_with "exec Assign cons ListComp" => refine Halt.of ?_)
  k_steps
  k_with_none
  refine Halt.on ?_
  (try dsimp only)
  k_dflt (refine LCg.Assign_ListComp_U (F₀ := by k_asm) (by rfl) (by with_unfolding_all rfl) (by rfl) (by decide) (by rfl) (by decide) (by rfl) (by rfl) (by rfl) ?_)
  (k_with "CompSrc" => refine Halt.of ?_)
  k_dflt lcg_toSrc
  k_with_none
  refine Halt.on ?_
  (try dsimp only)
  rename Fr _ _ _ _ => F4
  rename News _ _ _ _ => N4
  refine LCg.CompSrc.ledger rfl F4 N4 (.tail _ hl) (by rw [List.size_toArray, List.length_map, hrs, sizeLine_eq]; decide) ?_
  clear F4 N4
  intro g
  rw [show (List.map (fun r : RowT => Value.ref r.1) rs).toArray.size = 4 by rw [List.size_toArray, List.length_map, hrs]]
  refine comp_rel (fun i y => ∃ t, y = .int (((rs.map fun r : RowT => numR r.2.2.1).getD i 0 : Nat) : Int) t) ?tn ?fn
  case tn =>
    intro i v I oI C oC D m₂ ys2 h8 tk8 E' hi4 hv hC hx F8 N8 off ne
    obtain ⟨r, hr⟩ : ∃ r, rs[i]? = some r := ⟨rs[i]'(by omega), List.getElem?_eq_getElem (by omega)⟩
    have hv' : v = .ref r.1 := by
      rw [List.getElem?_toArray, List.getElem?_map, hr] at hv
      exact (Option.some.inj hv).symm
    subst hv'
    have hR : (rs.map fun r : RowT => numR r.2.2.1).getD i 0 = numR r.2.2.1 := by
      rw [List.getD_eq_getElem?_getD, List.getElem?_map, hr]
      rfl
    rw [hR]
    obtain ⟨hrn, hro⟩ := hrow r (List.mem_of_getElem? hr)
    obtain ⟨ra, ru, rk, rj⟩ := r
    dsimp only at hx hrn hro ⊢
    have hrI := hro.hI
    have hrL := hro.hLen
    have hrR := hro.hRun
    dsimp only at hrI hrL hrR
    (k_with "call ref" => refine Halt.of ?_)
    k_steps
    k_with_none
    refine Halt.on ?_
    (try dsimp only)
    k_dflt (refine' marks w _ _ _ ra ru rk rj _ _ _ _ _ _ _ _ _ _ _ _ _ _ _ _ _ _ (by k_asm) (by k_asm) (by k_asm) (by k_asm) (by k_asm) (by first | exact rfl | assumption) (.tail _ (.tail _ (.tail _ (.tail _ hrn)))) hrI hrL (fun x hx => Nat.le_trans (hrR x hx).2 (by decide)) (by ktr_room) (by ktr_units) ?_)
    clear F8 N8
    intro D9 v9 n9 h9 tk9 F9 N9 l9 hi9
    (try dsimp only)
    (k_with "call ref" => refine Halt.of ?_)
    k_steps
    k_with_none
    refine Halt.on ?_
    (try dsimp only)
    have hkl := mkI_length rk (fun x hx => Nat.le_trans (hrR x hx).2 (by decide)) rk.length
    k_dflt (refine' said_use (number w _ _ _ D9 v9 (mkI rk rk.length) n9 _) (by k_asm) (by k_asm) (by k_asm) (by k_asm) (by k_asm) (by first | exact rfl | assumption) ⟨List.mem_cons_self .., hi9, by omega⟩ (by ktr_room) (by ktr_units) ?_)
    clear F9 N9
    intro t10 h10 tk10 F10 N10
    (try dsimp only)
    k_steps
    exact LCg.CompEnd.intro F10 N10 _ (fun p hp => .tail _ hp) off (.inr ⟨_, .tail _ hl, rfl, _, rfl⟩) ⟨rfl, _, rfl⟩
  case fn =>
    intro ys4 hl4 hy4
    have hk4l : (rs.map fun r : RowT => numR r.2.2.1).length = 4 := by rw [List.length_map, hrs]
    have hi4 : IntsAre ys4 (castL (rs.map fun r : RowT => numR r.2.2.1)) := ints_pt (by rw [hl4, hk4l]) hy4
    obtain ⟨k4, hk4⟩ : ∃ k4, (rs.map fun r : RowT => numR r.2.2.1) = k4 := ⟨_, rfl⟩
    rw [hk4] at hk4l hi4
    clear hy4
    unfold LCg.FinA
    intro D4 h4 tk4 F4 N4 o4
    have l4 := off1_ne o4
    (try dsimp only)
    (k_with "subscriptTail Name Constant ref int" => refine Halt.of ?_)
    k_steps
    k_with_none
    refine Halt.on ?_
    (try dsimp only)
    rename News _ _ _ _ => N5
    refine itemN (s := ⟨_, _, _, _, _⟩) (j := 3) N5 (.head _) hi4 (by omega) (by omega) ?_
    intro t5
    (try dsimp only)
    obtain ⟨f4, hf4⟩ : ∃ f4, k4[3] = f4 := ⟨_, rfl⟩
    rw [hf4]
    obtain ⟨r3, hr3⟩ : ∃ r, rs[3]? = some r := ⟨rs[3]'(by omega), List.getElem?_eq_getElem (by omega)⟩
    obtain ⟨hrn, hro⟩ := hrow r3 (List.mem_of_getElem? hr3)
    have hrI := hro.hI
    have hrL := hro.hLen
    have hrP := hro.hPos
    have hrR := hro.hRun
    have hf4' : f4 = numR r3.2.2.1 := by
      rw [← hf4]
      have e : k4[3]? = some (numR r3.2.2.1) := by rw [← hk4, List.getElem?_map, hr3]; rfl
      rw [List.getElem?_eq_getElem (by omega)] at e
      exact Option.some.inj e
    obtain ⟨ra, ru, rk, rj⟩ := r3
    dsimp only at hrn hrI hrL hrP hrR hf4'
    (k_with "subscriptTail Name Constant ref int" => refine Halt.of ?_)
    k_steps
    k_with_none
    refine Halt.on ?_
    (try dsimp only)
    rename News _ _ _ _ => N6
    refine item_list (items := (rs.map fun r => Value.ref r.1).toArray) (x := .ref ra) (k := 3) (N6.isList (.tail _ (.tail _ hl))) (by decide) (by decide) (by rw [List.getElem?_toArray, List.getElem?_map]; show Option.map _ rs[3]? = _; rw [hr3]; rfl) ?_ (by with_unfolding_all rfl) (by intro _; with_unfolding_all rfl)
    (k_with "call ref" => refine Halt.of ?_)
    k_steps
    k_with_none
    refine Halt.on ?_
    (try dsimp only)
    k_dflt (refine' marks w _ _ _ ra ru rk rj _ _ _ _ _ _ _ _ _ _ _ _ _ _ _ _ _ _ (by k_asm) (by k_asm) (by k_asm) (by k_asm) (by k_asm) (by first | exact rfl | assumption) (.tail _ (.tail _ hrn)) hrI hrL (fun x hx => Nat.le_trans (hrR x hx).2 (by decide)) (by ktr_room) (by ktr_units) ?_)
    (try clear N6)
    intro D9 v9 n9 h9 tk9 F9 N9 l9 hi9
    have hkl := mkI_length rk (fun x hx => Nat.le_trans (hrR x hx).2 (by decide)) rk.length
    (try dsimp only)
    (k_with "call builtin:len" => refine Halt.of ?_)
    k_steps
    k_with_none
    refine Halt.on ?_
    (try dsimp only)
    clear hkl
    obtain ⟨hk1, hk20⟩ := mkI_len4 hrR rk.length (Nat.le_refl _)
    have hk16 := mkI_small rk rk.length
    obtain ⟨K, hK⟩ : ∃ K, mkI rk rk.length = K := ⟨_, rfl⟩
    have hf4K : f4 = 255 * numI K := by rw [hf4', numR, hK]
    rw [hK] at hi9 hk1 hk20 hk16
    clear hK hf4'
    rename News _ _ _ _ => N10
    refine lenL (s := ⟨_, _, _, _, _⟩) N10 (.head _) (by rw [hi9.length, castL_length]; omega) ?_
    intro t10 tk10
    rw [hi9.length, castL_length]
    (try dsimp only)
    (k_with "subscriptTail Name Slice ref ref" => refine Halt.of ?_)
    k_steps
    k_with_none
    refine Halt.on ?_
    (try dsimp only)
    have hpl : sp % K.length < K.length := Nat.mod_lt _ (by omega)
    rename Fr _ _ _ _ => F11
    rename News _ _ _ _ => N11
    refine sliceTo (s := ⟨_, _, _, _, _⟩) F11 N11 (.head _) hi9 (by omega) ?_
    clear F11 N11
    intro D12 v12 h12 hi12 F12 N12 l12
    (try dsimp only)
    (k_with "binaryOp Add ref ref" => refine Halt.of ?_)
    k_steps
    k_with_none
    refine Halt.on ?_
    (try dsimp only)
    rename Fr _ _ _ _ => F13
    rename News _ _ _ _ => N13
    refine addLI (s := ⟨_, _, _, _, _⟩) (c := [sp / 20 % 16]) F13 N13 hi12 (.cons _ _ .nil) (.tail _ (.head _)) (.head _) (by rw [List.length_take, List.length_singleton]; omega) ?_
    clear F13 N13
    intro D14 v14 h14 hi14 F14 N14 l14
    (try dsimp only)
    (k_with "subscriptTail Name Slice ref ref" => refine Halt.of ?_)
    k_steps
    k_with_none
    refine Halt.on ?_
    (try dsimp only)
    rename Fr _ _ _ _ => F15
    rename News _ _ _ _ => N15
    refine sliceFrom (s := ⟨h14, _, _, _, _⟩) F15 N15 (.tail _ (.tail _ (.tail _ (.head _)))) hi9 (by omega) ?_
    clear F15 N15
    intro D16 v16 h16 hi16 F16 N16 l16
    (try dsimp only)
    (k_with "binaryOp Add ref ref" => refine Halt.of ?_)
    k_steps
    k_with_none
    refine Halt.on ?_
    (try dsimp only)
    have hXl : ((K.take (sp % K.length) ++ [sp / 20 % 16]) ++ K.drop (sp % K.length + 1)).length ≤ 20 := by
      rw [List.length_append, List.length_append, List.length_take, List.length_drop, List.length_singleton]
      omega
    have hX16 : ∀ x ∈ ((K.take (sp % K.length) ++ [sp / 20 % 16]) ++ K.drop (sp % K.length + 1)), x < 16 := by
      refine all_join (all_join (fun x hx => hk16 x (List.mem_of_mem_take hx)) fun x hx => ?_) fun x hx => hk16 x (List.mem_of_mem_drop hx)
      rw [List.mem_singleton.mp hx]
      exact Nat.mod_lt _ (by decide)
    rename Fr _ _ _ _ => F17
    rename News _ _ _ _ => N17
    refine addLI (s := ⟨_, _, _, _, _⟩) F17 N17 hi14 hi16 (.tail _ (.head _)) (.head _) (by rw [← List.length_append]; omega) ?_
    clear F17 N17
    intro D18 v18 h18 hi18 F18 N18 l18
    obtain ⟨X, hX⟩ : ∃ X, ((K.take (sp % K.length) ++ [sp / 20 % 16]) ++ K.drop (sp % K.length + 1)) = X := ⟨_, rfl⟩
    rw [hX] at hi18 hXl hX16
    clear hX
    (try dsimp only)
    (k_with "call ref" => refine Halt.of ?_)
    k_steps
    k_with_none
    refine Halt.on ?_
    (try dsimp only)
    k_dflt (refine' said_use (number w _ _ _ D18 v18 X 0 _) (by k_asm) (by k_asm) (by k_asm) (by k_asm) (by k_asm) (by first | exact rfl | assumption) ⟨List.mem_cons_self .., hi18, by omega⟩ (by ktr_room) (by ktr_units) ?_)
    clear F18 N18
    intro t19 h19 tk19 F19 N19
    (try dsimp only)
    (k_with "call builtin:list.append" => refine Halt.of ?_)
    k_steps
    k_with_none
    refine Halt.on ?_
    (try dsimp only)
    rename Fr _ _ _ _ => F20
    rename News _ _ _ _ => N20
    refine appN (s := ⟨_, _, _, _, _⟩) F20 (News.sub_tail N20 (fun r hr => .tail _ (.tail _ (.tail _ (.tail _ (.tail _ (.tail _ hr))))))) hi4 (by omega) (Upd.head l4) ?_
    clear F20 N20
    intro h21 ws21 hi21 hws21 F21 N21
    subst hws21
    (try dsimp only)
    (k_with "call builtin:list.append" => refine Halt.of ?_)
    k_steps
    k_with_none
    refine Halt.on ?_
    (try dsimp only)
    rename Fr _ _ _ _ => F22
    rename News _ _ _ _ => N22
    refine appN (s := ⟨_, _, _, _, _⟩) F22 N22 hi21 (by rw [List.length_append, List.length_singleton]; omega) (Upd.head l4) ?_
    clear F22 N22
    intro h23 ws23 hi23 hws23 F23 N23
    subst hws23
    (try dsimp only)
    (k_with "call builtin:list.append" => refine Halt.of ?_)
    k_steps
    k_with_none
    refine Halt.on ?_
    (try dsimp only)
    rename Fr _ _ _ _ => F24
    rename News _ _ _ _ => N24
    refine appN (s := ⟨_, _, _, _, _⟩) F24 N24 hi23 (by rw [List.length_append, List.length_append, List.length_singleton, List.length_singleton]; omega) (Upd.head l4) ?_
    clear F24 N24
    intro h25 ws25 hi25 hws25 F25 N25
    subst hws25
    (try dsimp only)
    (k_with "call builtin:list.extend" => refine Halt.of ?_)
    k_steps
    k_with_none
    refine Halt.on ?_
    (try dsimp only)
    rename Fr _ _ _ _ => F26
    rename News _ _ _ _ => N26
    rename NewPlain _ _ _ _ => P26
    rename Heap.get? _ _ = none => hn26
    (have hI26 := gn_ints P26 (by assumption) (fun _ => rfl))
    have hlt26 := fmod_all (f := fun a : Int => a.fmod (16 ^ Int.toNat 12)) (d := 16 ^ Int.toNat 12) (by decide) (fun _ => rfl) (List.take 2 ns)
    obtain ⟨ds, hds, hdsE⟩ := ints_cast hI26 (fun n hn => (hlt26 n hn).1)
    have hd16 : ∀ k ∈ ds, k < 16 ^ 24 := by
      intro k hk
      rw [hdsE] at hk
      obtain ⟨n, hn, rfl⟩ := List.mem_map.mp hk
      have h1 := (hlt26 n hn).2
      have h2 : (16 : Int) ^ Int.toNat 12 < 16 ^ 24 := by decide
      have h3 := (hlt26 n hn).1
      have h4 : ((n.toNat : Nat) : Int) < ((16 ^ 24 : Nat) : Int) := by
        rw [Int.toNat_of_nonneg h3]
        exact Int.lt_trans h1 (by decide)
      exact Int.ofNat_lt.mp h4
    have hdl : ds.length ≤ 2 := by rw [hdsE, List.length_map, List.length_map, List.length_take]; omega
    clear hdsE hlt26 hI26
    obtain ⟨n26, N27, _⟩ := gn_enter P26 F26 N26 hn26
    have hne26 := P26.2 _ (.tail _ (.head _))
    refine extN (s := ⟨_, _, _, _, _⟩) F26 (News.sub_tail N27 (fun r hr => (List.mem_cons.mp hr).elim (fun e => e ▸ .head _) fun hr => .tail _ (.tail _ hr))) hi25 hds (.head _) (by rw [List.length_append, List.length_append, List.length_append, List.length_singleton, List.length_singleton, List.length_singleton]; omega) (Upd.tail (Ne.symm hne26) (Upd.head l4)) ?_
    clear F26 N26 N27 P26
    intro h28 hi28 F28 N28
    (try dsimp only)
    k_steps
    have hXn := numI_lt' hXl hX16
    have hKn := numI_lt' (n := 20) (by omega) hk16
    rename News _ _ _ _ => N29
    rename Fr _ _ _ _ => F29
    refine hret _ _ _ _ _ _ F29 (News.sub_tail N29 (fun r hr => (List.mem_cons.mp hr).elim (fun e => e ▸ .tail _ (.head _)) fun hr => .tail _ (.tail _ (.tail _ hr)))) (fun p hp => l4 p (.tail _ hp)) hi28 ?_ ?_ ?_ ?_
    · have h4 : ∀ k ∈ k4, k < 16 ^ 24 := by
        intro k hk
        rw [← hk4] at hk
        obtain ⟨r, hr, rfl⟩ := List.mem_map.mp hk
        have ho := (hrow r hr).2
        obtain ⟨q1, q2⟩ := mkI_len4 ho.hRun _ (Nat.le_refl _)
        have q3 := ho.hLen
        have q4 := numI_lt' (n := 20) (by omega) (mkI_small r.2.2.1 r.2.2.1.length)
        unfold numR
        omega
      refine all_join (all_snoc (all_snoc (all_snoc h4 ?_) ?_) ?_) hd16
      · omega
      · omega
      · omega
    · rw [List.length_append, List.length_append, List.length_append, List.length_append, List.length_singleton, List.length_singleton, List.length_singleton]
      omega
    · rw [List.length_append, List.length_append, List.length_append, List.length_append, List.length_singleton, List.length_singleton, List.length_singleton]
      omega
    · rw [hk4, List.append_assoc, List.append_assoc, List.append_assoc]
      exact List.take_left' hk4l
end Mine
namespace Mine
local macro_rules | `(tactic| walk_at "mine:enterCell") => `(tactic| (refine' code_defC ?k1 ?k2 ?k3 ?k4 ?k5 ?kA ?kF ?kK ?k6 ?k7 ?k8 ?k9 ?kB ?kD ?_ ?c2 ?c3 ?c4; (case kA => exact rfl); (case kF => exact rfl); (case kK => assumption); (case k1 => k_asm); (case k2 => k_asm); (case k3 => k_asm); (case k4 => k_asm); (case k5 => k_asm); (case k6 => k_is); (case k7 => k_is); (case k8 => ktr_room); (case k9 => exact BindsTo.of_eq rfl); (case kB => exact rfl); (case kD => decide +kernel); (case c2 => exact rfl); (case c3 => exact rfl); (case c4 => exact rfl); k_whole; intro g' L' h' tk' cells' FG' F' N' Y' B' X' T' l1; (have hLow := Low.mk l1); (try k_lt l1); k_cells Y'; (try simp only [List.cons_append, List.nil_append] at N'); (try dsimp only); (try k_lift B'); (try k_fold)))
local macro_rules | `(tactic| walk_at "mine:prem") => `(tactic| ((case k1 => k_asm); (case k2 => k_asm); (case k3 => k_asm); (case k4 => k_asm); (case k5 => k_asm); (case kK => first | exact rfl | assumption); (case kd => ktr_room); (case ku => ktr_units)))
local macro_rules | `(tactic| walk_at "call builtin:len") => `(tactic| ((with_reducible show wpAny _ _ (call (Value.builtin "len") [Value.bytes (List.toArray _) _]) _ _ _); (refine lenB (by omega) ?_)))
local macro_rules | `(tactic| walk_at "binaryOp Mult bytes int") => `(tactic| (refine mulA (by omega) (by omega) ?_; intro _ _))
local macro_rules | `(tactic| walk_at "binaryOp Add int int") => `(tactic| with_reducible (first | refine addNN ?_ | refine addNL ?_ | refine addLN ?_))
local macro_rules | `(tactic| walk_at "binaryOp Mult int int") => `(tactic| with_reducible (first | refine mulNL (by decide) ?_ | refine mulLN (by decide) ?_))
local macro_rules | `(tactic| walk_at "binaryOp FloorDiv int int") => `(tactic| with_reducible (first | refine fdivNL (by decide) (by decide) ?_ | refine fdivP (by decide) (by decide) (by omega) ?_ | refine fdivZP (by decide) (by decide) (by omega) ?_))
local macro_rules | `(tactic| walk_at "binaryOp Mod int int") => `(tactic| with_reducible (first | refine modNL (by decide) ?_ | refine modP (by decide) ?_ | refine modNN (by omega) ?_ | refine modZP (by decide) ?_))
local macro_rules | `(tactic| walk_at "binaryOp Pow int int") => `(tactic| with_reducible (refine powLN (by decide) (by omega) ?_))
local macro_rules | `(tactic| k_all) => `(tactic| (intro r9 hr9; (have hm9 := ltN (Low.all (by assumption) r9 hr9)); refine neN ?_; omega))
local macro_rules | `(tactic| walk_at "storeName") => `(tactic| (k_here; k_dflt (refine' storeX_C ?sF ?sN ?sc ?sU ?sd ?_ ?sa ?sb; (case sa => rfl); (case sb => rfl); (case sF => k_asm); (case sN => k_asm); (case sc => rfl); (case sU => k_updF); (case sd => k_asm); k_whole; intro h' o' F' N' d'; (try dsimp only at N'); (try k_sweep))))
local macro_rules | `(tactic| walk_at "call builtin:max") => `(tactic| (k_here; k_dflt (refine' maxNN ?mh ?mF ?mN ?_; (case mh => rfl); (case mF => k_asm); (case mN => k_asm); k_whole); intro _ _ _ F' N'))
local macro_rules | `(tactic| walk_at "call builtin:min") => `(tactic| (k_here; k_dflt (refine' minNN ?mh ?mF ?mN ?_; (case mh => rfl); (case mF => k_asm); (case mN => k_asm); k_whole); intro _ _ _ F' N'))
local macro_rules | `(tactic| walk_at "eval ListComp") => `(tactic| k_extra "eval ListComp")
local macro_rules | `(tactic| walk_at "exec Assign cons ListComp") => `(tactic| k_extra "exec Assign cons ListComp")
local macro_rules | `(tactic| walk_at "pyIter ref") => `(tactic| k_extra "pyIter ref")
local macro_rules | `(tactic| walk_at "pyIter bytes") => `(tactic| k_extra "pyIter bytes")
local macro_rules | `(tactic| walk_at "call ref") => `(tactic| k_extra "call ref")
local macro_rules | `(tactic| walk_at "InvEndN") => `(tactic| k_extra "InvEndN")
local macro_rules | `(tactic| walk_at "exec Assign") => `(tactic| k_extra "exec Assign")
local macro_rules | `(tactic| walk_at "call builtin:len") => `(tactic| k_extra "call builtin:len")
local macro_rules | `(tactic| walk_at "exec For") => `(tactic| k_extra "exec For")
local macro_rules | `(tactic| walk_at "binaryOp Sub int int") => `(tactic| with_reducible (first | refine subLN (by omega) ?_ | refine subNL (by omega) ?_))
local macro_rules | `(tactic| walk_at "call type:range") => `(tactic| (k_here; (with_reducible show wpAny _ _ (call (Value.type "range") [Value.int _ _]) _ _ _); k_dflt (refine' range1_rows ?rF ?rN ?_; (case rF => k_asm); (case rN => k_asm)); intro h' tk' t1' u1' v1' R' F' N' K'))
local macro_rules | `(tactic| walk_at "binaryOp Sub int int") => `(tactic| k_extra "binaryOp Sub int int")
local macro_rules | `(tactic| walk_at "binaryOp Mult ref int") => `(tactic| k_extra "binaryOp Mult ref int")
local macro_rules | `(tactic| walk_at "binaryOp Add ref ref") => `(tactic| k_extra "binaryOp Add ref ref")
local macro_rules | `(tactic| walk_at "storeName") => `(tactic| k_extra "storeName")
local macro_rules | `(tactic| walk_at "execs cons") => `(tactic| refine wpAny_execs_cons ?_)
local macro_rules | `(tactic| walk_at "call builtin:list.append") => `(tactic| k_extra "call builtin:list.append")
local macro_rules | `(tactic| walk_at "subscriptTail BinOp Name ref int") => `(tactic| k_extra "subscriptTail BinOp Name ref int")
local macro_rules | `(tactic| k_all) => `(tactic| ((try (refine List.forall_mem_cons.mpr ⟨by k_ne, ?_⟩)); exact all_app (all_ne (kst_ltOf (by first | assumption | exact And.right (by assumption)))) (OwnOff.ne (by assumption) (by k_memK))))
local macro_rules | `(tactic| walk_at "subscriptTail Name Slice ref ref") => `(tactic| k_extra "subscriptTail Name Slice ref ref")
local macro_rules | `(tactic| walk_at "binaryOp Add bytes bytes") => `(tactic| k_extra "binaryOp Add bytes bytes")
local macro_rules | `(tactic| walk_at "subscriptTail Name Slice bytes ref") => `(tactic| k_extra "subscriptTail Name Slice bytes ref")
local macro_rules | `(tactic| walk_at "subscriptTail Name Name ref int") => `(tactic| k_extra "subscriptTail Name Name ref int")
local macro_rules | `(tactic| walk_at "compareOp NotEq bytes bytes") => `(tactic| k_extra "compareOp NotEq bytes bytes")
local macro_rules | `(tactic| walk_at "CompSrc") => `(tactic| k_extra "CompSrc")
local macro_rules | `(tactic| walk_at "compareOp NotEq bool bool") => `(tactic| k_extra "compareOp NotEq bool bool")
local macro_rules | `(tactic| walk_at "compareOp Eq bytes bytes") => `(tactic| k_extra "compareOp Eq bytes bytes")
theorem halfs (ns : List Int) : ∃ a b c : Nat, ((ns.take 3 ++ [1, 2, 4]).take 3).map (fun k => 1 + Int.fmod k 3) = castL [a, b, c] ∧ 1 ≤ a ∧ a ≤ 3 ∧ 1 ≤ b ∧ b ≤ 3 ∧ 1 ≤ c ∧ c ≤ 3 := by
  have hl : ((ns.take 3 ++ [1, 2, 4]).take 3).length = 3 := by
    rw [List.length_take, List.length_append]
    show min 3 (_ + 3) = 3
    omega
  obtain ⟨x, y, z, e⟩ : ∃ x y z, (ns.take 3 ++ [1, 2, 4]).take 3 = [x, y, z] := by
    match h : (ns.take 3 ++ [1, 2, 4]).take 3, hl with
    | [x, y, z], _ => exact ⟨x, y, z, rfl⟩
  rw [e]
  have f : ∀ k : Int, 0 ≤ k.fmod 3 ∧ k.fmod 3 < 3 := fun k => by
    rw [Int.fmod_eq_emod_of_nonneg _ (by decide)]
    exact ⟨Int.emod_nonneg _ (by decide), Int.emod_lt_of_pos _ (by decide)⟩
  have hx := f x
  have hy := f y
  have hz := f z
  refine ⟨(1 + x.fmod 3).toNat, (1 + y.fmod 3).toNat, (1 + z.fmod 3).toNat, ?_, by omega, by omega, by omega, by omega, by omega, by omega⟩
  show [1 + x.fmod 3, 1 + y.fmod 3, 1 + z.fmod 3] = [(((1 + x.fmod 3).toNat : Nat) : Int), (((1 + y.fmod 3).toNat : Nat) : Int), (((1 + z.fmod 3).toNat : Nat) : Int)]
  rw [Int.toNat_of_nonneg (by omega), Int.toNat_of_nonneg (by omega), Int.toNat_of_nonneg (by omega)]
theorem halfs_of {ys : List Value} {ns : List Int} (h : IntsAre ys (((ns.take 3 ++ [1, 2, 4]).take 3).map fun k => 1 + Int.fmod k 3)) :
    ∃ (a b c : Nat) (t u v : Tok), ys = [.int (a : Int) t, .int (b : Int) u, .int (c : Int) v] ∧ 1 ≤ a ∧ a ≤ 3 ∧ 1 ≤ b ∧ b ≤ 3 ∧ 1 ≤ c ∧ c ≤ 3 := by
  obtain ⟨a, b, c, e, hh⟩ := halfs ns
  rw [e] at h
  cases h with
  | cons _ t h =>
    cases h with
    | cons _ u h =>
      cases h with
      | cons _ v h =>
        cases h
        exact ⟨a, b, c, t, u, v, rfl, hh⟩
theorem rows_pack {h₀ h : Heap} {L lr r1 r2 r3 r4 s1 s2 : Addr} {o1 o2 : Obj} {u1 u2 u3 u4 : List Value} {j1 j2 j3 j4 j : Nat} {tl : List (Addr × Obj)} {k1 k2 k3 k4 : List Nat}
    (N : News h₀ L h ((lr, listOf #[.ref r1, .ref r2, .ref r3, .ref r4] j) :: (r4, listOf u4.toArray j4) :: (s2, o2) :: (r2, listOf u2.toArray j2) :: (s1, o1) :: (r3, listOf u3.toArray j3) :: (r1, listOf u1.toArray j1) :: tl))
    (i1 : IntsAre u1 (castL k1)) (i2 : IntsAre u2 (castL k2)) (i3 : IntsAre u3 (castL k3)) (i4 : IntsAre u4 (castL k4))
    (b1 : k1.length ≤ 5 ∧ 1 ≤ k1.length ∧ ∀ x ∈ k1, 1 ≤ x ∧ x ≤ 4) (b2 : k2.length ≤ 5 ∧ 1 ≤ k2.length ∧ ∀ x ∈ k2, 1 ≤ x ∧ x ≤ 4) (b3 : k3.length ≤ 5 ∧ 1 ≤ k3.length ∧ ∀ x ∈ k3, 1 ≤ x ∧ x ≤ 4) (b4 : k4.length ≤ 5 ∧ 1 ≤ k4.length ∧ ∀ x ∈ k4, 1 ≤ x ∧ x ≤ 4) :
    ∃ (rs : List RowT) (nw : List (Addr × Obj)), rs.length = 4 ∧ (∀ r ∈ rs, rowIn r ∈ nw ∧ RowOk r) ∧ rs.map (fun r => r.2.2.1) = [k1, k2, k3, k4] ∧ #[Value.ref r1, .ref r2, .ref r3, .ref r4] = (rs.map fun r => Value.ref r.1).toArray ∧ News h₀ L h ((lr, listOf (rs.map fun r => Value.ref r.1).toArray j) :: nw) := by
  refine ⟨[(r1, u1, k1, j1), (r2, u2, k2, j2), (r3, u3, k3, j3), (r4, u4, k4, j4)], _, rfl, ?_, rfl, rfl, N⟩
  intro r hr
  rcases List.mem_cons.mp hr with rfl | hr
  · exact ⟨.tail _ (.tail _ (.tail _ (.tail _ (.tail _ (.head _))))), i1, b1.1, b1.2.1, b1.2.2⟩
  rcases List.mem_cons.mp hr with rfl | hr
  · exact ⟨.tail _ (.tail _ (.head _)), i2, b2.1, b2.2.1, b2.2.2⟩
  rcases List.mem_cons.mp hr with rfl | hr
  · exact ⟨.tail _ (.tail _ (.tail _ (.tail _ (.head _)))), i3, b3.1, b3.2.1, b3.2.2⟩
  rcases List.mem_cons.mp hr with rfl | hr
  · exact ⟨.head _, i4, b4.1, b4.2.1, b4.2.2⟩
  · cases hr
theorem few3 {x y z : Nat} (hx : 1 ≤ x ∧ x ≤ 4) (hy : 1 ≤ y ∧ y ≤ 4) (hz : 1 ≤ z ∧ z ≤ 4) : [x, y, z].length ≤ 5 ∧ 1 ≤ [x, y, z].length ∧ ∀ k ∈ [x, y, z], 1 ≤ k ∧ k ≤ 4 := by
  refine ⟨Nat.le_of_ble_eq_true rfl, Nat.le_of_ble_eq_true rfl, fun k hk => ?_⟩
  simp only [List.mem_cons, List.not_mem_nil, or_false] at hk
  rcases hk with rfl | rfl | rfl <;> assumption
theorem few5 {x y z : Nat} (hx : 1 ≤ x ∧ x ≤ 4) (hy : 1 ≤ y ∧ y ≤ 4) (hz : 1 ≤ z ∧ z ≤ 4) : [x, y, z, y, x].length ≤ 5 ∧ 1 ≤ [x, y, z, y, x].length ∧ ∀ k ∈ [x, y, z, y, x], 1 ≤ k ∧ k ≤ 4 := by
  refine ⟨Nat.le_of_ble_eq_true rfl, Nat.le_of_ble_eq_true rfl, fun k hk => ?_⟩
  simp only [List.mem_cons, List.not_mem_nil, or_false] at hk
  rcases hk with rfl | rfl | rfl | rfl | rfl <;> assumption
section
variable {prog : Program} {w : World} {A : Around} {E : Value → Shared → Prop} {s : Shared} {Q : Value → Shared → Prop} {t u : Tok}
theorem eqB_dec {b c : List UInt8} (h : Q (.bool (decide (b = c))) s) : wpAny (model prog w) A (compareOp .Eq (.bytes b.toArray t) (.bytes c.toArray u)) Q E s := by
  refine eq_bytes ?_
  have e : (b.toArray.toList == c.toArray.toList) = decide (b = c) := by
    by_cases he : b = c
    · rw [decide_eq_true he]; exact beq_iff_eq.mpr he
    · rw [decide_eq_false he]; exact beq_eq_false_iff_ne.mpr he
  rw [e]
  exact h
end
theorem row_case {a b c i : Nat} {rk : List Nat} (h : some rk = [[a, b, c], [a, b, c, b, a], [a + 1, b + 1, c + 1], [a + 1, b + 1, c + 1, b + 1, a + 1]][i]?) (ha : 1 ≤ a ∧ a ≤ 3) (hb : 1 ≤ b ∧ b ≤ 3) (hc : 1 ≤ c ∧ c ≤ 3) (h2 : ∀ x ∈ rk, 2 ≤ x) : rowOk rk = true := by
  match i, h with
  | 0, h =>
    obtain rfl : rk = [a, b, c] := Option.some.inj h
    have q1 := h2 a (.head _)
    have q2 := h2 b (.tail _ (.head _))
    have q3 := h2 c (.tail _ (.tail _ (.head _)))
    exact (row_ok ⟨q1, by omega⟩ ⟨q2, by omega⟩ ⟨q3, by omega⟩).1
  | 1, h =>
    obtain rfl : rk = [a, b, c, b, a] := Option.some.inj h
    have q1 := h2 a (.head _)
    have q2 := h2 b (.tail _ (.head _))
    have q3 := h2 c (.tail _ (.tail _ (.head _)))
    exact (row_ok ⟨q1, by omega⟩ ⟨q2, by omega⟩ ⟨q3, by omega⟩).2
  | 2, h =>
    obtain rfl : rk = [a + 1, b + 1, c + 1] := Option.some.inj h
    exact (row_ok ⟨by omega, by omega⟩ ⟨by omega, by omega⟩ ⟨by omega, by omega⟩).1
  | 3, h =>
    obtain rfl : rk = [a + 1, b + 1, c + 1, b + 1, a + 1] := Option.some.inj h
    exact (row_ok ⟨by omega, by omega⟩ ⟨by omega, by omega⟩ ⟨by omega, by omega⟩).2
  | n + 4, h => exact absurd h (by simp)
theorem whole : PySem.Challenge.rw_pe0018_02.Holds := by
  refine Mine.hd ?_
  k_fill
  intro w s₀ s₁ mg mb G Y fa o pm cd doc dV kV ho hd hcd hD hmg hg args vals as hpre hlay hrd hwl hlo
  have KX := kIn_of Y
  have X := (Ground.X G).1
  have V := (Ground.X G).2
  refine Ground.open G ?_
  intro T B D TE TW
  try (refine guard_noD D (by decide +kernel) ?_; clear D)
  obtain ⟨_, _, M⟩ := bmod_of_top T
  have TA := at_of_top T
  try (obtain ⟨_, _, he, B0⟩ := based_of_top T rfl hmg ho hd; have he' : cd = _ := he; subst he'; clear he)
  clear hmg
  wrow_args hpre hlay hrd hwl hlo
  refine enter_callC ?_
  w_top on
  refine codeC_mono ?_ (fun _ _ g => GoodW.toG g)
  have K0 := below_caller (Top.heap T)
  have he := Dflts.none hD rfl
  subst he
  refine call_fullC (by decide) ho hd (Top.nolimit T) hcd (BindsTo.of_eq rfl) (locs rfl) fun h₁ F => ?_
  w_binds F
  have N0 := (News.nil : News _ _ _ []).at F
  clear hd TA
  k_drop
  rename IntsAre _ _ => hI0
  rename Heap.IsList _ _ _ => hL0
  rename (¬ _) => hc0
  dsimp only
  refine wpC_execs_any ?_
  (try k_fold)
  (try dsimp only)
  k_dflt (refine LCg.Assign_ListComp_U (F₀ := by k_asm) (by rfl) (by with_unfolding_all rfl) (by rfl) (by decide) (by rfl) (by decide) (by rfl) (by rfl) (by rfl) ?_)
  (k_with "CompSrc" => refine Halt.of ?_)
  k_steps
  k_with_none
  refine Halt.on ?_
  (try dsimp only)
  rename Fr _ _ _ _ => F1
  rename News _ _ _ _ => N1
  rename IntsAre _ (List.take 3 (_ ++ _)) => hI1
  have hI1l := hI1.length
  refine LCg.CompSrc.ledger rfl F1 (News.sub_tail (b := [_]) N1 (fun r hr => List.mem_singleton.mp hr ▸ .head _)) (.head _) (by rw [List.size_toArray, hI1l, List.length_take, sizeLine_eq]; omega) ?_
  intro g
  refine kcf_list (fun k => 1 + k.fmod 3) hI1 ?tn1 ?fn1
  case tn1 =>
    intro k t I oI C oC D m₂ ys h tk E' hk hC hx F2 N2 off ne mk
    k_steps
  unfold KPfDone
  intro ys1 hy1
  clear F1 N1
  unfold LCg.FinA
  intro D1 h1 tk1 F1 N1 o1
  obtain ⟨a, b, c, t1, t2, t3, rfl, ha1, ha3, hb1, hb3, hc1, hc3⟩ := halfs_of hy1
  clear hy1 hI1 hI1l
  refine wpC_execs_any ?_
  (try dsimp only)
  k_steps
  refine wpC_execs_any ?_
  (try dsimp only)
  k_steps
  (try dsimp only)
  rename News _ _ _ _ => N2
  rename Fr _ _ _ _ => F2
  obtain ⟨rs, nw, hrs4, hrow, hrks, hrl, N3⟩ := rows_pack N2 (k1 := [a, b, c]) (k2 := [a, b, c, b, a]) (k3 := [a + 1, b + 1, c + 1]) (k4 := [a + 1, b + 1, c + 1, b + 1, a + 1]) (by with_unfolding_all exact .cons _ _ (.cons _ _ (.cons _ _ .nil))) (by with_unfolding_all exact .cons _ _ (.cons _ _ (.cons _ _ (.cons _ _ (.cons _ _ .nil))))) (by with_unfolding_all exact .cons _ _ (.cons _ _ (.cons _ _ .nil))) (by with_unfolding_all exact .cons _ _ (.cons _ _ (.cons _ _ (.cons _ _ (.cons _ _ .nil))))) (few3 (by omega) (by omega) (by omega)) (few5 (by omega) (by omega) (by omega)) (few3 (by omega) (by omega) (by omega)) (few5 (by omega) (by omega) (by omega))
  clear N2
  refine wpC_execs_any ?_
  (try dsimp only)
  (k_with "call ref" => refine Halt.of ?_)
  k_steps
  k_with_none
  refine Halt.on ?_
  (try dsimp only)
  refine' asked w _ mg mb _ rs 0 _ _ _ _ _ _ _ _ _ _ _ _ _ _ _ _ _ _ _ _ _ ?k1 ?k2 ?k3 ?k4 ?k5 ?kK (.head _) hrs4 (fun r hr => ⟨.tail _ (hrow r hr).1, (hrow r hr).2⟩) hL0 hI0 ?kL ?kd ?ku ?_
  (case k1 => k_asm)
  (case k2 => k_asm)
  (case k3 => k_asm)
  (case k4 => k_asm)
  (case k5 => k_asm)
  (case kK => first | exact rfl | assumption)
  (case kL => omega)
  (case kd => ktr_room)
  (case ku => ktr_units)
  clear F2 N3
  intro Dn un nn ks h4 tk4 F4 N4 hDn hks hk24 hk9 hk4 hkt
  (try dsimp only)
  k_steps
  refine wpC_execs_any ?_
  (try dsimp only)
  k_dflt (refine LCg.Assign_ListComp_U (F₀ := by k_asm) (by rfl) (by with_unfolding_all rfl) (by rfl) (by decide) (by rfl) (by decide) (by rfl) (by rfl) (by rfl) ?_)
  (k_with "CompSrc" => refine Halt.of ?_)
  k_steps
  k_with_none
  refine Halt.on ?_
  (try dsimp only)
  rename Fr _ _ _ _ => F5
  rename News _ _ _ _ => N5
  refine LCg.CompSrc.ledger rfl F5 N5 (.head _) (by rw [List.size_toArray, hks.length, castL_length, sizeLine_eq]; omega) ?_
  clear F5 N5
  intro g5
  rw [show un.toArray.size = ks.length by rw [List.size_toArray, hks.length, castL_length]]
  refine comp_rel (fun i y => ∃ t, y = .bytes ((ks.map apW).getD i []).toArray t) ?tn5 ?fn5
  case tn5 =>
    intro i v I oI C oC D m₂ ys2 h8 tk8 E' hil hv hC hx F8 N8 off ne
    obtain ⟨n, t, rfl, hn⟩ := IntsAre.at hks i v (by rw [List.getElem?_toArray] at hv; exact hv)
    rw [castL_get hil] at hn
    have hn' : n = ((ks[i] : Nat) : Int) := (Option.some.inj hn).symm
    subst hn'
    have hkk := apW_le (hk24 _ (List.getElem_mem hil))
    (k_with "call ref" => refine Halt.of ?_)
    k_steps
    k_with_none
    refine Halt.on ?_
    (try dsimp only)
    k_dflt (refine' said_use (int2ap w _ _ _ ((ks[i] : Nat) : Int) _ _) (by k_asm) (by k_asm) (by k_asm) (by k_asm) (by k_asm) (by first | exact rfl | assumption) (by rw [nat_of]; omega) (by ktr_room) (by ktr_units) ?_)
    rw [nat_of]
    clear F8 N8
    intro t9 h9 tk9 F9 N9
    (try dsimp only)
    k_steps
    refine LCg.CompEnd.intro F9 N9 _ (fun p hp => hp) off (.inr ⟨_, .head _, rfl, _, rfl⟩) ⟨rfl, t9, ?_⟩
    rw [List.getD_eq_getElem?_getD, List.getElem?_map, List.getElem?_eq_getElem hil]
    rfl
  intro ws5 hl5 hw5
  have hbw : BytesAre ws5 (ks.map apW) := ⟨by rw [hl5, List.length_map], hw5⟩
  clear hw5
  unfold LCg.FinA
  intro D5 h5 tk5 F5 N5 o5
  (try dsimp only)
  refine wpC_execs_any ?_
  (try dsimp only)
  k_steps
  refine wpC_execs_any ?_
  (try dsimp only)
  rename Fr _ _ _ _ => F6
  with_unfolding_all refine' For_invVF F6 ?f1 ?f2 ?_
  (case f1 => exact rfl)
  (case f2 => exact rfl)
  k_whole
  (k_with "pyIter ref" => refine Halt.of ?_)
  k_steps
  k_with_none
  refine Halt.on ?_
  (try dsimp only)
  rename News _ _ _ _ => N6
  refine vals_loop (s := ⟨_, _, _, _, _⟩) (σ := List UInt8 × Tok) (fun c => [(Str.ofString "line", .bytes c.1.toArray c.2)]) [] (fun i c => c.1 = blocks 24 (ks.take i)) ([], _) rfl (.head _) F6 N6 (by kst_all) rfl ?turn ?done
  case turn =>
    rintro ⟨c, tc⟩ i v u3 h7 tk7 own3 hv hoff3 hP3 F7 N7
    dsimp only [kstB] at F7 N7 hP3
    have hil : i < ks.length := by rw [← hl5]; exact (List.getElem?_eq_some_iff.mp hv).1
    obtain ⟨t7, rfl⟩ := hbw.2 i v hv
    rw [List.getD_eq_getElem?_getD, List.getElem?_map, List.getElem?_eq_getElem hil] at F7
    dsimp only [Option.map_some, Option.getD_some] at F7
    have hk16 := hk24 _ (List.getElem_mem hil)
    have htk : ks.take (i + 1) = ks.take i ++ [ks[i]] := by rw [List.take_add_one, List.getElem?_eq_getElem hil]; rfl
    obtain ⟨K, hK⟩ : ∃ K, ks[i] = K := ⟨_, rfl⟩
    rw [hK] at F7 hk16 htk
    have hkk := apW_le hk16
    (try k_fold)
    (k_with "binaryOp Add bytes bytes" => refine Halt.of ?_)
    k_steps
    k_with_none
    refine Halt.on ?_
    (try dsimp only)
    have hbl : (blocks 24 (ks.take i)).length ≤ 216 := by
      rw [blocks_length, List.length_take]
      omega
    have e24 : (((24 - (apW K).length : Nat) : Int)).toNat = 24 - (apW K).length := Int.toNat_natCast _
    rw [e24, hP3]
    refine addB (by rw [List.length_replicate]; omega) ?_
    intro t8 k8
    (try dsimp only)
    (k_with "binaryOp Add bytes bytes" => refine Halt.of ?_)
    k_steps
    k_with_none
    refine Halt.on ?_
    (try dsimp only)
    refine addB (by rw [List.length_append, List.length_replicate]; omega) ?_
    intro t9 k9
    (try dsimp only)
    (k_with "InvEndN" => refine Halt.of ?_)
    k_steps
    k_with_none
    refine Halt.on ?_
    refine kst_end (blocks 24 (ks.take i) ++ List.replicate (24 - (apW K).length) 65 ++ apW K, _) (by assumption) (by assumption) (fun r hr => List.mem_append.mpr (.inl hr)) (fun r hr => List.mem_append.mpr (.inr hr)) rfl trivial (by kst_all) (by kst_same) ?_
    show _ = blocks 24 (ks.take (List.replicate (i + 1) (0 : Int)).length)
    rw [List.length_replicate, htk, blocks_snoc, ← filW_dig 24 K hk16, List.append_assoc]
    rfl
  case done =>
    rintro ⟨c, tc⟩ u3 h7 tk7 hP3 F7 N7
    dsimp only [kstB] at F7 N7 hP3
    rw [hl5, List.take_length] at hP3
    subst hP3
    clear F6 N6
    (try dsimp only)
    (try k_fold)
    refine wpC_execs_cons (wpC_Assign_Name (wpC_Call ?_))
    k_steps
    refine wpC_callWith_K KX rfl ?_
    k_steps
    (try dsimp only)
    have hbl : (blocks 24 ks).length ≤ 216 := by
      rw [blocks_length]
      omega
    k_dflt (refine' saidC_use (byteswap_C w _ _ _ (blocks 24 ks) 24 ks.length _ _ _) (by k_asm) (by k_asm) (by k_asm) (by k_asm) (by k_asm) (by first | exact rfl | assumption) ⟨by omega, by omega, blocks_length 24 ks, by omega⟩ (by ktr_room) (by ktr_units) ?_)
    rw [blocks_swap]
    intro t10 h10 tk10 F10 N10
    (try dsimp only)
    k_steps
    clear F7 N7
    refine wpC_execs_any ?_
    k_steps
    (try dsimp only)
    refine wpC_execs_cons ?_
    rename Fr _ _ _ _ => F11
    with_unfolding_all refine' For_C F11 ?g1 ?g2 ?_
    (case g1 => exact rfl)
    (case g2 => exact rfl)
    k_whole
    (k_with "call builtin:len" => refine Halt.of ?_)
    k_steps
    k_with_none
    refine Halt.on ?_
    (try dsimp only)
    rename News _ _ _ _ => N11
    refine lenL (s := ⟨_, _, _, _, _⟩) N11 (.tail _ (.head _)) (by rw [hks.length, castL_length]; omega) ?_
    intro t12 k12
    rw [hks.length, castL_length]
    (try dsimp only)
    (k_with "pyIter ref" => refine Halt.of ?_)
    k_steps
    k_with_none
    refine Halt.on ?_
    (try dsimp only)
    clear F11
    rename Fr _ _ _ _ => F12
    rename News _ _ _ _ => N12
    rename IsRange _ _ _ _ _ _ _ _ => hR12
    refine kst_stepC (s := ⟨_, _, _, _, _⟩) (σ := Unit) (n := ks.length) (Function.const _ _) (fun _ => []) (fun _ => True) [Str.ofString "fifteen", Str.ofString "alike", Str.ofString "straight", Str.ofString "opposite", Str.ofString "j", Str.ofString "more", Str.ofString "piece"] (fun _ _ => True) () rfl hR12 (range1_small (by omega)) range1_size F12 N12 trivial (fun p hp => nomatch hp) trivial ?turn3 ?done3
    case done3 =>
      rintro ⟨⟩ u5 h6 tk6 _ _ F13 N13
      dsimp only [kstB, Function.const] at F13 N13
      (try dsimp only)
      refine wpC_of_any ?_
      (try k_fold)
      k_steps
    case turn3 =>
      rintro ⟨⟩ pre q tq u5 h13 tk13 own3 hq hlen3 hoff3 _ _ F13 N13
      dsimp only [kstB, Function.const] at F13 N13
      rw [Int.zero_add, Int.mul_one] at hq
      obtain ⟨i, hi⟩ : ∃ i, pre.length = i := ⟨_, rfl⟩
      rw [hi] at hq hlen3
      subst hq
      clear F12 N12
      (try k_fold)
      refine wpC_execs_any ?_
      (try dsimp only)
      (k_with "subscriptTail Name Name ref int" => refine Halt.of ?_)
      k_steps
      k_with_none
      refine Halt.on ?_
      (try dsimp only)
      rename News _ _ _ _ => N14
      refine itemN (s := ⟨_, _, _, _, _⟩) N14 (.tail _ (.head _)) hks hlen3 (by omega) ?_
      intro t14
      (try dsimp only)
      have hk16 := hk24 _ (List.getElem_mem hlen3)
      have hbi : ks[i] = ks.getD i 0 := by rw [List.getD_eq_getElem?_getD, List.getElem?_eq_getElem hlen3]; rfl
      (k_with "binaryOp Mult int int" => refine Halt.of ?_)
      k_steps
      k_with_none
      refine Halt.on ?_
      (try dsimp only)
      refine mul_int ?_ (IntMulOk.of_left (by decide))
      (k_with "call ref" => refine Halt.of ?_)
      k_steps
      k_with_none
      refine Halt.on ?_
      (try dsimp only)
      have e15 : ((-15 : Int) * ((ks[i] : Nat) : Int)).natAbs = 15 * ks[i] := by omega
      have hap := apW_le (n := 15 * ks[i]) (k := 25) (by omega)
      k_dflt (refine' said_use (int2ap w _ _ _ ((-15 : Int) * ((ks[i] : Nat) : Int)) _ _) (by k_asm) (by k_asm) (by k_asm) (by k_asm) (by k_asm) (by first | exact rfl | assumption) (by rw [e15]; omega) (by ktr_room) (by ktr_units) ?_)
      rw [e15]
      clear F13
      intro t15 h15 tk15 F15 N15
      (try dsimp only)
      k_steps
      refine wpC_execs_any ?_
      (try dsimp only)
      (k_with "subscriptTail Name Slice bytes ref" => refine Halt.of ?_)
      k_steps
      k_with_none
      refine Halt.on ?_
      (try dsimp only)
      obtain ⟨K, hK⟩ : ∃ K, ks[i] = K := ⟨_, rfl⟩
      have hrowK : ∀ hi4 : i < 4, K = numR ((rs[i]'(by omega)).2.2.1) := by
        intro hi4
        have h1 : (ks.take 4)[i]? = some K := by rw [List.getElem?_take_of_lt hi4, List.getElem?_eq_getElem hlen3, hK]
        rw [hkt, List.getElem?_map, List.getElem?_eq_getElem (by omega)] at h1
        exact (Option.some.inj h1).symm
      rename Fr _ _ _ _ => F16
      rename News _ _ _ _ => N16
      rw [hK] at F16 hk16 hap
      have hap24 := apW_le hk16
      refine sliceB (s := ⟨_, _, _, _, _⟩) (b := blocks 24 (ks.map fun n => otherI n 24)) F16 N16 (Int.natCast_nonneg _) (Int.natCast_nonneg _) (by rw [blocks_length, List.length_map, ← blocks_length]; omega) ?_
      clear F16 N16 N14 hbi e15
      rw [Int.toNat_natCast, Int.toNat_natCast, show 24 * i = i * 24 by omega, show i * 24 + 24 = (i + 1) * 24 by omega, blocks_cut 24 _ i (by rw [List.length_map]; exact hlen3), List.getElem_map, hK, ← digW_reverse, ← filW_dig 24 K hk16, filW, List.reverse_append, List.reverse_replicate]
      intro h16 t16 tk16 F16 N16
      (try dsimp only)
      (k_with "subscriptTail Name Name ref int" => refine Halt.of ?_)
      k_steps
      k_with_none
      refine Halt.on ?_
      (try dsimp only)
      rename News _ _ _ _ => N17
      refine bytesN (s := ⟨_, _, _, _, _⟩) N17 (.head _) hbw (by rw [List.length_map]; exact hlen3) (by rw [List.length_map]; omega) ?_
      intro t17
      rw [List.getElem_map, hK]
      (try dsimp only)
      (k_with "binaryOp Add bytes bytes" => refine Halt.of ?_)
      k_steps
      k_with_none
      refine Halt.on ?_
      (try dsimp only)
      rw [Int.toNat_natCast]
      refine addB (by rw [List.length_replicate]; omega) ?_
      intro t18 k18
      (try dsimp only)
      (k_with "compareOp Eq bytes bytes" => refine Halt.of ?_)
      k_steps
      k_with_none
      refine Halt.on ?_
      (try dsimp only)
      refine eqB_dec ?_
      rw [alike_dec hk16]
      k_steps
      refine wpC_execs_any ?_
      (try dsimp only)
      (k_with "subscriptTail Name Name ref int" => refine Halt.of ?_)
      k_steps
      k_with_none
      refine Halt.on ?_
      (try dsimp only)
      rename News _ _ _ _ => N19
      refine itemN (s := ⟨_, _, _, _, _⟩) N19 (.tail _ (.head _)) hks hlen3 (by omega) ?_
      intro t19
      rw [hK]
      (try dsimp only)
      (k_with "call ref" => refine Halt.of ?_)
      k_steps
      k_with_none
      refine Halt.on ?_
      (try dsimp only)
      k_dflt (refine' said_use (such w _ _ _ K _ _) (by k_asm) (by k_asm) (by k_asm) (by k_asm) (by k_asm) (by first | exact rfl | assumption) trivial (by ktr_room) (by ktr_units) ?_)
      (try clear N19)
      intro t20 h20 tk20 F20 N20
      (try dsimp only)
      (k_with "compareOp NotEq bool bool" => refine Halt.of ?_)
      k_steps
      k_with_none
      refine Halt.on ?_
      (try dsimp only)
      refine ne_bool ?_
      rw [bne_self_eq_false]
      k_steps
      refine wpC_execs_cons (wpC_If ?_)
      (try dsimp only)
      (k_with "subscriptTail Name Name ref int" => refine Halt.of ?_)
      k_steps
      k_with_none
      all_goals (try refine Halt.on ?_)
      rotate_left
      · (try dsimp only)
        refine wpC_of_any ?_
        (try k_fold)
        k_steps
        refine wpC_of_any ?_
        (try dsimp only)
        (k_with "InvEndN" => refine Halt.of ?_)
        k_steps
        k_with_none
        refine Halt.on ?_
        refine kst_end () (by assumption) (by assumption) (fun r hr => List.mem_append.mpr (.inl hr)) (fun r hr => List.mem_append.mpr (.inr hr)) rfl trivial (fun p hp => nomatch hp) (by kst_same) trivial
      (try dsimp only)
      rename ((i : Int) < 4) => hi4'
      have hi4 : i < 4 := by omega
      have hKr := hrowK hi4
      have hri : rs[i]? = some (rs[i]'(by omega)) := List.getElem?_eq_getElem (by omega)
      obtain ⟨hrn, hro⟩ := hrow (rs[i]'(by omega)) (List.getElem_mem _)
      have hrk := congrArg (fun l => l[i]?) hrks
      rw [List.getElem?_map, hri] at hrk
      obtain ⟨R, hRe⟩ : ∃ R, rs[i]'(by omega) = R := ⟨_, rfl⟩
      rw [hRe] at hKr hri hrn hro hrk
      obtain ⟨ra, ru, rk, rj⟩ := R
      dsimp only [Option.map_some] at hKr hrn hro hrk
      have hrI := hro.hI
      have hrL := hro.hLen
      have hrP := hro.hPos
      have hrR := hro.hRun
      dsimp only at hrI hrL hrP hrR
      clear hrowK hro hRe
      rename News _ _ _ _ => N21
      refine refN (s := ⟨_, _, _, _, _⟩) (v := .ref ra) N21 (.tail _ (.tail _ (.head _))) (by rw [List.getElem?_map, hri]; rfl) (by rw [List.length_map]; omega) ?_
      (k_with "call builtin:min" => refine Halt.of ?_)
      k_steps
      k_with_none
      refine Halt.on ?_
      (try dsimp only)
      refine kso_min (s := ⟨_, _, _, _, _⟩) (ns := castL rk) F20 N21 (News.isList N21 (List.mem_append_left own3 (.tail _ (.tail _ (.tail _ hrn))))) hrI (by rw [castL_length]; omega) rfl ?_
      clear F20
      intro h21 Mn t21 tk21 F21 N22 hM hmin
      (try dsimp only)
      k_steps
      rotate_left
      · refine wpC_of_any ?_
        (try k_fold)
        k_steps
        refine wpC_of_any ?_
        (try dsimp only)
        (k_with "InvEndN" => refine Halt.of ?_)
        k_steps
        k_with_none
        refine Halt.on ?_
        refine kst_end () (by assumption) (by assumption) (fun r hr => List.mem_append.mpr (.inl hr)) (fun r hr => List.mem_append.mpr (.inr hr)) rfl trivial (fun p hp => nomatch hp) (by kst_same) trivial
      (try dsimp only)
      rename ((1 : Int) < Mn) => hM1
      have h2 : ∀ x ∈ rk, 2 ≤ x := by
        intro x hx
        have h3 := hmin (Int.ofNat x) (List.mem_map.mpr ⟨x, hx, rfl⟩)
        have h4 : (Int.ofNat x) = (x : Int) := rfl
        omega
      have hok := row_case hrk ⟨ha1, ha3⟩ ⟨hb1, hb3⟩ ⟨hc1, hc3⟩ h2
      obtain ⟨hst, hop⟩ := row_words hok
      rw [← hKr] at hst hop
      clear hM hmin hM1 hok
      refine wpC_execs_any ?_
      (try k_fold)
      (try dsimp only)
      k_steps
      refine wpC_execs_any ?_
      (try dsimp only)
      k_steps
      (try dsimp only)
      refine wpC_execs_cons ?_
      (try clear F21)
      rename Fr _ _ _ _ => F22
      with_unfolding_all refine' For_C F22 ?j1 ?j2 ?_
      (case j1 => exact rfl)
      (case j2 => exact rfl)
      k_whole
      (k_with "subscriptTail Name Name ref int" => refine Halt.of ?_)
      k_steps
      k_with_none
      refine Halt.on ?_
      (try dsimp only)
      rename News _ _ _ _ => N23
      refine refN (s := ⟨_, _, _, _, _⟩) (v := .ref ra) N23 (.tail _ (.tail _ (.head _))) (by rw [List.getElem?_map, hri]; rfl) (by rw [List.length_map]; omega) ?_
      (k_with "call builtin:len" => refine Halt.of ?_)
      k_steps
      k_with_none
      refine Halt.on ?_
      (try dsimp only)
      refine lenL (s := ⟨_, _, _, _, _⟩) N23 (List.mem_append_left own3 (.tail _ (.tail _ (.tail _ hrn)))) (by rw [hrI.length, castL_length]; omega) ?_
      intro t24 k24
      rw [hrI.length, castL_length]
      (try dsimp only)
      clear hR12
      (k_with "pyIter ref" => refine Halt.of ?_)
      k_steps
      k_with_none
      refine Halt.on ?_
      (try dsimp only)
      (try clear F22 N23)
      rename Fr _ _ _ _ => F24
      rename News _ _ _ _ => N24
      rename IsRange _ _ _ _ _ _ _ _ => hR24
      refine kst_stepC (s := ⟨_, _, _, _, _⟩) (σ := (List UInt8 × Tok) × (List UInt8 × Tok)) (n := rk.length) (Function.const _ _) (fun c => [(Str.ofString "straight", .bytes c.1.1.toArray c.1.2), (Str.ofString "opposite", .bytes c.2.1.toArray c.2.2)]) (fun _ => True) [Str.ofString "more", Str.ofString "piece"] (fun pre c => c.1.1 = straightI rk pre.length ∧ c.2.1 = oppositeI rk pre.length) (([], _), ([], _)) rfl hR24 (range1_small (by omega)) range1_size F24 N24 trivial (by kst_all) ⟨rfl, rfl⟩ ?turn4 ?done4
      case turn4 =>
        rintro ⟨⟨c1, tc1⟩, ⟨c2, tc2⟩⟩ pre2 q2 tq2 u6 h25 tk25 own4 hq2 hlen4 hoff4 _ ⟨hP1, hP2⟩ F25 N25
        dsimp only [kstB, Function.const] at F25 N25 hP1 hP2
        rw [Int.zero_add, Int.mul_one] at hq2
        obtain ⟨j, hj⟩ : ∃ j, pre2.length = j := ⟨_, rfl⟩
        rw [hj] at hq2 hlen4 hP1 hP2
        subst hq2
        have hr2 := h2 rk[j] (List.getElem_mem hlen4)
        have hr4 := (hrR rk[j] (List.getElem_mem hlen4)).2
        have hgd : rk.getD j 0 = rk[j] := by rw [List.getD_eq_getElem?_getD, List.getElem?_eq_getElem hlen4]; rfl
        (try clear F24 N24 hR24)
        (try k_fold)
        refine wpC_execs_any ?_
        (try dsimp only)
        (k_with "subscriptTail Name Name ref int" => refine Halt.of ?_)
        k_steps
        k_with_none
        refine Halt.on ?_
        (try dsimp only)
        rename News _ _ _ _ => N26
        refine refN (s := ⟨_, _, _, _, _⟩) (v := .ref ra) N26 (.tail _ (.tail _ (.head _))) (by rw [List.getElem?_map, hri]; rfl) (by rw [List.length_map]; omega) ?_
        (k_with "subscriptTail Name Name ref int" => refine Halt.of ?_)
        k_steps
        k_with_none
        refine Halt.on ?_
        (try dsimp only)
        refine itemN (s := ⟨_, _, _, _, _⟩) N26 (List.mem_append_left own4 (List.mem_append_left own3 (.tail _ (.tail _ (.tail _ hrn))))) hrI hlen4 (by omega) ?_
        intro t26
        (try dsimp only)
        obtain ⟨r, hr⟩ : ∃ r, rk[j] = r := ⟨_, rfl⟩
        rw [hr] at hr2 hr4 hgd ⊢
        have hpl := pieceI_length (j := j) hr4
        have hsl := straightI_length (fun x hx => (hrR x hx).2) j
        have hol := oppositeI_length (fun x hx => (hrR x hx).2) j
        k_steps
        refine wpC_execs_any ?_
        (try dsimp only)
        (k_with "binaryOp Add bytes bytes" => refine Halt.of ?_)
        k_steps
        k_with_none
        all_goals (try refine Halt.on ?_)
        all_goals (try dsimp only)
        rotate_left
        · refine addB (by rw [flat_one, List.length_replicate]; show 2 + _ ≤ _; omega) ?_
          intro t28 k28
          (try dsimp only)
          (k_with "binaryOp Add bytes bytes" => refine Halt.of ?_)
          k_steps
          k_with_none
          refine Halt.on ?_
          (try dsimp only)
          refine addB (by rw [flat_one, List.length_append, List.length_replicate]; show 2 + _ + 2 ≤ _; omega) ?_
          intro t29 k29
          (try dsimp only)
          rename (((j % 2 : Nat) : Int) = 0) => hm
          rw [Int.toNat_natCast, piece_even (j := j) (r := r) (Int.ofNat.inj (show Int.ofNat (j % 2) = Int.ofNat 0 from hm))]
          k_steps
          obtain ⟨pc, hpc⟩ : ∃ pc, pieceI j r = pc := ⟨_, rfl⟩
          rename Fr _ _ _ _ => F29
          rw [hpc] at F29 hpl
          refine wpC_execs_any ?_
          (try dsimp only)
          (k_with "binaryOp Add bytes bytes" => refine Halt.of ?_)
          k_steps
          k_with_none
          refine Halt.on ?_
          (try dsimp only)
          refine addB (by rw [hP1]; omega) ?_
          intro t30 k30
          (try dsimp only)
          k_steps
          refine wpC_execs_cons (wpC_Assign_Name (wpC_BinOp ?_))
          (try dsimp only)
          k_steps
          refine wpC_Call ?_
          k_steps
          refine wpC_callWith_K KX rfl ?_
          k_steps
          k_dflt (refine' saidC_use (byteswap_C w _ _ _ pc (max 1 pc.length) (oneN pc) _ _ _) (by k_asm) (by k_asm) (by k_asm) (by k_asm) (by k_asm) (by first | exact rfl | assumption) ⟨by omega, by omega, one_len pc, by omega⟩ (by ktr_room) (by ktr_units) ?_)
          rw [one_swap]
          (try clear F29)
          intro t31 h31 tk31 F31 N31
          (try dsimp only)
          (k_with "binaryOp Add bytes bytes" => refine Halt.of ?_)
          k_steps
          k_with_none
          refine Halt.on ?_
          (try dsimp only)
          refine addB (by rw [hP2, List.length_reverse]; omega) ?_
          intro t32 k32
          (try dsimp only)
          k_steps
          refine wpC_of_any ?_
          (try dsimp only)
          (k_with "InvEndN" => refine Halt.of ?_)
          k_steps
          k_with_none
          refine Halt.on ?_
          refine kst_end ((c1 ++ pc, _), (c2 ++ pc.reverse, _)) (by assumption) (by assumption) (fun r hr => List.mem_append.mpr (.inl hr)) (fun r hr => List.mem_append.mpr (.inr hr)) rfl trivial (by kst_all) (by kst_same) ?_
          show c1 ++ pc = straightI rk (pre2 ++ [(j : Int)]).length ∧ c2 ++ pc.reverse = oppositeI rk (pre2 ++ [(j : Int)]).length
          rw [List.length_append, List.length_singleton, hj, straightI, oppositeI, hgd, hpc, hP1, hP2]
          exact ⟨rfl, rfl⟩
        · (try dsimp only)
          rename Fr _ _ _ _ => F29
          rename (((j % 2 : Nat) : Int) ≠ 0) => hm
          rw [Int.toNat_natCast, piece_odd (j := j) (r := r) (fun e => hm (congrArg Int.ofNat e))] at F29
          obtain ⟨pc, hpc⟩ : ∃ pc, pieceI j r = pc := ⟨_, rfl⟩
          rename Fr _ _ _ _ => F29
          rw [hpc] at F29 hpl
          refine wpC_execs_any ?_
          (try dsimp only)
          (k_with "binaryOp Add bytes bytes" => refine Halt.of ?_)
          k_steps
          k_with_none
          refine Halt.on ?_
          (try dsimp only)
          refine addB (by rw [hP1]; omega) ?_
          intro t30 k30
          (try dsimp only)
          k_steps
          refine wpC_execs_cons (wpC_Assign_Name (wpC_BinOp ?_))
          (try dsimp only)
          k_steps
          refine wpC_Call ?_
          k_steps
          refine wpC_callWith_K KX rfl ?_
          k_steps
          k_dflt (refine' saidC_use (byteswap_C w _ _ _ pc (max 1 pc.length) (oneN pc) _ _ _) (by k_asm) (by k_asm) (by k_asm) (by k_asm) (by k_asm) (by first | exact rfl | assumption) ⟨by omega, by omega, one_len pc, by omega⟩ (by ktr_room) (by ktr_units) ?_)
          rw [one_swap]
          (try clear F29)
          intro t31 h31 tk31 F31 N31
          (try dsimp only)
          (k_with "binaryOp Add bytes bytes" => refine Halt.of ?_)
          k_steps
          k_with_none
          refine Halt.on ?_
          (try dsimp only)
          refine addB (by rw [hP2, List.length_reverse]; omega) ?_
          intro t32 k32
          (try dsimp only)
          k_steps
          refine wpC_of_any ?_
          (try dsimp only)
          (k_with "InvEndN" => refine Halt.of ?_)
          k_steps
          k_with_none
          refine Halt.on ?_
          refine kst_end ((c1 ++ pc, _), (c2 ++ pc.reverse, _)) (by assumption) (by assumption) (fun r hr => List.mem_append.mpr (.inl hr)) (fun r hr => List.mem_append.mpr (.inr hr)) rfl trivial (by kst_all) (by kst_same) ?_
          show c1 ++ pc = straightI rk (pre2 ++ [(j : Int)]).length ∧ c2 ++ pc.reverse = oppositeI rk (pre2 ++ [(j : Int)]).length
          rw [List.length_append, List.length_singleton, hj, straightI, oppositeI, hgd, hpc, hP1, hP2]
          exact ⟨rfl, rfl⟩
      case done4 =>
        rintro ⟨⟨c1, tc1⟩, ⟨c2, tc2⟩⟩ u6 h25 tk25 _ ⟨hP1, hP2⟩ F25 N25
        dsimp only [kstB, Function.const] at F25 N25 hP1 hP2
        rw [rangeInts_length] at hP1 hP2
        (try clear F24 N24 hR24)
        (try dsimp only)
        refine wpC_of_any ?_
        (try k_fold)
        (k_with "subscriptTail Name Name ref int" => refine Halt.of ?_)
        k_steps
        k_with_none
        refine Halt.on ?_
        (try dsimp only)
        rename News _ _ _ _ => N26
        refine bytesN (s := ⟨_, _, _, _, _⟩) N26 (.head _) hbw (by rw [List.length_map]; exact hlen3) (by rw [List.length_map]; omega) ?_
        intro t26
        rw [List.getElem_map, hK]
        (try dsimp only)
        (k_with "compareOp NotEq bytes bytes" => refine Halt.of ?_)
        k_steps
        k_with_none
        refine Halt.on ?_
        (try dsimp only)
        refine neB_no (hst.trans hP1.symm) ?_
        (k_with "compareOp NotEq bytes bytes" => refine Halt.of ?_)
        k_steps
        k_with_none
        refine Halt.on ?_
        (try dsimp only)
        refine neB_no (hop.trans hP2.symm) ?_
        k_steps
        refine wpC_of_any ?_
        (try dsimp only)
        (k_with "InvEndN" => refine Halt.of ?_)
        k_steps
        k_with_none
        refine Halt.on ?_
        refine kst_end () (by assumption) (by assumption) (fun r hr => List.mem_append.mpr (.inl hr)) (fun r hr => List.mem_append.mpr (.inr hr)) rfl trivial (fun p hp => nomatch hp) (by kst_same) trivial
end Mine
theorem PySem.Challenge.cw_pe0018_02_holds : PySem.Challenge.rw_pe0018_02.Holds := by
  exact Mine.whole
