import PyProof.Rows.All
import Wide.All
import OpenK.AllK
import Wide.FinOn
import Lean
import PySem.Challenge.RW_pe0018_01
open PySem PySem.W PySem.Calls PyProof.Rows
set_option Elab.async false
set_option maxRecDepth 100000
set_option maxHeartbeats 8000000
namespace Mine
/-- a code that holds a bytearray's memory while it runs, beyond the guards -/
def decoder : Code → Bool
  | .builtin id _ => Builtin.Bytes.decodersThatHold.contains id
  | _ => false
/-- no code of the stack is a decoder -/
def Tidy (Γ : Ctx) : Prop := decoder Γ.code = false ∧ ∀ q ∈ Γ.below, decoder q.1 = false
def wpC {α : Type} (M : Model) (A : Around) (t : Sem α) (Q : α → Shared → Prop) (E : Value → Shared → Prop) (s : Shared) : Prop :=
  ∀ Γ p, Γ.In A → Tidy Γ → Sem.wp M Γ t (fun a _ s' => Q a s') (fun e _ s' => E e s') p s
def codeC (M : Model) (A : Around) (c : Code) (R : Result → Shared → Prop) (s : Shared) : Prop :=
  ∀ Γ p, Γ.code = c → Γ.Below A → (∀ q ∈ Γ.below, decoder q.1 = false) → wpCode M Γ R p s
section
variable {α β : Type} {M : Model} {A : Around} {E : Value → Shared → Prop} {s : Shared}
theorem wpC_of_any {t : Sem α} {Q : α → Shared → Prop} (h : wpAny M A t Q E s) : wpC M A t Q E s := fun Γ p hΓ _ => h Γ p hΓ
theorem codeC_of_any {c : Code} {R : Result → Shared → Prop} (h : codeAny M A c R s) : codeC M A c R s := fun Γ p hc hΓ _ => h Γ p hc hΓ
theorem wpC_mono {t : Sem α} {Q Q' : α → Shared → Prop} {E' : Value → Shared → Prop} (h : wpC M A t Q E s)
    (hQ : ∀ a s, Q a s → Q' a s) (hE : ∀ e s, E e s → E' e s) : wpC M A t Q' E' s :=
  fun Γ p hΓ hT => Sem.wp_mono M Γ t (fun a _ s => hQ a s) (fun e _ s => hE e s) p s (h Γ p hΓ hT)
theorem wpC_bind {m : Sem α} {f : α → Sem β} {Q : β → Shared → Prop} (h : wpC M A m (fun a s' => wpC M A (f a) Q E s') E s) :
    wpC M A (m >>= f) Q E s := fun Γ p hΓ hT => by
  rw [Sem.wp_bind']
  exact Sem.wp_mono M Γ m (fun a p' s' h' => h' Γ p' hΓ hT) (fun _ _ _ h' => h') p s (h Γ p hΓ hT)
theorem wpC_bindA {m : Sem α} {f : α → Sem β} {Q : β → Shared → Prop} (h : wpAny M A m (fun a s' => wpC M A (f a) Q E s') E s) :
    wpC M A (m >>= f) Q E s := wpC_bind (wpC_of_any h)
theorem wpC_holding {vs : List Value} {m : Sem α} {Q : α → Shared → Prop} (h : wpC M A m Q E s) : wpC M A (holding vs m) Q E s :=
  fun Γ p hΓ hT => by rw [Sem.wp_holding]; exact h Γ p hΓ hT
theorem wpC_onRaise {m : Sem α} {k : Value → Sem Unit} {Q : α → Shared → Prop}
    (h : wpC M A m Q (fun e s' => wpAny M A (k e) (fun _ s'' => E e s'') E s') s) : wpC M A (m.onRaise k) Q E s := fun Γ p hΓ hT => by
  rw [Sem.wp_onRaise]
  exact Sem.wp_mono M Γ m (fun _ _ _ h' => h') (fun e p' s' h' => h' Γ p' hΓ) p s (h Γ p hΓ hT)
theorem wpC_runValue {c : Code} {Q : Value → Shared → Prop}
    (hc : codeC M A c (fun r s' => match r with | .ok (.ret v) => Q v s' | .ok _ => False | .error e => E e s') s) :
    wpC M A (runValue c) Q E s := fun Γ p hΓ hT => by
  rw [Sem.wp_runValue]
  refine hc _ p rfl (hΓ.enter c none p (by intro x; cases x)) ?_
  intro q hq
  rcases List.mem_cons.mp hq with rfl | hq
  · exact hT.1
  · exact hT.2 q hq
theorem wpC_run {c : Code} {Q : Flow → Shared → Prop}
    (hc : codeC M (A.mark none) c (fun r s' => match r with | .ok f => Q f s' | .error e => E e s') s) :
    wpC M A (run c none) Q E s := fun Γ p hΓ hT => by
  rw [Sem.wp_run]
  refine hc _ p rfl (hΓ.enter c none p (by intro x; cases x)) ?_
  intro q hq
  rcases List.mem_cons.mp hq with rfl | hq
  · exact hT.1
  · exact hT.2 q hq
theorem wpC_call {f : Value} {pos : List Value} {kw : List (Str × Value)} {Q : Value → Shared → Prop}
    (hc : codeC M A (.call f ⟨pos, kw⟩) (fun r s' => match r with | .ok (.ret v) => Q v s' | .ok _ => False | .error e => E e s') s) :
    wpC M A (call f pos kw) Q E s := wpC_runValue hc
theorem codeC_mono {c : Code} {R R' : Result → Shared → Prop} (h : codeC M A c R s) (hR : ∀ r s, R r s → R' r s) : codeC M A c R' s :=
  fun Γ p hc hΓ hT => wpCode_mono hR (h Γ p hc hΓ hT)
theorem codeC_of_tree {c : Code} {R : Result → Shared → Prop} (hd : decoder c = false)
    (h : wpC M (A.under c) (M.den c) (fun fin s' => match fin with | .done f => R (.ok f) s' | .again c' => c'.quiet = true ∧ codeC M A c' R s')
      (fun e s' => R (.error e) s') s) : codeC M A c R s := fun Γ p hc hΓ hT => by
  rw [wpCode_iff_wp, hc]
  refine Sem.wp_mono M Γ _ (fun fin p' s' h' => ?_) (fun _ _ _ h' => h') p s (h Γ p (hc ▸ hΓ.in) ⟨by rw [hc]; exact hd, hT⟩)
  cases fin with
  | done f => exact h'
  | again c' => exact ⟨h'.1, h'.2 (Γ.goto c') p' rfl (hΓ.goto c') hT⟩
theorem codeC_of_in1 {c : Code} {R : Result → Shared → Prop} (h : codeC M A.in1 c R s) : codeC M A c R s :=
  fun Γ p hc hΓ hT => h Γ p hc ⟨hΓ.1, hΓ.2.1, hΓ.2.2.1, hΓ.2.2.2.1, Nat.le_succ_of_le hΓ.2.2.2.2⟩ hT
end
section
variable {prog : Program} {w : World} {A A₀ : Around} {s : Shared} {R : Result → Shared → Prop}
theorem codeC_func {body : List Stmt} {env : Env}
    (h : wpC (model prog w) (A.deeper env) (execs body env) (fun f s' => R (.ok (.ret (match f with | .ret v => v | _ => .none))) s')
      (fun e s' => wpAny (model prog w) (A.deeper env) (leaving env e) (fun _ s'' => R (.error e) s'') (fun e' s'' => R (.error e') s'') s') s) :
    codeC (model prog w) A (.func body env) R s := by
  refine codeC_of_tree rfl ?_
  show wpC _ (A.deeper env) (do point; match ← (execs body env).onRaise (leaving env) with | .ret v => ret v | _ => ret .none) _ _ s
  refine wpC_bindA (wpAny_point (wpC_bind (wpC_onRaise (wpC_mono h (fun f s' h' => ?_) fun _ _ h' => h'))))
  cases f <;> exact wpC_of_any (wpAny_pure h')
theorem codeC_call_function {a : Addr} {args : Args} {o : Obj} {fd : FuncData} {body : List Stmt} (hroom : A.depth < recursionLimit)
    (ho : s.heap.get? a = some o)
    (hd' : o.data = .func fd) (hco : fd.scope.isCoroutine = false) (hgen : fd.scope.isGenerator = false) (hbody : fd.body = .stmts body) (hcd : s.heap.CodeRec fd.code fd.qualname)
    (h : wpAny (model prog w) A.in1 (bindArgs fd args) (fun binds s₁ =>
      wpAny (model prog w) A.in1 (newFunctionEnv fd.scope fd.globals fd.closure binds (fd.qualname ++ ".<locals>.") (some a) fd.code none fd.builtins)
        (fun env s₂ => s₂.heap.NoLimit ∧ codeC (model prog w) A (.func body env) R s₂) (fun e s' => R (.error e) s') s₁) (fun e s' => R (.error e) s') s) :
    codeC (model prog w) A (.call (.ref a) args) R s := by
  refine codeC_of_tree rfl (wpC_of_any ?_)
  show wpAny _ A.in1 (callAny (.ref a) args) _ _ s
  simp only [callAny]
  refine wpAny_bind (wpAny_load ho ?_)
  obtain ⟨c, oc, vs, tq, hc, hoc, hdc, hq⟩ := hcd
  simp only [hd', callFunction, hco, hgen, hbody, hc]
  rw [hc] at h
  refine wpAny_bind (m := field (.ref c) 1) (wpAny_field hoc hdc hq (wpAny_bind (wpAny_pure ?_)))
  exact wpAny_bind (wpAny_mono h (fun binds s₁ h₁ => wpAny_bind (wpAny_mono h₁ (fun env s₂ h₂ => wpAny_bind (wpAny_enterFrame h₂.1 hroom
    (wpAny_pure (And.intro rfl h₂.2)))) fun _ _ h' => h')) fun _ _ h' => h')
theorem codeC_call_def {a : Addr} {o : Obj} {fd : FuncData} {body : List Stmt} {args : Args} {binds : List (Str × Value)}
    (hroom : A.depth < recursionLimit) (ho : s.heap.get? a = some o) (hdata : o.data = .func fd) (hlim : s.heap.NoLimit) (hcd : s.heap.CodeRec fd.code fd.qualname)
    (hbody : fd.body = .stmts body) (hbind : BindsTo s fd args binds)
    (hcell : ∀ x ∈ fd.scope.names, x.2 ≠ .cell) (hloc : ∀ x ∈ binds, fd.scope.names.lookup x.1 = some .local)
    (h : ∀ h₀, h₀.Ns s.heap.objs.size (fun x => binds.reverse.lookup x) → (∀ b o, s.heap.get? b = some o → h₀.get? b = some o) →
      wpC (model prog w) (A.deeper (callEnv fd s.heap.objs.size a)) (execs body (callEnv fd s.heap.objs.size a)) (fun f s' => R (.ok (.ret (match f with | .ret v => v | _ => .none))) s')
        (fun e s' => wpAny (model prog w) (A.deeper (callEnv fd s.heap.objs.size a)) (leaving (callEnv fd s.heap.objs.size a) e) (fun _ s'' => R (.error e) s'') (fun e' s'' => R (.error e') s'') s')
        { s with heap := h₀, toks := s.toks + binds.length })
    (hco : fd.scope.isCoroutine = false := by rfl) (hgen : fd.scope.isGenerator = false := by rfl) (hk : fd.scope.kind = .function := by rfl) :
    codeC (model prog w) A (.call (.ref a) args) R s := by
  refine codeC_call_function hroom ho hdata hco hgen hbody hcd (hbind _ _ _ _ ?_)
  refine wpAny_newFunctionEnv hcell hloc (fun h₀ hns₀ hsb₀ => ⟨hlim.fresh _ hsb₀, codeC_func (h h₀ hns₀ fun b o e => ?_)⟩) hk
  exact hsb₀.extBut b o (Nat.ne_of_lt (Heap.lt_size e)) (Heap.get?_push_of_some _ e)
end
section
variable {prog : Program} {w : World} {A A₀ : Around} {E : Value → Shared → Prop} {s : Shared} {K : Frag} {C L : Addr} {h₀ base : Heap} {m mg mb : Str → Option Value} {news : List (Addr × Obj)} {p : Program} {loose : List Str} {mean : ExcName → Option Value} {Q : Value → Shared → Prop}
/-- a def entered, in the tidy logic -/
theorem enterC {env : Env} {outer : List Env} {R : Result → Shared → Prop} {name qual : Str} {params : Arguments} {body : List Stmt} {scope : Scope} {dV kV doc pm cdv ct oc : Value} {an od : Option Addr} {osl : Array (Option Value)} {f : Addr} {args : Args} {binds : List (Str × Value)}
    (B : Below A₀ base outer h₀) (F : Fr h₀ L s.heap m) (X₀ : K.In h₀) (N : News h₀ L s.heap news) (T : Top p loose mean mg mb h₀) (hA : A.frames = some (env :: outer)) (hf : env.frame = some L) (hke : env.scope.kind = .function)
    (ho : K.lookup f = some ⟨oc, od, .func (fnOf name qual params body scope dV kV doc pm an cdv ct), osl⟩) (hcd : codeIn K cdv qual = true) (hroom : A.depth < recursionLimit)
    (hbind : BindsTo s (fnOf name qual params body scope dV kV doc pm an cdv ct) args binds) (hloc : ∀ y ∈ binds, scope.names.lookup y.1 = some .local)
    (h : ∀ g L' h₁, Fr h₀ L g m → Fr g L' h₁ (fun y => binds.reverse.lookup y) → News g L' h₁ news → Below A base (env :: outer) g → K.In g → Top p loose mean mg mb g →
      wpC (model prog w) (A.deeper (envOf qual scope L' f cdv)) (execs body (envOf qual scope L' f cdv))
        (fun fl s' => LeaveK h₀ L m g R (match fl with | .ret v => v | _ => .none) s')
        (fun e s' => wpAny (model prog w) (A.deeper (envOf qual scope L' f cdv)) (leaving (envOf qual scope L' f cdv) e) (fun _ s'' => R (.error e) s'') (fun e' s'' => R (.error e') s'') s')
        { s with heap := h₁, toks := s.toks + binds.length })
    (hco : scope.isCoroutine = false) (hgen : scope.isGenerator = false) (hk : scope.kind = .function)
    (hcell : ∀ x ∈ scope.names, x.2 ≠ .cell) : codeC (model prog w) A (.call (.ref f) args) R s := by
  have hlim := T.nolimit
  obtain ⟨FG, BG, st, lv⟩ := groundX (R := R) B F N hA hf hke
  refine codeC_call_def (fd := fnOf name qual params body scope dV kV doc pm an cdv ct) (body := body) (binds := binds) hroom ((X₀.keeps F.keep) _ _ ho) rfl (hlim.keeps F.keep) (codeRec_of (X₀.keeps F.keep) hcd) rfl hbind hcell hloc (fun h₁ hns hk₁ => ?_) hco hgen hk
  exact wpC_mono (h _ s.heap.objs.size h₁ FG ⟨hns, fun b o e => hk₁ b o (of_hideAll _ e), Nat.le_of_eq (hideAll_size _ _)⟩
    (fun p hp => ⟨hk₁ _ _ (N p hp).1, Nat.ne_of_lt (Heap.lt_size (N p hp).1), hideAll_none _ (List.mem_map_of_mem hp)⟩) BG (X₀.keeps st) (T.keeps st)) (fun fl s' hl => lv _ _ hl) fun _ _ y => y
end
end Mine
namespace Mine
section
variable {prog : Program} {w : World} {A : Around} {E : Value → Shared → Prop} {s : Shared}
theorem codeC_builtin {id : String} {args : Args} {b : Builtin} {R : Result → Shared → Prop} (hd : Builtin.Bytes.decodersThatHold.contains id = false) (hb : entryFor table id = some b)
    (h : wpC (model prog w) (A.under (.builtin id args)) (b args)
      (fun fin s' => match fin with | .done f => R (.ok f) s' | .again c' => c'.quiet = true ∧ codeC (model prog w) A c' R s') (fun e s' => R (.error e) s') s) :
    codeC (model prog w) A (.builtin id args) R s := by
  refine codeC_of_tree hd ?_
  show wpC _ _ (match entryFor table id with | some b => b args | none => unsupported ((withoutEnding? id "#data").getD id)) _ _ s
  rw [hb]; exact h
theorem codeC_call_builtin {id : String} {args : Args} {b : Builtin} {R : Result → Shared → Prop} (hd : Builtin.Bytes.decodersThatHold.contains id = false) (hq : plainId id = true) (hb : entryFor table id = some b)
    (h : wpAny (model prog w) A.in1 (checkBuiltinCall id args) (fun _ s₁ => wpC (model prog w) A.in1 (b args)
      (fun fin s' => match fin with | .done f => R (.ok f) s' | .again c' => c'.quiet = true ∧ codeC (model prog w) A c' R s') (fun e s' => R (.error e) s') s₁)
      (fun e s' => R (.error e) s') s) : codeC (model prog w) A (.call (.builtin id) args) R s := by
  refine codeC_of_tree rfl (wpC_of_any ?_)
  show wpAny _ A.in1 (do checkBuiltinCall id args; again (.builtin id args)) _ _ s
  refine wpAny_bind (wpAny_mono h (fun _ s₁ h₁ => wpAny_pure (And.intro (plainId_quiet hq args) (codeC_builtin hd hb ?_))) fun _ _ h' => h')
  rw [Around.under_plainId hq args]; exact h₁
theorem callTypeC {T newId initId : String} {args : List Value} {Q Q₁ : Value → Shared → Prop} (ft : TypeCalled T newId initId)
    (hct : checkTypeCall T ⟨args, []⟩ = pure ())
    (hnew : codeAny (model prog w) A.in1 (.call (.builtin newId) ⟨.type T :: args, []⟩) (wants Q₁ E) s)
    (hnext : ∀ obj s₁, Q₁ obj s₁ → s₁.TypeIs obj T ∧ codeC (model prog w) A.in1 (.call (.builtin initId) ⟨obj :: args, []⟩) (wants (fun r s₂ => r = .none ∧ Q obj s₂) E) s₁) :
    wpC (model prog w) A (call (.type T) args) Q E s := by
  obtain ⟨c, tl, hmro⟩ := ft.mro
  have hmade := ft.made
  have hsub := ft.sub
  refine wpC_call (codeC_of_tree rfl (wpC_of_any ?_))
  show wpAny _ _ (callAny (.type T) _) _ _ _
  refine wpAny_pure ⟨Code.quiet_builtin _ (by decide +kernel), codeC_builtin (by decide +kernel) F.entry_type_call ?_⟩
  rw [Around.under_plain (weight_type_call_type T args []) rfl]
  have h1 := ft.notType
  have h2 := ft.canCreate
  unfold Builtin.«type.__call__»
  simp only [h1, h2, hct, hmro, hmade, pure_bind, if_false, Bool.false_eq_true, List.isEmpty_cons]
  refine wpC_bindA (wpAny_holding (wpAny_call (codeAny_mono hnew fun r s₁ hr => ?_)))
  cases r with
  | error e => exact hr
  | ok fl =>
    cases fl with
    | ret obj =>
      obtain ⟨hT, hin⟩ := hnext _ _ hr
      refine wpC_bindA (wpAny_isInstance hT hsub ?_)
      simp only [Bool.not_true, Bool.false_eq_true, if_false]
      refine wpC_bind (wpC_holding ?_)
      unfold callSpecial?
      refine wpC_bindA (wpAny_specialOf hT ft.init.lookup ?_)
      dsimp only
      refine wpC_holding ?_
      refine wpC_bindA (wpAny_of_eq (ft.init.bind obj) ?_)
      refine wpC_bind (wpC_call (codeC_mono hin fun r₂ s₂ hr₂ => ?_))
      cases r₂ with
      | error e => exact hr₂
      | ok fl₂ =>
        cases fl₂ with
        | ret r =>
          obtain ⟨rfl, hq⟩ := hr₂
          refine wpC_of_any (wpAny_pure ?_)
          refine wpC_of_any (wpAny_pure ?_)
          exact hq
        | _ => exact hr₂.elim
    | _ => exact hr.elim
end
namespace FA
theorem mro_ba : mroOf (.type "bytearray") = pure [.type "bytearray", .type "object"] := by rw [mroOf_type]; kernel_rfl
theorem lookup_ba_new : typeLookup (.type "bytearray") "__new__" = pure (some (.builtin "bytearray.__new__")) := by rw [typeLookup_type, builtinLookup_eq_fast]; kernel_rfl
theorem slot_ba_init : Slot "bytearray" "__init__" "bytearray.__init__" :=
  .of (owner := "bytearray") (n := "__init__") (by rw [typeLookup_type, builtinLookup_eq_fast]; kernel_rfl) (by decide +kernel) (by decide +kernel) (by decide +kernel)
    (by first | exact .inl (by decide +kernel) | exact .inr (by decide +kernel)) (by rw [isSubtype_type]; kernel_rfl)
theorem called_ba : TypeCalled "bytearray" "bytearray.__new__" "bytearray.__init__" :=
  ⟨by decide +kernel, by decide +kernel, ⟨_, _, mro_ba⟩, madeBy_type mro_ba lookup_ba_new (by decide +kernel), by decide +kernel, by rw [isSubtype_type]; kernel_rfl, slot_ba_init⟩
theorem typeCall_ba (a : Value) : checkTypeCall "bytearray" ⟨[a], []⟩ = pure () := by kernel_rfl
theorem newCall_ba (a : Value) : checkBuiltinCall "bytearray.__new__" ⟨[.type "bytearray", a], []⟩ = pure () := by kernel_rfl
theorem entry_ba_new : entryFor table "bytearray.__new__" = some Builtin.«list.__new__» :=
  entryFor_alias (id' := "list.__new__") (by kernel_rfl) (by first | rfl | decide +kernel) (by decide +kernel) (by kernel_rfl)
theorem plain_ba_new : plainId "bytearray.__new__" = true := by decide +kernel
theorem entry_ba_init : entryFor table "bytearray.__init__" = some Builtin.«bytearray.__init__» := by first | exact entryFor_of_fast (by kernel_rfl) | exact entryFor_of_tree (by kernel_rfl)
theorem plain_ba_init : plainId "bytearray.__init__" = true := by decide +kernel
theorem sub_ba : isSubtype (.type "bytearray") (.type "bytearray") = pure true := by rw [isSubtype_type]; kernel_rfl
end FA
theorem owner_ba_new : ("bytearray.__new__".splitOn ".__new__").headD "" = "bytearray" := by simp +decide [String.splitOn, String.splitOnAux]
end Mine
namespace Mine
section
variable {prog : Program} {w : World} {A : Around} {E : Value → Shared → Prop} {s : Shared}
theorem code_ba_new (a : Value) {Q₁ : Value → Shared → Prop}
    (h : Q₁ (.ref s.heap.objs.size) { s with heap := s.heap.push { cls := .type "bytearray", data := .bytearray #[] } }) :
    codeAny (model prog w) A (.call (.builtin "bytearray.__new__") ⟨[.type "bytearray", a], []⟩) (wants Q₁ E) s := by
  refine codeAny_of_tree ?_
  show wpAny _ A.in1 (do checkBuiltinCall "bytearray.__new__" ⟨[.type "bytearray", a], []⟩; again (.builtin "bytearray.__new__" ⟨[.type "bytearray", a], []⟩)) _ _ s
  refine wpAny_bind (wpAny_of_eq (FA.newCall_ba a) (wpAny_pure ⟨plainId_quiet FA.plain_ba_new _, codeAny_builtin_stack FA.entry_ba_new rfl fun p st => ?_⟩))
  rw [Around.under_plainId FA.plain_ba_new _]
  have hsub := FA.sub_ba
  have hown := owner_ba_new
  obtain ⟨hp, g, d, tk, os⟩ := s
  simp only [hown]
  wp_walk
  exact h
theorem ifC_no {α : Type} {c : Prop} [Decidable c] {a b : Sem α} {Q : α → Shared → Prop} (hc : ¬ c) (h : wpC (model prog w) A b Q E s) : wpC (model prog w) A (if c then a else b) Q E s := by
  rw [if_neg hc]; exact h
theorem ifC_yes {α : Type} {c : Prop} [Decidable c] {a b : Sem α} {Q : α → Shared → Prop} (hc : c) (h : wpC (model prog w) A a Q E s) : wpC (model prog w) A (if c then a else b) Q E s := by
  rw [if_pos hc]; exact h
namespace FA
theorem lk_release : typeLookup (.type "bytearray") "__release_buffer__" = pure (some (.builtin "bytearray.__release_buffer__")) := by rw [typeLookup_type, builtinLookup_eq_fast]; kernel_rfl
theorem lk_buffer : typeLookup (.type "bytearray") "__buffer__" = pure (some (.builtin "bytearray.__buffer__")) := by rw [typeLookup_type, builtinLookup_eq_fast]; kernel_rfl
theorem ends_release : ("bytearray.__release_buffer__".endsWith ("." ++ "__release_buffer__")) = true := by decide +kernel
theorem drop_release : ("bytearray.__release_buffer__".dropRight ("__release_buffer__".length + 1)) = "bytearray" := by decide +kernel
end FA
theorem own_release {S : Addr} {Q : Bool → Shared → Prop} (hT : s.TypeIs (.ref S) "bytearray") (h : Q false s) : wpAny (model prog w) A (Builtin.Bytes.ownRelease (.ref S)) Q E s := by
  unfold Builtin.Bytes.ownRelease Builtin.Bytes.slotIsOwn
  refine wpAny_bind (wpAny_bind (wpAny_specialOf hT FA.lk_release ?_))
  dsimp only
  rw [FA.ends_release, FA.drop_release]
  simp only [Bool.not_true, Bool.false_eq_true, if_false]
  refine wpAny_isInstance hT FA.sub_ba ?_
  exact wpAny_pure h
/-- in a tidy context nothing has exported the memory -/
theorem not_exported {S : Addr} {Q : Bool → Shared → Prop} (hg : A.guards = some []) (h : Q false s) : wpC (model prog w) A (Builtin.Bytes.exported (.ref S)) Q E s := by
  intro Γ p hΓ hT
  unfold Builtin.Bytes.exported
  show Q (((Γ.code, p) :: Γ.below).any _) s
  have hgs : guardsOf ((Γ.code, p) :: Γ.below) = [] := by rw [guardsOf_cons]; exact hΓ.2.2.2.1 [] hg
  have hno : ∀ q ∈ ((Γ.code, p) :: Γ.below), q.1.isGuard = false ∧ decoder q.1 = false := by
    intro q hq
    refine ⟨?_, ?_⟩
    · cases hgq : q.1.isGuard with
      | false => rfl
      | true =>
        have : q.1 ∈ guardsOf ((Γ.code, p) :: Γ.below) := by
          unfold guardsOf
          exact List.mem_filter.mpr ⟨List.mem_map_of_mem hq, hgq⟩
        rw [hgs] at this
        cases this
    · rcases List.mem_cons.mp hq with rfl | hq
      · exact hT.1
      · exact hT.2 q hq
  rw [List.any_eq_false.mpr]
  · exact h
  · intro q hq
    obtain ⟨h1, h2⟩ := hno q hq
    split
    · exact absurd h1 (by simp +decide [Code.isGuard, guardIds])
    · exact absurd h1 (by simp +decide [Code.isGuard, guardIds])
    · exact absurd h1 (by simp +decide [Code.isGuard, guardIds])
    · exact absurd h1 (by simp +decide [Code.isGuard, guardIds])
    · exact absurd h1 (by simp +decide [Code.isGuard, guardIds])
    · have h3 : Builtin.Bytes.decodersThatHold.contains _ = false := h2
      rw [h3, Bool.and_false]; exact Bool.false_ne_true
    · exact Bool.false_ne_true
theorem write_ba {S : Addr} {b : Array UInt8} {f : Array UInt8 → Array UInt8} {Q : Unit → Shared → Prop} (hS : s.heap.get? S = some { cls := .type "bytearray", data := .bytearray b }) (hz : (f b).size ≤ sizeLine)
    (h : Q () { s with heap := s.heap.update S (Obj.mapBytearray f) }) : wpAny (model prog w) A (Builtin.Bytes.write (.ref S) f) Q E s := by
  show wpAny _ _ (updateBytearray S f) _ _ _
  unfold updateBytearray
  refine wpAny_bind (wpAny_load hS ?_)
  show wpAny _ _ (update S (Obj.mapBytearray f) >>= fun _ => lookBehind S) _ _ _
  refine wpAny_bind (wpAny_update hS ?_)
  have hS₂ : (s.heap.update S (Obj.mapBytearray f)).get? S = some { cls := .type "bytearray", data := .bytearray (f b) } := Heap.get?_update_self (Obj.mapBytearray f) hS rfl
  refine wpAny_lookBehind hS₂ ?_ h
  show (if (f b).size > sizeLine then some "bytearray:memory" else none) = none
  rw [if_neg (Nat.not_lt.mpr hz)]
theorem ba_init_C {n : Int} {u : Tok} {S : Addr} {Q : PySem.Fin → Shared → Prop} (hg : A.guards = some []) (hS : s.heap.get? S = some { cls := .type "bytearray", data := .bytearray #[] }) (h0 : 0 ≤ n) (hn : n ≤ 1048576)
    (h : ∀ h', h'.get? S = some { cls := .type "bytearray", data := .bytearray (Array.replicate n.toNat 0) } → Heap.SameBut S s.heap h' → Q (.done (.ret .none)) { s with heap := h' }) :
    wpC (model prog w) A (Builtin.«bytearray.__init__» ⟨[.ref S, .int n u], []⟩) Q E s := by
  have hT : s.TypeIs (.ref S) "bytearray" := ⟨_, hS, rfl⟩
  have hb : Builtin.Bytes.bindOptional "bytearray.__init__" "bytearray" ["source", "encoding", "errors"] [.int n u] [] = pure [some (.int n u), none, none] := by kernel_rfl
  unfold Builtin.«bytearray.__init__»
  refine wpC_bindA (own_release hT ?_)
  refine ifC_no Bool.false_ne_true ?_
  refine wpC_bindA (wpAny_of_eq hb ?_)
  refine wpC_bindA (wpAny_of_eq (a := ()) rfl ?_)
  refine wpC_bindA (wpAny_of_eq (a := ()) rfl ?_)
  refine wpC_bind ?_
  show wpC _ _ (Builtin.Bytes.exported (.ref S) >>= _) _ _ _
  refine wpC_bind (not_exported hg ?_)
  refine wpC_of_any ?_
  show wpAny _ _ (Builtin.Bytes.exportsOf (.ref S) >>= _) _ _ _
  refine wpAny_bind ?_
  show wpAny _ _ (load S >>= _) _ _ _
  refine wpAny_bind (wpAny_load hS (wpAny_pure (wpAny_pure ?_)))
  refine ifC_no (by decide) ?_
  refine wpC_bindA (write_ba hS (Nat.zero_le _) ?_)
  have hS' : (s.heap.update S (Obj.mapBytearray fun _ => #[])).get? S = some { cls := .type "bytearray", data := .bytearray #[] } := Heap.get?_update_self (Obj.mapBytearray fun _ => #[]) hS rfl
  dsimp only
  refine wpC_bindA (wpAny_of_eq (a := none) rfl ?_)
  refine ifC_no Bool.false_ne_true ?_
  refine wpC_bindA (wpAny_of_eq (a := ()) rfl ?_)
  refine wpC_bindA (wpAny_specialOf (typeIs_int _ n u) F.slot_int_index.lookup ?_)
  refine ifC_yes rfl ?_
  refine wpC_bindA (wpAny_attempt (wpAny_of_eq (rfl : asIndex (.int n u) = pure n) ?_))
  dsimp only
  have hf : Builtin.Bytes.fitsIndex n = true := by
    simp only [Builtin.Bytes.fitsIndex, Bool.and_eq_true, decide_eq_true_eq]
    omega
  have hl : Builtin.Bytes.tooLong n.toNat = false := by
    simp only [Builtin.Bytes.tooLong, decide_eq_false_iff_not, sizeLine_eq]
    omega
  have h63 : ¬ (n == 2 ^ 63 - 1) = true := by
    rw [beq_iff_eq]; omega
  have hlt : ¬ n < 0 := by omega
  rw [hf, hl]
  refine ifC_no (by decide) ?_
  refine ifC_no hlt ?_
  refine ifC_no h63 ?_
  refine ifC_no Bool.false_ne_true ?_
  refine wpC_bindA (wpAny_rule ?_)
  by_cases hpos : n > 0
  · refine ifC_yes hpos ?_
    refine wpC_bindA (write_ba hS' (by rw [Array.size_replicate, sizeLine_eq]; omega) ?_)
    refine wpC_of_any (wpAny_pure ?_)
    exact h _ (Heap.get?_update_self (Obj.mapBytearray fun _ => Array.replicate n.toNat 0) hS' rfl) ((Heap.SameBut.update ..).trans (Heap.SameBut.update ..))
  · refine ifC_no hpos ?_
    refine wpC_of_any (wpAny_pure ?_)
    have e : n = 0 := by omega
    subst e
    exact h _ hS' (Heap.SameBut.update ..)
end
end Mine
namespace Mine
/-- a bytearray -/
def baObj (b : Array UInt8) : Obj := { cls := .type "bytearray", data := .bytearray b }
namespace FA
theorem args_ba_init (a b : Value) : argsOk "bytearray.__init__" ⟨[a, b], []⟩ := by unfold argsOk; kernel_rfl
theorem slot_ba_setitem : Slot "bytearray" "__setitem__" "bytearray.__setitem__" :=
  .of (owner := "bytearray") (n := "__setitem__") (by rw [typeLookup_type, builtinLookup_eq_fast]; kernel_rfl) (by decide +kernel) (by decide +kernel) (by decide +kernel)
    (by first | exact .inl (by decide +kernel) | exact .inr (by decide +kernel)) (by rw [isSubtype_type]; kernel_rfl)
theorem entry_ba_setitem : entryFor table "bytearray.__setitem__" = some Builtin.«bytearray.__setitem__» := by first | exact entryFor_of_fast (by kernel_rfl) | exact entryFor_of_tree (by kernel_rfl)
theorem args_ba_setitem (a b c : Value) : argsOk "bytearray.__setitem__" ⟨[a, b, c], []⟩ := by unfold argsOk; kernel_rfl
theorem lk_no_bytes : typeLookup (.type "bytearray") "__bytes__" = pure none := by rw [typeLookup_type, builtinLookup_eq_fast]; kernel_rfl
theorem lk_no_index : typeLookup (.type "bytearray") "__index__" = pure none := by rw [typeLookup_type, builtinLookup_eq_fast]; kernel_rfl
theorem ends_buffer : ("bytearray.__buffer__".endsWith ("." ++ "__buffer__")) = true := by decide +kernel
theorem drop_buffer : ("bytearray.__buffer__".dropRight ("__buffer__".length + 1)) = "bytearray" := by decide +kernel
end FA
section
variable {prog : Program} {w : World} {A : Around} {E : Value → Shared → Prop} {s : Shared} {h₀ : Heap} {L : Addr} {m : Str → Option Value} {news news' : List (Addr × Obj)}
theorem ifA_no {α : Type} {c : Prop} [Decidable c] {a b : Sem α} {Q : α → Shared → Prop} (hc : ¬ c) (h : wpAny (model prog w) A b Q E s) : wpAny (model prog w) A (if c then a else b) Q E s := by
  rw [if_neg hc]; exact h
theorem ifA_yes {α : Type} {c : Prop} [Decidable c] {a b : Sem α} {Q : α → Shared → Prop} (hc : c) (h : wpAny (model prog w) A a Q E s) : wpAny (model prog w) A (if c then a else b) Q E s := by
  rw [if_pos hc]; exact h
/-- bytearray(n) -/
theorem bytearray_C {n : Int} {u : Tok} {Q : Value → Shared → Prop} (F : Fr h₀ L s.heap m) (N : News h₀ L s.heap news) (hg : A.guards = some []) (h0 : 0 ≤ n) (hn : n ≤ 1048576)
    (h : ∀ a h', Fr h₀ L h' m → News h₀ L h' ((a, baObj (Array.replicate n.toNat 0)) :: news) → (∀ p ∈ news, p.1 < a) → Q (.ref a) { s with heap := h' }) :
    wpC (model prog w) A (call (.type "bytearray") [.int n u]) Q E s := by
  refine callTypeC (Q₁ := fun obj s₁ => obj = .ref s.heap.objs.size ∧ s₁ = { s with heap := s.heap.push (baObj #[]) }) FA.called_ba (FA.typeCall_ba _) (code_ba_new _ ⟨rfl, rfl⟩) ?_
  rintro obj s₁ ⟨rfl, rfl⟩
  have hS : (s.heap.push (baObj #[])).get? s.heap.objs.size = some { cls := .type "bytearray", data := .bytearray #[] } := Heap.get?_push_size _ rfl
  have hT : ({ s with heap := s.heap.push (baObj #[]) } : Shared).TypeIs (.ref s.heap.objs.size) "bytearray" := ⟨_, hS, rfl⟩
  refine ⟨hT, codeC_call_builtin (by decide +kernel) FA.plain_ba_init FA.entry_ba_init (FA.slot_ba_init.check _ _ _ _ _ _ _ _ hT (FA.args_ba_init _ _) ?_)⟩
  refine ba_init_C hg hS h0 hn fun h' ho hs => ?_
  have F₁ := F.push (baObj #[])
  have N₁ := News.push F N (baObj #[])
  have hnew := N₁ _ (.head _)
  have hap : ∀ p ∈ news, p.1 ≠ s.heap.objs.size := fun p hp => Nat.ne_of_lt (Heap.lt_size (N p hp).1)
  exact ⟨rfl, h _ h' (F₁.change hs hnew.2.1 hnew.2.2) (News.setHead N₁ hap hs ho) fun p hp => Heap.lt_size (N p hp).1⟩
/-- b[k] = v of a bytearray -/
theorem setItem_ba {D : Addr} {b : Array UInt8} {k v : Int} {t tv : Tok} {Q : Unit → Shared → Prop} (F : Fr h₀ L s.heap m) (N : News h₀ L s.heap news) (U : Upd D (baObj b) (baObj (b.setIfInBounds k.toNat v.toNat.toUInt8)) news news')
    (hz : b.size ≤ 16777216) (h0 : 0 ≤ k) (hk : k < b.size) (v0 : 0 ≤ v) (v1 : v < 256)
    (h : ∀ h', Fr h₀ L h' m → News h₀ L h' news' → Q () { s with heap := h' }) : wpAny (model prog w) A (setItem (.ref D) (.int k t) (.int v tv)) Q E s := by
  obtain ⟨pre, post, rfl, rfl, ha, hb⟩ := U.split
  have z := N (D, baObj b) (List.mem_append.mpr (.inr (.head _)))
  have hT : s.TypeIs (.ref D) "bytearray" := ⟨_, z.1, rfl⟩
  unfold setItem
  refine wpAny_holding ?_
  refine wpAny_bind (wpAny_sequenceKey hT (by decide) ?_)
  refine wpAny_bind (wpAny_callSpecial?_slot (name := Str.ofString "__setitem__") hT FA.slot_ba_setitem
    (wpAny_call_entry FA.slot_ba_setitem hT FA.entry_ba_setitem ?_ (FA.args_ba_setitem _ _ _)))
  have hf : Builtin.Bytes.fitsIndex k = true := by
    simp only [Builtin.Bytes.fitsIndex, Bool.and_eq_true, decide_eq_true_eq]
    omega
  have e : seqIndex? k b.size = some k.toNat := by
    simp [seqIndex?]
    omega
  unfold Builtin.«bytearray.__setitem__»
  refine wpAny_bind ?_
  unfold Builtin.Bytes.subscript?
  refine wpAny_bind (wpAny_specialOf (typeIs_int _ k t) PySem.F.slot_int_index.lookup ?_)
  refine ifA_no Bool.false_ne_true ?_
  refine wpAny_bind (wpAny_of_eq (rfl : asIndex (.int k t) = pure k) ?_)
  dsimp only
  rw [hf]
  refine ifA_no (by decide) ?_
  refine wpAny_pure ?_
  dsimp only
  refine wpAny_bind ?_
  unfold Builtin.Bytes.byteValue
  refine wpAny_bind (wpAny_of_eq (rfl : asIndex (.int v tv) = pure v) ?_)
  refine ifA_no (by simp only [Bool.or_eq_true, decide_eq_true_eq]; omega) ?_
  refine wpAny_pure ?_
  refine wpAny_bind ?_
  unfold Builtin.Bytes.payload Builtin.Bytes.payload?
  refine wpAny_bind (wpAny_bind (wpAny_load z.1 ?_))
  refine wpAny_pure (wpAny_pure ?_)
  rw [e]
  dsimp only
  refine wpAny_bind (write_ba z.1 (by rw [Array.size_setIfInBounds, sizeLine_eq]; exact hz) ?_)
  refine wpAny_bind (wpAny_pure (wpAny_pure ⟨_, rfl, wpAny_pure ?_⟩))
  have hs : Heap.SameBut D s.heap (s.heap.update D (Obj.mapBytearray fun x => x.setIfInBounds k.toNat v.toNat.toUInt8)) := Heap.SameBut.update ..
  have ho : (s.heap.update D (Obj.mapBytearray fun x => x.setIfInBounds k.toNat v.toNat.toUInt8)).get? D = some (baObj (b.setIfInBounds k.toNat v.toNat.toUInt8)) := Heap.get?_update_self _ z.1 rfl
  exact h _ (F.change hs z.2.1 z.2.2) (News.setAt N ha hb hs ho)
/-- bytes(b) of a bytearray -/
theorem bytes_ba {D : Addr} {b : Array UInt8} {Q : Value → Shared → Prop} (N : News h₀ L s.heap news) (hm : (D, baObj b) ∈ news) (hz : b.size ≤ 16777216)
    (h : ∀ t k, Q (.bytes b t) { s with toks := k }) : wpAny (model prog w) A (call (.type "bytes") [.ref D]) Q E s := by
  have z := N (D, baObj b) hm
  have hT : s.TypeIs (.ref D) "bytearray" := ⟨_, z.1, rfl⟩
  refine callType_codes (Q₁ := fun obj s₁ => s₁.TypeIs obj "bytes" ∧ Q obj s₁) F.bm_called (F.bm_typeCall _) F.entry_object_init ?_ fun obj s₁ h₁ => ?_
  · refine codeAny_of_tree ?_
    show wpAny _ A.in1.in1 (do checkBuiltinCall "bytes.__new__" ⟨[.type "bytes", .ref D], []⟩; again (.builtin "bytes.__new__" ⟨[.type "bytes", .ref D], []⟩)) _ _ s
    refine wpAny_bind (wpAny_of_eq (F.bm_newCall _) (wpAny_pure ⟨plainId_quiet F.bm_plain _, codeAny_builtin F.bm_entry ?_⟩))
    rw [Around.under_plainId F.bm_plain _]
    unfold Builtin.«bytes.__new__»
    refine wpAny_bind (wpAny_of_eq (a := true) rfl ?_)
    refine ifA_no (by decide) ?_
    refine wpAny_bind (wpAny_of_eq F.bm_sub ?_)
    refine ifA_no (by decide) ?_
    refine wpAny_bind (wpAny_of_eq (F.bm_bind _) ?_)
    refine wpAny_bind (wpAny_of_eq (a := ()) rfl ?_)
    refine wpAny_bind (wpAny_of_eq (a := ()) rfl ?_)
    refine ifA_no (by decide) ?_
    refine wpAny_bind (wpAny_specialOf hT FA.lk_no_bytes ?_)
    refine wpAny_bind (wpAny_bind ?_)
    show wpAny _ _ (load D >>= _) _ _ _
    refine wpAny_bind (wpAny_load z.1 ?_)
    refine wpAny_pure (wpAny_pure ?_)
    refine ifA_no (by decide) ?_
    refine wpAny_bind (wpAny_specialOf hT FA.lk_no_index ?_)
    refine ifA_yes rfl ?_
    refine wpAny_bind ?_
    unfold Builtin.Bytes.buffer?
    refine wpAny_bind (wpAny_specialOf hT FA.lk_buffer ?_)
    dsimp only
    refine wpAny_bind ?_
    unfold Builtin.Bytes.slotIsOwn
    refine wpAny_bind (wpAny_specialOf hT FA.lk_buffer ?_)
    dsimp only
    rw [FA.ends_buffer, FA.drop_buffer]
    refine ifA_no (by decide) ?_
    refine wpAny_isInstance hT FA.sub_ba ?_
    refine ifA_no (by decide) ?_
    refine wpAny_bind (wpAny_specialOf hT FA.lk_buffer ?_)
    refine wpAny_bind (own_release hT ?_)
    refine ifA_no (by decide) ?_
    refine wpAny_bind ?_
    unfold Builtin.Bytes.payload Builtin.Bytes.payload?
    refine wpAny_bind (wpAny_bind (wpAny_load z.1 ?_))
    refine wpAny_pure (wpAny_pure (wpAny_pure ?_))
    refine wpAny_bind (wpAny_rule ?_)
    refine wpAny_bind (wpAny_mkBytes ?_ (by rw [sizeLine_eq]; exact hz))
    show wpAny _ _ (if (Value.type "bytes" == Value.type "bytes") = true then _ else _) _ _ _
    refine ifA_yes (by decide) ?_
    exact wpAny_pure ⟨typeIs_bytes _ _ _, h _ _⟩
  · exact ⟨h₁.1, F.args_object_init_2 obj _, object_init_meets F.bm_called.init.lookup F.bm_called.made (by decide) prog w A.in1 _ s₁ ⟨h₁.1, rfl, h₁.2⟩⟩
end
end Mine
namespace Mine
section
variable {M : Model} {A : Around} {E : Value → Shared → Prop} {s : Shared} {env : Env} {K : Frag}
theorem wpC_pure {α : Type} {a : α} {Q : α → Shared → Prop} (h : Q a s) : wpC M A (pure a) Q E s := wpC_of_any (wpAny_pure h)
theorem wpC_execs_cons {st : Stmt} {rest : List Stmt} {Q : Flow → Shared → Prop}
    (h : wpC M A (exec st env) (fun f s' => match f with | .next => wpC M A (execs rest env) Q E s' | f => Q f s') E s) :
    wpC M A (execs (st :: rest) env) Q E s := by
  rw [execs_cons]
  refine wpC_bind (wpC_mono h (fun f s' h' => ?_) fun _ _ x => x)
  cases f <;> first | exact h' | exact wpC_pure h'
theorem wpC_execs_any {st : Stmt} {rest : List Stmt} {Q : Flow → Shared → Prop}
    (h : wpAny M A (exec st env) (fun f s' => match f with | .next => wpC M A (execs rest env) Q E s' | f => Q f s') E s) :
    wpC M A (execs (st :: rest) env) Q E s := wpC_execs_cons (wpC_of_any h)
theorem wpC_execs_nil {Q : Flow → Shared → Prop} (h : Q .next s) : wpC M A (execs [] env) Q E s := wpC_of_any (wpAny_execs_nil h)
theorem wpC_Assign_Name {x : Str} {pos' pos : Pos} {value : PySem.Expr} {Q : Flow → Shared → Prop}
    (h : wpC M A (eval value env) (fun v s₁ => wpAny M A (storeName env x v) (fun _ => Q .next) E s₁) E s)
    (hs : swapsWith value (some (.Name x pos')) pos.line env = pure false := by rfl) :
    wpC M A (exec (.Assign [.Name x pos'] value pos) env) Q E s := by
  rw [exec_Assign_Name env x pos' value pos hs]
  refine wpC_bindA (wpAny_standAt (wpC_bind (wpC_mono h (fun v s₁ h₁ => ?_) fun _ _ x => x)))
  refine wpC_bindA (wpAny_standAt (wpC_bindA ?_))
  exact wpAny_mono (wpAny_bindName h₁) (fun _ _ q => wpC_pure q) fun _ _ x => x
theorem wpC_Call {func : PySem.Expr} {args : List PySem.Expr} {pos : Pos} {Q : Value → Shared → Prop}
    (h : wpAny M A (eval func env) (fun f s₁ => wpC M A (callWith pos f [] (backTo pos (starEach args env)) []) Q E s₁) E s)
    (he : eval (.Call func args [] pos) env = (do callWith pos (← eval func env) [] (backTo pos (starEach args env)) (backToKw pos (keywordEach [] env))) := by rfl) :
    wpC M A (eval (.Call func args [] pos) env) Q E s := by
  rw [he]; exact wpC_bindA h
theorem wpC_BinOp {l r : PySem.Expr} {op : Operator} {pos : Pos} {Q : Value → Shared → Prop}
    (h : wpAny M A (eval l env) (fun a s₁ => wpC M A (eval r env) (fun b s₂ => wpAny M A (binaryOp op a b) Q E s₂) E s₁) E s)
    (he : eval (.BinOp l op r pos) env = (do
      let a ← eval l env
      let b ← holding [a] (eval r env)
      standAt pos
      operate [a, b] (binaryOp op a b)) := by rfl) :
    wpC M A (eval (.BinOp l op r pos) env) Q E s := by
  rw [he]
  refine wpC_bindA (wpAny_mono h (fun a s₁ h₁ => wpC_bind (wpC_holding (wpC_mono h₁ (fun b s₂ h₂ => ?_) fun _ _ x => x))) fun _ _ x => x)
  exact wpC_bindA (wpAny_standAt (wpC_of_any (wpAny_operateT h₂)))
theorem wpC_If {test : PySem.Expr} {body orelse : List Stmt} {pos : Pos} {Q : Flow → Shared → Prop}
    (h : wpAny M A (isTrue test env (eval test env)) (fun b s₁ => if b = true then wpC M A (execs body env) Q E s₁ else wpC M A (execs orelse env) Q E s₁) E s)
    (he : exec (.If test body orelse pos) env = (do
      standAt pos
      if ← isTrue test env (eval test env) then execs body env else execs orelse env) := by rfl) :
    wpC M A (exec (.If test body orelse pos) env) Q E s := by
  rw [he]
  refine wpC_bindA (wpAny_standAt (wpC_bindA (wpAny_mono h (fun b s₁ h₁ => ?_) fun _ _ x => x)))
  cases b with
  | true => simpa using h₁
  | false => simpa using h₁
theorem wpC_callWith_of {P : Heap → Prop} {pos : Pos} {f : Value} {first : List Value} {Q : Value → Shared → Prop} {args : List (Bool × Sem Value)} {keywords : List (Option Str × Sem Value)} (hplain : (args.any (·.1) || keywords.any (·.1.isNone)) = false)
    (hk : ∀ h, P h → ∃ k, (k = Keeper.frame ∨ k = Keeper.machine ∨ k = Keeper.boundFrame) ∧ Looks M h (keeperOf f) k)
    (h : wpAny M A (evalArgs f true args keywords) (fun a s₁ => P s₁.heap ∧ wpC M A (call f (first ++ a.pos) a.kw) Q E s₁) E s) : wpC M A (callWith pos f first args keywords) Q E s := by
  unfold callWith
  refine wpC_bindA (wpAny_holding (wpAny_mono h (fun a s₁ h₁ => wpC_bindA (wpAny_standAt ?_)) fun _ _ x => x))
  obtain ⟨k, hk', L⟩ := hk _ h₁.1
  simp only [hplain]
  refine wpC_bindA (L.here ?_)
  have tail : ∀ {t : Sem Value}, wpC M A t Q E s₁ → wpC M A (t >>= fun r => holding [r] point >>= fun _ => pure r) Q E s₁ :=
    fun ht => wpC_bind (wpC_mono ht (fun r s₂ hr => wpC_of_any (wpAny_bind (wpAny_holding (wpAny_point (wpAny_pure hr))))) fun _ _ x => x)
  have marked (mk : Value) : wpC M A (callMarked mk f (first ++ a.pos) a.kw) Q E s₁ := by
    unfold callMarked
    intro Γ p hΓ hT
    rw [Sem.wp_keep]
    exact h₁.2 Γ p hΓ hT
  rcases hk' with rfl | rfl | rfl <;> dsimp only <;> first | exact tail h₁.2 | (split <;> first | exact tail h₁.2 | exact tail (marked _))
theorem wpC_callWith_K {pos : Pos} {f : Value} {first : List Value} {Q : Value → Shared → Prop} {e : PySem.Expr} {rest : List PySem.Expr} {h₀ : Heap} (_X : K.In h₀) (hk : keepIn K f = true)
    (h : wpAny M A (spliced (backTo pos (starEach (e :: rest) env))) (fun vs s₁ => K.In s₁.heap ∧ wpC M A (call f (first ++ vs)) Q E s₁) E s)
    (he : starEach (e :: rest) env = (false, eval e env) :: starEach rest env := by rfl) (hplain : (backTo pos (starEach rest env)).any (·.1) = false := by rfl) :
    wpC M A (callWith pos f first (backTo pos (starEach (e :: rest) env)) []) Q E s := by
  rw [he] at h ⊢
  exact wpC_callWith_of (by show ((false || (backTo pos (starEach rest env)).any (·.1)) || false) = false; rw [hplain]; rfl) (keeps_K hk) (evalArgs_plain h)
theorem wpC_callWith_type {pos : Pos} {T : String} {first : List Value} {Q : Value → Shared → Prop} {e : PySem.Expr} {rest : List PySem.Expr}
    (h : wpAny M A (spliced (backTo pos (starEach (e :: rest) env))) (fun vs s₁ => wpC M A (call (.type T) (first ++ vs)) Q E s₁) E s)
    (he : starEach (e :: rest) env = (false, eval e env) :: starEach rest env := by rfl) (hplain : (backTo pos (starEach rest env)).any (·.1) = false := by rfl) :
    wpC M A (callWith pos (.type T) first (backTo pos (starEach (e :: rest) env)) []) Q E s := by
  rw [he] at h ⊢
  refine wpC_callWith_of (P := fun _ => True) (by show ((false || (backTo pos (starEach rest env)).any (·.1)) || false) = false; rw [hplain]; rfl) (fun _ _ => ⟨.machine, .inr (.inl rfl), Looks.of_pure rfl⟩) (evalArgs_plain ?_)
  exact wpAny_mono h (fun _ _ x => ⟨trivial, x⟩) fun _ _ x => x
end
end Mine
namespace Mine
abbrev WalkC (q : Program) (loose : List Str) (XP : (Str → Option Value) → Heap → Prop) (YP : World → Heap → Prop) (r : RowW) (d : DefRec) (kwd : List (Str × PySem.Expr)) : Prop :=
  ∀ (w : World) (s₀ s₁ : Shared) (mg mb : Str → Option Value), Ground q loose r.records XP w s₀ mg mb s₁.heap → YP w s₁.heap → ∀ (a : Addr) (o : Obj) (pm cd doc dV kV : Value), s₁.heap.get? a = some o →
    o.data = .func { docDef d.name d.params d.body d.scope pm cd doc with defaults := dV, kwdefaults := kV } → s₁.heap.CodeRec cd d.name → Dflts mg s₁.heap d.params kwd dV kV → mg d.name = some (.ref a) → s₁.gens = #[] →
    ∀ (args : List WData) (vals : List Value) (as : List Addr), r.claim.pre args = true → WData.layableAll args = true → ReadsAllW r.records (classAt s₀.heap) s₁.heap vals args as → WellAll w.params s₁.heap vals args → (∀ a ∈ as, (a == sysModules) = false) →
      wpC (model r.prog w) callerA (call (.ref a) vals) (fun v s' => GoodWG r.claim (classAt s₀.heap) (ExcName.means s₀.heap) args s₁ (.ok (.ret v)) s')
        (fun e s' => GoodWG r.claim (classAt s₀.heap) (ExcName.means s₀.heap) args s₁ (.error e) s') s₁
theorem caller_tidy : Tidy (⟨.builtin "claim.caller" {}, none, none, [], none⟩ : Ctx) := ⟨by decide +kernel, fun _ h => nomatch h⟩
theorem thread_C {prog : Program} {w : World} {t : Sem PySem.Fin} {s : Shared} {R : Result → Shared → Prop} (hreg : s.asleep)
    (h : wpC (model prog w) callerA t (fun fin s' => ∃ f, fin = .done f ∧ (R (.ok f) s' ∧ leftWithCleanup s'.gens = false)) (fun e s' => R (.error e) s' ∧ leftWithCleanup s'.gens = false) s) :
    ∃ n r s' s'', runN (denote table) prog w n s ⟨t, .builtin "claim.caller" {}, default, []⟩ = .halted (outcomeOf r) s' ∧
      schedN (denote table) prog w n (.single s ⟨t, .builtin "claim.caller" {}, default, []⟩) = .halted (outcomeOf r) s' ∧ s'.forget = s''.forget ∧ R r s'' := by
  have hw : Sem.wp (model prog w) ⟨.builtin "claim.caller" {}, none, none, [], none⟩ t (Sem.finPost (model prog w) ⟨.builtin "claim.caller" {}, none, none, [], none⟩ fun r s' => R r s' ∧ leftWithCleanup s'.gens = false)
      (fun e _ s' => R (.error e) s' ∧ leftWithCleanup s'.gens = false) default s := by
    refine Sem.wp_mono _ _ t (fun fin p' s' h' => ?_) (fun _ _ _ h' => h') _ _ (h _ default caller_in caller_tidy)
    obtain ⟨f, rfl, hf⟩ := h'
    exact hf
  obtain ⟨n, r, s₁, s₂, hs, hn, hfo, hR⟩ := wp_halts_full (M := model prog w) (R := R) hreg hw
  exact ⟨n, r, s₂, s₁, hn, hs, hfo, hR⟩
theorem callFrom_C {c : ClaimW} {tree : List Value → Sem PySem.Fin} {w : World} {s : Shared} {free : Addr → Prop} {gens : Prop} {kept : Heap → Prop} (hz : s.asleep) (hgens : s.gens = #[])
    (hspec : ∀ args, c.pre args = true → WData.layableAll args = true →
      ∀ ord : List DictEntry → List DictEntry, (∀ l, (ord l).Perm l) →
      ∃ vs s₁, layAllW c.records (classAt s.heap) w.params ord args s = some (vs, s₁) ∧
        wpC (model c.prog w) callerA (tree vs) (fun fin s' => ∃ f, fin = .done f ∧ (c.Ends s args vs s₁ (.ok f) s' ∧ s'.os = s.os ∧ AllBare s'.gens ∧ kept s'.heap))
          (fun e s' => c.Ends s args vs s₁ (.error e) s' ∧ s'.os = s.os ∧ AllBare s'.gens ∧ kept s'.heap) s₁) :
    c.CallFrom (fun vs => ⟨tree vs, .builtin "claim.caller" {}, default, []⟩) w free gens kept s := by
  intro args hpre hlay ord hord
  obtain ⟨vs, s₁, hlaid, hcode⟩ := hspec args hpre hlay ord hord
  have hal := layAllW_rest _ _ _ hlaid
  obtain ⟨k, r, s', s'', hrun, hsched, hfo, hcase, hos, hkp⟩ := thread_C (prog := c.prog) (w := w) (t := tree vs) (s := s₁)
    (R := fun r s' => c.Ends s args vs s₁ r s' ∧ s'.os = s.os ∧ kept s'.heap)
    (Shared.asleep_of_life hal.2.2.2 hz)
    (wpC_mono hcode (by
      rintro fin s' ⟨f, e, h1, h2, h3, h4⟩
      exact ⟨f, e, ⟨h1, h2, h4⟩, leftWithCleanup_false_of_bare h3⟩) (by
      rintro e s' ⟨h1, h2, h3, h4⟩
      exact ⟨⟨h1, h2, h4⟩, leftWithCleanup_false_of_bare h3⟩))
  obtain ⟨eh, _, _, eo, _⟩ := Shared.forget_eq hfo
  have hcase := hcase.congr eh
  have hkp : kept s'.heap := by first | exact eh ▸ hkp | (rw [eh] at hkp; exact hkp) | (rw [← eh] at hkp; exact hkp)
  rw [← eo] at hos
  have hlife : s'.heap.life = s.heap.life := (runN_life _ _ _ hrun).trans hal.2.2.2
  refine ⟨vs, s₁, hlaid, k, _, s', hsched, ?_, (fun _ i x hx => by rw [hgens] at hx; simp at hx), hkp, by rw [hlife], Shared.rest_eq hos⟩
  rcases hcase with ⟨v, rfl, d1, d2, d3, d4, d5⟩ | ⟨e, ob, cls, rfl, d1, d2, d3, d4, d5⟩
  · exact .inl ⟨v, rfl, d1, d2, d3, fun b o y _ => d4 b o y, d5⟩
  · exact .inr ⟨e, ob, cls, rfl, d1, d2, d3, d4, fun b o y _ => d5 b o y⟩
/-- the head, in the tidy logic: the name stands where the head's line looks for it -/
theorem PySem.W.holds_open {r : OpenRow} {q : Program} {loose : List Str} {Xt : Shared → Bool} {XP : (Str → Option Value) → Heap → Prop} {α : Type} {Yf : Shared → α} {Ya : World → α} {YP : World → Heap → Prop} {d : DefRec} {kwd : List (Str × PySem.Expr)} {N : Nat}
    (left : LeftO r.prog q loose Xt Yf Ya N) (hY : ∀ w s, Yf s = Ya w → YP w s.heap) (hYk : ∀ w h h', YP w h → (∀ b o, h.get? b = some o → h'.get? b = some o) → YP w h')
    (hX : ∀ s, Xt s = true → XP (s.heap.nsMap mainGlobals) s.heap) (hXk : ∀ mg h h', XP mg h → (∀ b o, h.get? b = some o → h'.get? b = some o) → XP mg h')
    (hdef : defOf q r.name = some (d, kwd)) (hp : r.prog.theDef r.name = some (d.params, d.body, d.scope)) (hk : kwWritten? d.params.kwonlyargs d.params.kw_defaults = some kwd) (hRf : ∀ s, Xt s = true → RecFacts r.records s.heap) (hwr : (!r.writes || r.records.isEmpty) = true)
    (k1 : r.wellSaid = true) (ok : (chainsOk q && opensWell r.prog && (frees r.toRowW && r.within.isEmpty)) = true) (hb : r.prog.bare) (hw : r.toRowW.promised)
    (walk : WalkC q loose XP YP r.toRowW d kwd) : r.Holds := by
  refine ⟨k1, hw, ?_⟩
  obtain ⟨ok, k5⟩ := Bool.and_eq_true_iff.mp ok
  obtain ⟨hch, o1⟩ := Bool.and_eq_true_iff.mp ok
  obtain ⟨k5, k6⟩ := Bool.and_eq_true_iff.mp k5
  obtain ⟨hsame, hu, ha, hap, hm⟩ := frees_parts k5
  refine ⟨⟨hb, o1, by show r.makers.map _ = []; rw [hm]; rfl⟩, hw.witness, fun w => ⟨(left.behind hX hch w).1, fun s' hs' => ?_⟩⟩
  obtain ⟨s₀, hf, hg0, s, hT, hz, hgens, hg, G00, y⟩ := (left.behind (XP := fun mg h => XP mg h ∧ RecFacts r.records h) (fun s hs => ⟨hX s hs, hRf s hs⟩) hch w).2 s' hs'
  have G0 : Ground q loose [] XP w s (s.heap.nsMap mainGlobals) (s.heap.nsMap builtinsNs) s.heap := ⟨G00.T, G00.B, G00.D, G00.TE, G00.TD, G00.W, G00.X.1, G00.cls, G00.has, G00.apart, G00.once, G00.K⟩
  have RF := G00.X.2
  have hT' := hT
  refine ⟨s₀, hf, hg0, s, hT, fun n hn => ?_, RF.1, RF.2.1, ?_⟩
  · obtain rfl : n = r.name := by split at hn <;> simp_all
    exact pinned_of_view hg G0 hdef hp hk
  have hgens : s.gens = #[] := Array.eq_empty_of_size_eq_zero (beq_iff_eq.mp hgens)
  have G : Ground q loose r.records XP w s _ _ s.heap := RF.ground G0
  refine callFrom_C (c := r.toRowW.claim) hz hgens fun args hpre hlay ord hord => ?_
  obtain ⟨⟨vs, s₁⟩, hlaid⟩ := Option.isSome_iff_exists.mp (layAllW_isSome (P := w.params) (ord := ord) G.has args r.args s (pre_splitW hpre).1)
  have keeps := layAllW_keeps _ _ _ hlaid
  have hal := layAllW_rest _ _ _ hlaid
  obtain ⟨as, hrd, hin, hold⟩ := reads_layAllW hord _ _ _ hlaid hlay s₁.heap (fun _ _ e => e)
  have L : Laid r.records w s s₁ args vs as := ⟨⟨ord, hord, hlaid⟩, hrd, hin, hold, keeps, hal.1.trans hgens, hal.2.2.1⟩
  have G₁ := G.keeps hXk keeps
  obtain ⟨a, o, pm, cd, doc, dV, kV, h1, h2, h3, h4, h5⟩ := G₁.fn hdef
  have h := walk w s s₁ _ _ G₁ (hYk _ _ _ (hY w s y) keeps) a o pm cd doc dV kV h2 h3 h4 h5 (defOf_name hdef ▸ h1) L.gens args vs as hpre hlay L.reads L.well (L.low G.low)
  have hi := ident_freeW hu ha hap
  have hwi : r.toRowW.claim.within = [] := List.isEmpty_iff.mp k6
  refine ⟨vs, s₁, hlaid, ?_⟩
  refine wpC_bindA (wpAny_nsGet G₁.T.g ?_)
  rw [show (s.heap.nsMap mainGlobals) r.name = some (.ref a) from h1]
  refine wpC_bind (wpC_mono h (fun v s' g => wpC_pure ?_) fun e s' g => ?_)
  · exact ⟨_, rfl, have z := g.laid (c := r.toRowW.claim) hsame hwi hi L; ⟨z.1, z.2.1, z.2.2, fun q => ⟨namesKept_of hT' hg _ keeps g.2.1.old, noTable hwr q⟩⟩⟩
  · exact have z := g.laid (c := r.toRowW.claim) hsame hwi hi L; ⟨z.1, z.2.1, z.2.2, fun q => ⟨namesKept_of hT' hg _ keeps g.2.1.old, noTable hwr q⟩⟩
end Mine
namespace Mine
def Halt (P : Prop) : Prop := P
theorem Halt.of {P : Prop} (h : Halt P) : P := h
theorem Halt.on {P : Prop} (h : P) : Halt P := h
/-- a slice of a list by two places -/
def cut (l : List UInt8) (lo hi : Nat) : List UInt8 := (l.drop lo).take (hi - lo)
section
variable {prog : Program} {w : World} {A : Around} {E : Value → Shared → Prop} {s : Shared} {h₀ : Heap} {L : Addr} {m : Str → Option Value} {news : List (Addr × Obj)}
theorem addB {b c : List UInt8} {t u : Tok} {Q : Value → Shared → Prop} (hsz : b.length + c.length ≤ 16777216) (h : ∀ t' k, Q (.bytes (b ++ c).toArray t') { s with toks := k }) :
    wpAny (model prog w) A (binaryOp .Add (.bytes b.toArray t) (.bytes c.toArray u)) Q E s := by
  refine KBy.add_bytes (by simpa using hsz) fun t' k => ?_
  rw [List.append_toArray]
  exact h t' k
theorem lenB {b : List UInt8} {t : Tok} {Q : Value → Shared → Prop} (hsz : b.length ≤ 16777216) (h : Q (.int b.length (s.toks + 1)) { s with toks := s.toks + 1 + 1 }) : wpAny (model prog w) A (call (.builtin "len") [.bytes b.toArray t]) Q E s := by
  refine len_bytes (by simp; omega) ?_
  simpa using h
theorem mulA {n : Int} {t u : Tok} {Q : Value → Shared → Prop} (hlo : -1048576 ≤ n) (hn : n ≤ 1048576) (h : ∀ t' k, Q (.bytes (List.replicate n.toNat 65).toArray t') { s with toks := k }) :
    wpAny (model prog w) A (binaryOp .Mult (.bytes #[65] t) (.int n u)) Q E s := by
  refine bytes_mul_any (b := [65]) (by decide) hlo hn (by decide) fun t' k => ?_
  have e : (List.replicate n.toNat [(65 : UInt8)]).flatten = List.replicate n.toNat 65 := by
    generalize n.toNat = j
    induction j with
    | zero => rfl
    | succ j ih => rw [List.replicate_succ, List.flatten_cons, ih, List.replicate_succ]; rfl
  rw [e]
  exact h t' k
theorem cut_clip (l : List UInt8) (lo hi : Nat) : (l.drop (min lo l.length)).take (min hi l.length - min lo l.length) = cut l lo hi := by
  unfold cut
  rcases Nat.le_total lo l.length with h1 | h1
  · rw [Nat.min_eq_left h1]
    rcases Nat.le_total hi l.length with h2 | h2
    · rw [Nat.min_eq_left h2]
    · rw [Nat.min_eq_right h2]
      have e1 : (l.drop lo).length = l.length - lo := List.length_drop
      rw [List.take_of_length_le (by omega), List.take_of_length_le (by omega)]
  · rw [Nat.min_eq_right h1, List.drop_of_length_le (Nat.le_refl _), List.drop_of_length_le h1]
    simp
theorem picked_cut (l : List UInt8) {lo hi : Int} (h0 : 0 ≤ lo) (h1 : 0 ≤ hi) : KBy.picked l.toArray (some lo) (some hi) = (cut l lo.toNat hi.toNat).toArray := by
  rw [KBc.picked_eq]
  have e : ∀ k : Int, 0 ≤ k → clipAt l.toArray.size k = min k.toNat l.length := by
    intro k hk
    have h2 := clipAt_nat l.toArray.size k.toNat
    rw [Int.toNat_of_nonneg hk] at h2
    rw [h2, List.size_toArray]
  simp only [Option.elim, e lo h0, e hi h1]
  rw [cut_clip]
theorem picked_cut0 (l : List UInt8) {hi : Int} (h1 : 0 ≤ hi) : KBy.picked l.toArray none (some hi) = (cut l 0 hi.toNat).toArray := by
  rw [KBc.picked_eq]
  have h2 := clipAt_nat l.toArray.size hi.toNat
  rw [Int.toNat_of_nonneg h1, List.size_toArray] at h2
  simp only [Option.elim, List.size_toArray, h2]
  have := cut_clip l 0 hi.toNat
  rw [Nat.zero_min] at this
  rw [this]
theorem sliceB {value slice : PySem.Expr} {b : List UInt8} {t tl tu : Tok} {lo hi : Int} {Q : Value → Shared → Prop} (hF : Fr h₀ L s.heap m) (hN : News h₀ L s.heap news) (h0 : 0 ≤ lo) (h1 : 0 ≤ hi) (hz : b.length ≤ 16777216)
    (h : ∀ h' t' k, Fr h₀ L h' m → News h₀ L h' news → Q (.bytes (cut b lo.toNat hi.toNat).toArray t') { s with heap := h', toks := k })
    (hs : subscripted slice false (.bytes b.toArray t) (.ref s.heap.objs.size) = operate [.ref s.heap.objs.size, .bytes b.toArray t] (getItem (.bytes b.toArray t) (.ref s.heap.objs.size)) := by with_unfolding_all rfl)
    (ht : ∀ r, letTemporaryGo value (.bytes b.toArray t) r = pure () := by intro _; with_unfolding_all rfl) :
    wpAny (model prog w) A (subscriptTail value slice (.bytes b.toArray t) (.ref s.heap.objs.size)) Q E { s with heap := s.heap.push { cls := .type "slice", data := .fields #[.int lo tl, .int hi tu, .none] } } := by
  refine KBc.slice_K (l := .int lo tl) (u := .int hi tu) hF hN rfl (by constructor) (by constructor) (by rw [KBw.ints_length]; simpa using hz) (fun h' t' k F' N' _ => ?_) hs ht
  rw [picked_cut b h0 h1]
  exact h h' t' k F' N'
theorem sliceB0 {value slice : PySem.Expr} {b : List UInt8} {t tu : Tok} {hi : Int} {Q : Value → Shared → Prop} (hF : Fr h₀ L s.heap m) (hN : News h₀ L s.heap news) (h1 : 0 ≤ hi) (hz : b.length ≤ 16777216)
    (h : ∀ h' t' k, Fr h₀ L h' m → News h₀ L h' news → Q (.bytes (cut b 0 hi.toNat).toArray t') { s with heap := h', toks := k })
    (hs : subscripted slice false (.bytes b.toArray t) (.ref s.heap.objs.size) = operate [.ref s.heap.objs.size, .bytes b.toArray t] (getItem (.bytes b.toArray t) (.ref s.heap.objs.size)) := by with_unfolding_all rfl)
    (ht : ∀ r, letTemporaryGo value (.bytes b.toArray t) r = pure () := by intro _; with_unfolding_all rfl) :
    wpAny (model prog w) A (subscriptTail value slice (.bytes b.toArray t) (.ref s.heap.objs.size)) Q E { s with heap := s.heap.push { cls := .type "slice", data := .fields #[.none, .int hi tu, .none] } } := by
  refine KBc.slice_K (l := .none) (u := .int hi tu) hF hN rfl (by constructor) (by constructor) (by rw [KBw.ints_length]; simpa using hz) (fun h' t' k F' N' _ => ?_) hs ht
  rw [picked_cut0 b h1]
  exact h h' t' k F' N'
end
/-- the word of a number in the letters A to P -/
def apW (n : Nat) : List UInt8 := if n = 0 then [] else apW (n / 16) ++ [UInt8.ofNat (65 + n % 16)]
theorem apW_zero : apW 0 = [] := by unfold apW; simp
theorem apW_pos {n : Nat} (h : n ≠ 0) : apW n = apW (n / 16) ++ [UInt8.ofNat (65 + n % 16)] := by rw [apW]; simp [h]
end Mine
namespace Mine
section
variable {prog : Program} {w : World} {A : Around} {E : Value → Shared → Prop} {s : Shared} {env : Env} {h₀ : Heap} {x : Str} {body : List Stmt} {Q : Flow → Shared → Prop}
/-- a loop over a range of any step, by what holds of its state -/
theorem kst_step {σ : Type} {r : Addr} {a₀ b₀ d₀ : Int} {t₀ u₀ v₀ : Tok} {n : Nat} {m₀ : Str → Option Value} (Led : σ → List (Addr × Obj)) (ps : σ → List (Str × Value)) (Facts : σ → Prop) (stored : List Str) (P : List Int → σ → Prop) (c₀ : σ)
    (hh : A.handled = none) (hr : IsRange s.heap r a₀ b₀ d₀ t₀ u₀ v₀) (hsmall : Builtin.Range.small a₀ b₀ d₀ = true) (hn : Builtin.Range.rangeSize a₀ b₀ d₀ = (n : Int)) (F : Fr h₀ env.locals s.heap m₀) (N : News h₀ env.locals s.heap (Led c₀)) (hf : Facts c₀) (hk : ∀ p ∈ ps c₀, m₀ p.1 = some p.2) (hp : P [] c₀)
    (turn : ∀ (c : σ) (pre : List Int) (k : Int) t (u : Str → Option Value) h tk own, k = a₀ + (pre.length : Int) * d₀ → pre.length < n → OwnOff own ((Led c₀).map (·.1)) → Facts c → P pre c →
      Fr h₀ env.locals h (fun y => if y = x then some (.int k t) else kstB (fun z => if stored.contains z then u z else m₀ z) (ps c) y) → News h₀ env.locals h (Led c ++ own) →
      wpAny (model prog w) A (execs body env) (InvPostN h₀ env.locals (KstS Led ps Facts x stored m₀ P (pre ++ [k])) own ((Led c₀).map (·.1)) { s with heap := h, toks := tk } Q) E { s with heap := h, toks := tk })
    (done : ∀ (c : σ) (u : Str → Option Value) h tk, Facts c → P (rangeInts a₀ d₀ n) c → Fr h₀ env.locals h (fun y => if y = x then u y else kstB (fun z => if stored.contains z then u z else m₀ z) (ps c) y) → News h₀ env.locals h (Led c) → Q .next { s with heap := h, toks := tk }) :
    wpAny (model prog w) A (pyIter (.ref r)) (fun it s₂ => LoopAtV prog w A h₀ env x body Q E it s₂) E s := by
  refine wpAny_pyIter_range hr hsmall ?_
  have W : Walks prog w A s.heap.objs.size [s.heap.objs.size] [s.heap.objs.size] n (fun i v => i < n ∧ ∃ t, v = .int (a₀ + i * d₀) t)
      (fun i h => IsRangeIter h s.heap.objs.size (a₀ + (i : Nat) * d₀) ((n : Int) - (i : Nat)) d₀) := (Walks.range hh _ a₀ d₀ n).bound
  refine loop_invN (fun i m nx => KstS Led ps Facts x stored m₀ P ((rangeInts a₀ d₀ n).take i) m nx) W ?_ ?_ ?_ ?_ (by show IsRangeIter _ _ _ _ _; rw [hn]; simpa using Heap.get?_push_size _ rfl) (F.push _) (fun p hp => ⟨Heap.get?_push_of_some _ (N p hp).1, (N p hp).2⟩) ⟨c₀, rfl, hf, hk, fun _ _ _ _ => rfl, by simpa using hp⟩ ?_ ?_
  · intro hm
    exact absurd F.ns.lt ((List.mem_singleton.mp hm) ▸ Nat.lt_irrefl _)
  · intro b hb
    rw [List.mem_singleton.mp hb]
    exact next_is_new F
  · intro p hp hI
    exact absurd (Heap.lt_size (N p hp).1) ((List.mem_singleton.mp hI) ▸ Nat.lt_irrefl _)
  · intro p hp hI
    exact absurd (Heap.lt_size (N p hp).1) ((List.mem_singleton.mp hI) ▸ Nat.lt_irrefl _)
  · rintro i v m₁ nx h tk own hi ⟨_, t, rfl⟩ _ hoff ⟨c, rfl, hf', h1, h2, hp'⟩ F₁ N₁
    have hs : (rangeInts a₀ d₀ n).take (i + 1) = (rangeInts a₀ d₀ n).take i ++ [a₀ + (i : Int) * d₀] := by simp [List.take_add_one, rangeInts_get hi]
    have hlen : ((rangeInts a₀ d₀ n).take i).length = i := by rw [List.length_take, rangeInts_length]; omega
    rw [hs]
    exact turn c _ _ t m₁ h tk own (by rw [hlen]) (by rw [hlen]; exact hi) hoff hf' hp' (kst_fr h1 h2 F₁) N₁
  · rintro m₁ nx h tk ⟨c, rfl, hf', h1, h2, hp'⟩ F₁ N₁
    have hl : (rangeInts a₀ d₀ n).take n = rangeInts a₀ d₀ n := List.take_of_length_le (Nat.le_of_eq (rangeInts_length _ _ _))
    rw [hl] at hp'
    exact done c m₁ h tk hf' hp' (kst_frOut h1 h2 F₁) N₁
end
/-- each group of wd letters turned about, k groups -/
def swapN (wd : Nat) : Nat → List UInt8 → List UInt8
  | 0, _ => []
  | k + 1, d => (d.take wd).reverse ++ swapN wd k (d.drop wd)
/-- the bytearray within the turn p of the outer loop, q turns of the inner one done -/
def midA (wd k p q : Nat) (d : List UInt8) : List UInt8 :=
  swapN wd p d ++ (List.replicate (wd - q) 0 ++ ((d.drop (p * wd)).take q).reverse) ++ List.replicate ((k - p - 1) * wd) 0
theorem swapN_length {wd : Nat} : ∀ {p : Nat} {d : List UInt8}, p * wd ≤ d.length → (swapN wd p d).length = p * wd
  | 0, _, _ => by simp [swapN]
  | p + 1, d, h => by
    rw [Nat.succ_mul] at h
    have h1 : wd ≤ d.length := by omega
    rw [swapN, List.length_append, List.length_reverse, List.length_take, Nat.min_eq_left h1, swapN_length (by rw [List.length_drop]; omega), Nat.succ_mul]
    omega
theorem swapN_succ {wd : Nat} : ∀ {p : Nat} {d : List UInt8}, swapN wd (p + 1) d = swapN wd p d ++ ((d.drop (p * wd)).take wd).reverse
  | 0, d => by simp [swapN]
  | p + 1, d => by
    rw [swapN, swapN_succ, swapN, List.append_assoc, List.drop_drop, Nat.succ_mul, Nat.add_comm wd]
theorem set_mid (P X S : List UInt8) (r : Nat) (v : UInt8) : (P ++ (List.replicate (r + 1) 0 ++ X) ++ S).set (P.length + r) v = P ++ (List.replicate r 0 ++ (v :: X)) ++ S := by
  have e : List.replicate (r + 1) (0 : UInt8) = List.replicate r 0 ++ [0] := List.replicate_succ'
  rw [e]
  simp only [List.append_assoc]
  rw [List.set_append_right _ _ (by omega), Nat.add_sub_cancel_left, List.set_append_right _ _ (by simp)]
  simp
theorem midA_start {wd k p : Nat} {d : List UInt8} (hp : p < k) : swapN wd p d ++ List.replicate ((k - p) * wd) 0 = midA wd k p 0 d := by
  unfold midA
  have e : (k - p) * wd = wd + (k - p - 1) * wd := by
    obtain ⟨j, hj⟩ : ∃ j, k - p = j + 1 := ⟨k - p - 1, by omega⟩
    rw [hj, Nat.succ_mul, Nat.add_sub_cancel]; omega
  rw [e, List.take_zero, List.reverse_nil, List.append_nil, Nat.sub_zero, List.append_assoc, List.replicate_append_replicate]
theorem midA_end {wd k p : Nat} {d : List UInt8} : midA wd k p wd d = swapN wd (p + 1) d ++ List.replicate ((k - (p + 1)) * wd) 0 := by
  unfold midA
  rw [Nat.sub_self, List.replicate_zero, List.nil_append, swapN_succ]
  rfl
theorem midA_step {wd k p q : Nat} {d : List UInt8} (hq : q < wd) (hp : p < k) (hd : d.length = k * wd) :
    (midA wd k p q d).set (p * wd + (wd - 1 - q)) (d.getD (p * wd + q) 0) = midA wd k p (q + 1) d := by
  have hle : p * wd + wd ≤ d.length := by
    rw [hd, ← Nat.succ_mul]; exact Nat.mul_le_mul_right _ hp
  unfold midA
  have e : wd - q = (wd - 1 - q) + 1 := by omega
  have hl : (swapN wd p d).length = p * wd := swapN_length (by omega)
  rw [e, ← hl, set_mid, hl]
  have e2 : wd - (q + 1) = wd - 1 - q := by omega
  have e3 : (d.drop (p * wd)).take (q + 1) = (d.drop (p * wd)).take q ++ [d.getD (p * wd + q) 0] := by
    rw [List.take_add_one, List.getElem?_drop, List.getD_eq_getElem?_getD, List.getElem?_eq_getElem (by omega)]
    rfl
  rw [e2, e3, List.reverse_append]
  rfl
theorem midA_length {wd k p q : Nat} {d : List UInt8} (hq : q ≤ wd) (hp : p < k) (hd : d.length = k * wd) : (midA wd k p q d).length = k * wd := by
  have hle : p * wd + wd ≤ d.length := by
    rw [hd, ← Nat.succ_mul]; exact Nat.mul_le_mul_right _ hp
  have hl : (swapN wd p d).length = p * wd := swapN_length (by omega)
  unfold midA
  simp only [List.length_append, List.length_replicate, List.length_reverse, List.length_take, List.length_drop, hl]
  have e : k * wd = p * wd + wd + (k - p - 1) * wd := by
    obtain ⟨j, rfl⟩ : ∃ j, k = p + 1 + j := ⟨k - p - 1, by omega⟩
    rw [show p + 1 + j - p - 1 = j by omega, Nat.add_mul, Nat.add_mul, Nat.one_mul]
  omega
end Mine
namespace Mine
/-- what a call of the def at f hands back, whatever the ledger -/
abbrev Said (prog : Program) (w : World) (K : Frag) (p : Program) (loose : List Str) (mean : ExcName → Option Value) (mg mb : Str → Option Value) (f : Addr) (k : Nat) (news : List (Addr × Obj)) (pre : Prop) (vs : List Value) (R : Tok → Value) : Prop :=
  ∀ (dp un : Nat) (gd : Option (List Code)) (cn : Str) (cs : Scope) (a : Addr) (ccd : Value) (cl : List (Str × Addr)) (outer : List Env) (A₀ : Around) (base h₀ : Heap) (L : Addr) (m : Str → Option Value) (s : Shared) (Q E : Value → Shared → Prop),
    Below A₀ base outer h₀ → Fr h₀ L s.heap m → K.In h₀ → News h₀ L s.heap news → Top p loose mean mg mb h₀ → cs.kind = .function → pre → dp + k < recursionLimit → un + 8 * k < cLine →
    (∀ (t : Tok) (h' : Heap) (tk' : Nat), Fr h₀ L h' m → News h₀ L h' news → Q (R t) { s with heap := h', toks := tk' }) →
      wpAny (model prog w) (ktrTop dp un gd cn cs L a ccd cl outer) (call (.ref f) vs) Q E s
/-- the same in the tidy logic -/
abbrev SaidC (prog : Program) (w : World) (K : Frag) (p : Program) (loose : List Str) (mean : ExcName → Option Value) (mg mb : Str → Option Value) (f : Addr) (k : Nat) (news : List (Addr × Obj)) (pre : Prop) (vs : List Value) (R : Tok → Value) : Prop :=
  ∀ (dp un : Nat) (cn : Str) (cs : Scope) (a : Addr) (ccd : Value) (cl : List (Str × Addr)) (outer : List Env) (A₀ : Around) (base h₀ : Heap) (L : Addr) (m : Str → Option Value) (s : Shared) (Q E : Value → Shared → Prop),
    Below A₀ base outer h₀ → Fr h₀ L s.heap m → K.In h₀ → News h₀ L s.heap news → Top p loose mean mg mb h₀ → cs.kind = .function → pre → dp + k < recursionLimit → un + 8 * k < cLine →
    (∀ (t : Tok) (h' : Heap) (tk' : Nat), Fr h₀ L h' m → News h₀ L h' news → Q (R t) { s with heap := h', toks := tk' }) →
      wpC (model prog w) (ktrTop dp un (some []) cn cs L a ccd cl outer) (call (.ref f) vs) Q E s
section
variable {prog : Program} {w : World} {K : Frag} {p : Program} {loose : List Str} {mean : ExcName → Option Value} {mg mb : Str → Option Value} {f : Addr} {k : Nat} {news : List (Addr × Obj)} {pre : Prop} {vs : List Value} {R : Tok → Value}
  {dp un : Nat} {gd : Option (List Code)} {cn : Str} {cs : Scope} {a : Addr} {ccd : Value} {cl : List (Str × Addr)} {outer : List Env} {A₀ : Around} {base h₀ : Heap} {L : Addr} {m : Str → Option Value} {s : Shared} {Q E : Value → Shared → Prop}
theorem said_use (C : Said prog w K p loose mean mg mb f k news pre vs R) (B : Below A₀ base outer h₀) (F : Fr h₀ L s.heap m) (X : K.In h₀) (N : News h₀ L s.heap news) (T : Top p loose mean mg mb h₀) (hk : cs.kind = .function) (hp : pre) (hd : dp + k < recursionLimit) (hu : un + 8 * k < cLine)
    (ret : ∀ (t : Tok) (h' : Heap) (tk' : Nat), Fr h₀ L h' m → News h₀ L h' news → Q (R t) { s with heap := h', toks := tk' }) :
    wpAny (model prog w) (ktrTop dp un gd cn cs L a ccd cl outer) (call (.ref f) vs) Q E s := C _ _ _ _ _ _ _ _ _ _ _ _ _ _ _ _ _ B F X N T hk hp hd hu ret
theorem saidC_use (C : SaidC prog w K p loose mean mg mb f k news pre vs R) (B : Below A₀ base outer h₀) (F : Fr h₀ L s.heap m) (X : K.In h₀) (N : News h₀ L s.heap news) (T : Top p loose mean mg mb h₀) (hk : cs.kind = .function) (hp : pre) (hd : dp + k < recursionLimit) (hu : un + 8 * k < cLine)
    (ret : ∀ (t : Tok) (h' : Heap) (tk' : Nat), Fr h₀ L h' m → News h₀ L h' news → Q (R t) { s with heap := h', toks := tk' }) :
    wpC (model prog w) (ktrTop dp un (some []) cn cs L a ccd cl outer) (call (.ref f) vs) Q E s := C _ _ _ _ _ _ _ _ _ _ _ _ _ _ _ _ B F X N T hk hp hd hu ret
end
theorem range_size {k wd : Nat} (hw : 0 < wd) : Builtin.Range.rangeSize 0 ((k * wd : Nat) : Int) (wd : Int) = (k : Int) := by
  unfold Builtin.Range.rangeSize
  rw [if_pos (by omega)]
  rcases Nat.eq_zero_or_pos k with rfl | hk
  · simp
  · have h1 : 0 < k * wd := Nat.mul_pos hk hw
    rw [if_pos (by omega)]
    obtain ⟨j, rfl⟩ : ∃ j, k = j + 1 := ⟨k - 1, by omega⟩
    have e : (((j + 1) * wd : Nat) : Int) - 0 - 1 = ((j * wd + (wd - 1) : Nat) : Int) := by
      rw [Nat.succ_mul]; omega
    rw [e, ← Int.natCast_ediv]
    have e2 : (j * wd + (wd - 1)) / wd = j := by
      rw [Nat.mul_comm, Nat.mul_add_div hw, Nat.div_eq_of_lt (by omega)]; omega
    rw [e2]; rfl
theorem range_small {b : Nat} {k wd : Nat} (hb : (b : Int) = (k : Int) * wd) (hw : 0 < wd) (hw' : wd ≤ 1000) (hb' : b ≤ 1000) : Builtin.Range.small 0 (b : Int) (wd : Int) = true := by
  have hb2 : b = k * wd := by
    have := hb
    rw [← Int.natCast_mul] at this
    exact Int.ofNat.inj this
  have hs : Builtin.Range.rangeSize 0 (b : Int) (wd : Int) = (k : Int) := by rw [hb2]; exact range_size hw
  have hk : k ≤ b := by rw [hb2]; exact Nat.le_mul_of_pos_right _ hw
  unfold Builtin.Range.small
  rw [hs, if_pos (by omega)]
  simp only [Builtin.Range.rangeFitsLong, Bool.and_eq_true, Bool.or_eq_true, decide_eq_true_eq, beq_iff_eq]
  omega
theorem range1_size {wd : Nat} : Builtin.Range.rangeSize 0 (wd : Int) 1 = (wd : Int) := by
  have := range_size (k := wd) (wd := 1) (by decide)
  rwa [Nat.mul_one] at this
theorem range1_small {wd : Nat} (hw' : wd ≤ 1000) : Builtin.Range.small 0 (wd : Int) 1 = true :=
  range_small (b := wd) (k := wd) (wd := 1) (by omega) (by decide) (by decide) hw'
theorem cut_ap : ∀ k, k < 16 → cut [65, 66, 67, 68, 69, 70, 71, 72, 73, 74, 75, 76, 77, 78, 79, 80] k (k + 1) = [UInt8.ofNat (65 + k)] := by decide
theorem apW_step {num : Nat} {val l : List UInt8} (h : num ≠ 0) (e : apW num ++ val = l) : apW (num / 16) ++ ([UInt8.ofNat (65 + num % 16)] ++ val) = l := by
  rw [← e, apW_pos h, List.append_assoc]
end Mine
namespace Mine
/-- the ledger lies below an address -/
structure Low (news : List (Addr × Obj)) (L : Addr) : Prop where
  all : ∀ p ∈ news, p.1 < L
section
variable {prog : Program} {w : World} {A : Around} {E : Value → Shared → Prop} {s : Shared} {t u : Tok} {Q : Value → Shared → Prop} {a b c k n : Nat}
theorem addNN (h : Q (.int ((a + b : Nat) : Int) s.toks) { s with toks := s.toks + 1 }) : wpAny (model prog w) A (binaryOp .Add (.int (a : Int) t) (.int (b : Int) u)) Q E s := add_int h
theorem addNL (h : Q (.int ((a + k : Nat) : Int) s.toks) { s with toks := s.toks + 1 }) : wpAny (model prog w) A (binaryOp .Add (.int (a : Int) t) (.int (@OfNat.ofNat Int k instOfNat) u)) Q E s := add_int h
theorem addLN (h : Q (.int ((k + a : Nat) : Int) s.toks) { s with toks := s.toks + 1 }) : wpAny (model prog w) A (binaryOp .Add (.int (@OfNat.ofNat Int k instOfNat) u) (.int (a : Int) t)) Q E s := add_int h
theorem bits64 (hb : b < 2 ^ 64) : Builtin.Int.intBits (b : Int) ≤ 64 := intBits_le (by simpa using hb)
theorem mulNN (hb : b < 2 ^ 64) (h : Q (.int ((a * b : Nat) : Int) s.toks) { s with toks := s.toks + 1 }) : wpAny (model prog w) A (binaryOp .Mult (.int (a : Int) t) (.int (b : Int) u)) Q E s :=
  mul_int h (IntMulOk.of_right (bits64 hb))
theorem mulNL (hb : k < 2 ^ 64) (h : Q (.int ((a * k : Nat) : Int) s.toks) { s with toks := s.toks + 1 }) : wpAny (model prog w) A (binaryOp .Mult (.int (a : Int) t) (.int (@OfNat.ofNat Int k instOfNat) u)) Q E s :=
  mul_int h (IntMulOk.of_right (bits64 hb))
theorem mulLN (hb : k < 2 ^ 64) (h : Q (.int ((k * a : Nat) : Int) s.toks) { s with toks := s.toks + 1 }) : wpAny (model prog w) A (binaryOp .Mult (.int (@OfNat.ofNat Int k instOfNat) u) (.int (a : Int) t)) Q E s :=
  mul_int h (IntMulOk.of_left (bits64 hb))
theorem noPy {x : Int} (hb : b < 2 ^ 9000) : Builtin.divisionGoesByPylong x (b : Int) = false := by
  refine PyProof.noPylong_of_log2 ?_
  rw [Int.natAbs_natCast]
  by_cases h0 : b = 0
  · subst h0; decide
  · exact (Nat.log2_lt h0).mpr hb
theorem pow_lt_big (hc : c ≤ 16) (hn : n ≤ 1000) : c ^ n < 2 ^ 9000 := by
  have h1 : c ^ n ≤ 16 ^ n := Nat.pow_le_pow_left hc n
  have h2 : (16 : Nat) ^ n ≤ 16 ^ 1000 := Nat.pow_le_pow_right (by decide) hn
  have h3 : (16 : Nat) ^ 1000 = 2 ^ 4000 := by rw [show (16 : Nat) = 2 ^ 4 by decide, ← Nat.pow_mul]
  have h4 : (2 : Nat) ^ 4000 < 2 ^ 9000 := Nat.pow_lt_pow_right (by decide) (by decide)
  omega
theorem fdivNN (hb : 0 < b) (hl : b < 2 ^ 9000) (h : Q (.int ((a / b : Nat) : Int) s.toks) { s with toks := s.toks + 1 }) : wpAny (model prog w) A (binaryOp .FloorDiv (.int (a : Int) t) (.int (b : Int) u)) Q E s := by
  refine floordiv_int (by omega) ?_ (Or.inl (noPy hl))
  rw [Int.fdiv_eq_ediv_of_nonneg _ (by omega)]
  exact h
theorem fdivP (hc : 0 < c) (hc' : c ≤ 16) (hn : n ≤ 1000) (h : Q (.int ((a / c ^ n : Nat) : Int) s.toks) { s with toks := s.toks + 1 }) : wpAny (model prog w) A (binaryOp .FloorDiv (.int (a : Int) t) (.int ((c ^ n : Nat) : Int) u)) Q E s :=
  fdivNN (Nat.pow_pos hc) (pow_lt_big hc' hn) h
theorem two64_lt {k : Nat} (h : k < 2 ^ 64) : k < 2 ^ 9000 := Nat.lt_trans h (Nat.pow_lt_pow_right (by decide) (by decide))
theorem fdivNL (hb : 0 < k) (hl : k < 2 ^ 64) (h : Q (.int ((a / k : Nat) : Int) s.toks) { s with toks := s.toks + 1 }) : wpAny (model prog w) A (binaryOp .FloorDiv (.int (a : Int) t) (.int (@OfNat.ofNat Int k instOfNat) u)) Q E s :=
  fdivNN hb (two64_lt hl) h
theorem modNN (hb : 0 < b) (h : Q (.int ((a % b : Nat) : Int) s.toks) { s with toks := s.toks + 1 }) : wpAny (model prog w) A (binaryOp .Mod (.int (a : Int) t) (.int (b : Int) u)) Q E s := by
  refine mod_int (by omega) ?_
  rw [Int.fmod_eq_emod_of_nonneg _ (by omega)]
  exact h
theorem modP (hc : 0 < c) (h : Q (.int ((a % c ^ n : Nat) : Int) s.toks) { s with toks := s.toks + 1 }) : wpAny (model prog w) A (binaryOp .Mod (.int (a : Int) t) (.int ((c ^ n : Nat) : Int) u)) Q E s := modNN (Nat.pow_pos hc) h
theorem modNL (hb : 0 < k) (h : Q (.int ((a % k : Nat) : Int) s.toks) { s with toks := s.toks + 1 }) : wpAny (model prog w) A (binaryOp .Mod (.int (a : Int) t) (.int (@OfNat.ofNat Int k instOfNat) u)) Q E s := modNN hb h
theorem powLN (hk : k < 2 ^ 64) (hn : n ≤ 1000000) (h : Q (.int ((k ^ n : Nat) : Int) s.toks) { s with toks := s.toks + 1 }) : wpAny (model prog w) A (binaryOp .Pow (.int (@OfNat.ofNat Int k instOfNat) t) (.int (n : Int) u)) Q E s := by
  refine pow_int_small (Int.natCast_nonneg _) (by omega) (by show (k : Int).natAbs < 2 ^ 64; rw [Int.natAbs_natCast]; exact hk) ?_
  rw [Int.toNat_natCast]
  have e : (@OfNat.ofNat Int k instOfNat) ^ n = ((k ^ n : Nat) : Int) := by
    show (k : Int) ^ n = _
    rw [Int.natCast_pow]
  rw [e]
  exact h
end
end Mine
namespace Mine
section
variable {prog : Program} {w : World} {A : Around} {E : Value → Shared → Prop} {s : Shared} {h₀ : Heap} {L : Addr} {m : Str → Option Value} {env : Env} {news : List (Addr × Obj)}
theorem maxNN {a b : Nat} {t u : Tok} {Q : Value → Shared → Prop} (hh : A.handled = none) (F : Fr h₀ L s.heap m) (N : News h₀ L s.heap news)
    (h : ∀ t' h' tk, Fr h₀ L h' m → News h₀ L h' news → Q (.int ((max a b : Nat) : Int) t') { s with heap := h', toks := tk }) :
    wpAny (model prog w) A (call (.builtin "max") [.int (a : Int) t, .int (b : Int) u]) Q E s := by
  refine max_two_N hh F N fun h' tk F' N' => ?_
  have e : (if (b : Int) > (a : Int) then (b : Int) else (a : Int)) = ((max a b : Nat) : Int) := by split <;> omega
  rw [e]
  exact h _ h' tk F' N'
theorem minNN {a b : Nat} {t u : Tok} {Q : Value → Shared → Prop} (hh : A.handled = none) (F : Fr h₀ L s.heap m) (N : News h₀ L s.heap news)
    (h : ∀ t' h' tk, Fr h₀ L h' m → News h₀ L h' news → Q (.int ((min a b : Nat) : Int) t') { s with heap := h', toks := tk }) :
    wpAny (model prog w) A (call (.builtin "min") [.int (a : Int) t, .int (b : Int) u]) Q E s := by
  refine min_two_N hh F N fun h' tk F' N' => ?_
  have e : (if (b : Int) < (a : Int) then (b : Int) else (a : Int)) = ((min a b : Nat) : Int) := by split <;> omega
  rw [e]
  exact h _ h' tk F' N'
/-- what is asked of the source of a comprehension: a range of any step -/
def CompD (prog : Program) (w : World) (A : Around) (h₀ : Heap) (L : Addr) (m : Str → Option Value) (env : Env) (elt : PySem.Expr) (x : Str) (scope : Scope) (cl : List (Str × Addr)) (Q : Value → Shared → Prop) (xv : Value) (s₁ : Shared) : Prop :=
  ∃ r a b d t u v n news, xv = .ref r ∧ A.handled = none ∧ Fr h₀ L s₁.heap m ∧ News h₀ L s₁.heap news ∧ IsRange s₁.heap r a b d t u v ∧ Builtin.Range.small a b d = true ∧ Builtin.Range.rangeSize a b d = ((n : Nat) : Int) ∧ n ≤ sizeLine ∧
    ∀ g : Heap, LCg.CompRest prog w A h₀ L m env elt x scope cl { s₁ with heap := g } (fun _ => True) (fun i v => i < n ∧ ∃ t, v = .int (a + (i : Int) * d) t) (LCg.FinE h₀ L m { s₁ with heap := g } Q) n 0 [] news
theorem CompD.of {elt : PySem.Expr} {x : Str} {scope : Scope} {cl : List (Str × Addr)} {Q : Value → Shared → Prop} {r : Addr} {a b d : Int} {t u v : Tok} {n : Nat} {s₁ : Shared}
    (hh : A.handled = none) (F : Fr h₀ L s₁.heap m) (N : News h₀ L s₁.heap news) (hr : IsRange s₁.heap r a b d t u v) (hsm : Builtin.Range.small a b d = true) (hn : Builtin.Range.rangeSize a b d = ((n : Nat) : Int)) (hsz : n ≤ sizeLine)
    (h : ∀ g : Heap, LCg.CompRest prog w A h₀ L m env elt x scope cl { s₁ with heap := g } (fun _ => True) (fun i v => i < n ∧ ∃ t, v = .int (a + (i : Int) * d) t) (LCg.FinE h₀ L m { s₁ with heap := g } Q) n 0 [] news) :
    CompD prog w A h₀ L m env elt x scope cl Q (.ref r) s₁ := ⟨r, a, b, d, t, u, v, n, news, rfl, hh, F, N, hr, hsm, hn, hsz, h⟩
theorem iter_st {I : Addr} {a d : Int} {n : Nat} : ∀ i (h h' : Heap) (o : Obj) (nw : List (Addr × Obj)), IsRangeIter h I (a + (i : Nat) * d) ((n : Int) - (i : Nat)) d → h.get? I = some o → h'.get? I = some o → (∀ b o, h₀.get? b = some o → h'.get? b = some o) → News h₀ L h' nw → True → IsRangeIter h' I (a + (i : Nat) * d) ((n : Int) - (i : Nat)) d :=
  fun i h h' o nw st e e' _ _ _ => by
    have st' : h.get? I = some _ := st
    show h'.get? I = some _
    rw [e', ← e]; exact st'
theorem ListComp_D {elt iter : PySem.Expr} {x : Str} {px : Pos} {scope : Scope} {cl : List (Str × Addr)} {pos : Pos} {Q : Value → Shared → Prop} (F₀ : Fr h₀ L s.heap m)
    (hclos : closureFor scope env = pure cl) (hcell : ∀ y ∈ scope.names, y.2 ≠ .cell) (hkind : scope.kind = .function)
    (hnames : ∀ y ∈ scope.names, y.2 = .local → scope.names.lookup y.1 = some .local) (hx : scope.names.lookup x = some .local)
    (h : wpAny (model prog w) A (eval iter env) (CompD prog w A h₀ L m env elt x scope cl Q) E s)
    (hs : ∀ x, foldedSetIterable iter env x = pure x := by intro _; rfl) :
    wpAny (model prog w) A (eval (.ListComp elt [⟨.Name x px, iter, [], 0⟩] scope pos) env) Q E s := by
  rw [eval_ListComp]
  refine wpAny_comprehension_free (use := none) rfl hs hclos hkind hnames (wpAny_mono h (fun xv s₁ h₁ => ?_) fun _ _ e => e)
  obtain ⟨r, a, b, d, t, u, v, n, news, rfl, hh, F, N, hr, hsm, hn, hsz, R⟩ := h₁
  refine wpAny_pyIter_range hr hsm ?_
  have W : Walks prog w A s₁.heap.objs.size [s₁.heap.objs.size] [s₁.heap.objs.size] n (fun i v => i < n ∧ ∃ t, v = .int (a + i * d) t)
      (fun i h => IsRangeIter h s₁.heap.objs.size (a + (i : Nat) * d) ((n : Int) - (i : Nat)) d) := (Walks.range hh _ a d n).bound
  refine LCg.block_U W hsz (fun i h st => ⟨_, st⟩) iter_st hcell hkind hx (by show IsRangeIter _ _ _ _ _; rw [hn]; simpa using Heap.get?_push_size _ rfl) (fun b hb => ?_)
    (F.keeps fun _ _ e => Heap.get?_push_of_some _ e) (N.grown fun _ _ e => Heap.get?_push_of_some _ e) (Nat.ne_of_lt F.ns.lt) (next_is_new F) (fun p hp => Nat.ne_of_lt (Heap.lt_size (N p hp).1)) trivial (R _) ?_
  · rw [List.mem_singleton.mp hb]
    show s₁.heap.objs.size < (s₁.heap.push _).objs.size
    rw [Heap.size_push]; exact Nat.lt_succ_self _
  · intro D C h tk m' ys news' F' N' o1 hn hC₀ hD₀ hCL hDL hCD offC fin
    refine ⟨m', hn, fun h'' hs'' => fin D h'' tk (F'.change hs'' hCL hC₀) (fun p hp => ?_) o1⟩
    refine ⟨hs''.extBut _ _ ?_ (N' p hp).1, (N' p hp).2⟩
    rcases List.mem_cons.mp hp with rfl | hp
    · exact Ne.symm hCD
    · exact offC p hp
end
theorem rangeA_size {wd : Nat} (h : 1 ≤ wd) : Builtin.Range.rangeSize 1 (wd : Int) 1 = ((wd - 1 : Nat) : Int) := by
  unfold Builtin.Range.rangeSize
  rw [if_pos (by decide)]
  by_cases h1 : (1 : Int) < wd
  · rw [if_pos h1]; omega
  · rw [if_neg h1]; omega
theorem rangeA_small {wd : Nat} (h : 1 ≤ wd) (h7 : wd ≤ 7) : Builtin.Range.small 1 (wd : Int) 1 = true := by
  unfold Builtin.Range.small
  rw [rangeA_size h, if_pos (by decide)]
  simp only [Builtin.Range.rangeFitsLong, Bool.and_eq_true, Bool.or_eq_true, decide_eq_true_eq, beq_iff_eq]
  omega
theorem rangeD_size {wd : Nat} : Builtin.Range.rangeSize (wd : Int) (-1) (-1) = ((wd + 1 : Nat) : Int) := by
  unfold Builtin.Range.rangeSize
  rw [if_neg (by decide), if_pos (by omega), show (- (-1) : Int) = 1 from rfl, Int.ediv_one]
  omega
theorem rangeD_small {wd : Nat} (h7 : wd ≤ 7) : Builtin.Range.small (wd : Int) (-1) (-1) = true := by
  unfold Builtin.Range.small
  rw [rangeD_size, if_neg (by decide)]
  simp only [Builtin.Range.rangeFitsLong, Bool.and_eq_true, Bool.or_eq_true, decide_eq_true_eq, beq_iff_eq]
  omega
end Mine
namespace Mine
/-- natural numbers as ints -/
def castL (ks : List Nat) : List Int := ks.map fun k => Int.ofNat k
theorem castL_length (ks : List Nat) : (castL ks).length = ks.length := List.length_map ..
theorem castL_append (a b : List Nat) : castL (a ++ b) = castL a ++ castL b := List.map_append ..
theorem castL_get {ks : List Nat} {i : Nat} (h : i < ks.length) : (castL ks)[i]? = some ((ks[i] : Nat) : Int) := by
  unfold castL
  rw [List.getElem?_map, List.getElem?_eq_getElem h]
  rfl
theorem cast_of : ∀ (ns : List Int), (∀ n ∈ ns, 0 ≤ n) → ∃ ks : List Nat, ns = castL ks ∧ ks = ns.map Int.toNat
  | [], _ => ⟨[], rfl, rfl⟩
  | n :: r, h => by
    obtain ⟨ks, e, e'⟩ := cast_of r fun x hx => h x (List.mem_cons_of_mem _ hx)
    have h0 := h n (List.mem_cons_self ..)
    refine ⟨n.toNat :: ks, ?_, by rw [List.map_cons, ← e']⟩
    rw [castL, List.map_cons, e]
    congr 1
    show n = ((n.toNat : Nat) : Int)
    omega
theorem castL_sum : ∀ ks : List Nat, (castL ks).sum = ((ks.sum : Nat) : Int)
  | [] => rfl
  | k :: r => by
    have := castL_sum r
    rw [castL] at this
    rw [castL, List.map_cons, List.sum_cons, this, List.sum_cons]
    rfl
theorem ints_cast {ys : List Value} {ks : List Int} (h : IntsAre ys ks) (h0 : ∀ n ∈ ks, 0 ≤ n) : ∃ ds : List Nat, IntsAre ys (castL ds) ∧ ds = ks.map Int.toNat := by
  obtain ⟨ds, e, e'⟩ := cast_of ks h0
  exact ⟨ds, e ▸ h, e'⟩
theorem fmod_all {f : Int → Int} {d : Int} (hd : 0 < d) (hf : ∀ k, f k = k.fmod d) (xs : List Int) : ∀ n ∈ xs.map f, 0 ≤ n ∧ n < d := by
  intro n hn
  obtain ⟨k, _, rfl⟩ := List.mem_map.mp hn
  rw [hf, Int.fmod_eq_emod_of_nonneg _ (Int.le_of_lt hd)]
  exact ⟨Int.emod_nonneg _ (by omega), Int.emod_lt_of_pos _ hd⟩
theorem ints_replicate (n : Nat) (v : Int) (t : Tok) : IntsAre (List.replicate n (Value.int v t)) (List.replicate n v) := by
  induction n with
  | zero => exact .nil
  | succ n ih => rw [List.replicate_succ, List.replicate_succ]; exact .cons _ _ ih
section
variable {prog : Program} {w : World} {A : Around} {E : Value → Shared → Prop} {s : Shared} {h₀ : Heap} {L : Addr} {m : Str → Option Value} {env : Env} {news : List (Addr × Obj)} {Q : Value → Shared → Prop}
theorem lowN (N : News h₀ L s.heap news) : ∀ p ∈ news, p.1 < s.heap.objs.size := fun p hp => Heap.lt_size (N p hp).1
/-- [v] * n -/
theorem mulL1 {l : Addr} {v : Value} {k n : Nat} {u : Tok} (F : Fr h₀ L s.heap m) (N : News h₀ L s.heap news) (hm : (l, listOf #[v] k) ∈ news) (hn : n ≤ 1000000)
    (h : ∀ D h', Fr h₀ L h' m → News h₀ L h' ((D, listOf (List.replicate n v).toArray 0) :: news) → (∀ p ∈ news, p.1 < D) → Q (.ref D) { s with heap := h' }) :
    wpAny (model prog w) A (binaryOp .Mult (.ref l) (.int (n : Int) u)) Q E s := by
  have e : ∀ (n : Nat) (a : Array Value), List.foldl (fun x1 x2 => x1 ++ x2) a (List.replicate n #[v]) = a ++ (List.replicate n v).toArray := by
    intro n
    induction n with
    | zero => intro a; simp
    | succ n ih => intro a; rw [List.replicate_succ, List.foldl_cons, ih, List.replicate_succ, Array.append_assoc]; congr 1; exact List.append_toArray [v] (List.replicate n v)
  refine mul_list F N (N _ hm).1 (by omega) (by omega) (by rw [Int.toNat_natCast]; show 1 * n ≤ 2 ^ 24; omega) fun h' F' N' => ?_
  refine h _ h' F' ?_ (lowN N)
  rw [show (if (#[v] : Array Value).isEmpty = true then 0 else (n : Int).toNat) = n from by rw [Int.toNat_natCast]; rfl, e, Array.empty_append] at N'
  exact N'
theorem lenL {l : Addr} {us : List Value} {k : Nat} (N : News h₀ L s.heap news) (hm : (l, listOf us.toArray k) ∈ news) (hn : us.length ≤ 1000000) (h : ∀ t tk, Q (.int (us.length : Int) t) { s with toks := tk }) :
    wpAny (model prog w) A (call (.builtin "len") [.ref l]) Q E s := by
  refine call_len_list (items := us.toArray) (N.isList hm) (by rw [List.size_toArray]; omega) ?_
  rw [List.size_toArray]
  exact h _ _
theorem addL {l b : Addr} {us ws : List Value} {k j : Nat} (F : Fr h₀ L s.heap m) (N : News h₀ L s.heap news) (hl : (l, listOf us.toArray k) ∈ news) (hb : (b, listOf ws.toArray j) ∈ news) (hn : us.length + ws.length ≤ 1000000)
    (h : ∀ D h', Fr h₀ L h' m → News h₀ L h' ((D, listOf (us ++ ws).toArray 0) :: news) → (∀ p ∈ news, p.1 < D) → Q (.ref D) { s with heap := h' }) :
    wpAny (model prog w) A (binaryOp .Add (.ref l) (.ref b)) Q E s :=
  add_lists F N (N.isList hl) (N.isList hb) (fun h' F' N' => h _ h' F' N' (lowN N)) (by rw [sizeLine_eq]; omega)
theorem itemN {value slice : PySem.Expr} {l : Addr} {us : List Value} {ks : List Nat} {k j : Nat} {u : Tok} (N : News h₀ L s.heap news) (hl : (l, listOf us.toArray k) ∈ news) (hi : IntsAre us (castL ks)) (hj : j < ks.length) (hn : ks.length ≤ 1000000)
    (h : ∀ t, Q (.int (((ks[j] : Nat)) : Int) t) s)
    (hs : subscripted slice false (.ref l) (.int (j : Int) u) = operate [.ref l, .int (j : Int) u] (getItem (.ref l) (.int (j : Int) u)) := by with_unfolding_all rfl) (hg : ∀ r, letTemporaryGo value (.ref l) r = pure () := by intro _; with_unfolding_all rfl) :
    wpAny (model prog w) A (subscriptTail value slice (.ref l) (.int (j : Int) u)) Q E s := by
  have hlen : us.length = ks.length := by rw [hi.length, castL_length]
  obtain ⟨x, hx⟩ : ∃ x, us[j]? = some x := ⟨us[j]'(by omega), List.getElem?_eq_getElem (by omega)⟩
  obtain ⟨n, t, rfl, hn'⟩ := IntsAre.at hi j x hx
  rw [castL_get hj] at hn'
  have e : ((ks[j] : Nat) : Int) = n := Option.some.inj hn'
  refine item_list (items := us.toArray) (N.isList hl) (Int.natCast_nonneg _) (by omega) (by rw [Int.toNat_natCast]; simpa using hx) ?_ hs hg
  rw [← e]
  exact h t
end
end Mine
namespace Mine
section
variable {prog : Program} {w : World} {A : Around} {E : Value → Shared → Prop} {s : Shared} {h₀ : Heap} {L : Addr} {m : Str → Option Value} {env : Env} {news : List (Addr × Obj)} {Q : Value → Shared → Prop}
theorem mulRep {l : Addr} {x : Nat} {t : Tok} {k n : Nat} {u : Tok} (F : Fr h₀ L s.heap m) (N : News h₀ L s.heap news) (hm : (l, listOf #[.int (x : Int) t] k) ∈ news) (hn : n ≤ 1000000)
    (h : ∀ D um h', IntsAre um (castL (List.replicate n x)) → Fr h₀ L h' m → News h₀ L h' ((D, listOf (List.toArray um) 0) :: news) → (∀ p ∈ news, p.1 < D) → Q (.ref D) { s with heap := h' }) :
    wpAny (model prog w) A (binaryOp .Mult (.ref l) (.int (n : Int) u)) Q E s :=
  mulL1 F N hm hn fun D h' F' N' l' => h D _ h' (by unfold castL; rw [List.map_replicate]; exact ints_replicate _ _ _) F' N' l'
theorem modZP {x : Int} {c n : Nat} {t u : Tok} (hc : 0 < c) (h : Q (.int (x.fmod ((c ^ n : Nat) : Int)) s.toks) { s with toks := s.toks + 1 }) : wpAny (model prog w) A (binaryOp .Mod (.int x t) (.int ((c ^ n : Nat) : Int) u)) Q E s := by
  have hp : 0 < c ^ n := Nat.pow_pos hc
  exact mod_int (by omega) h
theorem fdivZP {x : Int} {c n : Nat} {t u : Tok} (hc : 0 < c) (hc' : c ≤ 16) (hn : n ≤ 1000) (h : Q (.int (x.fdiv ((c ^ n : Nat) : Int)) s.toks) { s with toks := s.toks + 1 }) : wpAny (model prog w) A (binaryOp .FloorDiv (.int x t) (.int ((c ^ n : Nat) : Int) u)) Q E s := by
  have hp : 0 < c ^ n := Nat.pow_pos hc
  exact floordiv_int (by omega) h (Or.inl (noPy (pow_lt_big hc' hn)))
theorem subLN {a k : Nat} {t u : Tok} (ha : a ≤ k) (h : Q (.int ((k - a : Nat) : Int) s.toks) { s with toks := s.toks + 1 }) : wpAny (model prog w) A (binaryOp .Sub (.int (@OfNat.ofNat Int k instOfNat) t) (.int (a : Int) u)) Q E s := by
  refine sub_int ?_
  have e : (@OfNat.ofNat Int k instOfNat) - (a : Int) = ((k - a : Nat) : Int) := by
    show (k : Int) - (a : Int) = _
    omega
  rw [e]
  exact h
theorem subNL {a k : Nat} {t u : Tok} (ha : k ≤ a) (h : Q (.int ((a - k : Nat) : Int) s.toks) { s with toks := s.toks + 1 }) : wpAny (model prog w) A (binaryOp .Sub (.int (a : Int) t) (.int (@OfNat.ofNat Int k instOfNat) u)) Q E s := by
  refine sub_int ?_
  have e : (a : Int) - (@OfNat.ofNat Int k instOfNat) = ((a - k : Nat) : Int) := by
    show (a : Int) - (k : Int) = _
    omega
  rw [e]
  exact h
end
/-- a list's letter: its values, its numbers, its count -/
abbrev LV := List Value × List Nat × Nat
section
variable {prog : Program} {w : World} {A : Around} {E : Value → Shared → Prop} {s : Shared} {env : Env} {h₀ : Heap} {x : Str} {body : List Stmt} {Q : Flow → Shared → Prop}
/-- a loop over range(n) that changes two lists of numbers -/
theorem step_two {r D₁ D₂ : Addr} {rest : List (Addr × Obj)} {n : Nat} {t₀ u₀ v₀ : Tok} {m₀ : Str → Option Value} (stored : List Str) (P : Nat → LV → LV → Prop) (c₁ c₂ : LV)
    (hh : A.handled = none) (hr : IsRange s.heap r 0 (n : Int) 1 t₀ u₀ v₀) (hn : n ≤ 1000) (F : Fr h₀ env.locals s.heap m₀) (N : News h₀ env.locals s.heap ((D₁, listOf c₁.1.toArray c₁.2.2) :: (D₂, listOf c₂.1.toArray c₂.2.2) :: rest)) (i₁ : IntsAre c₁.1 (castL c₁.2.1)) (i₂ : IntsAre c₂.1 (castL c₂.2.1)) (hp : P 0 c₁ c₂)
    (turn : ∀ (c d : LV) (i : Nat) t (u : Str → Option Value) h tk own, i < n → OwnOff own (D₁ :: D₂ :: rest.map (·.1)) → IntsAre c.1 (castL c.2.1) → IntsAre d.1 (castL d.2.1) → P i c d →
      Fr h₀ env.locals h (fun y => if y = x then some (.int (i : Int) t) else if stored.contains y then u y else m₀ y) → News h₀ env.locals h ((D₁, listOf c.1.toArray c.2.2) :: (D₂, listOf d.1.toArray d.2.2) :: (rest ++ own)) →
      wpAny (model prog w) A (execs body env) (InvPostN h₀ env.locals (fun m nx => ∃ c' d' : LV, nx = (D₁, listOf c'.1.toArray c'.2.2) :: (D₂, listOf d'.1.toArray d'.2.2) :: rest ∧ IntsAre c'.1 (castL c'.2.1) ∧ IntsAre d'.1 (castL d'.2.1) ∧ (∀ z, z ≠ x → stored.contains z = false → m z = m₀ z) ∧ P (i + 1) c' d') own (D₁ :: D₂ :: rest.map (·.1)) { s with heap := h, toks := tk } Q) E { s with heap := h, toks := tk })
    (done : ∀ (c d : LV) (u : Str → Option Value) h tk, IntsAre c.1 (castL c.2.1) → IntsAre d.1 (castL d.2.1) → P n c d → Fr h₀ env.locals h (fun y => if y = x then u y else if stored.contains y then u y else m₀ y) → News h₀ env.locals h ((D₁, listOf c.1.toArray c.2.2) :: (D₂, listOf d.1.toArray d.2.2) :: rest) → Q .next { s with heap := h, toks := tk }) :
    wpAny (model prog w) A (pyIter (.ref r)) (fun it s₂ => LoopAtV prog w A h₀ env x body Q E it s₂) E s := by
  refine kst_step (σ := LV × LV) (n := n) (fun c => (D₁, listOf c.1.1.toArray c.1.2.2) :: (D₂, listOf c.2.1.toArray c.2.2.2) :: rest) (fun _ => []) (fun c => IntsAre c.1.1 (castL c.1.2.1) ∧ IntsAre c.2.1 (castL c.2.2.1)) stored (fun pre c => P pre.length c.1 c.2) (c₁, c₂) hh hr (range1_small hn) range1_size F N ⟨i₁, i₂⟩ (fun p hp => nomatch hp) hp ?_ ?_
  · rintro ⟨c, d⟩ pre k t u h tk own hk hlen hoff ⟨j₁, j₂⟩ hP F₁ N₁
    rw [Int.zero_add, Int.mul_one] at hk
    subst hk
    refine wpAny_mono (turn c d pre.length t u h tk own hlen hoff j₁ j₂ hP F₁ N₁) (fun f s₂ hf => ?_) fun _ _ e => e
    have up : InvEndN h₀ env.locals (fun m nx => ∃ c' d' : LV, nx = (D₁, listOf c'.1.toArray c'.2.2) :: (D₂, listOf d'.1.toArray d'.2.2) :: rest ∧ IntsAre c'.1 (castL c'.2.1) ∧ IntsAre d'.1 (castL d'.2.1) ∧ (∀ z, z ≠ x → stored.contains z = false → m z = m₀ z) ∧ P (pre.length + 1) c' d') own (D₁ :: D₂ :: rest.map (·.1)) { s with heap := h, toks := tk } s₂ →
        InvEndN h₀ env.locals (KstS (σ := LV × LV) (fun c => (D₁, listOf c.1.1.toArray c.1.2.2) :: (D₂, listOf c.2.1.toArray c.2.2.2) :: rest) (fun _ => []) (fun c => IntsAre c.1.1 (castL c.1.2.1) ∧ IntsAre c.2.1 (castL c.2.2.1)) x stored m₀ (fun pre c => P pre.length c.1 c.2) (pre ++ [(pre.length : Int)])) own (D₁ :: D₂ :: rest.map (·.1)) { s with heap := h, toks := tk } s₂ := by
      rintro ⟨h', tk', m', news', nx, e, F', N', hn', ho', ha, c', d', e1, e2, e3, e4, e5⟩
      refine ⟨h', tk', m', news', nx, e, F', N', hn', ho', ha, (c', d'), e1, ⟨e2, e3⟩, (fun p hp => nomatch hp), (fun z h1 _ h3 => e4 z h1 h3), ?_⟩
      show P (pre ++ [(pre.length : Int)]).length c' d'
      rw [List.length_append, List.length_singleton]
      exact e5
    cases f with
    | ret v => exact hf
    | brk => exact hf
    | next => exact up hf
    | cont => exact up hf
  · rintro ⟨c, d⟩ u h tk ⟨j₁, j₂⟩ hP F₁ N₁
    have hP' : P (rangeInts 0 1 n).length c d := hP
    rw [rangeInts_length] at hP'
    exact done c d u h tk j₁ j₂ hP' F₁ N₁
theorem two_end {D₁ D₂ : Addr} {rest : List (Addr × Obj)} {m₀ m' : Str → Option Value} {stored : List Str} {R : LV → LV → Prop} {L : Addr} {own news' : List (Addr × Obj)} {s₁ : Shared} {h' : Heap} {tk : Nat} (c' d' : LV)
    (F : Fr h₀ L h' m') (N : News h₀ L h' news') (hn : ∀ p ∈ (D₁, listOf c'.1.toArray c'.2.2) :: (D₂, listOf d'.1.toArray d'.2.2) :: rest, p ∈ news') (ho : ∀ p ∈ own, p ∈ news') (i₁ : IntsAre c'.1 (castL c'.2.1)) (i₂ : IntsAre d'.1 (castL d'.2.1)) (hr : ∀ z, z ≠ x → stored.contains z = false → m' z = m₀ z) (hp : R c' d') :
    InvEndN h₀ L (fun m nx => ∃ c' d' : LV, nx = (D₁, listOf c'.1.toArray c'.2.2) :: (D₂, listOf d'.1.toArray d'.2.2) :: rest ∧ IntsAre c'.1 (castL c'.2.1) ∧ IntsAre d'.1 (castL d'.2.1) ∧ (∀ z, z ≠ x → stored.contains z = false → m z = m₀ z) ∧ R c' d') own (D₁ :: D₂ :: rest.map (·.1)) s₁ { s₁ with heap := h', toks := tk } :=
  InvEndN.intro F N ⟨c', d', rfl, i₁, i₂, hr, hp⟩ rfl hn ho
end
end Mine
namespace Mine
section
variable {prog : Program} {w : World} {A : Around} {E : Value → Shared → Prop} {s : Shared} {h₀ : Heap} {L : Addr} {m : Str → Option Value} {env : Env} {news news' : List (Addr × Obj)} {Q : Value → Shared → Prop}
theorem addLI {l b : Addr} {us ws : List Value} {a c : List Nat} {k j : Nat} (F : Fr h₀ L s.heap m) (N : News h₀ L s.heap news) (i₁ : IntsAre us (castL a)) (i₂ : IntsAre ws (castL c)) (hl : (l, listOf us.toArray k) ∈ news) (hb : (b, listOf ws.toArray j) ∈ news) (hn : a.length + c.length ≤ 1000000)
    (h : ∀ D vs h', IntsAre vs (castL (a ++ c)) → Fr h₀ L h' m → News h₀ L h' ((D, listOf (List.toArray vs) 0) :: news) → (∀ p ∈ news, p.1 < D) → Q (.ref D) { s with heap := h' }) :
    wpAny (model prog w) A (binaryOp .Add (.ref l) (.ref b)) Q E s :=
  addL F N hl hb (by rw [i₁.length, i₂.length, castL_length, castL_length]; exact hn) fun D h' F' N' l1 => h D _ h' (by rw [castL_append]; exact i₁.append i₂) F' N' l1
theorem appN {D : Addr} {us : List Value} {ks : List Nat} {k n : Nat} {t : Tok} (F : Fr h₀ L s.heap m) (N : News h₀ L s.heap news) (hi : IntsAre us (castL ks)) (hn : ks.length ≤ 1000000) (U : Upd D (PySem.W.listOf us.toArray k) (PySem.W.listOf (us ++ [Value.int (n : Int) t]).toArray (k + 1)) news news')
    (h : ∀ h' ws, IntsAre (us ++ ws) (castL (ks ++ [n])) → ws = [Value.int (n : Int) t] → Fr h₀ L h' m → News h₀ L h' news' → Q .none { s with heap := h' }) : wpAny (model prog w) A (call (.builtin "list.append") [.ref D, .int (n : Int) t]) Q E s := by
  refine append_K (its := us.toArray) (n := k) F N (by rw [List.push_toArray]; exact U) (fun h' F' N' => h h' _ ?_ rfl F' N') (by rw [List.size_toArray, hi.length, castL_length, sizeLine_eq]; omega)
  rw [castL_append]
  exact hi.append (.cons _ _ .nil)
theorem castL_reverse (ks : List Nat) : (castL ks).reverse = castL ks.reverse := by unfold castL; rw [List.map_reverse]
theorem castL_mem {n : Int} {ks : List Nat} (h : n ∈ castL ks) : ∃ k : Nat, k ∈ ks ∧ n = (k : Int) := by
  obtain ⟨k, hk, e⟩ := List.mem_map.mp h
  exact ⟨k, hk, e.symm⟩
theorem all_snoc {P : Nat → Prop} {ks : List Nat} {n : Nat} (h : ∀ k ∈ ks, P k) (hn : P n) : ∀ k ∈ ks ++ [n], P k := fun k hk => (List.mem_append.mp hk).elim (h k) fun h' => List.mem_singleton.mp h' ▸ hn
theorem all_join {P : Nat → Prop} {a b : List Nat} (h : ∀ k ∈ a, P k) (h' : ∀ k ∈ b, P k) : ∀ k ∈ a ++ b, P k := fun k hk => (List.mem_append.mp hk).elim (h k) (h' k)
theorem all_ne {D : Addr} {l : List (Addr × Obj)} (h : ∀ p ∈ l, p.1 < D) : ∀ p ∈ l, p.1 ≠ D := fun p hp => Nat.ne_of_lt (h p hp)
theorem ne_mem {D a : Addr} {o : Obj} {l : List (Addr × Obj)} (h : ∀ p ∈ l, p.1 < D) (hm : (a, o) ∈ l) : D ≠ a := Nat.ne_of_gt (h _ hm)
theorem all_app {D : Addr} {a b : List (Addr × Obj)} (h : ∀ p ∈ a, p.1 ≠ D) (h' : ∀ p ∈ b, p.1 ≠ D) : ∀ p ∈ a ++ b, p.1 ≠ D := fun p hp => (List.mem_append.mp hp).elim (h p) (h' p)
end
section
variable {prog : Program} {w : World} {A : Around} {E : Value → Shared → Prop} {s : Shared} {env : Env} {h₀ : Heap} {x : Str} {body : List Stmt} {Q : Flow → Shared → Prop}
theorem step_two' {r D₁ D₂ : Addr} {rest : List (Addr × Obj)} {n : Nat} {t₀ u₀ v₀ : Tok} {m₀ : Str → Option Value} (stored : List Str) (P : Nat → LV → LV → Prop) (c₁ c₂ : LV)
    (hh : A.handled = none) (hr : IsRange s.heap r 0 (n : Int) 1 t₀ u₀ v₀) (hn : n ≤ 1000) (F : Fr h₀ env.locals s.heap m₀) (N : News h₀ env.locals s.heap ((D₁, listOf c₁.1.toArray c₁.2.2) :: (D₂, listOf c₂.1.toArray c₂.2.2) :: rest)) (i₁ : IntsAre c₁.1 (castL c₁.2.1)) (i₂ : IntsAre c₂.1 (castL c₂.2.1)) (hp : P 0 c₁ c₂) (d₁ : ∀ p ∈ rest, p.1 ≠ D₁) (d₂ : ∀ p ∈ rest, p.1 ≠ D₂)
    (turn : ∀ (c d : LV) (i : Nat) t (u : Str → Option Value) h tk own, i < n → OwnOff own (D₁ :: D₂ :: rest.map (·.1)) → (∀ p ∈ rest ++ own, p.1 ≠ D₁) → (∀ p ∈ rest ++ own, p.1 ≠ D₂) → IntsAre c.1 (castL c.2.1) → IntsAre d.1 (castL d.2.1) → P i c d →
      Fr h₀ env.locals h (fun y => if y = x then some (.int (i : Int) t) else if stored.contains y then u y else m₀ y) → News h₀ env.locals h ((D₁, listOf c.1.toArray c.2.2) :: (D₂, listOf d.1.toArray d.2.2) :: (rest ++ own)) →
      wpAny (model prog w) A (execs body env) (InvPostN h₀ env.locals (fun m nx => ∃ c' d' : LV, nx = (D₁, listOf c'.1.toArray c'.2.2) :: (D₂, listOf d'.1.toArray d'.2.2) :: rest ∧ IntsAre c'.1 (castL c'.2.1) ∧ IntsAre d'.1 (castL d'.2.1) ∧ (∀ z, z ≠ x → stored.contains z = false → m z = m₀ z) ∧ P (i + 1) c' d') own (D₁ :: D₂ :: rest.map (·.1)) { s with heap := h, toks := tk } Q) E { s with heap := h, toks := tk })
    (done : ∀ (c d : LV) (u : Str → Option Value) h tk, IntsAre c.1 (castL c.2.1) → IntsAre d.1 (castL d.2.1) → P n c d → Fr h₀ env.locals h (fun y => if y = x then u y else if stored.contains y then u y else m₀ y) → News h₀ env.locals h ((D₁, listOf c.1.toArray c.2.2) :: (D₂, listOf d.1.toArray d.2.2) :: rest) → Q .next { s with heap := h, toks := tk }) :
    wpAny (model prog w) A (pyIter (.ref r)) (fun it s₂ => LoopAtV prog w A h₀ env x body Q E it s₂) E s :=
  step_two stored P c₁ c₂ hh hr hn F N i₁ i₂ hp (fun c d i t u h tk own hi hoff => turn c d i t u h tk own hi hoff (all_app d₁ (hoff.ne (.head _))) (all_app d₂ (hoff.ne (.tail _ (.head _))))) done
end
end Mine
namespace Mine
theorem enter_callC {M : Model} {A : Around} {s : Shared} {f : Value} {pos : List Value} {kw : List (Str × Value)} {c : ClaimW} {cl : Str → Option Addr} {mean : ExcName → Option Value} {args : List WData} {s₁ : Shared}
    (h : codeC M A (.call f ⟨pos, kw⟩) (GoodWG c cl mean args s₁) s) : wpC M A (PySem.call f pos kw) (fun v s' => GoodWG c cl mean args s₁ (.ok (.ret v)) s') (fun e s' => GoodWG c cl mean args s₁ (.error e) s') s :=
  wpC_call (codeC_mono h fun res s' g => by rcases g.1 with ⟨v, _, _, rfl, _⟩ | ⟨e, _, _, rfl, _⟩ <;> exact g)
theorem call_fullC {prog : Program} {w : World} {A : Around} {R : Result → Shared → Prop} {s : Shared} {name : Str} {params : Arguments} {body : List Stmt} {scope : Scope}
    {dV kV pm cd doc : Value} {a : Addr} {o : Obj} {args : Args} {binds : List (Str × Value)}
    (hroom : A.depth < recursionLimit) (ho : s.heap.get? a = some o) (hdata : o.data = .func { docDef name params body scope pm cd doc with defaults := dV, kwdefaults := kV }) (hlim : s.heap.NoLimit) (hcd : s.heap.CodeRec cd name)
    (hbind : BindsTo s { docDef name params body scope pm cd doc with defaults := dV, kwdefaults := kV } args binds)
    (hloc : ∀ x ∈ binds, scope.names.lookup x.1 = some .local)
    (h : ∀ h₁, Fr s.heap s.heap.objs.size h₁ (fun x => binds.reverse.lookup x) →
      wpC (model prog w) (A.deeper (envOf name scope s.heap.objs.size a cd)) (execs body (envOf name scope s.heap.objs.size a cd))
        (fun f s' => R (.ok (.ret (match f with | .ret v => v | _ => .none))) s')
        (fun e s' => wpAny (model prog w) (A.deeper (envOf name scope s.heap.objs.size a cd)) (leaving (envOf name scope s.heap.objs.size a cd) e)
          (fun _ s'' => R (.error e) s'') (fun e' s'' => R (.error e') s'') s')
        { s with heap := h₁, toks := s.toks + binds.length })
    (hco : scope.isCoroutine = false := by rfl) (hgen : scope.isGenerator = false := by rfl) (hk : scope.kind = .function := by rfl)
    (hcell : ∀ x ∈ scope.names, x.2 ≠ .cell := by decide) :
    codeC (model prog w) A (.call (.ref a) args) R s :=
  codeC_call_def hroom ho hdata hlim hcd rfl hbind hcell hloc (fun h₁ hns hkeep => h h₁ ⟨hns, hkeep, Nat.le_refl _⟩) hco hgen hk
end Mine
namespace Mine
section
variable {prog : Program} {w : World} {A : Around} {E : Value → Shared → Prop} {s : Shared} {Q : Value → Shared → Prop} {t u : Tok}
theorem eqB_no {b : List UInt8} {c : Array UInt8} (hne : b ≠ c.toList) (h : Q (.bool false) s) : wpAny (model prog w) A (compareOp .Eq (.bytes b.toArray t) (.bytes c u)) Q E s := by
  refine eq_bytes ?_
  have e : (b.toArray.toList == c.toList) = false := beq_eq_false_iff_ne.mpr hne
  rw [e]
  exact h
theorem neB_no {b c : List UInt8} (he : b = c) (h : Q (.bool false) s) : wpAny (model prog w) A (compareOp .NotEq (.bytes b.toArray t) (.bytes c.toArray u)) Q E s := by
  refine ne_bytes ?_
  have e : (b.toArray.toList != c.toArray.toList) = false := by subst he; exact bne_self_eq_false _
  rw [e]
  exact h
end
end Mine
namespace Mine
open_top hd for PySem.Challenge.rw_pe0018_01
end Mine
namespace Mine
local macro_rules | `(tactic| walk_at "mine:enterC") => `(tactic| (refine' enterC ?k1 ?k2 ?k3 ?k4 ?k5 ?kA ?kF ?kK ?k6 ?k7 ?k8 ?k9 ?kB ?_ ?c2 ?c3 ?c4 ?c5; (case kA => exact rfl); (case kF => exact rfl); (case kK => assumption); (case k1 => k_asm); (case k2 => k_asm); (case k3 => k_asm); (case k4 => k_asm); (case k5 => k_asm); (case k6 => k_is); (case k7 => k_is); (case k8 => ktr_room); (case k9 => exact BindsTo.of_eq rfl); (case c5 => decide); (case kB => exact locs rfl); (case c2 => exact rfl); (case c3 => exact rfl); (case c4 => exact rfl); k_whole; intro g' L' h' FG' F' N' B' X' T'; (try dsimp only); (try k_lift B'); (try k_fold)))
local macro_rules | `(tactic| walk_at "call builtin:len") => `(tactic| ((with_reducible show wpAny _ _ (call (Value.builtin "len") [Value.bytes (List.toArray _) _]) _ _ _); (refine lenB (by omega) ?_)))
theorem int2ap (w : World) (mean mg mb) (n : Int) (t : Tok) (news) : Said PySem.Challenge.rw_pe0018_01.row.prog w (Mine.hd.heap_39 w.params) Mine.hd.view_39 (looseW Mine.hd.view_39 []) mean mg mb 21 1 news ((apW n.natAbs).length ≤ 1000) [.int n t] (fun t => .bytes (apW n.natAbs).toArray t) := by
  dsimp only [Said]
  k_fill
  intros
  rename_i hret
  refine wpAny_call ?_
  k_dflt cell_enter
  (k_with "exec While Name cons nil" => refine Halt.of ?_)
  k_steps
  k_with_none
  refine Halt.on ?_
  rename Fr _ _ _ _ => lF'
  rename News _ _ _ _ => lN'
  rw [show (if n < 0 then -n else n) = (n.natAbs : Int) by split <;> omega] at lF'
  with_unfolding_all refine' ksw_while (σ := Nat × List UInt8 × Tok × Tok) (fun _ => news) (fun c => [(Str.ofString "num", .int (c.1 : Int) c.2.2.1), (Str.ofString "val", .bytes c.2.1.toArray c.2.2.2)]) (fun _ => True) [Str.ofString "mod"] (fun c => apW c.1 ++ c.2.1 = apW n.natAbs) (fun c => c.1) (n.natAbs, [], ?tA, ?tB) lF' lN' trivial ?kk (List.append_nil _) ?kt
  case kk => kst_all
  case kt =>
    clear lF' lN'
    rintro ⟨num, val, tn, tv⟩ kU kH kTk - kInv kFr kNews
    dsimp only [kstB] at kInv kFr kNews
    have hL := congrArg List.length kInv
    rw [List.length_append] at hL
    (try k_fold)
    have e1 : (num : Int).fdiv 16 = ((num / 16 : Nat) : Int) := by rw [Int.fdiv_eq_ediv_of_nonneg _ (by decide)]; rfl
    have e2 : (num : Int).fmod 16 = ((num % 16 : Nat) : Int) := by rw [Int.fmod_eq_emod_of_nonneg _ (by decide)]; rfl
    have e3 : ((num % 16 : Nat) : Int) + 1 = ((num % 16 + 1 : Nat) : Int) := rfl
    k_steps
    · rename Fr _ _ _ _ => F'
      rename News _ _ _ _ => N'
      simp only [e1, e2, e3] at F' N' ⊢
      refine sliceB (s := ⟨_, _, _, _, _⟩) F' N' (Int.natCast_nonneg _) (Int.natCast_nonneg _) (by decide) ?_
      intro h'' t'' k'' F'' N''
      (k_with "binaryOp Add bytes bytes" => refine Halt.of ?_)
      k_steps
      k_with_none
      refine Halt.on ?_
      have e4 : cut [65, 66, 67, 68, 69, 70, 71, 72, 73, 74, 75, 76, 77, 78, 79, 80] ((num % 16 : Nat) : Int).toNat ((num % 16 + 1 : Nat) : Int).toNat = [UInt8.ofNat (65 + num % 16)] := by
        rw [Int.toNat_natCast, Int.toNat_natCast]
        exact cut_ap _ (Nat.mod_lt _ (by decide))
      rw [e4]
      have hne : num ≠ 0 := by omega
      refine addB (by simp only [List.length_cons, List.length_nil]; omega) ?_
      intro t3 k3
      (k_with "state" => exact apW_step hne kInv)
      k_steps
      k_with_none
    · have hz : num = 0 := by omega
      subst hz
      rw [apW_zero, List.nil_append] at kInv
      rw [kInv]
      exact hret _ _ _ (by assumption) (by assumption)
theorem byteswap_C (w : World) (mean mg mb) (d : List UInt8) (wd k : Nat) (t u : Tok) (news) : SaidC PySem.Challenge.rw_pe0018_01.row.prog w (Mine.hd.heap_39 w.params) Mine.hd.view_39 (looseW Mine.hd.view_39 []) mean mg mb 28 1 news (0 < wd ∧ wd ≤ 1000 ∧ d.length = k * wd ∧ d.length ≤ 1000) [.bytes d.toArray t, .int wd u] (fun t => .bytes (swapN wd k d).toArray t) := by
  dsimp only [SaidC]
  k_fill
  intros
  rename_i hpre _ _ hret
  obtain ⟨hw, hw', hd, hd'⟩ := hpre
  refine wpC_call ?_
  k_dflt (walk_at "mine:enterC")
  refine wpC_execs_cons (wpC_Assign_Name (wpC_Call ?_))
  k_steps
  refine wpC_callWith_type ?_
  k_steps
  rename Fr _ _ _ _ => F'
  rename News _ _ _ _ => N'
  refine bytearray_C F' N' rfl (Int.natCast_nonneg _) (by omega) ?_
  clear F' N'
  intro ba h1 F1 N1 hlt
  (k_with "pyIter ref" => refine Halt.of ?_)
  k_steps
  refine wpC_of_any ?_
  k_steps
  k_with_none
  refine Halt.on ?_
  rename Fr _ _ _ _ => F2
  rename News _ _ _ _ => N2
  rename IsRange _ _ _ _ _ _ _ _ => hR
  rw [show (↑d.length : Int).toNat = k * wd by omega] at N2
  with_unfolding_all refine' kst_step (σ := List UInt8) (n := k) (fun c => (ba, baObj c.toArray) :: news) (fun _ => []) (fun _ => True) [Str.ofString "j"] (fun pre c => c = swapN wd pre.length d ++ List.replicate ((k - pre.length) * wd) 0) (List.replicate (k * wd) 0) rfl hR ?small ?size F2 ?nn trivial (fun p hp => nomatch hp) ?p0 ?turn ?done
  case small =>
    refine range_small (k := k) ?_ hw hw' hd'
    rw [hd, Int.natCast_mul]
  case size => rw [hd]; exact range_size hw
  case nn => rw [List.toArray_replicate]; exact N2
  case p0 => simp [swapN]
  case turn =>
    intro c pre i ti u h3 tk3 own hi hlen hoff _ hP F3 N3
    dsimp only [kstB] at F3 N3 hP
    (try k_fold)
    have hne : ∀ p ∈ news ++ own, p.1 ≠ ba := by
      intro p hp
      rcases List.mem_append.mp hp with hp | hp
      · exact Nat.ne_of_lt (hlt p hp)
      · exact hoff p hp ba (List.mem_cons_self ..)
    rw [midA_start hlen] at hP
    subst hP
    obtain ⟨p, hp⟩ : ∃ p, pre.length = p := ⟨_, rfl⟩
    rw [hp] at hi hlen N3
    rw [Int.zero_add] at hi
    subst hi
    (k_with "pyIter ref" => refine Halt.of ?_)
    k_steps
    k_with_none
    refine Halt.on ?_
    rename Fr _ _ _ _ => F4
    rename News _ _ _ _ => N4
    rename IsRange _ _ _ _ _ _ _ _ => hR4
    with_unfolding_all refine' kst_step (σ := List UInt8) (n := wd) (fun c => ((ba, baObj c.toArray) :: news) ++ own) (fun _ => []) (fun _ => True) [] (fun pre' c => c = midA wd k p pre'.length d) (midA wd k p 0 d) rfl hR4 ?small2 ?size2 F4 N4 trivial (fun p hp => nomatch hp) rfl ?turn2 ?done2
    case small2 => exact range1_small hw'
    case size2 => exact range1_size
    case turn2 =>
      intro c pre' j tj u' h5 tk5 own' hj hlen' hoff' _ hP' F5 N5
      dsimp only [kstB] at F5 N5 hP'
      (try k_fold)
      subst hP'
      obtain ⟨q, hq⟩ : ∃ q, pre'.length = q := ⟨_, rfl⟩
      rw [hq] at hj hlen' N5
      rw [Int.zero_add, Int.mul_one] at hj
      subst hj
      have hidx : p * wd + wd ≤ d.length := by
        rw [hd, ← Nat.succ_mul]; exact Nat.mul_le_mul_right _ hlen
      have eI : (p : Int) * (wd : Int) + (q : Int) = ((p * wd + q : Nat) : Int) := by rw [Int.natCast_add, Int.natCast_mul]
      have eJ : (p : Int) * (wd : Int) + (wd : Int) - 1 - (q : Int) = ((p * wd + (wd - 1 - q) : Nat) : Int) := by
        rw [← Int.natCast_mul]; omega
      (k_with "subscriptTail Name BinOp bytes int" => refine Halt.of ?_)
      k_steps
      k_with_none
      refine Halt.on ?_
      rw [eI]
      refine KBy.item_N (by omega) (Int.natCast_nonneg _) (by omega) ?_
      (k_with "setItem" => refine Halt.of ?_)
      k_steps
      k_with_none
      refine Halt.on ?_
      rw [eJ]
      rename Fr _ _ _ _ => F6
      rename News _ _ _ _ => N6
      have hml : (midA wd k p q d).length = k * wd := midA_length (Nat.le_of_lt hlen') hlen hd
      refine setItem_ba (news' := (ba, baObj (midA wd k p (q + 1) d).toArray) :: ((news ++ own) ++ own')) F6 N6 ?upd (by rw [List.size_toArray, hml]; omega) (Int.natCast_nonneg _) (by rw [List.size_toArray, hml]; omega) (Int.natCast_nonneg _) ?_ ?_
      case upd =>
        have e : baObj ((midA wd k p q d).toArray.setIfInBounds (((p * wd + (wd - 1 - q) : Nat) : Int)).toNat (((d.getD (((p * wd + q : Nat) : Int)).toNat 0).toNat : Int).toNat.toUInt8)) = baObj (midA wd k p (q + 1) d).toArray := by
          rw [Int.toNat_natCast, Int.toNat_natCast, Int.toNat_natCast, List.setIfInBounds_toArray, ← midA_step hlen' hlen hd]
          congr 3
          exact UInt8.ofNat_toNat
        rw [e]
        refine Upd.head fun r hr => ?_
        rcases List.mem_append.mp hr with hr | hr
        · exact hne r hr
        · exact hoff' r hr ba (List.mem_cons_self ..)
      · have := (d.getD (((p * wd + q : Nat) : Int)).toNat 0).toNat_lt
        omega
      intro h7 F7 N7
      clear F6 N6
      (k_with "InvEndN" => refine Halt.of ?_)
      k_steps
      k_with_none
      refine Halt.on ?_
      have N8 : News _ _ _ ((((ba, baObj (midA wd k p (q + 1) d).toArray) :: news) ++ own) ++ own') := N7
      refine kst_end (midA wd k p (q + 1) d) F7 N8 (fun r hr => List.mem_append.mpr (.inl hr)) (fun r hr => List.mem_append.mpr (.inr hr)) rfl trivial (fun r hr => nomatch hr) (by kst_same) ?_
      show _ = midA wd k p (pre' ++ [(q : Int)]).length d
      rw [List.length_append, hq]
      rfl
    case done2 =>
      intro c u h5 tk5 _ hP' F5 N5
      dsimp only [kstB] at F5 N5 hP'
      rw [rangeInts_length, midA_end] at hP'
      subst hP'
      (k_with "InvEndN" => refine Halt.of ?_)
      k_steps
      k_with_none
      refine Halt.on ?_
      refine kst_end _ F5 N5 (fun r hr => List.mem_append.mpr (.inl hr)) (fun r hr => List.mem_append.mpr (.inr hr)) rfl trivial (fun r hr => nomatch hr) (by kst_same) ?_
      show _ = swapN wd (pre ++ [_]).length d ++ List.replicate ((k - (pre ++ [_]).length) * wd) 0
      rw [List.length_append, hp]
      rfl
  case done =>
    intro c u h3 tk3 _ hP F3 N3
    dsimp only [kstB] at F3 N3 hP
    rw [rangeInts_length, Nat.sub_self, Nat.zero_mul, List.replicate_zero, List.append_nil] at hP
    subst hP
    (k_with "call type:bytes" => refine Halt.of ?_)
    k_steps
    k_with_none
    refine Halt.on ?_
    rename News _ _ _ _ => N6
    refine bytes_ba N6 (List.mem_cons_self ..) (by rw [List.size_toArray, swapN_length (Nat.le_of_eq hd.symm)]; omega) ?_
    intro t6 k6
    k_steps
    rename Fr _ _ _ _ => F9
    rename News _ _ _ _ => N9
    exact hret _ _ _ F9 (fun r hr => N9 r (List.mem_cons_of_mem _ hr))
end Mine
namespace Mine
local macro_rules | `(tactic| walk_at "mine:enterCell") => `(tactic| (refine' code_defC ?k1 ?k2 ?k3 ?k4 ?k5 ?kA ?kF ?kK ?k6 ?k7 ?k8 ?k9 ?kB ?kD ?_ ?c2 ?c3 ?c4; (case kA => exact rfl); (case kF => exact rfl); (case kK => assumption); (case k1 => k_asm); (case k2 => k_asm); (case k3 => k_asm); (case k4 => k_asm); (case k5 => k_asm); (case k6 => k_is); (case k7 => k_is); (case k8 => ktr_room); (case k9 => exact BindsTo.of_eq rfl); (case kB => exact rfl); (case kD => decide +kernel); (case c2 => exact rfl); (case c3 => exact rfl); (case c4 => exact rfl); k_whole; intro g' L' h' tk' cells' FG' F' N' Y' B' X' T' l1; (have hLow := Low.mk l1); (try k_lt l1); k_cells Y'; (try simp only [List.cons_append, List.nil_append] at N'); (try dsimp only); (try k_lift B'); (try k_fold)))
local macro_rules | `(tactic| walk_at "mine:prem") => `(tactic| ((case k1 => k_asm); (case k2 => k_asm); (case k3 => k_asm); (case k4 => k_asm); (case k5 => k_asm); (case kK => first | exact rfl | assumption); (case kd => ktr_room); (case ku => ktr_units)))
local macro_rules | `(tactic| walk_at "call builtin:len") => `(tactic| ((with_reducible show wpAny _ _ (call (Value.builtin "len") [Value.bytes (List.toArray _) _]) _ _ _); (refine lenB (by omega) ?_)))
local macro_rules | `(tactic| walk_at "binaryOp Mult bytes int") => `(tactic| (refine mulA (by omega) (by omega) ?_; intro _ _))
local macro_rules | `(tactic| walk_at "binaryOp Add int int") => `(tactic| with_reducible (first | refine addNN ?_ | refine addNL ?_ | refine addLN ?_))
local macro_rules | `(tactic| walk_at "binaryOp Mult int int") => `(tactic| with_reducible (first | refine mulNL (by decide) ?_ | refine mulLN (by decide) ?_))
local macro_rules | `(tactic| walk_at "binaryOp FloorDiv int int") => `(tactic| with_reducible (first | refine fdivNL (by decide) (by decide) ?_ | refine fdivP (by decide) (by decide) (by omega) ?_))
local macro_rules | `(tactic| walk_at "binaryOp Mod int int") => `(tactic| with_reducible (first | refine modNL (by decide) ?_ | refine modP (by decide) ?_))
local macro_rules | `(tactic| walk_at "binaryOp Pow int int") => `(tactic| with_reducible (refine powLN (by decide) (by omega) ?_))
local macro_rules | `(tactic| k_all) => `(tactic| (intro r9 hr9; (have hm9 := ltN (Low.all (by assumption) r9 hr9)); refine neN ?_; omega))
local macro_rules | `(tactic| walk_at "storeName") => `(tactic| (k_here; k_dflt (refine' storeX_C ?sF ?sN ?sc ?sU ?sd ?_ ?sa ?sb; (case sa => rfl); (case sb => rfl); (case sF => k_asm); (case sN => k_asm); (case sc => rfl); (case sU => k_updF); (case sd => k_asm); k_whole; intro h' o' F' N' d'; (try dsimp only at N'); (try k_sweep))))
local macro_rules | `(tactic| walk_at "call builtin:max") => `(tactic| (k_here; k_dflt (refine' maxNN ?mh ?mF ?mN ?_; (case mh => rfl); (case mF => k_asm); (case mN => k_asm); k_whole); intro _ _ _ F' N'))
local macro_rules | `(tactic| walk_at "call builtin:min") => `(tactic| (k_here; k_dflt (refine' minNN ?mh ?mF ?mN ?_; (case mh => rfl); (case mF => k_asm); (case mN => k_asm); k_whole); intro _ _ _ F' N'))
def filW (wd n : Nat) : List UInt8 := List.replicate (wd - (apW n).length) 65 ++ apW n
theorem filled (w : World) (mean mg mb) (n : Int) (wd : Nat) (t u : Tok) (news) : Said PySem.Challenge.rw_pe0018_01.row.prog w (Mine.hd.heap_39 w.params) Mine.hd.view_39 (looseW Mine.hd.view_39 []) mean mg mb 40 2 news ((apW n.natAbs).length ≤ 1000 ∧ wd ≤ 1000) [.int n t, .int wd u] (fun t => .bytes (filW wd n.natAbs).toArray t) := by
  dsimp only [Said]
  k_fill
  intros
  rename_i hpre _ _ hret
  obtain ⟨h1, h2⟩ := hpre
  refine wpAny_call ?_
  k_dflt cell_enter
  (k_with "call ref" => refine Halt.of ?_)
  k_steps
  k_with_none
  refine Halt.on ?_
  k_dflt (refine' said_use (int2ap w _ _ _ n _ _) ?k1 ?k2 ?k3 ?k4 ?k5 ?kK h1 ?kd ?ku ?kR; walk_at "mine:prem")
  intro t1 h' tk' F' N'
  (k_with "binaryOp Add bytes bytes" => refine Halt.of ?_)
  k_steps
  k_with_none
  refine Halt.on ?_
  have e : ((wd : Int) - ((apW n.natAbs).length : Int)).toNat = wd - (apW n.natAbs).length := by omega
  rw [e]
  refine addB (by rw [List.length_replicate]; omega) ?_
  intro t2 k2
  k_steps
  exact hret _ _ _ (by assumption) (by assumption)
/-- the number that a word tells -/
def readI (ns : List Int) : Int := ns.foldl (fun a n => a * 16 + n - 65) 0
theorem read (w : World) (mean mg mb) (l : List UInt8) (t : Tok) (news) : Said PySem.Challenge.rw_pe0018_01.row.prog w (Mine.hd.heap_39 w.params) Mine.hd.view_39 (looseW Mine.hd.view_39 []) mean mg mb 47 1 news (l.length ≤ 1000) [.bytes l.toArray t] (fun t => .int (readI (KBw.bInts l.toArray)) t) := by
  dsimp only [Said]
  k_fill
  intros
  rename_i hpre _ _ hret
  refine wpAny_call ?_
  k_dflt cell_enter
  (k_with "pyIter bytes" => refine Halt.of ?_)
  k_steps
  k_with_none
  refine Halt.on ?_
  rename Fr _ _ _ _ => F2
  rename News _ _ _ _ => N2
  with_unfolding_all refine' KStb.kst_bytes (σ := Int × Tok) (len := l.length) (fun _ => news) (fun c => [(Str.ofString "number", .int c.1 c.2)]) (fun _ => True) [] (fun pre c => c.1 = readI pre) (0, ?tA) rfl (by rw [KBw.ints_length, List.size_toArray]) rfl F2 N2 trivial ?kk rfl ?turn ?done
  case kk => kst_all
  case turn =>
    rintro ⟨c, tc⟩ pre post n tn u h3 tk3 own hks hlen h0 h256 hoff _ hP F3 N3
    dsimp only [kstB] at F3 N3 hP
    (try k_fold)
    k_steps
    refine kst_end (c * 16 + n - 65, _) (by assumption) (by assumption) (fun r hr => List.mem_append.mpr (.inl hr)) (fun r hr => List.mem_append.mpr (.inr hr)) rfl trivial (by kst_all) (by kst_same) ?_
    show _ = readI (pre ++ [n])
    rw [hP, readI, readI, List.foldl_append]
    rfl
  case done =>
    rintro ⟨c, tc⟩ u h3 tk3 _ _ hP F3 N3
    dsimp only [kstB] at F3 N3 hP
    (try k_fold)
    k_steps
    rw [hP]
    exact hret _ _ _ (by assumption) (by assumption)
end Mine
namespace Mine
local macro_rules | `(tactic| walk_at "mine:enterCell") => `(tactic| (refine' code_defC ?k1 ?k2 ?k3 ?k4 ?k5 ?kA ?kF ?kK ?k6 ?k7 ?k8 ?k9 ?kB ?kD ?_ ?c2 ?c3 ?c4; (case kA => exact rfl); (case kF => exact rfl); (case kK => assumption); (case k1 => k_asm); (case k2 => k_asm); (case k3 => k_asm); (case k4 => k_asm); (case k5 => k_asm); (case k6 => k_is); (case k7 => k_is); (case k8 => ktr_room); (case k9 => exact BindsTo.of_eq rfl); (case kB => exact rfl); (case kD => decide +kernel); (case c2 => exact rfl); (case c3 => exact rfl); (case c4 => exact rfl); k_whole; intro g' L' h' tk' cells' FG' F' N' Y' B' X' T' l1; (have hLow := Low.mk l1); (try k_lt l1); k_cells Y'; (try simp only [List.cons_append, List.nil_append] at N'); (try dsimp only); (try k_lift B'); (try k_fold)))
local macro_rules | `(tactic| walk_at "mine:prem") => `(tactic| ((case k1 => k_asm); (case k2 => k_asm); (case k3 => k_asm); (case k4 => k_asm); (case k5 => k_asm); (case kK => first | exact rfl | assumption); (case kd => ktr_room); (case ku => ktr_units)))
local macro_rules | `(tactic| walk_at "call builtin:len") => `(tactic| ((with_reducible show wpAny _ _ (call (Value.builtin "len") [Value.bytes (List.toArray _) _]) _ _ _); (refine lenB (by omega) ?_)))
local macro_rules | `(tactic| walk_at "binaryOp Mult bytes int") => `(tactic| (refine mulA (by omega) (by omega) ?_; intro _ _))
local macro_rules | `(tactic| walk_at "binaryOp Add int int") => `(tactic| with_reducible (first | refine addNN ?_ | refine addNL ?_ | refine addLN ?_))
local macro_rules | `(tactic| walk_at "binaryOp Mult int int") => `(tactic| with_reducible (first | refine mulNL (by decide) ?_ | refine mulLN (by decide) ?_))
local macro_rules | `(tactic| walk_at "binaryOp FloorDiv int int") => `(tactic| with_reducible (first | refine fdivNL (by decide) (by decide) ?_ | refine fdivP (by decide) (by decide) (by omega) ?_))
local macro_rules | `(tactic| walk_at "binaryOp Mod int int") => `(tactic| with_reducible (first | refine modNL (by decide) ?_ | refine modP (by decide) ?_))
local macro_rules | `(tactic| walk_at "binaryOp Pow int int") => `(tactic| with_reducible (refine powLN (by decide) (by omega) ?_))
local macro_rules | `(tactic| k_all) => `(tactic| (intro r9 hr9; (have hm9 := ltN (Low.all (by assumption) r9 hr9)); refine neN ?_; omega))
local macro_rules | `(tactic| walk_at "storeName") => `(tactic| (k_here; k_dflt (refine' storeX_C ?sF ?sN ?sc ?sU ?sd ?_ ?sa ?sb; (case sa => rfl); (case sb => rfl); (case sF => k_asm); (case sN => k_asm); (case sc => rfl); (case sU => k_updF); (case sd => k_asm); k_whole; intro h' o' F' N' d'; (try dsimp only at N'); (try k_sweep))))
local macro_rules | `(tactic| walk_at "call builtin:max") => `(tactic| (k_here; k_dflt (refine' maxNN ?mh ?mF ?mN ?_; (case mh => rfl); (case mF => k_asm); (case mN => k_asm); k_whole); intro _ _ _ F' N'))
local macro_rules | `(tactic| walk_at "call builtin:min") => `(tactic| (k_here; k_dflt (refine' minNN ?mh ?mF ?mN ?_; (case mh => rfl); (case mF => k_asm); (case mN => k_asm); k_whole); intro _ _ _ F' N'))
local macro_rules | `(tactic| walk_at "eval ListComp") => `(tactic| k_extra "eval ListComp")
local macro_rules | `(tactic| walk_at "exec Assign cons ListComp") => `(tactic| k_extra "exec Assign cons ListComp")
local macro_rules | `(tactic| walk_at "pyIter ref") => `(tactic| k_extra "pyIter ref")
local macro_rules | `(tactic| walk_at "pyIter bytes") => `(tactic| k_extra "pyIter bytes")
local macro_rules | `(tactic| walk_at "call ref") => `(tactic| k_extra "call ref")
local macro_rules | `(tactic| walk_at "InvEndN") => `(tactic| k_extra "InvEndN")
/-- what is told of the number and its turned one -/
def otherI (N : Nat) : Nat → Nat
  | 0 => 0
  | k + 1 => otherI N k * 16 + N / 16 ^ k % 16
def dueI (N wd : Nat) : Nat → Nat
  | 0 => 0
  | j + 1 => dueI N wd j + (if max N (otherI N wd) % 16 ^ (j + 1) < min N (otherI N wd) % 16 ^ (j + 1) then 255 * 16 ^ (wd - 1 - (j + 1)) else 0)
def toldW (N wd : Nat) : List UInt8 := (List.range (wd + 1)).map fun i => UInt8.ofNat (65 + dueI N wd (wd - 1) / 16 ^ (wd - i) % 16)
theorem told_in (N wd : Nat) : KBa.In ((rangeInts wd (-1) (wd + 1)).map fun k => ((65 + dueI N wd (wd - 1) / 16 ^ k.toNat % 16 : Nat) : Int)) := by
  intro n hn
  obtain ⟨k, _, rfl⟩ := List.mem_map.mp hn
  omega
theorem told_arr (N wd : Nat) : byteArr ((rangeInts wd (-1) (wd + 1)).map fun k => ((65 + dueI N wd (wd - 1) / 16 ^ k.toNat % 16 : Nat) : Int)) = (toldW N wd).toArray := by
  unfold byteArr toldW rangeInts
  rw [List.map_map, List.map_map]
  congr 1
  refine List.map_congr_left fun i hi => ?_
  have h : i < wd + 1 := List.mem_range.mp hi
  have e : ((wd : Int) + (i : Int) * -1).toNat = wd - i := by omega
  simp only [Function.comp, e, Int.toNat_natCast]
theorem told (w : World) (mean mg mb) (N wd : Nat) (t u : Tok) (news) : Said PySem.Challenge.rw_pe0018_01.row.prog w (Mine.hd.heap_39 w.params) Mine.hd.view_39 (looseW Mine.hd.view_39 []) mean mg mb 52 1 news (N < 16 ^ wd ∧ 1 ≤ wd ∧ wd ≤ 7) [.int N t, .int wd u] (fun t => .bytes (toldW N wd).toArray t) := by
  dsimp only [Said]
  k_fill
  intros
  rename_i hpre _ _ hret
  obtain ⟨h1, h2, h3⟩ := hpre
  refine wpAny_call ?_
  k_dflt (walk_at "mine:enterCell")
  (k_with "pyIter ref" => refine Halt.of ?_)
  k_steps
  k_with_none
  refine Halt.on ?_
  rename Fr _ _ _ _ => F2
  rename News _ _ _ _ => N2
  rename IsRange _ _ _ _ _ _ _ _ => hR2
  with_unfolding_all refine' kst_step (σ := Nat × Tok) (n := wd) (fun _ => _) (fun c => [(Str.ofString "other", .int (c.1 : Int) c.2)]) (fun _ => True) [] (fun pre c => c.1 = otherI N pre.length) (0, ?tA) rfl hR2 (range1_small (by omega)) range1_size F2 N2 trivial ?kk rfl ?turn ?done
  case kk => kst_all
  case turn =>
    rintro ⟨c, tc⟩ pre k tn u h3 tk3 own hk hlen hoff _ hP F3 N3
    dsimp only [kstB] at F3 N3 hP
    rw [Int.zero_add, Int.mul_one] at hk
    subst hk
    (try k_fold)
    k_steps
  case done =>
    rintro ⟨c, tc⟩ u h4 tk3 _ hP F3 N3
    dsimp only [kstB] at F3 N3 hP
    rw [rangeInts_length] at hP
    subst hP
    (try k_fold)
    (k_with "pyIter ref" => refine Halt.of ?_)
    k_steps
    k_with_none
    refine Halt.on ?_
    rename Fr _ _ _ _ => F5
    rename News _ _ _ _ => N5
    rename IsRange _ _ _ _ _ _ _ _ => hR5
    rename (Obj.data _ = _) => d5
    with_unfolding_all refine' kst_step (σ := Nat × Tok × Obj) (n := wd - 1) (fun c => (_, c.2.2) :: news) (fun _ => []) (fun c => c.2.2.data = .cell (some (.int (c.1 : Int) c.2.1))) [] (fun pre c => c.1 = dueI N wd pre.length) (0, ?tB, ?oB) rfl hR5 (rangeA_small h2 h3) (rangeA_size h2) F5 N5 d5 (fun p hp => nomatch hp) rfl ?turn2 ?done2
    case turn2 =>
      rintro ⟨c, tc, oc⟩ pre k tn u h5 tk5 own hk hlen hoff hf hP F6 N6
      dsimp only [kstB] at F6 N6 hP hf
      have hk' : k = ((pre.length + 1 : Nat) : Int) := by omega
      subst hk'
      (try k_fold)
      have eE : ((wd : Int) - 1 - ((pre.length + 1 : Nat) : Int)) = ((wd - 1 - (pre.length + 1) : Nat) : Int) := by omega
      (k_with "InvEndN" => refine Halt.of ?_)
      k_steps
      · rw [eE, Int.toNat_natCast, show (c : Int) + 255 * 16 ^ (wd - 1 - (pre.length + 1)) = ((c + 255 * 16 ^ (wd - 1 - (pre.length + 1)) : Nat) : Int) by rw [Int.natCast_add, Int.natCast_mul, Int.natCast_pow]; rfl]
        rename Fr _ _ _ _ => F7
        rename News _ _ _ _ => N7
        rw [List.cons_append] at N7
        k_dflt (refine' storeX_C F7 N7 ?sc (UpdF.head ?sU) hf ?_ ?sa ?sb; (case sa => rfl); (case sb => rfl); (case sc => rfl))
        case sU =>
          intro r hr
          rcases List.mem_append.mp hr with hr | hr
          · have := ltN (Low.all (by assumption) r hr)
            refine neN ?_
            omega
          · exact hoff r hr _ (List.mem_cons_self ..)
        clear F7 N7
        intro h8 o8 F8 N8 d8
        k_steps
        k_with_none
        refine Halt.on ?_
        rename (_ < (_ : Int)) => hlt
        refine kst_end (c + 255 * 16 ^ (wd - 1 - (pre.length + 1)), _, o8) F8 N8 (fun r hr => ?_) (fun r hr => ?_) rfl d8 (fun r hr => nomatch hr) (by kst_same) ?_
        · rcases List.mem_cons.mp hr with rfl | hr
          · exact List.mem_cons_self ..
          · exact List.mem_cons_of_mem _ (List.mem_append.mpr (.inl hr))
        · exact List.mem_cons_of_mem _ (List.mem_append.mpr (.inr hr))
        · show _ = dueI N wd (pre ++ [_]).length
          rw [List.length_append, List.length_singleton, dueI, if_pos (Int.ofNat_lt.mp hlt), hP]
      · k_with_none
        refine Halt.on ?_
        rename (¬ (_ < (_ : Int))) => hlt
        refine kst_end (c, _, oc) (by assumption) (by assumption) (fun r hr => List.mem_append.mpr (.inl hr)) (fun r hr => List.mem_append.mpr (.inr hr)) rfl hf (fun r hr => nomatch hr) (by kst_same) ?_
        show _ = dueI N wd (pre ++ [_]).length
        rw [List.length_append, List.length_singleton, dueI, if_neg (fun h => hlt (Int.ofNat_lt.mpr h)), hP]
        rfl
    case done2 =>
      rintro ⟨c, tc, oc⟩ u h5 tk5 hf hP F6 N6
      dsimp only [kstB] at F6 N6 hP hf
      rw [rangeInts_length] at hP
      subst hP
      (k_with "eval ListComp" => refine Halt.of ?_)
      k_steps
      k_with_none
      refine Halt.on ?_
      k_dflt (refine ListComp_D (F₀ := by k_asm) (by with_unfolding_all rfl) (by decide) (by rfl) (by decide) (by rfl) ?_)
      k_steps
      rename Fr _ _ _ _ => F7
      rename News _ _ _ _ => N7
      rename IsRange _ _ _ _ _ _ _ _ => hR7
      refine CompD.of rfl F7 N7 hR7 (rangeD_small h3) rangeD_size (by rw [sizeLine_eq]; omega) ?_
      clear F7 N7
      intro g
      refine kcf_rest (ks := rangeInts wd (-1) (wd + 1)) (fun k => ((65 + dueI N wd (wd - 1) / 16 ^ k.toNat % 16 : Nat) : Int)) (rangeInts_length _ _ _) ?hP ?tn ?fn
      case hP =>
        rintro i v hi ⟨_, t, rfl⟩
        exact ⟨_, t, rangeInts_get hi, rfl⟩
      case tn =>
        intro k tk I oI C oC D m₂ ys h8 tk8 E' hk hC hx F8 N8 off ne mk
        obtain ⟨j, hj, hjk⟩ : ∃ j : Nat, j ≤ wd ∧ k = (j : Int) := by
          simp only [rangeInts, List.mem_map, List.mem_range] at hk
          obtain ⟨i, hi, rfl⟩ := hk
          exact ⟨wd - i, by omega, by omega⟩
        subst hjk
        k_steps
        refine kcf_el (r' := ((65 + dueI N wd (wd - 1) / 16 ^ j % 16 : Nat) : Int)) ?_ rfl rfl
        show ((65 + dueI N wd (wd - 1) / 16 ^ ((j : Int)).toNat % 16 : Nat) : Int) = _
        exact congrArg (fun z : Nat => ((65 + dueI N wd (wd - 1) / 16 ^ z % 16 : Nat) : Int)) (Int.toNat_natCast j)
      case fn =>
        unfold KPfDone
        intro ys hys D h8 tk8 F8 N8 off
        (k_with "call type:bytes" => refine Halt.of ?_)
        k_steps
        k_with_none
        refine Halt.on ?_
        rename Fr _ _ _ _ => F9
        rename News _ _ _ _ => N9
        refine KBa.make_K (s := ⟨_, _, _, _, _⟩) F9 N9 rfl (News.isList N9 (List.mem_cons_self ..)) hys (told_in _ _) (by rw [List.length_map, rangeInts_length]; omega) ?_
        clear F9 N9
        intro h10 t10 k10 F10 N10 _
        rw [told_arr]
        k_steps
        rename Fr _ _ _ _ => F9
        rename News _ _ _ _ => N9
        exact hret _ _ _ F9 (fun r hr => N9 r (List.mem_cons_of_mem _ (List.mem_cons_of_mem _ hr)))
end Mine
namespace Mine
local macro_rules | `(tactic| walk_at "mine:enterCell") => `(tactic| (refine' code_defC ?k1 ?k2 ?k3 ?k4 ?k5 ?kA ?kF ?kK ?k6 ?k7 ?k8 ?k9 ?kB ?kD ?_ ?c2 ?c3 ?c4; (case kA => exact rfl); (case kF => exact rfl); (case kK => assumption); (case k1 => k_asm); (case k2 => k_asm); (case k3 => k_asm); (case k4 => k_asm); (case k5 => k_asm); (case k6 => k_is); (case k7 => k_is); (case k8 => ktr_room); (case k9 => exact BindsTo.of_eq rfl); (case kB => exact rfl); (case kD => decide +kernel); (case c2 => exact rfl); (case c3 => exact rfl); (case c4 => exact rfl); k_whole; intro g' L' h' tk' cells' FG' F' N' Y' B' X' T' l1; (have hLow := Low.mk l1); (try k_lt l1); k_cells Y'; (try simp only [List.cons_append, List.nil_append] at N'); (try dsimp only); (try k_lift B'); (try k_fold)))
local macro_rules | `(tactic| walk_at "mine:prem") => `(tactic| ((case k1 => k_asm); (case k2 => k_asm); (case k3 => k_asm); (case k4 => k_asm); (case k5 => k_asm); (case kK => first | exact rfl | assumption); (case kd => ktr_room); (case ku => ktr_units)))
local macro_rules | `(tactic| walk_at "call builtin:len") => `(tactic| ((((with_reducible show wpAny _ _ (call (Value.builtin "len") [Value.bytes (List.toArray _) _]) _ _ _); (refine lenB (by omega) ?_))); (try dsimp only)))
local macro_rules | `(tactic| walk_at "binaryOp Mult bytes int") => `(tactic| (refine mulA (by omega) (by omega) ?_; intro _ _))
local macro_rules | `(tactic| walk_at "binaryOp Add int int") => `(tactic| ((with_reducible (first | refine addNN ?_ | refine addNL ?_ | refine addLN ?_)); (try dsimp only)))
local macro_rules | `(tactic| walk_at "binaryOp Mult int int") => `(tactic| ((with_reducible (first | refine mulNL (by decide) ?_ | refine mulLN (by decide) ?_)); (try dsimp only)))
local macro_rules | `(tactic| walk_at "binaryOp FloorDiv int int") => `(tactic| ((with_reducible (first | refine fdivNL (by decide) (by decide) ?_ | refine fdivP (by decide) (by decide) (by omega) ?_ | refine fdivZP (by decide) (by decide) (by omega) ?_)); (try dsimp only)))
local macro_rules | `(tactic| walk_at "binaryOp Mod int int") => `(tactic| ((with_reducible (first | refine modNL (by decide) ?_ | refine modP (by decide) ?_ | refine modNN (by omega) ?_ | refine modZP (by decide) ?_)); (try dsimp only)))
local macro_rules | `(tactic| walk_at "binaryOp Pow int int") => `(tactic| ((with_reducible (refine powLN (by decide) (by omega) ?_)); (try dsimp only)))
local macro_rules | `(tactic| k_all) => `(tactic| (intro r9 hr9; (have hm9 := ltN (Low.all (by assumption) r9 hr9)); refine neN ?_; omega))
local macro_rules | `(tactic| walk_at "storeName") => `(tactic| (k_here; k_dflt (refine' storeX_C ?sF ?sN ?sc ?sU ?sd ?_ ?sa ?sb; (case sa => rfl); (case sb => rfl); (case sF => k_asm); (case sN => k_asm); (case sc => rfl); (case sU => k_updF); (case sd => k_asm); k_whole; intro h' o' F' N' d'; (try dsimp only at N'); (try k_sweep))))
local macro_rules | `(tactic| walk_at "call builtin:max") => `(tactic| (k_here; k_dflt (refine' maxNN ?mh ?mF ?mN ?_; (case mh => rfl); (case mF => k_asm); (case mN => k_asm); k_whole); intro _ _ _ F' N'))
local macro_rules | `(tactic| walk_at "call builtin:min") => `(tactic| (k_here; k_dflt (refine' minNN ?mh ?mF ?mN ?_; (case mh => rfl); (case mF => k_asm); (case mN => k_asm); k_whole); intro _ _ _ F' N'))
local macro_rules | `(tactic| walk_at "eval ListComp") => `(tactic| k_extra "eval ListComp")
local macro_rules | `(tactic| walk_at "exec Assign cons ListComp") => `(tactic| k_extra "exec Assign cons ListComp")
local macro_rules | `(tactic| walk_at "pyIter ref") => `(tactic| k_extra "pyIter ref")
local macro_rules | `(tactic| walk_at "pyIter bytes") => `(tactic| k_extra "pyIter bytes")
local macro_rules | `(tactic| walk_at "call ref") => `(tactic| k_extra "call ref")
local macro_rules | `(tactic| walk_at "InvEndN") => `(tactic| k_extra "InvEndN")
local macro_rules | `(tactic| walk_at "exec Assign") => `(tactic| k_extra "exec Assign")
local macro_rules | `(tactic| walk_at "call builtin:len") => `(tactic| k_extra "call builtin:len")
local macro_rules | `(tactic| walk_at "exec For") => `(tactic| k_extra "exec For")
local macro_rules | `(tactic| walk_at "binaryOp Sub int int") => `(tactic| ((with_reducible (first | refine subLN (by omega) ?_ | refine subNL (by omega) ?_)); (try dsimp only)))
local macro_rules | `(tactic| walk_at "call type:range") => `(tactic| (k_here; (with_reducible show wpAny _ _ (call (Value.type "range") [Value.int _ _]) _ _ _); k_dflt (refine' range1_rows ?rF ?rN ?_; (case rF => k_asm); (case rN => k_asm)); intro h' tk' t1' u1' v1' R' F' N' K'))
local macro_rules | `(tactic| walk_at "binaryOp Sub int int") => `(tactic| k_extra "binaryOp Sub int int")
local macro_rules | `(tactic| walk_at "binaryOp Mult ref int") => `(tactic| k_extra "binaryOp Mult ref int")
local macro_rules | `(tactic| walk_at "binaryOp Add ref ref") => `(tactic| k_extra "binaryOp Add ref ref")
local macro_rules | `(tactic| walk_at "storeName") => `(tactic| k_extra "storeName")
local macro_rules | `(tactic| walk_at "execs cons") => `(tactic| refine wpAny_execs_cons ?_)
local macro_rules | `(tactic| walk_at "call builtin:list.append") => `(tactic| k_extra "call builtin:list.append")
local macro_rules | `(tactic| walk_at "subscriptTail BinOp Name ref int") => `(tactic| k_extra "subscriptTail BinOp Name ref int")
local macro_rules | `(tactic| k_all) => `(tactic| ((try (refine List.forall_mem_cons.mpr ⟨by k_ne, ?_⟩)); exact all_app (all_ne (kst_ltOf (by first | assumption | exact And.right (by assumption)))) (OwnOff.ne (by assumption) (by k_memK))))
local macro_rules | `(tactic| walk_at "subscriptTail Name Slice ref ref") => `(tactic| k_extra "subscriptTail Name Slice ref ref")
local macro_rules | `(tactic| walk_at "binaryOp Add bytes bytes") => `(tactic| k_extra "binaryOp Add bytes bytes")
local macro_rules | `(tactic| walk_at "subscriptTail Name Slice bytes ref") => `(tactic| k_extra "subscriptTail Name Slice bytes ref")
local macro_rules | `(tactic| walk_at "subscriptTail Name Name ref int") => `(tactic| k_extra "subscriptTail Name Name ref int")
local macro_rules | `(tactic| walk_at "compareOp NotEq bytes bytes") => `(tactic| k_extra "compareOp NotEq bytes bytes")
theorem built (w : World) (mean mg mb) (l : Addr) (vs : List Value) (ns : List Int) :
  ∀ (dp un : Nat) (gd : Option (List Code)) (cn : Str) (cs : Scope) (a : Addr) (ccd : Value) (cl : List (Str × Addr)) (outer : List Env) (A₀ : Around) (base h₀ : Heap) (L : Addr) (m : Str → Option Value) (s : Shared) (Q E : Value → Shared → Prop),
    Below A₀ base outer h₀ → Fr h₀ L s.heap m → (Mine.hd.heap_39 w.params).In h₀ → News h₀ L s.heap [] → Top Mine.hd.view_39 (looseW Mine.hd.view_39 []) mean mg mb h₀ → cs.kind = .function →
    base.IsList l vs.toArray → IntsAre vs ns → ns.length ≤ 63 → dp + 1 < recursionLimit → un + 8 * 1 < cLine →
    (∀ (T D : Addr) (us : List Value) (nn : Nat) (ks : List Nat) (wd : Nat) (tw : Tok) (h' : Heap) (tk' : Nat), Fr h₀ L h' m → News h₀ L h' [(T, { cls := .type "tuple", data := .seq #[.ref D, .int (wd : Int) tw] }), (D, listOf us.toArray nn)] → D < T → IntsAre us (castL ks) → (∀ k ∈ ks, k < 16 ^ wd) → ks.length ≤ 17 → 2 ≤ wd → wd ≤ 7 →
      Q (.ref T) { s with heap := h', toks := tk' }) →
      wpAny (model PySem.Challenge.rw_pe0018_01.row.prog w) (ktrTop dp un gd cn cs L a ccd cl outer) (call (.ref 33) [.ref l]) Q E s := by
  k_fill
  intros
  rename_i hl hi hlen _ _ hret
  refine wpAny_call ?_
  k_dflt (walk_at "mine:enterCell")
  (k_with "exec Assign" => refine Halt.of ?_)
  k_steps
  k_with_none
  refine Halt.on ?_
  (try dsimp only)
  rename IntsAre _ (List.map _ _) => hI8
  rename (List.length _ = List.length (List.map _ _)) => hL8
  obtain ⟨ds, hI9, hds⟩ := ints_cast hI8 (fun n hn => (fmod_all (d := 10 ^ Int.toNat 6) (by decide) (fun _ => rfl) _ n hn).1)
  have hds8 : ds.length ≤ 8 := by
    rw [hds, List.length_map, List.length_map, List.length_take]
    omega
  clear hds
  clear hL8 hI8
  walk1
  (k_with "exec Assign" => refine Halt.of ?_)
  k_steps
  k_with_none
  refine Halt.on ?_
  (try dsimp only)
  rename Fr _ _ _ _ => F2
  rename News _ _ _ _ => N2
  rw [castL_sum] at F2
  generalize ds.sum = T at F2
  -- pairs, middle, width
  (k_with "binaryOp Sub int int" => refine Halt.of ?_)
  k_steps
  k_with_none
  refine Halt.on ?_
  (try dsimp only)
  have e3 : (3 : Int) - ((T % 3 : Nat) : Int) = ((3 - T % 3 : Nat) : Int) := by omega
  refine sub_int ?_
  rw [e3]
  obtain ⟨P, hP⟩ : ∃ P, 3 - T % 3 = P := ⟨_, rfl⟩
  rw [hP]
  have hP1 : 1 ≤ P := by omega
  have hP3 : P ≤ 3 := by omega
  clear e3 hP
  (k_with "binaryOp Mult ref int" => refine Halt.of ?_)
  k_steps
  k_with_none
  refine Halt.on ?_
  (try dsimp only)
  rename Fr _ _ _ _ => F3
  rename News _ _ _ _ => N3
  refine mulRep (s := ⟨_, _, _, _, _⟩) (n := T / 3 % 2) F3 N3 (List.mem_cons_self ..) (by omega) ?_
  clear F3 N3
  intro Dm um hm hIm Fm Nm lm
  (try dsimp only)
  obtain ⟨mids, hmid⟩ : ∃ mids, List.replicate (T / 3 % 2) (T / 6 % 16) = mids := ⟨_, rfl⟩
  have hlm : mids.length ≤ 1 := by rw [← hmid, List.length_replicate]; omega
  have hmm : ∀ k ∈ mids, k < 16 := fun k hk => by rw [← hmid] at hk; rw [(List.mem_replicate.mp hk).2]; omega
  rw [hmid] at hIm
  clear hmid
  have hul : um.length = mids.length := by rw [hIm.length, castL_length]
  k_lt lm
  (k_with "call builtin:len" => refine Halt.of ?_)
  k_steps
  k_with_none
  refine Halt.on ?_
  (try dsimp only)
  rename News _ _ _ _ => N4
  refine lenL (s := ⟨_, _, _, _, _⟩) N4 (List.mem_cons_self ..) (by omega) ?_
  intro t4 k4
  (try dsimp only)
  rw [hul]
  (k_with "storeName" => refine Halt.of ?_)
  k_steps
  k_with_none
  refine Halt.on ?_
  (try dsimp only)
  obtain ⟨W, hW⟩ : ∃ W, 2 * P + mids.length = W := ⟨_, rfl⟩
  rw [hW]
  (k_with "pyIter ref" => refine Halt.of ?_)
  k_steps
  k_with_none
  refine Halt.on ?_
  (try dsimp only)
  rename IntsAre _ (List.map _ _) => hIn
  have hlt := fmod_all (f := fun k' : Int => k'.fmod ((16 ^ W : Nat) : Int)) (d := ((16 ^ W : Nat) : Int)) (Int.natCast_pos.mpr (Nat.pow_pos (by decide))) (fun _ => rfl) (List.take 3 ns)
  obtain ⟨kn, hIkn, hkn⟩ := ints_cast hIn (fun n hn => (hlt n hn).1)
  have hk16 : ∀ k ∈ kn, k < 16 ^ W := by
    intro k hk
    (try dsimp only)
    rw [hkn] at hk
    obtain ⟨n, hn, rfl⟩ := List.mem_map.mp hk
    have := hlt n hn
    omega
  have hkl3 : kn.length ≤ 3 := by
    rw [hkn, List.length_map, List.length_map, List.length_take]
    omega
  clear hkn hlt hIn
  have hn14 : (3 ^ P + 1) / 2 ≤ 14 := by
    have : P = 1 ∨ P = 2 ∨ P = 3 := by omega
    rcases this with rfl | rfl | rfl <;> decide
  rename Fr _ _ _ _ => F5
  rename News _ _ _ _ => N5
  rename IsRange _ _ _ _ _ _ _ _ => hR5
  with_unfolding_all refine' kst_step (σ := List Value × List Nat × Nat) (n := (3 ^ P + 1) / 2) (fun c => (_, listOf c.1.toArray c.2.2) :: _) (fun _ => []) (fun c => IntsAre c.1 (castL c.2.1)) [Str.ofString "way", Str.ofString "front", Str.ofString "back", Str.ofString "p", Str.ofString "x", Str.ofString "lesser", Str.ofString "greater", Str.ofString "kind", Str.ofString "number", Str.ofString "figure"] (fun pre c => (∀ k ∈ c.2.1, k < 16 ^ W) ∧ c.2.1.length ≤ 3 + pre.length) (_, kn, _) rfl hR5 (range1_small (by omega)) range1_size F5 N5 hIkn (fun p hp => nomatch hp) ⟨hk16, by omega⟩ ?turn ?done
  case turn =>
    rintro ⟨us, ks, nn⟩ pre q tq u h3 tk3 own hq hlen hoff hf ⟨hk1, hk2⟩ F6 N6
    dsimp only [kstB] at F6 N6 hf hk1 hk2
    rw [Int.zero_add, Int.mul_one] at hq
    obtain ⟨qq, hqq⟩ : ∃ qq, pre.length = qq := ⟨_, rfl⟩
    rw [hqq] at hq hlen hk2
    subst hq
    (try k_fold)
    (k_with "pyIter ref" => refine Halt.of ?_)
    k_steps
    k_with_none
    refine Halt.on ?_
    (try dsimp only)
    rename Fr _ _ _ _ => F7
    rename News _ _ _ _ => N7
    rename IsRange _ _ _ _ _ _ _ _ => hR7
    rename (_ < _ ∧ AllLt _ _) => lb
    rename (∀ p : Addr × Obj, p ∈ _ → p.1 < _) => lf
    refine step_two' (s := ⟨_, _, _, _, _⟩) (n := P) [Str.ofString "x", Str.ofString "lesser", Str.ofString "greater", Str.ofString "kind"] (fun i c d => (∀ k ∈ c.2.1, k < 16) ∧ (∀ k ∈ d.2.1, k < 16) ∧ c.2.1.length = i ∧ d.2.1.length = i) ([], [], 0) ([], [], 0) rfl hR7 (by omega) F7 N7 .nil .nil ⟨(fun _ h => nomatch h), (fun _ h => nomatch h), rfl, rfl⟩ (all_ne (kst_ltOf lb.2)) (all_ne lf) ?turn2 ?done2
    case turn2 =>
      rintro ⟨bu, bk, bn⟩ ⟨fu, fk, fn⟩ pp tp u2 h4 tk4 own2 hlen2 hoff2 hd1 hd2 hf1 hf2 ⟨hb1, hb2, hb3, hb4⟩ F8 N8
      dsimp only at F8 N8 hf1 hf2 hb1 hb2 hb3 hb4
      (try k_fold)
      (k_with "binaryOp Add ref ref" => refine Halt.of ?_)
      k_steps
      k_with_none
      refine Halt.on ?_
      (try dsimp only)
      rename (_ < _ ∧ _ < _ ∧ AllLt _ _) => lz
      rename Fr _ _ _ _ => F9
      rename News _ _ _ _ => N9
      refine addLI (s := ⟨_, _, _, _, _⟩) (c := [0, 19, 230]) F9 N9 hI9 (.cons _ _ (.cons _ _ (.cons _ _ .nil))) (by k_mem) (by k_mem) (by show _ + 3 ≤ _; omega) ?_
      clear F9 N9
      intro D9 v9 h9 hi9 F9 N9 l9
      (try dsimp only)
      have hdl : pp < (ds ++ [0, 19, 230]).length := by rw [List.length_append]; show pp < _ + 3; omega
      walk1
      rename News _ _ _ _ => N9
      refine kba_turn (value' := PySem.Expr.Name (PySem.Str.ofString "_") ⟨0, 0, 0, 0⟩) (fun _ => rfl) ?_
      refine itemN (s := ⟨_, _, _, _, _⟩) N9 (List.mem_cons_self ..) hi9 hdl (by rw [List.length_append]; show _ + 3 ≤ _; omega) ?_
      intro tx
      (try dsimp only)
      obtain ⟨X, hX⟩ : ∃ X, (ds ++ [0, 19, 230])[pp] = X := ⟨_, rfl⟩
      rw [hX]
      clear hX
      k_lt l9
      (k_with "binaryOp Sub int int" => refine Halt.of ?_)
      k_steps
      k_with_none
      refine Halt.on ?_
      (try dsimp only)
      have e15 : (15 : Int) - ((X % 15 : Nat) : Int) = ((15 - X % 15 : Nat) : Int) := by omega
      refine sub_int ?_
      rw [e15]
      obtain ⟨Y, hY⟩ : ∃ Y, 15 - X % 15 = Y := ⟨_, rfl⟩
      have hY0 : 0 < Y := by omega
      rw [hY]
      clear e15
      walk1
      walk1
      (try dsimp only)
      have hg : X % 15 + 1 + X / 15 % Y < 16 := by
        have := Nat.mod_lt (X / 15) hY0
        omega
      have hl : X % 15 < 16 := by omega
      obtain ⟨G, hG⟩ : ∃ G, X % 15 + 1 + X / 15 % Y = G := ⟨_, rfl⟩
      rw [hG] at hg ⊢
      clear hG hY hY0
      (k_with "call builtin:list.append" => refine Halt.of ?_)
      k_steps
      k_with_none
      all_goals refine Halt.on ?_
      all_goals (try dsimp only)
      all_goals rename Fr _ _ _ _ => F10
      all_goals rename News _ _ _ _ => N10
      all_goals refine appN (s := ⟨_, _, _, _, _⟩) F10 N10 hf2 (by omega) (Upd.tail (Nat.ne_of_gt l9.2.2.1) (Upd.tail (Nat.ne_of_gt lz.2.1) (Upd.tail (Nat.ne_of_gt lb.1) (Upd.head hd2)))) ?_
      all_goals clear F10 N10
      all_goals rintro h10 _ hi10 rfl F10 N10
      all_goals (try dsimp only)
      all_goals (k_with "call builtin:list.append" => refine Halt.of ?_)
      all_goals k_steps
      k_with_none
      all_goals refine Halt.on ?_
      all_goals (try dsimp only)
      all_goals rename Fr _ _ _ _ => F11
      all_goals rename News _ _ _ _ => N11
      all_goals refine appN (s := ⟨_, _, _, _, _⟩) F11 N11 hf1 (by omega) (Upd.tail (Nat.ne_of_gt l9.2.1) (Upd.tail (Nat.ne_of_gt lz.1) (Upd.head (List.forall_mem_cons.mpr ⟨Nat.ne_of_lt lb.1, hd1⟩)))) ?_
      all_goals clear F11 N11
      all_goals rintro h11 _ hi11 rfl F11 N11
      all_goals (try dsimp only)
      all_goals (k_with "InvEndN" => refine Halt.of ?_)
      all_goals k_steps
      k_with_none
      all_goals refine Halt.on ?_
      all_goals refine two_end ⟨_, _, bn + 1⟩ ⟨_, _, fn + 1⟩ F11 N11 (fun r hr => .tail _ (.tail _ (List.mem_append_left _ hr))) (fun r hr => .tail _ (.tail _ (.tail _ (.tail _ (List.mem_append_right _ hr))))) hi11 hi10 (by intro z h1 h3; (simp only [List.contains_cons, List.contains_nil, Bool.or_false, Bool.or_eq_false_iff, beq_eq_false_iff_ne, ne_eq] at h3); simp [h1, h3]) ⟨all_snoc hb1 (by assumption), all_snoc hb2 (by assumption), ?_, ?_⟩
      all_goals (rw [List.length_append, List.length_singleton]; omega)
    case done2 =>
      rintro ⟨bu, bk, bn⟩ ⟨fu, fk, fn⟩ u2 h4 tk4 hf1 hf2 ⟨hb1, hb2, hb3, hb4⟩ F8 N8
      dsimp only at F8 N8 hf1 hf2 hb1 hb2 hb3 hb4
      (try k_fold)
      (k_with "exec For" => refine Halt.of ?_)
      k_steps
      k_with_none
      refine Halt.on ?_
      (try dsimp only)
      rename Fr _ _ _ _ => F9
      with_unfolding_all refine' For_invVF F9 ?k1 ?k2 ?_
      (case k1 => exact rfl)
      (case k2 => exact rfl)
      k_whole
      (k_with "binaryOp Add ref ref" => refine Halt.of ?_)
      k_steps
      k_with_none
      refine Halt.on ?_
      (try dsimp only)
      rename News _ _ _ _ => N9
      refine addLI (s := ⟨_, _, _, _, _⟩) F9 N9 hf2 hIm (by k_mem) (by k_mem) (by omega) ?_
      clear F9 N9
      intro D9 v9 h9 hi9 F9 N9 l9
      (try dsimp only)
      (k_with "subscriptTail Name Slice ref ref" => refine Halt.of ?_)
      k_steps
      k_with_none
      refine Halt.on ?_
      (try dsimp only)
      refine krv_ints (s := ⟨h9, _, _, _, _⟩) F9 N9 (N9.isList (by k_mem)) (IsPart.int _ _) hf1 ?_ (by with_unfolding_all rfl) (fun _ => rfl) (by rw [List.size_toArray, hf1.length, castL_length, sizeLine_eq]; omega)
      clear F9 N9
      intro D10 v10 h10 F9 N9 l10 hi10 _
      (try dsimp only)
      rw [castL_reverse] at hi10
      (try dsimp only)
      refine addLI (s := ⟨_, _, _, _, _⟩) F9 N9 hi9 hi10 (by k_mem) (by k_mem) (by rw [List.length_append, List.length_reverse]; omega) ?_
      clear F9 N9
      intro D11 v11 h11 hi11 F9 N9 l11
      (try dsimp only)
      have hlen3 : (fk ++ mids ++ bk.reverse).length = W := by rw [List.length_append, List.length_append, List.length_reverse]; omega
      have hall3 : ∀ k ∈ fk ++ mids ++ bk.reverse, k < 16 := all_join (all_join hb2 hmm) (fun k hk => hb1 k (List.mem_reverse.mp hk))
      refine kst_listL (s := ⟨_, _, _, _, _⟩) (σ := Nat × Tok) (Function.const _ _) (fun c => [(Str.ofString "number", .int (c.1 : Int) c.2)]) (fun _ => True) [] (fun pre c => c.1 < 16 ^ pre.length) (0, _) rfl (fun _ => List.mem_cons_self ..) hi11 F9 N9 trivial (by kst_all) (Nat.pow_pos (by decide)) ?turn3 ?done3
      case turn3 =>
        rintro ⟨c, tc⟩ pre3 post3 n3 t3 u3 h5 tk5 own3 _ hn3 hoff3 _ hP3 F10 N10
        dsimp only [kstB, Function.const] at F10 N10 hP3
        obtain ⟨k3, hk3, rfl⟩ := castL_mem hn3
        have hk3' := hall3 k3 hk3
        (try k_fold)
        (k_with "InvEndN" => refine Halt.of ?_)
        k_steps
        k_with_none
        refine Halt.on ?_
        (try dsimp only)
        refine kst_end (c * 16 + k3, _) (by assumption) (by assumption) (fun r hr => List.mem_append.mpr (.inl hr)) (fun r hr => List.mem_append.mpr (.inr hr)) rfl trivial (by kst_all) (by kst_same) ?_
        show c * 16 + k3 < 16 ^ (pre3 ++ [(k3 : Int)]).length
        rw [List.length_append, List.length_singleton, Nat.pow_succ]
        omega
      case done3 =>
        rintro ⟨c, tc⟩ u3 h5 tk5 _ hP3 F10 N10
        dsimp only [kstB, Function.const] at F10 N10 hP3
        rw [castL_length, hlen3] at hP3
        (try k_fold)
        (k_with "call builtin:list.append" => refine Halt.of ?_)
        k_steps
        k_with_none
        refine Halt.on ?_
        (try dsimp only)
        rename Fr _ _ _ _ => F11
        rename News _ _ _ _ => N11
        refine appN (s := ⟨_, _, _, _, _⟩) F11 N11 hf (by omega) (Upd.tail (ne_mem l11 (o := _) (by k_mem)) (Upd.tail (ne_mem l10 (o := _) (by k_mem)) (Upd.tail (ne_mem l9 (o := _) (by k_mem)) (Upd.tail (ne_mem (kst_ltOf lb.2) (o := _) (by k_mem)) (Upd.tail (ne_mem lf (o := _) (by k_mem)) (Upd.head ?hne)))))) ?_
        case hne =>
          refine all_app (a := [_, _, _, _, _, _]) ?_ (OwnOff.ne hoff (.head _))
          (repeat' (first | exact List.forall_mem_nil _ | refine List.forall_mem_cons.mpr ⟨?_, ?_⟩)) <;> ((try dsimp only); k_ne)
        clear F11 N11
        rintro h12 _ hi12 rfl F11 N11
        (try dsimp only)
        (k_with "InvEndN" => refine Halt.of ?_)
        k_steps
        k_with_none
        refine Halt.on ?_
        (try dsimp only)
        refine kst_end (_, ks ++ [c], nn + 1) F11 N11 (fun r hr => .tail _ (.tail _ (.tail _ (.tail _ (.tail _ (List.mem_append_left _ hr)))))) (fun r hr => .tail _ (.tail _ (.tail _ (.tail _ (.tail _ (.tail _ (List.mem_append_right [_, _, _, _, _, _] hr))))))) rfl hi12 (fun p hp => nomatch hp) (by kst_same) ⟨all_snoc hk1 hP3, ?_⟩
        show (ks ++ [c]).length ≤ 3 + (pre ++ [(qq : Int)]).length
        rw [List.length_append, List.length_append, List.length_singleton, List.length_singleton]
        omega
  case done =>
    rintro ⟨us, ks, nn⟩ u h3 tk3 hf ⟨hk1, hk2⟩ F6 N6
    dsimp only [kstB] at F6 N6 hf hk1 hk2
    rw [rangeInts_length] at hk2
    k_steps
    refine hret _ _ us nn ks W _ _ _ (by assumption) (kst_newsOf (by assumption) (List.forall_mem_cons.mpr ⟨by k_mem, List.forall_mem_cons.mpr ⟨by k_mem, List.forall_mem_nil _⟩⟩)) ?_ hf hk1 (by omega) (by omega) (by omega)
    exact And.left (by assumption)
end Mine
namespace Mine
/-- a number's word of a width -/
def digW : Nat → Nat → List UInt8
  | 0, _ => []
  | k + 1, n => digW k (n / 16) ++ [UInt8.ofNat (65 + n % 16)]
theorem digW_length : ∀ k n, (digW k n).length = k
  | 0, _ => rfl
  | k + 1, n => by rw [digW, List.length_append, digW_length k]; rfl
theorem filW_succ (k n : Nat) : filW (k + 1) n = filW k (n / 16) ++ [UInt8.ofNat (65 + n % 16)] := by
  unfold filW
  by_cases h : n = 0
  · subst h
    show List.replicate (k + 1 - (apW 0).length) 65 ++ apW 0 = (List.replicate (k - (apW 0).length) 65 ++ apW 0) ++ [65]
    rw [apW_zero, List.append_nil, List.append_nil]
    exact List.replicate_succ'
  · rw [apW_pos h, List.length_append, List.length_singleton, Nat.add_sub_add_right, List.append_assoc]
theorem filW_dig : ∀ k n, n < 16 ^ k → filW k n = digW k n
  | 0, n, h => by
    have : n = 0 := by rw [Nat.pow_zero] at h; omega
    subst this
    unfold filW
    rw [apW_zero]
    rfl
  | k + 1, n, h => by rw [filW_succ, digW, filW_dig k (n / 16) (by rw [Nat.pow_succ] at h; omega)]
theorem digW_front : ∀ k n, digW (k + 1) n = UInt8.ofNat (65 + n / 16 ^ k % 16) :: digW k n
  | 0, n => by rw [digW, digW, digW, Nat.pow_zero, Nat.div_one]; rfl
  | k + 1, n => by
    rw [digW, digW_front k, digW, Nat.div_div_eq_div_mul, Nat.pow_succ, Nat.mul_comm 16]
    rfl
theorem otherI_lt (n : Nat) : ∀ k, otherI n k < 16 ^ k
  | 0 => by rw [otherI, Nat.pow_zero]; omega
  | k + 1 => by
    have := otherI_lt n k
    rw [otherI, Nat.pow_succ]
    omega
theorem digW_reverse (n : Nat) : ∀ k, (digW k n).reverse = digW k (otherI n k)
  | 0 => rfl
  | k + 1 => by
    rw [digW_front, List.reverse_cons, digW_reverse n k, digW, otherI]
    have e1 : (otherI n k * 16 + n / 16 ^ k % 16) / 16 = otherI n k := by omega
    have e2 : (otherI n k * 16 + n / 16 ^ k % 16) % 16 = n / 16 ^ k % 16 := by omega
    rw [e1, e2]
def blocks (wd : Nat) (ns : List Nat) : List UInt8 := (ns.map (digW wd)).flatten
theorem blocks_nil (wd : Nat) : blocks wd [] = [] := rfl
theorem blocks_cons (wd n : Nat) (ns : List Nat) : blocks wd (n :: ns) = digW wd n ++ blocks wd ns := rfl
theorem blocks_snoc (wd n : Nat) (ns : List Nat) : blocks wd (ns ++ [n]) = blocks wd ns ++ digW wd n := by
  unfold blocks
  rw [List.map_append, List.flatten_append]
  show _ ++ (digW wd n ++ []) = _
  rw [List.append_nil]
theorem blocks_length (wd : Nat) : ∀ ns : List Nat, (blocks wd ns).length = ns.length * wd
  | [] => by rw [blocks_nil, List.length_nil, List.length_nil, Nat.zero_mul]
  | n :: ns => by rw [blocks_cons, List.length_append, digW_length, blocks_length wd ns, List.length_cons, Nat.succ_mul, Nat.add_comm]
theorem blocks_swap (wd : Nat) : ∀ ns : List Nat, swapN wd ns.length (blocks wd ns) = blocks wd (ns.map fun n => otherI n wd)
  | [] => rfl
  | n :: ns => by
    rw [List.length_cons, swapN, blocks_cons, List.take_left' (digW_length wd n), List.drop_left' (digW_length wd n), digW_reverse, blocks_swap wd ns]
    rfl
theorem blocks_cut (wd : Nat) : ∀ (ns : List Nat) (i : Nat) (h : i < ns.length), cut (blocks wd ns) (i * wd) ((i + 1) * wd) = digW wd ns[i]
  | n :: ns, 0, _ => by
    unfold cut
    rw [Nat.zero_mul, List.drop_zero, Nat.zero_add, Nat.one_mul, Nat.sub_zero, blocks_cons, List.take_left' (digW_length wd n)]
    rfl
  | n :: ns, i + 1, h => by
    have ih := blocks_cut wd ns i (by rw [List.length_cons] at h; omega)
    unfold cut at ih ⊢
    rw [blocks_cons, Nat.succ_mul i wd, Nat.add_comm (i * wd) wd, ← List.drop_drop, List.drop_left' (digW_length wd n)]
    have e : (i + 1 + 1) * wd - (wd + i * wd) = (i + 1) * wd - i * wd := by
      rw [Nat.succ_mul (i + 1), Nat.succ_mul i]
      omega
    rw [e]
    exact ih
theorem bInts_app (a b : List UInt8) : KBw.bInts (a ++ b).toArray = KBw.bInts a.toArray ++ KBw.bInts b.toArray := by
  unfold KBw.bInts
  simp
theorem readI_snoc (a : List Int) (n : Int) : readI (a ++ [n]) = readI a * 16 + n - 65 := by
  unfold readI
  rw [List.foldl_append]
  rfl
theorem bInts_one (d : Nat) (h : d < 16) : KBw.bInts [UInt8.ofNat (65 + d)].toArray = [((65 + d : Nat) : Int)] := by
  revert d
  decide
theorem read_dig : ∀ k n, n < 16 ^ k → readI (KBw.bInts (digW k n).toArray) = (n : Int)
  | 0, n, h => by
    have : n = 0 := by rw [Nat.pow_zero] at h; omega
    subst this
    rfl
  | k + 1, n, h => by
    rw [digW, bInts_app, bInts_one _ (Nat.mod_lt _ (by decide)), readI_snoc, read_dig k (n / 16) (by rw [Nat.pow_succ] at h; omega)]
    omega
theorem told_dig (N wd : Nat) : toldW N wd = digW (wd + 1) (dueI N wd (wd - 1)) := by
  have e : ∀ k n, digW (k + 1) n = (List.range (k + 1)).map fun i => UInt8.ofNat (65 + n / 16 ^ (k - i) % 16) := by
    intro k
    induction k with
    | zero => intro n; rw [digW, digW]; simp
    | succ k ih =>
      intro n
      rw [digW_front, ih, List.range_succ_eq_map (n := k + 1), List.map_cons, List.map_map]
      congr 1
      refine List.map_congr_left fun i hi => ?_
      show _ = UInt8.ofNat (65 + n / 16 ^ (k + 1 - (i + 1)) % 16)
      rw [Nat.add_sub_add_right]
  rw [e]
  rfl
theorem apW_head : ∀ n, (apW n).take 1 ≠ [65] := by
  intro n
  induction n using Nat.strongRecOn with
  | ind n ih =>
    by_cases h : n = 0
    · subst h
      rw [apW_zero]
      decide
    · rw [apW_pos h]
      by_cases h2 : n / 16 = 0
      · rw [h2, apW_zero]
        have h3 : n < 16 := by omega
        have h4 : n ≠ 0 := h
        clear ih h h2
        revert n
        decide
      · have := ih (n / 16) (by omega)
        have h5 : apW (n / 16) ≠ [] := by rw [apW_pos h2]; exact List.append_ne_nil_of_right_ne_nil _ (List.cons_ne_nil _ _)
        obtain ⟨a, l, e⟩ := List.exists_cons_of_ne_nil h5
        rw [e] at this ⊢
        exact this
end Mine
namespace Mine
theorem dig_inj {k a b : Nat} (ha : a < 16 ^ k) (hb : b < 16 ^ k) (h : digW k a = digW k b) : a = b := by
  have h1 := read_dig k a ha
  rw [h, read_dig k b hb] at h1
  omega
theorem otherI_two {n k : Nat} (h : n < 16 ^ k) : otherI (otherI n k) k = n := by
  refine dig_inj (otherI_lt _ _) h ?_
  rw [← digW_reverse, ← digW_reverse, List.reverse_reverse]
theorem apW_le {n k : Nat} (h : n < 16 ^ k) : (apW n).length ≤ k := by
  have h1 := congrArg List.length (filW_dig k n h)
  rw [digW_length, filW, List.length_append, List.length_replicate] at h1
  omega
theorem nat_of (k : Nat) : (k : Int).natAbs = k := Int.natAbs_natCast k
def backN (l : List Int) : List Nat := l.map Int.toNat
theorem backN_snoc (l : List Int) (k : Nat) : backN (l ++ [(k : Int)]) = backN l ++ [k] := by unfold backN; rw [List.map_append]; rfl
theorem backN_cast (ks : List Nat) : backN (castL ks) = ks := by
  unfold backN castL
  rw [List.map_map]
  exact List.map_id' ks
theorem backN_length (l : List Int) : (backN l).length = l.length := List.length_map ..
/-- a number less its turned one, without the sign -/
def difI (wd n : Nat) : Nat := ((n : Int) - (otherI n wd : Int)).natAbs
theorem difI_lt {n wd : Nat} (h : n < 16 ^ wd) : difI wd n < 16 ^ wd := by
  have := otherI_lt n wd
  unfold difI
  omega
/-- the borrow into a place -/
def borW (M m k : Nat) : Nat := if M % 16 ^ k < m % 16 ^ k then 1 else 0
def runB (M m : Nat) : Nat → Nat
  | 0 => 0
  | k + 1 => 16 * runB M m k + borW M m k
theorem bor_le (M m k : Nat) : borW M m k ≤ 1 := by unfold borW; split <;> omega
theorem bor_zero (M m : Nat) : borW M m 0 = 0 := by unfold borW; rw [Nat.pow_zero, Nat.mod_one, Nat.mod_one]; rfl
theorem div_bor {M m k : Nat} (h : m ≤ M) : (M - m) / 16 ^ k + borW M m k = M / 16 ^ k - m / 16 ^ k := by
  unfold borW
  generalize hq : 16 ^ k = q
  have q0 : 0 < q := hq ▸ Nat.pow_pos (by decide)
  have eM := Nat.div_add_mod M q
  have em := Nat.div_add_mod m q
  have hx := Nat.mod_lt M q0
  have hy := Nat.mod_lt m q0
  generalize M / q = A at *
  generalize m / q = B at *
  generalize M % q = x at *
  generalize m % q = y at *
  have hAB : B ≤ A := by
    refine Nat.le_of_not_lt fun hlt => ?_
    have : q * (A + 1) ≤ q * B := Nat.mul_le_mul_left _ hlt
    rw [Nat.mul_add, Nat.mul_one] at this
    omega
  split
  · rename_i hlt
    have hlt2 : B < A := by
      refine Nat.lt_of_le_of_ne hAB fun e => ?_
      subst e
      omega
    obtain ⟨d, rfl⟩ : ∃ d, A = B + 1 + d := ⟨A - B - 1, by omega⟩
    have e : M - m = q * d + (q + x - y) := by
      rw [← eM, ← em, Nat.mul_add, Nat.mul_add, Nat.mul_one]
      omega
    rw [e, Nat.mul_add_div q0, Nat.div_eq_of_lt (by omega)]
    omega
  · rename_i hge
    obtain ⟨d, rfl⟩ : ∃ d, A = B + d := ⟨A - B, by omega⟩
    have e : M - m = q * d + (x - y) := by
      rw [← eM, ← em, Nat.mul_add]
      omega
    rw [e, Nat.mul_add_div q0, Nat.div_eq_of_lt (by omega)]
    omega
theorem bor_succ {M m k : Nat} : borW M m (k + 1) = if M / 16 ^ k % 16 < m / 16 ^ k % 16 + borW M m k then 1 else 0 := by
  unfold borW
  rw [Nat.pow_succ, Nat.mod_mul, Nat.mod_mul]
  generalize hq : 16 ^ k = q
  have q0 : 0 < q := hq ▸ Nat.pow_pos (by decide)
  have hx := Nat.mod_lt M q0
  have hy := Nat.mod_lt m q0
  generalize M / q % 16 = u
  generalize m / q % 16 = v
  generalize M % q = x at *
  generalize m % q = y at *
  rcases Nat.lt_trichotomy u v with h | h | h
  · have : q * (u + 1) ≤ q * v := Nat.mul_le_mul_left _ h
    rw [Nat.mul_add, Nat.mul_one] at this
    rw [if_pos (by omega), if_pos (by omega)]
  · subst h
    by_cases hxy : x < y
    · rw [if_pos (by omega), if_pos (by rw [if_pos hxy]; omega)]
    · rw [if_neg (by omega), if_neg (by rw [if_neg hxy]; omega)]
  · have : q * (v + 1) ≤ q * u := Nat.mul_le_mul_left _ h
    rw [Nat.mul_add, Nat.mul_one] at this
    rw [if_neg (by omega), if_neg (by split <;> omega)]
theorem dig_bor {M m k : Nat} (h : m ≤ M) : (M - m) / 16 ^ k % 16 + m / 16 ^ k % 16 + borW M m k = M / 16 ^ k % 16 + 16 * borW M m (k + 1) := by
  have h1 := div_bor (k := k) h
  have h2 := bor_succ (M := M) (m := m) (k := k)
  have h3 := bor_le M m k
  have h4 : m / 16 ^ k ≤ M / 16 ^ k := Nat.div_le_div_right h
  rw [h2]
  split <;> omega
theorem other_bor {M m : Nat} (h : m ≤ M) : ∀ k, otherI (M - m) k + otherI m k = otherI M k + 16 * borW M m k + 255 * runB M m k
  | 0 => by rw [bor_zero]; rfl
  | k + 1 => by
    have h1 := other_bor h k
    have h2 := dig_bor (k := k) h
    rw [otherI, otherI, otherI, runB]
    omega
theorem due_run (N wd : Nat) : ∀ j, j + 1 ≤ wd → dueI N wd j = 255 * runB (max N (otherI N wd)) (min N (otherI N wd)) (j + 1) * 16 ^ (wd - 1 - j)
  | 0, _ => by rw [dueI, runB, runB, bor_zero]; simp
  | j + 1, h => by
    have ih := due_run N wd j (by omega)
    have e : wd - 1 - j = (wd - 1 - (j + 1)) + 1 := by omega
    rw [e, Nat.pow_succ] at ih
    rw [dueI, ih]
    show _ = 255 * (16 * runB (max N (otherI N wd)) (min N (otherI N wd)) (j + 1) + borW (max N (otherI N wd)) (min N (otherI N wd)) (j + 1)) * _
    generalize 16 ^ (wd - 1 - (j + 1)) = q
    generalize runB (max N (otherI N wd)) (min N (otherI N wd)) (j + 1) = B
    unfold borW
    rw [Nat.mul_add, Nat.add_mul]
    congr 1
    · rw [Nat.mul_comm q 16, ← Nat.mul_assoc, Nat.mul_assoc 255, Nat.mul_comm B 16]
    · split <;> simp
theorem law_due {N wd : Nat} (h : N < 16 ^ wd) (hw : 1 ≤ wd) :
    (((N : Int) - (otherI N wd : Int)).natAbs) + otherI (((N : Int) - (otherI N wd : Int)).natAbs) wd = dueI N wd (wd - 1) := by
  rw [due_run N wd (wd - 1) (by omega), Nat.sub_self, Nat.pow_zero, Nat.mul_one, Nat.sub_add_cancel hw]
  have hR := otherI_lt N wd
  have h2 := otherI_two h
  obtain ⟨R, hRR⟩ : ∃ R, otherI N wd = R := ⟨_, rfl⟩
  rw [hRR] at hR h2 ⊢
  have e : ((N : Int) - (R : Int)).natAbs = max N R - min N R := by omega
  rw [e]
  have hm : min N R ≤ max N R := by omega
  have h3 := other_bor hm wd
  have h4 : borW (max N R) (min N R) wd = 0 := by
    unfold borW
    rw [Nat.mod_eq_of_lt (by omega), Nat.mod_eq_of_lt (by omega)]
    exact if_neg (by omega)
  rw [h4] at h3
  rcases Nat.le_total N R with hle | hle
  · rw [Nat.max_eq_right hle, Nat.min_eq_left hle] at *
    rw [hRR, h2] at h3
    omega
  · rw [Nat.max_eq_left hle, Nat.min_eq_right hle] at *
    rw [hRR, h2] at h3
    omega
end Mine
namespace Mine
local macro_rules | `(tactic| walk_at "mine:enterCell") => `(tactic| (refine' code_defC ?k1 ?k2 ?k3 ?k4 ?k5 ?kA ?kF ?kK ?k6 ?k7 ?k8 ?k9 ?kB ?kD ?_ ?c2 ?c3 ?c4; (case kA => exact rfl); (case kF => exact rfl); (case kK => assumption); (case k1 => k_asm); (case k2 => k_asm); (case k3 => k_asm); (case k4 => k_asm); (case k5 => k_asm); (case k6 => k_is); (case k7 => k_is); (case k8 => ktr_room); (case k9 => exact BindsTo.of_eq rfl); (case kB => exact rfl); (case kD => decide +kernel); (case c2 => exact rfl); (case c3 => exact rfl); (case c4 => exact rfl); k_whole; intro g' L' h' tk' cells' FG' F' N' Y' B' X' T' l1; (have hLow := Low.mk l1); (try k_lt l1); k_cells Y'; (try simp only [List.cons_append, List.nil_append] at N'); (try dsimp only); (try k_lift B'); (try k_fold)))
local macro_rules | `(tactic| walk_at "mine:prem") => `(tactic| ((case k1 => k_asm); (case k2 => k_asm); (case k3 => k_asm); (case k4 => k_asm); (case k5 => k_asm); (case kK => first | exact rfl | assumption); (case kd => ktr_room); (case ku => ktr_units)))
local macro_rules | `(tactic| walk_at "call builtin:len") => `(tactic| ((((with_reducible show wpAny _ _ (call (Value.builtin "len") [Value.bytes (List.toArray _) _]) _ _ _); (refine lenB (by omega) ?_))); (try dsimp only)))
local macro_rules | `(tactic| walk_at "binaryOp Mult bytes int") => `(tactic| (refine mulA (by omega) (by omega) ?_; intro _ _))
local macro_rules | `(tactic| walk_at "binaryOp Add int int") => `(tactic| ((with_reducible (first | refine addNN ?_ | refine addNL ?_ | refine addLN ?_)); (try dsimp only)))
local macro_rules | `(tactic| walk_at "binaryOp Mult int int") => `(tactic| ((with_reducible (first | refine mulNL (by decide) ?_ | refine mulLN (by decide) ?_)); (try dsimp only)))
local macro_rules | `(tactic| walk_at "binaryOp FloorDiv int int") => `(tactic| ((with_reducible (first | refine fdivNL (by decide) (by decide) ?_ | refine fdivP (by decide) (by decide) (by omega) ?_ | refine fdivZP (by decide) (by decide) (by omega) ?_)); (try dsimp only)))
local macro_rules | `(tactic| walk_at "binaryOp Mod int int") => `(tactic| ((with_reducible (first | refine modNL (by decide) ?_ | refine modP (by decide) ?_ | refine modNN (by omega) ?_ | refine modZP (by decide) ?_)); (try dsimp only)))
local macro_rules | `(tactic| walk_at "binaryOp Pow int int") => `(tactic| ((with_reducible (refine powLN (by decide) (by omega) ?_)); (try dsimp only)))
local macro_rules | `(tactic| k_all) => `(tactic| (intro r9 hr9; (have hm9 := ltN (Low.all (by assumption) r9 hr9)); refine neN ?_; omega))
local macro_rules | `(tactic| walk_at "storeName") => `(tactic| (k_here; k_dflt (refine' storeX_C ?sF ?sN ?sc ?sU ?sd ?_ ?sa ?sb; (case sa => rfl); (case sb => rfl); (case sF => k_asm); (case sN => k_asm); (case sc => rfl); (case sU => k_updF); (case sd => k_asm); k_whole; intro h' o' F' N' d'; (try dsimp only at N'); (try k_sweep))))
local macro_rules | `(tactic| walk_at "call builtin:max") => `(tactic| (k_here; k_dflt (refine' maxNN ?mh ?mF ?mN ?_; (case mh => rfl); (case mF => k_asm); (case mN => k_asm); k_whole); intro _ _ _ F' N'))
local macro_rules | `(tactic| walk_at "call builtin:min") => `(tactic| (k_here; k_dflt (refine' minNN ?mh ?mF ?mN ?_; (case mh => rfl); (case mF => k_asm); (case mN => k_asm); k_whole); intro _ _ _ F' N'))
local macro_rules | `(tactic| walk_at "eval ListComp") => `(tactic| k_extra "eval ListComp")
local macro_rules | `(tactic| walk_at "exec Assign cons ListComp") => `(tactic| k_extra "exec Assign cons ListComp")
local macro_rules | `(tactic| walk_at "pyIter ref") => `(tactic| k_extra "pyIter ref")
local macro_rules | `(tactic| walk_at "pyIter bytes") => `(tactic| k_extra "pyIter bytes")
local macro_rules | `(tactic| walk_at "call ref") => `(tactic| k_extra "call ref")
local macro_rules | `(tactic| walk_at "InvEndN") => `(tactic| k_extra "InvEndN")
local macro_rules | `(tactic| walk_at "exec Assign") => `(tactic| k_extra "exec Assign")
local macro_rules | `(tactic| walk_at "call builtin:len") => `(tactic| k_extra "call builtin:len")
local macro_rules | `(tactic| walk_at "exec For") => `(tactic| k_extra "exec For")
local macro_rules | `(tactic| walk_at "binaryOp Sub int int") => `(tactic| ((with_reducible (first | refine subLN (by omega) ?_ | refine subNL (by omega) ?_)); (try dsimp only)))
local macro_rules | `(tactic| walk_at "call type:range") => `(tactic| (k_here; (with_reducible show wpAny _ _ (call (Value.type "range") [Value.int _ _]) _ _ _); k_dflt (refine' range1_rows ?rF ?rN ?_; (case rF => k_asm); (case rN => k_asm)); intro h' tk' t1' u1' v1' R' F' N' K'))
local macro_rules | `(tactic| walk_at "binaryOp Sub int int") => `(tactic| k_extra "binaryOp Sub int int")
local macro_rules | `(tactic| walk_at "binaryOp Mult ref int") => `(tactic| k_extra "binaryOp Mult ref int")
local macro_rules | `(tactic| walk_at "binaryOp Add ref ref") => `(tactic| k_extra "binaryOp Add ref ref")
local macro_rules | `(tactic| walk_at "storeName") => `(tactic| k_extra "storeName")
local macro_rules | `(tactic| walk_at "execs cons") => `(tactic| refine wpAny_execs_cons ?_)
local macro_rules | `(tactic| walk_at "call builtin:list.append") => `(tactic| k_extra "call builtin:list.append")
local macro_rules | `(tactic| walk_at "subscriptTail BinOp Name ref int") => `(tactic| k_extra "subscriptTail BinOp Name ref int")
local macro_rules | `(tactic| k_all) => `(tactic| ((try (refine List.forall_mem_cons.mpr ⟨by k_ne, ?_⟩)); exact all_app (all_ne (kst_ltOf (by first | assumption | exact And.right (by assumption)))) (OwnOff.ne (by assumption) (by k_memK))))
local macro_rules | `(tactic| walk_at "subscriptTail Name Slice ref ref") => `(tactic| k_extra "subscriptTail Name Slice ref ref")
local macro_rules | `(tactic| walk_at "binaryOp Add bytes bytes") => `(tactic| k_extra "binaryOp Add bytes bytes")
local macro_rules | `(tactic| walk_at "subscriptTail Name Slice bytes ref") => `(tactic| k_extra "subscriptTail Name Slice bytes ref")
local macro_rules | `(tactic| walk_at "subscriptTail Name Name ref int") => `(tactic| k_extra "subscriptTail Name Name ref int")
local macro_rules | `(tactic| walk_at "compareOp NotEq bytes bytes") => `(tactic| k_extra "compareOp NotEq bytes bytes")
theorem whole : PySem.Challenge.rw_pe0018_01.Holds := by
  refine Mine.hd ?_
  k_fill
  intro w s₀ s₁ mg mb G Y fa o pm cd doc dV kV ho hd hcd hD hmg hg args vals as hpre hlay hrd hwl hlo
  have KX := kIn_of Y
  have X := (Ground.X G).1
  have V := (Ground.X G).2
  refine Ground.open G ?_
  intro T B D TE TW
  try (refine guard_noD D (by decide +kernel) ?_; clear D)
  obtain ⟨_, _, M⟩ := bmod_of_top T
  have TA := at_of_top T
  try (obtain ⟨_, _, he, B0⟩ := based_of_top T rfl hmg ho hd; have he' : cd = _ := he; subst he'; clear he)
  clear hmg
  wrow_args hpre hlay hrd hwl hlo
  refine enter_callC ?_
  w_top on
  refine codeC_mono ?_ (fun _ _ g => GoodW.toG g)
  have K0 := below_caller (Top.heap T)
  have he := Dflts.none hD rfl
  subst he
  refine call_fullC (by decide) ho hd (Top.nolimit T) hcd (BindsTo.of_eq rfl) (locs rfl) fun h₁ F => ?_
  w_binds F
  have N0 := (News.nil : News _ _ _ []).at F
  clear hd TA
  k_drop
  rename IntsAre _ _ => hI0
  rename Heap.IsList _ _ _ => hL0
  rename (¬ _) => hc0
  dsimp only
  refine wpC_execs_any ?_
  (try k_fold)
  (k_with "call ref" => refine Halt.of ?_)
  k_steps
  k_with_none
  refine Halt.on ?_
  refine' built w _ mg mb _ _ _ _ _ _ _ _ _ _ _ _ _ _ _ _ _ _ _ _ ?k1 ?k2 ?k3 ?k4 ?k5 ?kK hL0 hI0 ?kL ?kd ?ku ?_
  (case k1 => k_asm)
  (case k2 => k_asm)
  (case k3 => k_asm)
  (case k4 => k_asm)
  (case k5 => k_asm)
  (case kK => first | exact rfl | assumption)
  (case kL => omega)
  (case kd => ktr_room)
  (case ku => ktr_units)
  clear F N0
  intro T1 D1 us nn ks W tw h1 tk1 F N0 hDT hks hk16 hkl hW2 hW7
  (try dsimp only)
  k_steps
  refine wpC_execs_any ?_
  (try dsimp only)
  k_steps
  refine wpC_execs_any ?_
  (try dsimp only)
  rename Fr _ _ _ _ => F2
  with_unfolding_all refine' For_invVF F2 ?k1 ?k2 ?_
  (case k1 => exact rfl)
  (case k2 => exact rfl)
  k_whole
  (k_with "pyIter ref" => refine Halt.of ?_)
  k_steps
  k_with_none
  refine Halt.on ?_
  (try dsimp only)
  rename News _ _ _ _ => N2
  refine kst_listL (s := ⟨_, _, _, _, _⟩) (σ := List UInt8 × Tok) (Function.const _ _) (fun c => [(Str.ofString "row", .bytes c.1.toArray c.2)]) (fun _ => True) [] (fun pre c => c.1 = blocks W (backN pre)) ([], _) rfl (fun _ => .tail _ (.head _)) hks F2 N2 trivial (by kst_all) rfl ?turn ?done
  case turn =>
    rintro ⟨c, tc⟩ pre post n3 t3 u3 h5 tk5 own3 hsp hn3 hoff3 _ hP3 F10 N10
    dsimp only [kstB, Function.const] at F10 N10 hP3
    obtain ⟨k3, hk3, rfl⟩ := castL_mem hn3
    have hk3' := hk16 k3 hk3
    have hle := apW_le hk3'
    (try k_fold)
    (k_with "call ref" => refine Halt.of ?_)
    k_steps
    k_with_none
    refine Halt.on ?_
    (try dsimp only)
    k_dflt (refine' said_use (filled w _ _ _ (k3 : Int) W _ _ _) ?k1 ?k2 ?k3 ?k4 ?k5 ?kK (by rw [nat_of]; exact ⟨by omega, by omega⟩) ?kd ?ku ?kR; walk_at "mine:prem")
    intro t1 h' tk' F' N'
    (try dsimp only)
    (k_with "binaryOp Add bytes bytes" => refine Halt.of ?_)
    k_steps
    k_with_none
    refine Halt.on ?_
    (try dsimp only)
    have hl3 : pre.length ≤ 17 := by
      have := congrArg List.length hsp
      rw [castL_length, List.length_append, List.length_cons] at this
      omega
    have hl4 : (blocks W (backN pre)).length ≤ 119 := by
      rw [blocks_length, backN_length]
      exact Nat.le_trans (Nat.mul_le_mul hl3 hW7) (by decide)
    rw [nat_of, filW_dig W k3 hk3']
    refine addB (by rw [hP3, digW_length]; omega) ?_
    intro t2 k2
    (k_with "InvEndN" => refine Halt.of ?_)
    k_steps
    k_with_none
    refine Halt.on ?_
    refine kst_end (c ++ digW W k3, _) (by assumption) (by assumption) (fun r hr => List.mem_append.mpr (.inl hr)) (fun r hr => List.mem_append.mpr (.inr hr)) rfl trivial (by kst_all) (by kst_same) ?_
    show c ++ digW W k3 = blocks W (backN (pre ++ [(k3 : Int)]))
    rw [backN_snoc, blocks_snoc, hP3]
  case done =>
    rintro ⟨c, tc⟩ u3 h5 tk5 _ hP3 F3 N3
    dsimp only [kstB, Function.const] at F3 N3 hP3
    rw [backN_cast] at hP3
    subst hP3
    clear F2 N2
    (try dsimp only)
    (try k_fold)
    refine wpC_execs_cons (wpC_Assign_Name (wpC_Call ?_))
    k_steps
    refine wpC_callWith_K KX rfl ?_
    k_steps
    (try dsimp only)
    have hbl : (blocks W ks).length ≤ 119 := by
      rw [blocks_length]
      exact Nat.le_trans (Nat.mul_le_mul hkl hW7) (by decide)
    k_dflt (refine' saidC_use (byteswap_C w _ _ _ (blocks W ks) W ks.length _ _ _) (by k_asm) (by k_asm) (by k_asm) (by k_asm) (by k_asm) (by first | exact rfl | assumption) ⟨by omega, by omega, blocks_length W ks, by omega⟩ (by ktr_room) (by ktr_units) ?_)
    rw [blocks_swap]
    intro t4 h4 tk4 F4 N4
    (try dsimp only)
    k_steps
    clear F3 N3
    refine wpC_execs_any ?_
    k_steps
    refine wpC_execs_any ?_
    (try dsimp only)
    rename Fr _ _ _ _ => F2
    with_unfolding_all refine' For_invVF F2 ?q1 ?q2 ?_
    (case q1 => exact rfl)
    (case q2 => exact rfl)
    k_whole
    (k_with "call builtin:len" => refine Halt.of ?_)
    k_steps
    k_with_none
    refine Halt.on ?_
    (try dsimp only)
    rename News _ _ _ _ => N2
    refine lenL (s := ⟨_, _, _, _, _⟩) N2 (.tail _ (.head _)) (by rw [hks.length, castL_length]; omega) ?_
    intro t5 k5
    rw [hks.length, castL_length]
    (try dsimp only)
    (k_with "pyIter ref" => refine Halt.of ?_)
    k_steps
    k_with_none
    refine Halt.on ?_
    (try dsimp only)
    clear F2 N2
    rename Fr _ _ _ _ => F2
    rename News _ _ _ _ => N2
    rename IsRange _ _ _ _ _ _ _ _ => hR2
    refine kst_step (s := ⟨_, _, _, _, _⟩) (σ := List UInt8 × Tok) (n := ks.length) (Function.const _ _) (fun c => [(Str.ofString "second", .bytes c.1.toArray c.2)]) (fun _ => True) [Str.ofString "other"] (fun pre c => c.1 = blocks W ((ks.take pre.length).map (difI W))) ([], _) rfl hR2 (range1_small (by omega)) range1_size F2 N2 trivial (by kst_all) rfl ?turn2 ?done2
    case turn2 =>
      rintro ⟨c, tc⟩ pre q tq u3 h5 tk5 own3 hq hlen3 hoff3 _ hP3 F10 N10
      dsimp only [kstB, Function.const] at F10 N10 hP3
      rw [Int.zero_add, Int.mul_one] at hq
      obtain ⟨i, hi⟩ : ∃ i, pre.length = i := ⟨_, rfl⟩
      rw [hi] at hq hlen3 hP3
      subst hq
      have hki := hk16 ks[i] (List.getElem_mem hlen3)
      (try k_fold)
      (k_with "subscriptTail Name Slice bytes ref" => refine Halt.of ?_)
      k_steps
      k_with_none
      refine Halt.on ?_
      (try dsimp only)
      have e1 : ((i : Int) * (W : Int)).toNat = i * W := by rw [← Int.natCast_mul, Int.toNat_natCast]
      have e2 : (((i + 1 : Nat) : Int) * (W : Int)).toNat = (i + 1) * W := by rw [← Int.natCast_mul, Int.toNat_natCast]
      refine sliceB (s := ⟨h5, _, _, _, _⟩) (b := blocks W (ks.map fun n => otherI n W)) F10 N10 (Int.mul_nonneg (Int.natCast_nonneg _) (Int.natCast_nonneg _)) (Int.mul_nonneg (Int.natCast_nonneg _) (Int.natCast_nonneg _)) (by rw [blocks_length, List.length_map, ← blocks_length]; omega) ?_
      clear F10 N10
      rw [e1, e2, blocks_cut W _ i (by rw [List.length_map]; exact hlen3), List.getElem_map]
      clear e1 e2
      intro h6 t6 tk6 F6 N6
      (try dsimp only)
      (k_with "call ref" => refine Halt.of ?_)
      k_steps
      k_with_none
      refine Halt.on ?_
      (try dsimp only)
      k_dflt (refine' said_use (read w _ _ _ (digW W (otherI ks[i] W)) _ _) (by k_asm) (by k_asm) (by k_asm) (by k_asm) (by k_asm) (by first | exact rfl | assumption) (by rw [digW_length]; omega) (by ktr_room) (by ktr_units) ?_)
      rw [read_dig W _ (otherI_lt _ _)]
      clear F6 N6
      intro t7 h7 tk7 F7 N7
      (try dsimp only)
      (k_with "subscriptTail Name Name ref int" => refine Halt.of ?_)
      k_steps
      k_with_none
      refine Halt.on ?_
      (try dsimp only)
      rename News _ _ _ _ => N8
      refine itemN (s := ⟨_, _, _, _, _⟩) N8 (.tail _ (.head _)) hks hlen3 (by omega) ?_
      intro t8
      (try dsimp only)
      (k_with "call ref" => refine Halt.of ?_)
      k_steps
      k_with_none
      refine Halt.on ?_
      (try dsimp only)
      have hdl := difI_lt hki
      have hle := apW_le hdl
      k_dflt (refine' said_use (filled w _ _ _ ((ks[i] : Int) - (otherI ks[i] W : Int)) W _ _ _) (by k_asm) (by k_asm) (by k_asm) (by k_asm) (by k_asm) (by first | exact rfl | assumption) (by refine ⟨?_, by omega⟩; show (apW (difI W ks[i])).length ≤ 1000; omega) (by ktr_room) (by ktr_units) ?_)
      rw [show ((ks[i] : Int) - (otherI ks[i] W : Int)).natAbs = difI W ks[i] from rfl, filW_dig W _ hdl]
      clear N8
      intro t9 h9 tk9 F9 N9
      (try dsimp only)
      (k_with "binaryOp Add bytes bytes" => refine Halt.of ?_)
      k_steps
      k_with_none
      refine Halt.on ?_
      (try dsimp only)
      have hl4 : (blocks W (List.map (difI W) (List.take i ks))).length ≤ 119 := by
        rw [blocks_length, List.length_map, List.length_take]
        exact Nat.le_trans (Nat.mul_le_mul (by omega : _ ≤ 17) hW7) (by decide)
      refine addB (by rw [hP3, digW_length]; omega) ?_
      intro t2 k2
      (k_with "InvEndN" => refine Halt.of ?_)
      k_steps
      k_with_none
      refine Halt.on ?_
      refine kst_end (c ++ digW W (difI W ks[i]), _) (by assumption) (by assumption) (fun r hr => List.mem_append.mpr (.inl hr)) (fun r hr => List.mem_append.mpr (.inr hr)) rfl trivial (by kst_all) (by kst_same) ?_
      show c ++ digW W (difI W ks[i]) = blocks W ((ks.take (pre ++ [(i : Int)]).length).map (difI W))
      rw [List.length_append, List.length_singleton, hi, List.take_add_one, List.getElem?_eq_getElem hlen3, List.map_append]
      show _ = blocks W (List.map (difI W) (List.take i ks) ++ [difI W ks[i]])
      rw [blocks_snoc, hP3]
    case done2 =>
      rintro ⟨c, tc⟩ u4 h5 tk5 _ hP3 F3 N3
      dsimp only [kstB, Function.const] at F3 N3 hP3
      rw [rangeInts_length, List.take_length] at hP3
      subst hP3
      clear F2 N2
      (try dsimp only)
      (try k_fold)
      refine wpC_execs_cons (wpC_Assign_Name (wpC_Call ?_))
      k_steps
      refine wpC_callWith_K KX rfl ?_
      k_steps
      (try dsimp only)
      have hbl2 : (blocks W (ks.map (difI W))).length ≤ 119 := by
        rw [blocks_length, List.length_map, ← blocks_length]
        exact hbl
      k_dflt (refine' saidC_use (byteswap_C w _ _ _ (blocks W (ks.map (difI W))) W ks.length _ _ _) (by k_asm) (by k_asm) (by k_asm) (by k_asm) (by k_asm) (by first | exact rfl | assumption) ⟨by omega, by omega, by rw [blocks_length, List.length_map], by omega⟩ (by ktr_room) (by ktr_units) ?_)
      rw [show swapN W ks.length (blocks W (ks.map (difI W))) = blocks W ((ks.map (difI W)).map fun n => otherI n W) from by rw [← blocks_swap, List.length_map]]
      intro t4 h4 tk4 F4 N4
      (try dsimp only)
      k_steps
      clear F3 N3
      refine wpC_execs_any ?_
      k_steps
      (try dsimp only)
      refine wpC_execs_any ?_
      (try dsimp only)
      rename Fr _ _ _ _ => F2
      with_unfolding_all refine' For_invVF F2 ?r1 ?r2 ?_
      (case r1 => exact rfl)
      (case r2 => exact rfl)
      k_whole
      (k_with "call builtin:len" => refine Halt.of ?_)
      k_steps
      k_with_none
      refine Halt.on ?_
      (try dsimp only)
      rename News _ _ _ _ => N2
      refine lenL (s := ⟨_, _, _, _, _⟩) N2 (.tail _ (.head _)) (by rw [hks.length, castL_length]; omega) ?_
      intro t5 k5
      rw [hks.length, castL_length]
      (try dsimp only)
      clear hR2
      (k_with "pyIter ref" => refine Halt.of ?_)
      k_steps
      k_with_none
      refine Halt.on ?_
      (try dsimp only)
      clear F2 N2
      rename Fr _ _ _ _ => F2
      rename News _ _ _ _ => N2
      rename IsRange _ _ _ _ _ _ _ _ => hR2
      refine kst_step (s := ⟨_, _, _, _, _⟩) (σ := Unit) (n := ks.length) (Function.const _ _) (fun _ => []) (fun _ => True) [Str.ofString "here", Str.ofString "there", Str.ofString "word"] (fun _ _ => True) () rfl hR2 (range1_small (by omega)) range1_size F2 N2 trivial (fun p hp => nomatch hp) trivial ?turn3 ?done3
      case turn3 =>
        rintro ⟨⟩ pre q tq u5 h6 tk6 own3 hq hlen3 hoff3 _ _ F10 N10
        dsimp only [kstB, Function.const] at F10 N10
        rw [Int.zero_add, Int.mul_one] at hq
        obtain ⟨i, hi⟩ : ∃ i, pre.length = i := ⟨_, rfl⟩
        rw [hi] at hq hlen3
        subst hq
        have hki := hk16 ks[i] (List.getElem_mem hlen3)
        have hdl := difI_lt hki
        (try k_fold)
        (k_with "subscriptTail Name Slice bytes ref" => refine Halt.of ?_)
        k_steps
        refine Halt.on ?_
        (try dsimp only)
        have e1 : ((i : Int) * (W : Int)).toNat = i * W := by rw [← Int.natCast_mul, Int.toNat_natCast]
        have e2 : (((i + 1 : Nat) : Int) * (W : Int)).toNat = (i + 1) * W := by rw [← Int.natCast_mul, Int.toNat_natCast]
        refine sliceB (s := ⟨h6, _, _, _, _⟩) (b := blocks W (ks.map (difI W))) F10 N10 (Int.mul_nonneg (Int.natCast_nonneg _) (Int.natCast_nonneg _)) (Int.mul_nonneg (Int.natCast_nonneg _) (Int.natCast_nonneg _)) (by omega) ?_
        clear F10 N10
        rw [e1, e2, blocks_cut W _ i (by rw [List.length_map]; exact hlen3), List.getElem_map]
        intro h7 t7 tk7 F7 N7
        (try dsimp only)
        (k_with "call ref" => refine Halt.of ?_)
        k_steps
        k_with_none
        refine Halt.on ?_
        (try dsimp only)
        k_dflt (refine' said_use (read w _ _ _ (digW W (difI W ks[i])) _ _) (by k_asm) (by k_asm) (by k_asm) (by k_asm) (by k_asm) (by first | exact rfl | assumption) (by rw [digW_length]; omega) (by ktr_room) (by ktr_units) ?_)
        rw [read_dig W _ hdl]
        clear F7 N7
        intro t7 h7 tk7 F7 N7
        (try dsimp only)
        (k_with "subscriptTail Name Slice bytes ref" => refine Halt.of ?_)
        k_steps
        k_with_none
        refine Halt.on ?_
        (try dsimp only)
        rename Fr _ _ _ _ => F10
        rename News _ _ _ _ => N10
        refine sliceB (s := ⟨_, _, _, _, _⟩) (b := blocks W ((ks.map (difI W)).map fun n => otherI n W)) F10 N10 (Int.mul_nonneg (Int.natCast_nonneg _) (Int.natCast_nonneg _)) (Int.mul_nonneg (Int.natCast_nonneg _) (Int.natCast_nonneg _)) (by rw [blocks_length, List.length_map, ← blocks_length]; omega) ?_
        clear F10 N10
        rw [e1, e2, blocks_cut W _ i (by rw [List.length_map, List.length_map]; exact hlen3), List.getElem_map, List.getElem_map]
        intro h8 t8 tk8 F8 N8
        (try dsimp only)
        (k_with "call ref" => refine Halt.of ?_)
        k_steps
        k_with_none
        refine Halt.on ?_
        (try dsimp only)
        k_dflt (refine' said_use (read w _ _ _ (digW W (otherI (difI W ks[i]) W)) _ _) (by k_asm) (by k_asm) (by k_asm) (by k_asm) (by k_asm) (by first | exact rfl | assumption) (by rw [digW_length]; omega) (by ktr_room) (by ktr_units) ?_)
        rw [read_dig W _ (otherI_lt _ _)]
        clear F8 N8
        intro t8 h8 tk8 F8 N8
        (try dsimp only)
        (k_with "call ref" => refine Halt.of ?_)
        k_steps
        k_with_none
        refine Halt.on ?_
        (try dsimp only)
        have hS : difI W ks[i] + otherI (difI W ks[i]) W < 16 ^ (W + 1) := by
          have := otherI_lt (difI W ks[i]) W
          rw [Nat.pow_succ]
          omega
        have hdue : difI W ks[i] + otherI (difI W ks[i]) W = dueI ks[i] W (W - 1) := law_due hki (by omega)
        obtain ⟨S, hSS⟩ : ∃ S, difI W ks[i] + otherI (difI W ks[i]) W = S := ⟨_, rfl⟩
        rw [hSS] at hS hdue ⊢
        clear hSS
        have hle := apW_le hS
        k_dflt (refine' said_use (int2ap w _ _ _ (S : Int) _ _) (by k_asm) (by k_asm) (by k_asm) (by k_asm) (by k_asm) (by first | exact rfl | assumption) (by rw [nat_of]; omega) (by ktr_room) (by ktr_units) ?_)
        rw [nat_of]
        intro t9 h9 tk9 F9 N9
        (try dsimp only)
        (k_with "subscriptTail Name Slice bytes ref" => refine Halt.of ?_)
        k_steps
        k_with_none
        refine Halt.on ?_
        (try dsimp only)
        rename Fr _ _ _ _ => F10
        rename News _ _ _ _ => N10
        refine sliceB0 (s := ⟨_, _, _, _, _⟩) (b := apW S) F10 N10 (by decide) (by omega) ?_
        clear F10 N10
        intro h10 t10 tk10 F10 N10
        (try dsimp only)
        walk1
        (try dsimp only)
        refine eqB_no (apW_head S) ?_
        (k_with "binaryOp Add bytes bytes" => refine Halt.of ?_)
        k_steps
        k_with_none
        refine Halt.on ?_
        (try dsimp only)
        have e3 : (((W + 1 : Nat) : Int) - ((apW S).length : Int)).toNat = W + 1 - (apW S).length := by omega
        rw [e3]
        refine addB (by rw [List.length_replicate]; omega) ?_
        intro t11 k11
        (try dsimp only)
        (k_with "subscriptTail Name Name ref int" => refine Halt.of ?_)
        k_steps
        k_with_none
        refine Halt.on ?_
        (try dsimp only)
        rename News _ _ _ _ => N11
        refine itemN (s := ⟨_, _, _, _, _⟩) N11 (.tail _ (.head _)) hks hlen3 (by omega) ?_
        intro t12
        (try dsimp only)
        (k_with "call ref" => refine Halt.of ?_)
        k_steps
        k_with_none
        refine Halt.on ?_
        (try dsimp only)
        k_dflt (refine' said_use (told w _ _ _ ks[i] W _ _ _) (by k_asm) (by k_asm) (by k_asm) (by k_asm) (by k_asm) (by first | exact rfl | assumption) ⟨hki, by omega, hW7⟩ (by ktr_room) (by ktr_units) ?_)
        intro t13 h13 tk13 F13 N13
        (try dsimp only)
        (k_with "compareOp NotEq bytes bytes" => refine Halt.of ?_)
        k_steps
        k_with_none
        refine Halt.on ?_
        (try dsimp only)
        refine neB_no ?_ ?_
        · rw [told_dig, ← hdue, ← filW_dig (W + 1) S hS]
          rfl
        (k_with "InvEndN" => refine Halt.of ?_)
        k_steps
        k_with_none
        refine Halt.on ?_
        refine kst_end () (by assumption) (by assumption) (fun r hr => List.mem_append.mpr (.inl hr)) (fun r hr => List.mem_append.mpr (.inr hr)) rfl trivial (fun p hp => nomatch hp) (by kst_same) trivial
      case done3 =>
        rintro ⟨⟩ u5 h6 tk6 _ _ F10 N10
        dsimp only [kstB, Function.const] at F10 N10
        (try dsimp only)
        refine wpC_of_any ?_
        (try k_fold)
        k_steps
end Mine
theorem PySem.Challenge.cw_pe0018_01_holds : PySem.Challenge.rw_pe0018_01.Holds := by
  exact Mine.whole
