import PyProof.Rows.All
import Wide.All
import OpenK.AllK
import Wide.FinOn
import Lean
import PySem.Challenge.RW_gh0004_01
set_option Elab.async false
set_option rowWalk.seconds 0
open PySem PySem.W PyProof.Rows
namespace Mine
theorem rsNB : True ∧ True := by
  w_top off
  k_with_none
  first | (walk1; fail) | exact ⟨trivial, trivial⟩
end Mine
section
open PySem PySem.W PySem.Spec PySem.Calls PyProof.Rows
set_option Elab.async false
set_option maxRecDepth 100000
namespace Mine

/-- ids whose activations can hold a bytearray -/
def heldIds : List String := Builtin.Bytes.decodersThatHold ++ ["bytearray.__contains__", "bytearray.__mod__", "bytearray.__rmod__", "_struct.pack_into.held", "bytearray.find.held"]
def tidy : Code → Bool
  | .builtin id _ => !heldIds.contains id
  | _ => true
def TidyIn (l : List (Code × Pos)) : Prop := ∀ x ∈ l, tidy x.1 = true
theorem TidyIn.cons {c : Code} {p : Pos} {l : List (Code × Pos)} (h : tidy c = true) (t : TidyIn l) : TidyIn ((c, p) :: l) := fun x hx => by
  rcases List.mem_cons.mp hx with rfl | hx
  · exact h
  · exact t x hx

/-- as wpAny, of the contexts in which nothing holds a bytearray -/
def wpN {α : Type} (M : Model) (A : Around) (t : Sem α) (Q : α → Shared → Prop) (E : Value → Shared → Prop) (s : Shared) : Prop :=
  ∀ Γ p, Γ.In A → TidyIn ((Γ.code, p) :: Γ.below) → Sem.wp M Γ t (fun a _ s' => Q a s') (fun e _ s' => E e s') p s
def codeN (M : Model) (A : Around) (c : Code) (R : Result → Shared → Prop) (s : Shared) : Prop :=
  ∀ Γ p, Γ.code = c → Γ.Below A → TidyIn Γ.below → wpCode M Γ R p s

section
variable {α β : Type} {M : Model} {A : Around} {E : Value → Shared → Prop} {s : Shared}
theorem wpN_of_any {t : Sem α} {Q : α → Shared → Prop} (h : wpAny M A t Q E s) : wpN M A t Q E s := fun Γ p hΓ _ => h Γ p hΓ
theorem codeN_of_any {c : Code} {R : Result → Shared → Prop} (h : codeAny M A c R s) : codeN M A c R s := fun Γ p hc hΓ _ => h Γ p hc hΓ
theorem wpN_mono {t : Sem α} {Q Q' : α → Shared → Prop} {E' : Value → Shared → Prop} (h : wpN M A t Q E s)
    (hQ : ∀ a s, Q a s → Q' a s) (hE : ∀ e s, E e s → E' e s) : wpN M A t Q' E' s :=
  fun Γ p hΓ hT => Sem.wp_mono M Γ t (fun a _ s => hQ a s) (fun e _ s => hE e s) p s (h Γ p hΓ hT)
theorem tidy_pos {Γ : PySem.Ctx} {p p' : Pos} (h : TidyIn ((Γ.code, p) :: Γ.below)) : TidyIn ((Γ.code, p') :: Γ.below) :=
  .cons (h (Γ.code, p) (.head _)) fun x hx => h x (.tail _ hx)
theorem wpN_bind {m : Sem α} {f : α → Sem β} {Q : β → Shared → Prop} (h : wpN M A m (fun a s' => wpN M A (f a) Q E s') E s) :
    wpN M A (m >>= f) Q E s := fun Γ p hΓ hT => by
  rw [Sem.wp_bind']
  exact Sem.wp_mono M Γ m (fun a p' s' h' => h' Γ p' hΓ (tidy_pos hT)) (fun _ _ _ h' => h') p s (h Γ p hΓ hT)
theorem wpN_any_bind {m : Sem α} {f : α → Sem β} {Q : β → Shared → Prop} (h : wpAny M A m (fun a s' => wpN M A (f a) Q E s') E s) :
    wpN M A (m >>= f) Q E s := wpN_bind (wpN_of_any h)
theorem wpN_pure {a : α} {Q : α → Shared → Prop} (h : Q a s) : wpN M A (pure a) Q E s := fun _ _ _ _ => h
theorem wpN_holding {vs : List Value} {m : Sem α} {Q : α → Shared → Prop} (h : wpN M A m Q E s) : wpN M A (holding vs m) Q E s :=
  fun Γ p hΓ hT => by rw [Sem.wp_holding]; exact h Γ p hΓ hT
theorem wpN_keep {vs : List Value} {m : Sem α} {Q : α → Shared → Prop} (h : wpN M A m Q E s) : wpN M A (m.keep vs) Q E s :=
  fun Γ p hΓ hT => by rw [Sem.wp_keep]; exact h Γ p hΓ hT
theorem wpN_standAt {pos : Pos} {f : Unit → Sem α} {Q : α → Shared → Prop} (h : wpN M A (f ()) Q E s) : wpN M A (standAt pos >>= f) Q E s :=
  wpN_bind (wpN_of_any (wpAny_standAt h))
theorem wpN_onRaise {m : Sem α} {k : Value → Sem Unit} {Q : α → Shared → Prop} (h : wpN M A m Q (fun _ _ => False) s) : wpN M A (m.onRaise k) Q E s := fun Γ p hΓ hT => by
  rw [Sem.wp_onRaise]
  exact Sem.wp_mono M Γ m (fun _ _ _ h' => h') (fun _ _ _ h' => h'.elim) p s (h Γ p hΓ hT)
theorem wpN_ff {c : Bool} {a b : Sem α} {Q : α → Shared → Prop} (hc : c = false) (h : wpN M A b Q E s) : wpN M A (if c = true then a else b) Q E s := by
  subst hc
  exact h
theorem wpN_tt {c : Bool} {a b : Sem α} {Q : α → Shared → Prop} (hc : c = true) (h : wpN M A a Q E s) : wpN M A (if c = true then a else b) Q E s := by
  subst hc
  exact h
theorem wpN_eq_bind {m : Sem α} {a : α} {f : α → Sem β} {Q : β → Shared → Prop} (e : m = pure a) (h : wpN M A (f a) Q E s) : wpN M A (m >>= f) Q E s := by
  subst e
  exact wpN_bind (wpN_pure h)
theorem wpN_attempt {m : Sem α} {Q : Except Value α → Shared → Prop} (h : wpN M A m (fun a => Q (.ok a)) (fun e => Q (.error e)) s) :
    wpN M A m.attempt Q E s := fun Γ p hΓ hT => by rw [Sem.wp_attempt]; exact h Γ p hΓ hT
theorem wpN_run {c : Code} {Q : Flow → Shared → Prop}
    (hc : codeN M A c (fun r s' => match r with | .ok f => Q f s' | .error e => E e s') s) :
    wpN M A (run c) Q E s :=
  fun Γ p hΓ hT => by rw [Sem.wp_run]; exact hc _ p rfl (by have := hΓ.enter c none p (by intro x; cases x); exact this) hT
theorem wpN_runValue {c : Code} {Q : Value → Shared → Prop}
    (hc : codeN M A c (fun r s' => match r with | .ok (.ret v) => Q v s' | .ok _ => False | .error e => E e s') s) :
    wpN M A (runValue c) Q E s := fun Γ p hΓ hT => by rw [Sem.wp_runValue]; exact hc _ p rfl (hΓ.enter c none p (by intro x; cases x)) hT
theorem wpN_call {f : Value} {pos : List Value} {kw : List (Str × Value)} {Q : Value → Shared → Prop}
    (hc : codeN M A (.call f ⟨pos, kw⟩) (fun r s' => match r with | .ok (.ret v) => Q v s' | .ok _ => False | .error e => E e s') s) :
    wpN M A (call f pos kw) Q E s := wpN_runValue hc
theorem codeN_mono {c : Code} {R R' : Result → Shared → Prop} (h : codeN M A c R s) (hR : ∀ r s, R r s → R' r s) : codeN M A c R' s :=
  fun Γ p hc hΓ hT => wpCode_mono hR (h Γ p hc hΓ hT)
theorem codeN_of_tree {c : Code} {R : Result → Shared → Prop} (ht : tidy c = true)
    (h : wpN M (A.under c) (M.den c) (fun fin s' => match fin with | .done f => R (.ok f) s' | .again c' => c'.quiet = true ∧ codeN M A c' R s')
      (fun e s' => R (.error e) s') s) : codeN M A c R s := fun Γ p hc hΓ hT => by
  rw [wpCode_iff_wp, hc]
  refine Sem.wp_mono M Γ _ (fun fin p' s' h' => ?_) (fun _ _ _ h' => h') p s (h Γ p (hc ▸ hΓ.in) (.cons (by rw [hc]; exact ht) hT))
  cases fin with
  | done f => exact h'
  | again c' => exact ⟨h'.1, h'.2 (Γ.goto c') p' rfl (hΓ.goto c') hT⟩
end
section
variable {prog : Program} {w : World} {A : Around} {s : Shared} {R : Result → Shared → Prop}
theorem codeN_func {body : List Stmt} {env : Env}
    (h : wpN (model prog w) (A.deeper env) (execs body env) (fun f s' => R (.ok (.ret (match f with | .ret v => v | _ => .none))) s') (fun _ _ => False) s) :
    codeN (model prog w) A (.func body env) R s := by
  refine codeN_of_tree rfl ?_
  show wpN _ (A.deeper env) (do point; match ← (execs body env).onRaise (leaving env) with | .ret v => ret v | _ => ret .none) _ _ s
  refine wpN_any_bind (wpAny_point (wpN_bind (wpN_onRaise (wpN_mono h (fun f s' h' => ?_) fun _ _ h' => h'.elim))))
  cases f <;> exact wpN_pure h'

theorem codeN_call_function {a : Addr} {args : Args} {o : Obj} {fd : FuncData} {body : List Stmt} (hroom : A.depth < recursionLimit)
    (ho : s.heap.get? a = some o) (hd : o.data = .func fd) (hco : fd.scope.isCoroutine = false) (hgen : fd.scope.isGenerator = false) (hbody : fd.body = .stmts body) (hcd : s.heap.CodeRec fd.code fd.qualname)
    (h : wpAny (model prog w) A.in1 (bindArgs fd args) (fun binds s₁ =>
      wpAny (model prog w) A.in1 (newFunctionEnv fd.scope fd.globals fd.closure binds (fd.qualname ++ ".<locals>.") (some a) fd.code none fd.builtins)
        (fun env s₂ => s₂.heap.NoLimit ∧ codeN (model prog w) A (.func body env) R s₂) (fun e s' => R (.error e) s') s₁) (fun e s' => R (.error e) s') s) :
    codeN (model prog w) A (.call (.ref a) args) R s := by
  refine codeN_of_tree rfl (wpN_of_any ?_)
  show wpAny _ A.in1 (callAny (.ref a) args) _ _ s
  simp only [callAny]
  refine wpAny_bind (wpAny_load ho ?_)
  obtain ⟨c, oc, vs, tq, hc, hoc, hdc, hq⟩ := hcd
  simp only [hd, callFunction, hco, hgen, hbody, hc]
  rw [hc] at h
  refine wpAny_bind (m := field (.ref c) 1) (wpAny_field hoc hdc hq (wpAny_bind (wpAny_pure ?_)))
  exact wpAny_bind (wpAny_mono h (fun binds s₁ h₁ => wpAny_bind (wpAny_mono h₁ (fun env s₂ h₂ => wpAny_bind (wpAny_enterFrame h₂.1 hroom
    (wpAny_pure ⟨rfl, h₂.2⟩))) fun _ _ x => x)) fun _ _ x => x)
end
section
variable {prog : Program} {w : World} {A₀ A : Around} {s : Shared} {K : Frag} {L : Addr} {h₀ base : Heap} {m mg mb : Str → Option Value} {news : List (Addr × Obj)} {p : Program} {loose : List Str} {mean : ExcName → Option Value}
  {env : Env} {outer : List Env} {R : Result → Shared → Prop} {name qual : Str} {params : Arguments} {body : List Stmt} {scope : Scope} {dV kV doc pm cdv ct oc : Value} {an od : Option Addr} {osl : Array (Option Value)} {f : Addr} {args : Args} {binds : List (Str × Value)}
/-- a plain def is entered -/
theorem enterN
    (B : Below A₀ base outer h₀) (F : Fr h₀ L s.heap m) (X₀ : K.In h₀) (N : News h₀ L s.heap news) (T : Top p loose mean mg mb h₀) (hA : A.frames = some (env :: outer)) (hf : env.frame = some L) (hke : env.scope.kind = .function)
    (ho : K.lookup f = some ⟨oc, od, .func (fnOf name qual params body scope dV kV doc pm an cdv ct), osl⟩) (hcd : codeIn K cdv qual = true) (hroom : A.depth < recursionLimit)
    (hbind : BindsTo s (fnOf name qual params body scope dV kV doc pm an cdv ct) args binds) (hloc : ∀ y ∈ binds, scope.names.lookup y.1 = some .local)
    (h : ∀ g L' h₁, Fr h₀ L g m → Fr g L' h₁ (fun y => binds.reverse.lookup y) → News g L' h₁ news → Below A base (env :: outer) g → K.In g → Top p loose mean mg mb g →
      wpN (model prog w) (A.deeper (envOf qual scope L' f cdv)) (execs body (envOf qual scope L' f cdv))
        (fun fl s' => LeaveK h₀ L m g R (match fl with | .ret v => v | _ => .none) s') (fun _ _ => False)
        { s with heap := h₁, toks := s.toks + binds.length })
    (hco : scope.isCoroutine = false) (hgen : scope.isGenerator = false) (hk : scope.kind = .function)
    (hcell : ∀ x ∈ scope.names, x.2 ≠ .cell) : codeN (model prog w) A (.call (.ref f) args) R s := by
  have X := X₀.keeps F.keep
  obtain ⟨FG, BG, st, lv⟩ := groundX (R := R) B F N hA hf hke
  refine codeN_call_function hroom (X _ _ ho) rfl hco hgen rfl (codeRec_of X hcd) (hbind _ _ _ _ ?_)
  refine wpAny_newFunctionEnv hcell hloc (fun h₁ hns₁ hsb₁ => ⟨(T.nolimit.keeps F.keep).fresh _ hsb₁, codeN_func ?_⟩) hk
  have hk₁ : ∀ b o, s.heap.get? b = some o → h₁.get? b = some o := fun b o e => hsb₁.extBut b o (Nat.ne_of_lt (Heap.lt_size e)) (Heap.get?_push_of_some _ e)
  exact wpN_mono (h _ s.heap.objs.size h₁ FG ⟨hns₁, fun b o e => hk₁ b o (of_hideAll _ e), Nat.le_of_eq (hideAll_size _ _)⟩
    (fun q hq => ⟨hk₁ _ _ (N q hq).1, Nat.ne_of_lt (Heap.lt_size (N q hq).1), hideAll_none _ (List.mem_map_of_mem hq)⟩) BG (X₀.keeps st) (T.keeps st)) (fun fl s' hl => lv _ _ hl) fun _ _ y => y
/-- a def with cells is entered -/
theorem enterCN
    (B : Below A₀ base outer h₀) (F : Fr h₀ L s.heap m) (X₀ : K.In h₀) (N : News h₀ L s.heap news) (T : Top p loose mean mg mb h₀) (hA : A.frames = some (env :: outer)) (hf : env.frame = some L) (hke : env.scope.kind = .function)
    (ho : K.lookup f = some ⟨oc, od, .func (fnOf name qual params body scope dV kV doc pm an cdv ct), osl⟩) (hcd : codeIn K cdv qual = true) (hroom : A.depth < recursionLimit)
    (hbind : BindsTo s (fnOf name qual params body scope dV kV doc pm an cdv ct) args binds) (hkind : (binds.all fun y => scope.names.lookup y.1 == some .local || scope.names.lookup y.1 == some .cell) = true)
    (hnd : ((cellsFrom 0 scope.names []).map (·.1)).Nodup)
    (h : ∀ g L' h₁ tk cells, Fr h₀ L g m → Fr g L' h₁ (bindL (envOfC qual scope L' f cdv).kindOf binds fun _ => none) → News g L' h₁ (cells ++ news) →
      CellsAre (bindC (envOfC qual scope L' f cdv).kindOf binds fun _ => none) (cellsFrom (L' + 1) scope.names []) cells → Below A base (env :: outer) g → K.In g → Top p loose mean mg mb g → (∀ p ∈ news, p.1 < L') →
      wpN (model prog w) (A.deeper (envOfC qual scope L' f cdv)) (execs body (envOfC qual scope L' f cdv))
        (fun fl s' => LeaveK h₀ L m g R (match fl with | .ret v => v | _ => .none) s') (fun _ _ => False)
        { s with heap := h₁, toks := tk })
    (hco : scope.isCoroutine = false) (hgen : scope.isGenerator = false) (hk : scope.kind = .function) : codeN (model prog w) A (.call (.ref f) args) R s := by
  have X := X₀.keeps F.keep
  obtain ⟨FG, BG, st, lv⟩ := groundX (R := R) B F N hA hf hke
  refine codeN_call_function hroom (X _ _ ho) rfl hco hgen rfl (codeRec_of X hcd) (hbind _ _ _ _ ?_)
  refine wpAny_newFunctionEnv_cells hk (kindsX hkind _) fun env' he s' x => ?_
  subst he
  refine ⟨(T.nolimit.keeps F.keep).keeps x.toInCall.keep, codeN_func ?_⟩
  obtain ⟨h₁, tk, rfl, _⟩ := x.done
  have hk₁ := x.toInCall.keep
  obtain ⟨cells, NC, Y⟩ := Cl.news (h₀ := s.heap) (Nat.le_refl _) fun n c hm => ⟨x.cell n c (lookup_of_mem_nodup (cellsFrom_names scope.names 0 (s.heap.objs.size + 1) [] [] rfl ▸ hnd) hm), x.above n c hm⟩
  refine wpN_mono (h _ s.heap.objs.size h₁ tk cells FG ⟨x.toInCall.ns, fun b o e => hk₁ b o (of_hideAll _ e), Nat.le_of_eq (hideAll_size _ _)⟩ (fun q hq => ?_) Y BG (X₀.keeps st) (T.keeps st) (fun q hq => Heap.lt_size (N q hq).1)) (fun fl s' hl => lv _ _ hl) fun _ _ y => y
  rcases List.mem_append.mp hq with hq | hq
  · refine ⟨(NC q hq).1, (NC q hq).2.1, ?_⟩
    cases z : (hideAll s.heap (news.map (·.1))).get? q.1 with
    | none => rfl
    | some o => have := of_hideAll _ z; rw [(NC q hq).2.2] at this; cases this
  · exact ⟨hk₁ _ _ (N q hq).1, Nat.ne_of_lt (Heap.lt_size (N q hq).1), hideAll_none _ (List.mem_map_of_mem hq)⟩
end
end Mine
end

namespace Mine
theorem rsBA : True ∧ True := by
  w_top off
  k_with_none
  first | (walk1; fail) | exact ⟨trivial, trivial⟩
end Mine
section
open PySem PySem.W PySem.Spec PySem.Calls PyProof.Rows
set_option Elab.async false
set_option maxRecDepth 100000
namespace Mine
theorem ba_mro : mroOf (.type "bytearray") = pure [.type "bytearray", .type "object"] := by rw [mroOf_type]; kernel_rfl
theorem ba_lookup_new : typeLookup (.type "bytearray") "__new__" = pure (some (.builtin "bytearray.__new__")) := by rw [typeLookup_type, builtinLookup_eq_fast]; kernel_rfl
theorem ba_slot_init : Slot "bytearray" "__init__" "bytearray.__init__" :=
  .of (owner := "bytearray") (n := "__init__") (by rw [typeLookup_type, builtinLookup_eq_fast]; kernel_rfl) (by decide +kernel) (by decide +kernel) (by decide +kernel)
    (by first | exact .inl (by decide +kernel) | exact .inr (by decide +kernel)) (by rw [isSubtype_type]; kernel_rfl)
theorem ba_called : TypeCalled "bytearray" "bytearray.__new__" "bytearray.__init__" :=
  ⟨by decide +kernel, by decide +kernel, ⟨_, _, ba_mro⟩, madeBy_type ba_mro ba_lookup_new (by decide +kernel), by decide +kernel, by rw [isSubtype_type]; kernel_rfl, ba_slot_init⟩
theorem ba_typeCall (a : Value) : checkTypeCall "bytearray" ⟨[a], []⟩ = pure () := by kernel_rfl
theorem ba_newCall (a : Value) : checkBuiltinCall "bytearray.__new__" ⟨[.type "bytearray", a], []⟩ = pure () := by kernel_rfl
theorem ba_plain : plainId "bytearray.__new__" = true := by decide +kernel
theorem ba_entry : entryFor table "bytearray.__new__" = some Builtin.«list.__new__» := entryFor_alias (id' := "list.__new__") (by kernel_rfl) (by first | rfl | decide +kernel) (by decide +kernel) (by kernel_rfl)
theorem ba_entry_init : entryFor table "bytearray.__init__" = some Builtin.«bytearray.__init__» := by first | exact entryFor_of_fast (by kernel_rfl) | exact entryFor_of_tree (by kernel_rfl)
theorem ba_sub : isSubtype (.type "bytearray") (.type "bytearray") = pure true := by rw [isSubtype_type]; kernel_rfl
set_option maxRecDepth 1000000 in
set_option maxHeartbeats 4000000 in
theorem owner_ba_new : ("bytearray.__new__".splitOn ".__new__").headD "" = "bytearray" := by simp +decide [String.splitOn, String.splitOnAux]

theorem tidy_out {id : String} {args : Args} (h : tidy (.builtin id args) = true) (hm : id ∈ heldIds) : False := by
  simp [tidy] at h
  exact h hm
theorem exported_no {M : Model} {A : Around} {E : Value → Shared → Prop} {s : Shared} {Q : Bool → Shared → Prop} {self : Value} (h : Q false s) : wpN M A (Builtin.Bytes.exported self) Q E s := fun Γ p _ hT => by
  unfold Builtin.Bytes.exported
  show Q (((Γ.code, p) :: Γ.below).any _) s
  refine (congrArg (Q · s) ?_).mpr h
  rw [List.any_eq_false]
  rintro ⟨c, q⟩ hx
  have ht : tidy c = true := hT (c, q) hx
  split <;> rename_i e
  all_goals (try (cases e; exact (tidy_out ht (by decide)).elim))
  · cases e
    simp only [Bool.and_eq_true, not_and]
    intro _ hc
    exact tidy_out ht (List.mem_append_left _ (List.contains_iff_mem.mp hc))
  · exact Bool.false_ne_true
section
variable {prog : Program} {w : World} {A : Around} {E : Value → Shared → Prop} {s : Shared}
theorem codeN_builtin {id : String} {args : Args} {b : Builtin} {R : Result → Shared → Prop} (ht : tidy (.builtin id args) = true) (hb : entryFor table id = some b)
    (h : wpN (model prog w) (A.under (.builtin id args)) (b args)
      (fun fin s' => match fin with | .done f => R (.ok f) s' | .again c' => c'.quiet = true ∧ codeN (model prog w) A c' R s') (fun e s' => R (.error e) s') s) :
    codeN (model prog w) A (.builtin id args) R s := by
  refine codeN_of_tree ht ?_
  show wpN _ _ (match entryFor table id with | some b => b args | none => unsupported ((withoutEnding? id "#data").getD id)) _ _ s
  rw [hb]; exact h

theorem code_ba_new (a : Value) {Q₁ : Value → Shared → Prop}
    (h : Q₁ (.ref s.heap.objs.size) { s with heap := s.heap.push { cls := .type "bytearray", data := .bytearray #[] } }) :
    codeAny (model prog w) A (.call (.builtin "bytearray.__new__") ⟨[.type "bytearray", a], []⟩) (wants Q₁ E) s := by
  refine codeAny_of_tree ?_
  show wpAny _ A.in1 (do checkBuiltinCall "bytearray.__new__" ⟨[.type "bytearray", a], []⟩; again (.builtin "bytearray.__new__" ⟨[.type "bytearray", a], []⟩)) _ _ s
  refine wpAny_bind (wpAny_of_eq (ba_newCall a) (wpAny_pure ⟨plainId_quiet ba_plain _, codeAny_builtin_stack ba_entry rfl fun p st => ?_⟩))
  rw [Around.under_plainId ba_plain _]
  have hsub := ba_sub
  have hown := owner_ba_new
  obtain ⟨hp, g, d, tk, os⟩ := s
  simp only [hown]
  wp_walk
  exact h
end
theorem ba_lookup_rel : typeLookup (.type "bytearray") "__release_buffer__" = pure (some (.builtin "bytearray.__release_buffer__")) := by rw [typeLookup_type, builtinLookup_eq_fast]; kernel_rfl
theorem ba_bind (v : Value) : Builtin.Bytes.bindOptional "bytearray.__init__" "bytearray" ["source", "encoding", "errors"] [v] [] = pure [some v, none, none] := by kernel_rfl
theorem ba_initArgs (a b : Value) : argsOk "bytearray.__init__" ⟨[a, b], []⟩ := by unfold argsOk; kernel_rfl
section
variable {M : Model} {A : Around} {E : Value → Shared → Prop} {s : Shared}
theorem wpAny_write {D : Addr} {b : Array UInt8} {f : Array UInt8 → Array UInt8} {Q : Unit → Shared → Prop} (hD : s.heap.get? D = some { cls := .type "bytearray", data := .bytearray b }) (hz : (f b).size ≤ sizeLine)
    (h : (s.heap.update D (Obj.mapBytearray f)).get? D = some { cls := .type "bytearray", data := .bytearray (f b) } → Q () { s with heap := s.heap.update D (Obj.mapBytearray f) }) : wpAny M A (Builtin.Bytes.write (.ref D) f) Q E s := by
  show wpAny _ _ (updateBytearray D f) _ _ _
  unfold updateBytearray
  refine wpAny_bind (wpAny_load hD ?_)
  show wpAny _ _ (update D (Obj.mapBytearray f) >>= fun _ => lookBehind D) _ _ _
  refine wpAny_bind (wpAny_update hD ?_)
  have hS : (s.heap.update D (Obj.mapBytearray f)).get? D = some { cls := .type "bytearray", data := .bytearray (f b) } := Heap.get?_update_self (Obj.mapBytearray f) hD rfl
  refine wpAny_lookBehind hS ?_ (h hS)
  show (if (f b).size > sizeLine then some "bytearray:memory" else none) = none
  rw [if_neg (by omega)]
end
section
variable {prog : Program} {w : World} {A : Around} {E : Value → Shared → Prop} {s : Shared}
theorem codeN_ba_init {n : Int} {t : Tok} {D : Addr} {R : Result → Shared → Prop} (h0 : 0 ≤ n) (hn1 : n ≤ 1000) (hD : s.heap.get? D = some { cls := .type "bytearray", data := .bytearray #[] })
    (hQ : ∀ h', (∀ b o, b ≠ D → s.heap.get? b = some o → h'.get? b = some o) → h'.get? D = some { cls := .type "bytearray", data := .bytearray (Array.replicate n.toNat 0) } → R (.ok (.ret .none)) { s with heap := h' }) :
    codeN (model prog w) A (.call (.builtin "bytearray.__init__") ⟨[.ref D, .int n t], []⟩) R s := by
  refine codeN_of_tree rfl ?_
  show wpN _ A.in1 (do checkBuiltinCall "bytearray.__init__" ⟨[.ref D, .int n t], []⟩; again (.builtin "bytearray.__init__" ⟨[.ref D, .int n t], []⟩)) _ _ s
  have hT : s.TypeIs (.ref D) "bytearray" := ⟨_, hD, rfl⟩
  refine wpN_any_bind (ba_slot_init.check _ _ _ _ _ _ _ _ hT (ba_initArgs _ _) ?_)
  refine wpN_pure ⟨plainId_quiet (by decide +kernel) _, codeN_builtin (by show (!heldIds.contains "bytearray.__init__") = true; decide +kernel) ba_entry_init ?_⟩
  rw [Around.under_plainId (by decide +kernel) _]
  unfold Builtin.«bytearray.__init__»
  simp only
  refine wpN_any_bind (m := Builtin.Bytes.ownRelease (.ref D)) ?_
  unfold Builtin.Bytes.ownRelease Builtin.Bytes.slotIsOwn
  refine wpAny_bind (wpAny_bind (wpAny_specialOf hT ba_lookup_rel ?_))
  dsimp only
  refine bm_if_false (by decide +kernel) ?_
  rw [show ("bytearray.__release_buffer__".dropRight ("__release_buffer__".length + 1) : String) = "bytearray" from by decide +kernel]
  refine wpAny_isInstance (T := "bytearray") (b := true) hT ba_sub (wpAny_pure ?_)
  refine wpN_ff rfl ?_
  refine wpN_eq_bind (ba_bind _) ?_
  dsimp only
  refine wpN_eq_bind (a := ()) rfl ?_
  refine wpN_eq_bind (a := ()) rfl ?_
  refine wpN_bind (m := Builtin.Bytes.exported (.ref D) <||> _) (wpN_bind (exported_no ?_))
  refine wpN_bind (wpN_of_any ?_)
  unfold Builtin.Bytes.exportsOf
  refine wpAny_bind (wpAny_load hD (wpAny_pure ?_))
  refine wpN_pure ?_
  refine wpN_ff rfl ?_
  refine wpN_any_bind (wpAny_write hD (Nat.zero_le _) fun hD1 => ?_)
  refine wpN_eq_bind (a := none) rfl ?_
  refine wpN_ff rfl ?_
  refine wpN_eq_bind (a := ()) rfl ?_
  refine wpN_any_bind (wpAny_specialOf (name := Str.ofString "__index__") (typeIs_int _ n t) F.slot_int_index.lookup ?_)
  refine wpN_tt rfl ?_
  refine wpN_eq_bind (a := Except.ok n) rfl ?_
  dsimp only
  refine wpN_ff (by simp [Builtin.Bytes.fitsIndex]; omega) ?_
  rw [if_neg (by omega)]
  refine wpN_ff (by simp; omega) ?_
  refine wpN_ff (by simp [Builtin.Bytes.tooLong, sizeLine_eq]; omega) ?_
  refine wpN_any_bind (wpAny_rule ?_)
  have hup : ∀ b o, b ≠ D → s.heap.get? b = some o → (s.heap.update D (Obj.mapBytearray fun _ => #[])).get? b = some o := fun b o hb e => (Heap.get?_update_other _ _ (Ne.symm hb)).trans e
  by_cases hp : n > 0
  · rw [if_pos hp]
    refine wpN_any_bind (wpAny_write hD1 (by rw [Array.size_replicate, sizeLine_eq]; omega) fun hD2 => ?_)
    refine wpN_pure (hQ _ (fun b o hb e => (Heap.get?_update_other _ _ (Ne.symm hb)).trans (hup b o hb e)) hD2)
  · rw [if_neg hp]
    have : n = 0 := by omega
    subst this
    exact wpN_pure (hQ _ hup hD1)
theorem call_ba {n : Int} {t : Tok} {Q : Value → Shared → Prop} (h0 : 0 ≤ n) (hn1 : n ≤ 1000)
    (hQ : ∀ h', (∀ b o, s.heap.get? b = some o → h'.get? b = some o) → h'.get? s.heap.objs.size = some { cls := .type "bytearray", data := .bytearray (Array.replicate n.toNat 0) } → Q (.ref s.heap.objs.size) { s with heap := h' }) :
    wpN (model prog w) A (call (.type "bytearray") [.int n t]) Q E s := by
  refine wpN_call (codeN_of_tree rfl ?_)
  show wpN _ _ (callAny (.type "bytearray") _) _ _ _
  refine wpN_pure ⟨Code.quiet_builtin _ (by decide +kernel), codeN_builtin rfl PySem.F.entry_type_call ?_⟩
  rw [Around.under_plain (weight_type_call_type "bytearray" _ []) rfl]
  have ft := ba_called
  obtain ⟨c, tl, hmro⟩ := ft.mro
  have h1 := ft.notType
  have h2 := ft.canCreate
  unfold Builtin.«type.__call__»
  simp only [h1, Bool.false_eq_true, if_false]
  refine wpN_ff h2 ?_
  refine wpN_eq_bind (ba_typeCall _) ?_
  refine wpN_eq_bind hmro ?_
  refine wpN_ff rfl ?_
  refine wpN_eq_bind ft.made ?_
  refine wpN_eq_bind rfl ?_
  have hnew : (s.heap.push { cls := .type "bytearray", data := .bytearray #[] }).get? s.heap.objs.size = some { cls := .type "bytearray", data := .bytearray #[] } := Heap.get?_push_size _ rfl
  refine wpN_bind (wpN_holding (wpN_call (codeN_of_any (codeAny_mono (code_ba_new _ (Q₁ := fun v s₁ => v = .ref s.heap.objs.size ∧ s₁ = { s with heap := s.heap.push { cls := .type "bytearray", data := .bytearray #[] } }) (E := fun _ _ => False) ⟨rfl, rfl⟩) fun r s₁ hr => ?_))))
  cases r with
  | error e => exact hr.elim
  | ok fl =>
    cases fl with
    | ret obj =>
      obtain ⟨rfl, rfl⟩ := hr
      have hT : Shared.TypeIs { s with heap := s.heap.push { cls := .type "bytearray", data := .bytearray #[] } } (.ref s.heap.objs.size) "bytearray" := ⟨_, hnew, rfl⟩
      refine wpN_any_bind (wpAny_isInstance (T := "bytearray") (b := true) hT ft.sub ?_)
      refine wpN_ff rfl ?_
      refine wpN_bind (wpN_holding ?_)
      unfold callSpecial?
      refine wpN_any_bind (wpAny_specialOf (T := "bytearray") hT ft.init.lookup ?_)
      refine wpN_holding ?_
      refine wpN_eq_bind (ft.init.bind _) ?_
      refine wpN_bind (wpN_call (codeN_ba_init h0 hn1 hnew fun h' hk hD => ?_))
      refine wpN_pure ?_
      dsimp only
      refine wpN_ff rfl ?_
      exact wpN_pure (hQ h' (fun b o e => hk b o (Nat.ne_of_lt (Heap.lt_size e)) (Heap.get?_push_of_some _ e)) hD)
    | _ => exact hr.elim
end
end Mine
end

namespace Mine
theorem rsNE : True ∧ True := by
  w_top off
  k_with_none
  first | (walk1; fail) | exact ⟨trivial, trivial⟩
end Mine
section
open PySem PySem.W PySem.Spec PySem.Calls PyProof.Rows
set_option Elab.async false
set_option maxRecDepth 100000
namespace Mine
section
variable {M : Model} {A : Around} {E : Value → Shared → Prop} {s : Shared} {env : Env}
theorem wpN_execs_nil {Q : Flow → Shared → Prop} (h : Q .next s) : wpN M A (execs [] env) Q E s := by
  rw [arm_execs_nil]; exact wpN_pure h
theorem wpN_execs_cons {st : Stmt} {rest : List Stmt} {Q : Flow → Shared → Prop}
    (h : wpN M A (exec st env) (fun f s' => match f with | .next => wpN M A (execs rest env) Q E s' | f => Q f s') E s) : wpN M A (execs (st :: rest) env) Q E s := by
  rw [arm_execs_cons]
  refine wpN_bind (wpN_mono h (fun f s' h' => ?_) fun _ _ x => x)
  cases f <;> first | exact h' | exact wpN_pure h'
theorem wpN_Assign_Name {x : Str} {px pos : Pos} {value : Expr} {Q : Flow → Shared → Prop}
    (h : wpN M A (eval value env) (fun v s₁ => wpAny M A (bindName env x v) (fun _ s₂ => Q .next s₂) E s₁) E s) (hs : swapsWith value (some (.Name x px)) pos.line env = pure false := by rfl)
    (hw : swappedStores [.Name x px] value env = pure none := by rfl) : wpN M A (exec (.Assign [.Name x px] value pos) env) Q E s := by
  rw [arm_exec_Assign]
  refine wpN_standAt ?_
  refine wpN_eq_bind (a := false) hs ?_
  refine wpN_ff rfl ?_
  refine wpN_bind (wpN_mono h (fun v s₁ h₁ => ?_) fun _ _ x => x)
  refine wpN_eq_bind hw ?_
  refine wpN_of_any ?_
  show wpAny _ _ (do assignAll v ((assignEach [.Name x px] env).map (·.2)); pure Flow.next) _ _ _
  refine wpAny_bind ?_
  show wpAny _ _ (assign (.Name x px) env v) _ _ _
  rw [arm_assign_Name]
  exact wpAny_bind (wpAny_standAt (wpAny_mono h₁ (fun _ _ y => wpAny_pure y) fun _ _ y => y))
theorem wpN_Return {e : Expr} {pos : Pos} {Q : Flow → Shared → Prop} (h : wpN M A (eval e env) (fun v s₁ => Q (.ret v) s₁) E s) : wpN M A (exec (.Return (some e) pos) env) Q E s := by
  rw [arm_exec_Return, arm_evalOpt_some]
  refine wpN_standAt ?_
  exact wpN_bind (wpN_mono h (fun _ _ y => wpN_pure y) fun _ _ x => x)
theorem wpN_If {test : Expr} {body orelse : List Stmt} {pos : Pos} {Q : Flow → Shared → Prop}
    (h : wpN M A (PySem.isTrue test env (eval test env)) (fun b s₁ => wpN M A (if b = true then execs body env else execs orelse env) Q E s₁) E s) : wpN M A (exec (.If test body orelse pos) env) Q E s := by
  rw [arm_exec_If]
  exact wpN_standAt (wpN_bind h)
theorem wpN_BinOp {l r : Expr} {op : Operator} {pos : Pos} {Q : Value → Shared → Prop}
    (h : wpN M A (eval l env) (fun a s₁ => wpN M A (eval r env) (fun b s₂ => wpAny M A (operate [a, b] (binaryOp op a b)) Q E s₂) E s₁) E s) : wpN M A (eval (.BinOp l op r pos) env) Q E s := by
  rw [arm_eval_BinOp]
  exact wpN_bind (wpN_mono h (fun a s₁ h₁ => wpN_bind (wpN_holding (wpN_mono h₁ (fun b s₂ h₂ => wpN_standAt (wpN_of_any h₂)) fun _ _ x => x))) fun _ _ x => x)
theorem wpN_IfExp {test body orelse : Expr} {pos : Pos} {Q : Value → Shared → Prop}
    (h : wpAny M A (PySem.isTrue test env (eval test env)) (fun b s₁ => wpN M A (if b = true then eval body env else eval orelse env) Q E s₁) E s) : wpN M A (eval (.IfExp test body orelse pos) env) Q E s := by
  rw [arm_eval_IfExp]
  exact wpN_bind (wpN_of_any h)
/-- one comparison -/
theorem wpN_Compare {l r : Expr} {op : CmpOp} {pos : Pos} {Q : Value → Shared → Prop}
    (h : wpN M A (eval l env) (fun a s₁ => wpN M A (eval r env) (fun b s₂ => wpAny M A (operate [a, b] (compareOp op a b)) Q E s₂) E s₁) E s) (hm : ∀ t : Sem Value, markedEach [op] [r] [t] = [t] := by intro _; rfl) : wpN M A (eval (.Compare l [op] [r] pos) env) Q E s := by
  rw [arm_eval_Compare]
  refine wpN_bind (wpN_mono h (fun a s₁ h₁ => ?_) fun _ _ x => x)
  rw [arm_evalEach_cons, arm_evalEach_nil, hm, compareChain]
  exact wpN_bind (wpN_holding (wpN_mono h₁ (fun b s₂ h₂ => wpN_standAt (wpN_of_any h₂)) fun _ _ x => x))
theorem wpN_isTrue_Compare {l r : Expr} {op : CmpOp} {pos : Pos} {w : Sem Value} {Q : Bool → Shared → Prop}
    (h : wpN M A (eval l env) (fun a s₁ => wpN M A (eval r env) (fun b s₂ => wpAny M A (operate [a, b] (compareOp op a b)) (fun c s₃ => wpAny M A (truthy c) Q E s₃) E s₂) E s₁) E s) (hm : ∀ t : Sem Value, markedEach [op] [r] [t] = [t] := by intro _; rfl) : wpN M A (PySem.isTrue (.Compare l [op] [r] pos) env w) Q E s := by
  rw [arm_isTrue_Compare]
  refine wpN_bind (wpN_mono h (fun a s₁ h₁ => ?_) fun _ _ x => x)
  rw [arm_evalEach_cons, arm_evalEach_nil, hm, testChain]
  exact wpN_bind (wpN_holding (wpN_mono h₁ (fun b s₂ h₂ => wpN_standAt (wpN_bind (wpN_of_any (wpAny_mono h₂ (fun c s₃ h₃ => wpN_holding (wpN_of_any h₃)) fun _ _ x => x)))) fun _ _ x => x))
/-- a test «p or q» -/
theorem wpN_isTrue_Or {p q : Expr} {pos : Pos} {w : Sem Value} {Q : Bool → Shared → Prop}
    (h : wpN M A (PySem.isTrue p env (eval p env)) (fun b s₁ => if b = true then Q true s₁ else wpN M A (PySem.isTrue q env (eval q env)) Q E s₁) E s) : wpN M A (PySem.isTrue (.BoolOp .Or [p, q] pos) env w) Q E s := by
  rw [arm_isTrue_BoolOp, arm_allTrue_cons]
  refine wpN_bind (wpN_mono h (fun b s₁ h₁ => ?_) fun _ _ x => x)
  cases b with
  | true => exact wpN_pure (by simpa using h₁)
  | false =>
    simp only [Bool.false_eq_true, if_false] at h₁
    show wpN _ _ (allTrue .Or [q] env) _ _ _
    rw [arm_allTrue_cons]
    refine wpN_bind (wpN_mono h₁ (fun b s₂ h₂ => ?_) fun _ _ x => x)
    cases b with
    | true => exact wpN_pure h₂
    | false => show wpN _ _ (allTrue .Or [] env) _ _ _; rw [arm_allTrue_nil]; exact wpN_pure h₂
theorem wpN_spliced_cons {x : Sem Value} {rest : List (Bool × Sem Value)} {Q : List Value → Shared → Prop}
    (h : wpN M A x (fun v s₁ => wpN M A (spliced rest) (fun vs s₂ => Q (v :: vs) s₂) E s₁) E s) : wpN M A (spliced ((false, x) :: rest)) Q E s := by
  rw [spliced]
  refine wpN_bind (wpN_mono h (fun v s₁ h₁ => ?_) fun _ _ x => x)
  show wpN _ _ (pure [v] >>= _) _ _ _
  exact wpN_eq_bind rfl (wpN_bind (wpN_holding (wpN_mono h₁ (fun vs s₂ h₂ => wpN_pure h₂) fun _ _ x => x)))
theorem wpN_evalArgs {f : Value} {x : Sem Value} {rest : List (Bool × Sem Value)} {Q : Args → Shared → Prop}
    (h : wpN M A (spliced ((false, x) :: rest)) (fun vs s₁ => Q ⟨vs, []⟩ s₁) E s) : wpN M A (evalArgs f true ((false, x) :: rest) []) Q E s := by
  unfold evalArgs
  show wpN M A (spliced ((false, x) :: rest) >>= _) Q E s
  refine wpN_bind (wpN_mono h (fun vs s₁ h₁ => ?_) fun _ _ x => x)
  refine wpN_holding ?_
  exact wpN_eq_bind (a := []) rfl (wpN_eq_bind rfl (wpN_pure h₁))
theorem wpN_callWith_fn {pos : Pos} {a : Addr} {x : Sem Value} {rest : List (Bool × Sem Value)} {Q : Value → Shared → Prop} (hst : rest.any (·.1) = false := by rfl) (hlen : ¬ (((false, x) :: rest).length + 2 * ([] : List (Option Str × Sem Value)).length > 30) := by decide)
    (h : wpN M A (spliced ((false, x) :: rest)) (fun vs s₁ => (∃ o fd, s₁.heap.get? a = some o ∧ o.data = .func fd) ∧ wpN M A (call (.ref a) vs) Q E s₁) E s) :
    wpN M A (callWith pos (.ref a) [] ((false, x) :: rest) []) Q E s := by
  unfold callWith
  refine wpN_bind (wpN_holding (wpN_mono (wpN_evalArgs (f := .ref a) (Q := fun x s₁ => (∃ o fd, s₁.heap.get? a = some o ∧ o.data = .func fd) ∧ x.kw = [] ∧ wpN M A (call (.ref a) x.pos) Q E s₁) (wpN_mono h (fun _ _ y => ⟨y.1, rfl, y.2⟩) fun _ _ y => y)) (fun x s₁ h₁ => wpN_standAt ?_) fun _ _ x => x))
  obtain ⟨⟨o, fd, ho, hd⟩, hk, hc⟩ := h₁
  refine wpN_any_bind (m := keeperOf (.ref a)) ?_
  unfold keeperOf
  refine wpAny_bind (wpAny_load ho ?_)
  rw [hd]
  refine wpAny_pure ?_
  simp only [List.any_cons, hst, List.any_nil, Bool.or_false]
  rw [if_neg hlen, hk]
  unfold callMarked
  exact wpN_bind (wpN_keep (wpN_mono hc (fun r s₂ hr => wpN_bind (wpN_holding (wpN_of_any (wpAny_point (wpN_pure hr))))) fun _ _ x => x))
theorem wpN_callWith_type {pos : Pos} {T : String} {x : Sem Value} {rest : List (Bool × Sem Value)} {Q : Value → Shared → Prop} (hst : rest.any (·.1) = false := by rfl)
    (h : wpN M A (spliced ((false, x) :: rest)) (fun vs s₁ => wpN M A (call (.type T) vs) Q E s₁) E s) :
    wpN M A (callWith pos (.type T) [] ((false, x) :: rest) []) Q E s := by
  unfold callWith
  refine wpN_bind (wpN_holding (wpN_mono (wpN_evalArgs (f := .type T) (Q := fun x s₁ => x.kw = [] ∧ wpN M A (call (.type T) x.pos) Q E s₁) (wpN_mono h (fun _ _ y => ⟨rfl, y⟩) fun _ _ y => y)) (fun x s₁ h₁ => wpN_standAt ?_) fun _ _ x => x))
  obtain ⟨hk, hc⟩ := h₁
  refine wpN_eq_bind (m := keeperOf (.type T)) rfl ?_
  simp only [List.any_cons, hst, List.any_nil, Bool.or_false]
  rw [hk]
  exact wpN_bind (wpN_mono hc (fun r s₂ hr => wpN_bind (wpN_holding (wpN_of_any (wpAny_point (wpN_pure hr))))) fun _ _ x => x)
theorem wpN_CallName {f : Str} {p pos : Pos} {args : List Expr} {Q : Value → Shared → Prop}
    (h : wpAny M A (eval (.Name f p) env) (fun v s₁ => wpN M A (callWith pos v [] (backTo pos (starEach args env)) []) Q E s₁) E s) : wpN M A (eval (.Call (.Name f p) args [] pos) env) Q E s := by
  rw [arm_eval_Call_Name']
  exact wpN_bind (wpN_of_any h)
theorem wpN_args_nil {pos : Pos} {Q : List Value → Shared → Prop} (h : Q [] s) : wpN M A (spliced (backTo pos (starEach [] env))) Q E s := wpN_pure h
theorem wpN_args_cons {e : Expr} {es : List Expr} {pos : Pos} {Q : List Value → Shared → Prop}
    (h : wpN M A (eval e env) (fun v s₁ => wpN M A (spliced (backTo pos (starEach es env))) (fun vs s₂ => Q (v :: vs) s₂) E s₁) E s)
    (hs : starEach (e :: es) env = (false, eval e env) :: starEach es env := by rfl) : wpN M A (spliced (backTo pos (starEach (e :: es) env))) Q E s := by
  rw [hs]
  exact wpN_spliced_cons h
theorem wpN_call_fn {e : Expr} {es : List Expr} {pos pos' : Pos} {a : Addr} {Q : Value → Shared → Prop}
    (h : wpN M A (spliced (backTo pos' (starEach (e :: es) env))) (fun vs s₁ => (∃ o fd, s₁.heap.get? a = some o ∧ o.data = .func fd) ∧ wpN M A (call (.ref a) vs) Q E s₁) E s)
    (hs : starEach (e :: es) env = (false, eval e env) :: starEach es env := by rfl) (hst : (backTo pos' (starEach es env)).any (·.1) = false := by rfl) (hlen : ¬ ((backTo pos' (starEach (e :: es) env)).length + 2 * ([] : List (Option Str × Sem Value)).length > 30) := by decide) :
    wpN M A (callWith pos (.ref a) [] (backTo pos' (starEach (e :: es) env)) []) Q E s := by
  rw [hs] at h hlen ⊢
  exact wpN_callWith_fn hst hlen h
theorem wpN_call_type {e : Expr} {es : List Expr} {pos pos' : Pos} {T : String} {Q : Value → Shared → Prop}
    (h : wpN M A (spliced (backTo pos' (starEach (e :: es) env))) (fun vs s₁ => wpN M A (call (.type T) vs) Q E s₁) E s)
    (hs : starEach (e :: es) env = (false, eval e env) :: starEach es env := by rfl) (hst : (backTo pos' (starEach es env)).any (·.1) = false := by rfl) :
    wpN M A (callWith pos (.type T) [] (backTo pos' (starEach (e :: es) env)) []) Q E s := by
  rw [hs] at h ⊢
  exact wpN_callWith_type hst h
end
section
variable {h₀ h h' : Heap} {L a : Addr} {m : Str → Option Value} {news : List (Addr × Obj)} {o : Obj}
/-- a heap that has grown by an object of the call's own -/
theorem news_grow (F : Fr h₀ L h m) (N : News h₀ L h news) (hk : ∀ b o, h.get? b = some o → h'.get? b = some o) (ho : h'.get? h.objs.size = some o) : News h₀ L h' ((h.objs.size, o) :: news) := fun p hp => by
  rcases List.mem_cons.mp hp with rfl | hp
  · refine ⟨ho, Nat.ne_of_gt F.ns.lt, ?_⟩
    exact Heap.get?_none_of_le (Nat.le_trans F.above (Nat.le_of_lt F.ns.lt))
  · exact ⟨hk _ _ (N p hp).1, (N p hp).2⟩
end
abbrev baObj (b : Array UInt8) : Obj := { cls := .type "bytearray", data := .bytearray b }
theorem call_ba_K {prog : Program} {w : World} {A : Around} {E : Value → Shared → Prop} {s : Shared} {h₀ : Heap} {L : Addr} {m : Str → Option Value} {news : List (Addr × Obj)} {n : Int} {t : Tok} {Q : Value → Shared → Prop}
    (F : Fr h₀ L s.heap m) (N : News h₀ L s.heap news) (h0 : 0 ≤ n) (h1 : n ≤ 1000)
    (h : ∀ D h', Fr h₀ L h' m → News h₀ L h' ((D, baObj (Array.replicate n.toNat 0)) :: news) → (∀ p ∈ news, p.1 < D) → Q (.ref D) { s with heap := h' }) :
    wpN (model prog w) A (call (.type "bytearray") [.int n t]) Q E s :=
  call_ba h0 h1 fun h' hk hD => h _ h' (F.keeps hk) (news_grow F N hk hD) fun p hp => Heap.lt_size (N p hp).1
section
variable {prog : Program} {w : World} {A : Around} {E : Value → Shared → Prop} {s : Shared} {env : Env} {h₀ : Heap} {x : Str} {body : List Stmt} {Q : Flow → Shared → Prop}
/-- a for over a range, whatever its step -/
theorem iter_rangeJ {r : Addr} {a b c : Int} {t u v : Tok} {n : Nat} {m₀ : Str → Option Value} {news : List (Addr × Obj)} (J : Nat → (Str → Option Value) → List (Addr × Obj) → Prop)
    (hh : A.handled = none) (hr : IsRange s.heap r a b c t u v) (hsmall : Builtin.Range.small a b c = true) (hn : Builtin.Range.rangeSize a b c = (n : Int)) (F : Fr h₀ env.locals s.heap m₀) (N : News h₀ env.locals s.heap news) (hj : J 0 m₀ news)
    (turn : ∀ i k t m₁ news₁ h tk own, i < n → k = a + (i : Int) * c → news₁.map (·.1) = news.map (·.1) → OwnOff own (news.map (·.1)) → J i m₁ news₁ → Fr h₀ env.locals h (fun y => if y = x then some (.int k t) else m₁ y) → News h₀ env.locals h (news₁ ++ own) →
      wpAny (model prog w) A (execs body env) (InvPostN h₀ env.locals (J (i + 1)) own (news.map (·.1)) { s with heap := h, toks := tk } Q) E { s with heap := h, toks := tk })
    (done : ∀ m₁ news₁ h tk, J n m₁ news₁ → Fr h₀ env.locals h m₁ → News h₀ env.locals h news₁ → Q .next { s with heap := h, toks := tk }) :
    wpAny (model prog w) A (pyIter (.ref r)) (fun it s₂ => LoopAtV prog w A h₀ env x body Q E it s₂) E s := by
  refine wpAny_pyIter_range hr hsmall ?_
  have W := (Walks.range (prog := prog) (w := w) hh s.heap.objs.size a c n).bound
  have off : ∀ p ∈ news, p.1 ∉ [s.heap.objs.size] := fun p hp hI => Nat.lt_irrefl _ ((List.mem_singleton.mp hI) ▸ Heap.lt_size (N p hp).1)
  refine loop_invN J W ?_ ?_ off off (by show IsRangeIter _ _ _ _ _; rw [hn]; simpa using Heap.get?_push_size _ rfl) (F.push _) (fun p hp => ⟨Heap.get?_push_of_some _ (N p hp).1, (N p hp).2⟩) hj ?_ done
  · intro hm
    exact absurd F.ns.lt ((List.mem_singleton.mp hm) ▸ Nat.lt_irrefl _)
  · intro b' hb
    rw [List.mem_singleton.mp hb]
    exact next_is_new F
  · rintro i v' m₁ nx h tk own hi ⟨_, t', rfl⟩ ha hoff hJ F₁ N₁
    exact turn i _ t' m₁ nx h tk own hi rfl ha hoff hJ F₁ N₁
/-- what a loop's turn leaves of the frame's names -/
def Kept (x : Str) (stored : List Str) (m₀ m' : Str → Option Value) : Prop := ∀ z, z ≠ x → stored.contains z = false → m' z = m₀ z
theorem kept_map {stored : List Str} {m₀ m₁ : Str → Option Value} {v : Option Value} (h : Kept x stored m₀ m₁) : (fun y => if y = x then v else m₁ y) = fun y => if y = x then v else if stored.contains y = true then m₁ y else m₀ y := by
  funext y
  by_cases h1 : y = x
  · simp [h1]
  · simp only [if_neg h1]
    cases h2 : stored.contains y with
    | true => simp
    | false => simpa using h y h1 h2
theorem kept_out {stored : List Str} {m₀ m₁ : Str → Option Value} (h : Kept x stored m₀ m₁) : m₁ = fun y => if y = x then m₁ y else if stored.contains y = true then m₁ y else m₀ y := by
  have := kept_map (v := m₁ x) h
  funext y
  have e := congrFun this y
  by_cases h1 : y = x
  · simp [h1]
  · simpa only [if_neg h1] using e
theorem iter_rangeK {r : Addr} {a b c : Int} {t u v : Tok} {n : Nat} {m₀ : Str → Option Value} {news : List (Addr × Obj)} (stored : List Str) (J : Nat → List (Addr × Obj) → Prop)
    (hh : A.handled = none) (hr : IsRange s.heap r a b c t u v) (hsmall : Builtin.Range.small a b c = true) (hn : Builtin.Range.rangeSize a b c = (n : Int)) (F : Fr h₀ env.locals s.heap m₀) (N : News h₀ env.locals s.heap news) (hj : J 0 news)
    (turn : ∀ i k t (u : Str → Option Value) news₁ h tk own, i < n → k = a + (i : Int) * c → news₁.map (·.1) = news.map (·.1) → OwnOff own (news.map (·.1)) → J i news₁ → Fr h₀ env.locals h (fun y => if y = x then some (.int k t) else if stored.contains y = true then u y else m₀ y) → News h₀ env.locals h (news₁ ++ own) →
      wpAny (model prog w) A (execs body env) (InvPostN h₀ env.locals (fun m' nx => Kept x stored m₀ m' ∧ J (i + 1) nx) own (news.map (·.1)) { s with heap := h, toks := tk } Q) E { s with heap := h, toks := tk })
    (done : ∀ (u : Str → Option Value) news₁ h tk, J n news₁ → Fr h₀ env.locals h (fun y => if y = x then u y else if stored.contains y = true then u y else m₀ y) → News h₀ env.locals h news₁ → Q .next { s with heap := h, toks := tk }) :
    wpAny (model prog w) A (pyIter (.ref r)) (fun it s₂ => LoopAtV prog w A h₀ env x body Q E it s₂) E s := by
  refine iter_rangeJ (fun i m₁ nx => Kept x stored m₀ m₁ ∧ J i nx) hh hr hsmall hn F N ⟨fun _ _ _ => rfl, hj⟩ ?_ ?_
  · rintro i k t m₁ nx h tk own hi hk ha hoff ⟨hm, hJ⟩ F₁ N₁
    rw [kept_map hm] at F₁
    exact turn i k t m₁ nx h tk own hi hk ha hoff hJ F₁ N₁
  · rintro m₁ nx h tk ⟨hm, hJ⟩ F₁ N₁
    rw [kept_out hm] at F₁
    exact done m₁ nx h tk hJ F₁ N₁
end
theorem ba_slot_set : Slot "bytearray" (Str.ofString "__setitem__") "bytearray.__setitem__" :=
  .of (owner := "bytearray") (n := "__setitem__") (by rw [typeLookup_type, builtinLookup_eq_fast]; kernel_rfl) (by decide +kernel) (by decide +kernel) (by decide +kernel)
    (by first | exact .inl (by decide +kernel) | exact .inr (by decide +kernel)) (by rw [isSubtype_type]; kernel_rfl)
theorem ba_entry_set : entryFor table "bytearray.__setitem__" = some Builtin.«bytearray.__setitem__» := by first | exact entryFor_of_fast (by kernel_rfl) | exact entryFor_of_tree (by kernel_rfl)
theorem ba_args_set (a b c : Value) : argsOk "bytearray.__setitem__" ⟨[a, b, c], []⟩ := by unfold argsOk; kernel_rfl
theorem ba_look_buf : typeLookup (.type "bytearray") "__buffer__" = pure (some (.builtin "bytearray.__buffer__")) := by rw [typeLookup_type, builtinLookup_eq_fast]; kernel_rfl
theorem ba_look_bytes : typeLookup (.type "bytearray") "__bytes__" = pure none := by rw [typeLookup_type, builtinLookup_eq_fast]; kernel_rfl
theorem ba_look_index : typeLookup (.type "bytearray") "__index__" = pure none := by rw [typeLookup_type, builtinLookup_eq_fast]; kernel_rfl
section
variable {prog : Program} {w : World} {A : Around} {E : Value → Shared → Prop} {s : Shared}
theorem setItem_ba {D : Addr} {b : Array UInt8} {k v : Int} {t u : Tok} {Q : Unit → Shared → Prop} (hD : s.heap.get? D = some (baObj b)) (h0 : 0 ≤ k) (h1 : k < (b.size : Int)) (hz : b.size ≤ 1000) (v0 : 0 ≤ v) (v1 : v < 256)
    (h : (s.heap.update D (Obj.mapBytearray (·.setIfInBounds k.toNat v.toNat.toUInt8))).get? D = some (baObj (b.setIfInBounds k.toNat v.toNat.toUInt8)) → Q () { s with heap := s.heap.update D (Obj.mapBytearray (·.setIfInBounds k.toNat v.toNat.toUInt8)) }) :
    wpAny (model prog w) A (setItem (.ref D) (.int k t) (.int v u)) Q E s := by
  have hT : s.TypeIs (.ref D) "bytearray" := ⟨_, hD, rfl⟩
  unfold setItem
  refine wpAny_holding ?_
  refine wpAny_bind (wpAny_sequenceKey hT (by decide) ?_)
  refine wpAny_bind (wpAny_callSpecial?_slot (name := Str.ofString "__setitem__") hT ba_slot_set
    (wpAny_call_entry ba_slot_set hT ba_entry_set ?_ (ba_args_set _ _ _)))
  unfold Builtin.«bytearray.__setitem__»
  simp only [List.isEmpty_nil, Bool.not_true, Bool.false_eq_true, if_false]
  refine wpAny_bind (m := Builtin.Bytes.subscript? (.int k t)) ?_
  unfold Builtin.Bytes.subscript?
  refine wpAny_bind (wpAny_specialOf (name := Str.ofString "__index__") (typeIs_int _ k t) PySem.F.slot_int_index.lookup ?_)
  refine bm_if_false rfl ?_
  refine wpAny_bind (wpAny_of_eq (rfl : asIndex (.int k t) = pure k) ?_)
  dsimp only
  refine bm_if_false (by simp [Builtin.Bytes.fitsIndex]; omega) ?_
  refine wpAny_pure ?_
  dsimp only
  refine wpAny_bind (m := Builtin.Bytes.byteValue (.int v u)) ?_
  unfold Builtin.Bytes.byteValue
  refine wpAny_bind (wpAny_of_eq (rfl : asIndex (.int v u) = pure v) ?_)
  refine bm_if_false (by simp; omega) ?_
  refine wpAny_pure ?_
  refine wpAny_bind ?_
  unfold Builtin.Bytes.payload Builtin.Bytes.payload?
  refine wpAny_bind (wpAny_bind (wpAny_load hD (wpAny_pure (wpAny_pure ?_))))
  have hs : seqIndex? k b.size = some k.toNat := by
    simp only [seqIndex?]
    rw [if_neg (by omega : ¬ k < 0)]
    simp [h0, h1]
  rw [hs]
  dsimp only
  refine wpAny_bind (wpAny_write hD (by rw [Array.size_setIfInBounds, sizeLine_eq]; omega) fun hD1 => ?_)
  exact wpAny_pure ⟨_, rfl, wpAny_pure (h hD1)⟩
theorem slotOwn_ba {D : Addr} {b : Array UInt8} {name : String} {Q : Bool → Shared → Prop} (hD : s.heap.get? D = some (baObj b)) (hl : typeLookup (.type "bytearray") (Str.ofString name) = pure (some (.builtin ("bytearray." ++ name)))) (he : ("bytearray." ++ name).endsWith ("." ++ name) = true) (hd : ("bytearray." ++ name).dropRight (name.length + 1) = "bytearray") (hQ : Q true s) :
    wpAny (model prog w) A (Builtin.Bytes.slotIsOwn (.ref D) name) Q E s := by
  have hT : s.TypeIs (.ref D) "bytearray" := ⟨_, hD, rfl⟩
  unfold Builtin.Bytes.slotIsOwn
  refine wpAny_bind (wpAny_specialOf hT hl ?_)
  dsimp only
  refine bm_if_false (by rw [he]; rfl) ?_
  rw [hd]
  exact wpAny_isInstance (T := "bytearray") (b := true) hT ba_sub hQ

theorem new_bytes_ba {D : Addr} {b : Array UInt8} {Q : Value → Shared → Prop} (hD : s.heap.get? D = some (baObj b)) (hz : b.size ≤ 1000)
    (hQ : Q (.bytes b s.toks) { s with toks := s.toks + 1 }) :
    codeAny (model prog w) A (.call (.builtin "bytes.__new__") ⟨[.type "bytes", .ref D], []⟩) (wants Q E) s := by
  refine codeAny_of_tree ?_
  show wpAny _ A.in1 (do checkBuiltinCall "bytes.__new__" ⟨[.type "bytes", .ref D], []⟩; again (.builtin "bytes.__new__" ⟨[.type "bytes", .ref D], []⟩)) _ _ s
  refine wpAny_bind (wpAny_of_eq (PySem.F.bm_newCall _) (wpAny_pure ⟨plainId_quiet PySem.F.bm_plain _, codeAny_builtin PySem.F.bm_entry ?_⟩))
  rw [Around.under_plainId PySem.F.bm_plain _]
  have hT : s.TypeIs (.ref D) "bytearray" := ⟨_, hD, rfl⟩
  unfold Builtin.«bytes.__new__»
  refine wpAny_bind (wpAny_of_eq (a := true) rfl ?_)
  refine bm_if_false rfl ?_
  refine wpAny_bind (wpAny_of_eq PySem.F.bm_sub ?_)
  refine bm_if_false rfl ?_
  refine wpAny_bind (wpAny_of_eq (PySem.F.bm_bind _) ?_)
  refine wpAny_bind (wpAny_of_eq (a := ()) rfl ?_)
  refine wpAny_bind (wpAny_of_eq (a := ()) rfl ?_)
  refine bm_if_false rfl ?_
  refine wpAny_bind (wpAny_specialOf hT ba_look_bytes ?_)
  refine wpAny_bind (wpAny_bind ?_)
  show wpAny _ _ (load D >>= _) _ _ _
  refine wpAny_bind (wpAny_load hD ?_)
  refine wpAny_pure (wpAny_pure ?_)
  refine bm_if_false rfl ?_
  refine wpAny_bind (wpAny_specialOf hT ba_look_index ?_)
  refine bm_if_true rfl ?_
  first
    | show wpAny _ _ (Builtin.Bytes.buffer? "bytes.__new__" (.ref D) true >>= _) _ _ _
    | (refine wpAny_bind ?_; show wpAny _ _ (Builtin.Bytes.buffer? "bytes.__new__" (.ref D) true >>= _) _ _ _)
  refine wpAny_bind ?_
  unfold Builtin.Bytes.buffer?
  refine wpAny_bind (wpAny_specialOf hT ba_look_buf ?_)
  dsimp only
  refine wpAny_bind (slotOwn_ba hD ba_look_buf (by decide +kernel) (by decide +kernel) ?_)
  refine bm_if_false rfl ?_
  refine wpAny_bind (wpAny_specialOf hT ba_look_buf ?_)
  refine wpAny_bind (m := Builtin.Bytes.ownRelease (.ref D)) ?_
  unfold Builtin.Bytes.ownRelease
  refine wpAny_bind (slotOwn_ba hD ba_lookup_rel (by decide +kernel) (by decide +kernel) (wpAny_pure ?_))
  refine bm_if_false rfl ?_
  refine wpAny_bind ?_
  unfold Builtin.Bytes.payload Builtin.Bytes.payload?
  refine wpAny_bind (wpAny_bind (wpAny_load hD (wpAny_pure (wpAny_pure ?_))))
  refine wpAny_pure ?_
  dsimp only
  refine wpAny_bind (wpAny_rule ?_)
  refine wpAny_bind (wpAny_mkBytes ?_ (by rw [sizeLine_eq]; omega))
  show wpAny _ _ (if (Value.type "bytes" == Value.type "bytes") = true then _ else _) _ _ _
  refine bm_if_true (by decide) ?_
  first
    | exact wpAny_pure hQ
    | exact wpAny_bind (wpAny_pure (wpAny_pure hQ))
theorem call_bytes_ba {D : Addr} {b : Array UInt8} {Q : Value → Shared → Prop} (hD : s.heap.get? D = some (baObj b)) (hz : b.size ≤ 1000)
    (hQ : Q (.bytes b s.toks) { s with toks := s.toks + 1 }) : wpAny (model prog w) A (call (.type "bytes") [.ref D]) Q E s := by
  refine callType_codes (Q₁ := fun obj s₁ => s₁.TypeIs obj "bytes" ∧ Q obj s₁) PySem.F.bm_called (PySem.F.bm_typeCall _) PySem.F.entry_object_init
    (new_bytes_ba hD hz ⟨PySem.W.typeIs_bytes _ _ _, hQ⟩) fun obj s₁ h₁ => ?_
  exact ⟨h₁.1, PySem.F.args_object_init_2 obj _, object_init_meets PySem.F.bm_called.init.lookup PySem.F.bm_called.made (by decide) prog w A.in1 _ s₁ ⟨h₁.1, rfl, h₁.2⟩⟩
theorem item_bytes {x : Array UInt8} {i : Int} {t ui : Tok} {value slice : Expr} {Q : Value → Shared → Prop} (hfit : x.size ≤ 1099511627776) (h0 : 0 ≤ i) (h1 : i < (x.size : Int)) (h : Q (.int (x.getD i.toNat 0).toNat s.toks) { s with toks := s.toks + 1 })
    (hs : subscripted slice false (.bytes x t) (.int i ui) = operate [.bytes x t, .int i ui] (getItem (.bytes x t) (.int i ui)) := by with_unfolding_all rfl)
    (ht : ∀ r, letTemporaryGo value (.bytes x t) r = pure () := by intro _; with_unfolding_all rfl) :
    wpAny (model prog w) A (subscriptTail value slice (.bytes x t) (.int i ui)) Q E s := by
  obtain ⟨l⟩ := x
  exact KBy.item_N (x := l) hfit h0 h1 (by simpa [List.getD_eq_getElem?_getD, Array.getD_eq_getD_getElem?] using h) hs ht
end
section
variable {prog : Program} {w : World} {A : Around} {E : Value → Shared → Prop} {s : Shared} {h₀ : Heap} {L : Addr} {m : Str → Option Value} {rest : List (Addr × Obj)}
theorem setItem_ba_K {D : Addr} {b : Array UInt8} {k v : Int} {t u : Tok} {Q : Unit → Shared → Prop} (F : Fr h₀ L s.heap m) (N : News h₀ L s.heap ((D, baObj b) :: rest)) (hne : ∀ p ∈ rest, p.1 ≠ D)
    (h0 : 0 ≤ k) (h1 : k < (b.size : Int)) (hz : b.size ≤ 1000) (v0 : 0 ≤ v) (v1 : v < 256)
    (h : ∀ h', Fr h₀ L h' m → News h₀ L h' ((D, baObj (b.setIfInBounds k.toNat v.toNat.toUInt8)) :: rest) → Q () { s with heap := h' }) :
    wpAny (model prog w) A (setItem (.ref D) (.int k t) (.int v u)) Q E s :=
  setItem_ba (News.get N (.head _)) h0 h1 hz v0 v1 fun _ =>
    have U := news_upd (pre := []) (f := Obj.mapBytearray (·.setIfInBounds k.toNat v.toNat.toUInt8)) (o' := baObj (b.setIfInBounds k.toNat v.toNat.toUInt8)) F N (fun _ h => nomatch h) hne rfl rfl
    h _ U.1 U.2
end
end Mine
end

namespace Mine
theorem rsCB : True ∧ True := by
  w_top off
  k_with_none
  first | (walk1; fail) | exact ⟨trivial, trivial⟩
end Mine
section
open PySem PySem.W PySem.Spec PySem.Calls PyProof.Rows
set_option Elab.async false
set_option maxRecDepth 100000
namespace Mine
/-- a call's claim: T is the ledger that it wants, D and U its room, Post what comes back and the ledger then -/
abbrev Cl (prog : Program) (w : World) (K : Frag) (p : Program) (loose : List Str) (mean : ExcName → Option Value) (mg mb : Str → Option Value) (f : Addr) (T : List (Addr × Obj)) (D U : Nat) (vs : List Value) (Post : Value → List (Addr × Obj) → Prop) : Prop :=
  ∀ (dp un : Nat) (gd : Option (List Code)) (cn : Str) (cs : Scope) (a : Addr) (ccd : Value) (cl : List (Str × Addr)) (outer : List Env) (A₀ : Around) (base h₀ : Heap) (L : Addr) (m : Str → Option Value) (s : Shared) (Q E : Value → Shared → Prop),
    Below A₀ base outer h₀ → Fr h₀ L s.heap m → K.In h₀ → News h₀ L s.heap T → Top p loose mean mg mb h₀ → cs.kind = .function →
    dp + D < recursionLimit → un + U < cLine →
    (∀ r T' h' tk', Fr h₀ L h' m → News h₀ L h' T' → Post r T' → Q r { s with heap := h', toks := tk' }) →
      wpAny (model prog w) (ktrTop dp un gd cn cs L a ccd cl outer) (call (.ref f) vs) Q E s
/-- a halt of the walk -/
def Stop (P : Prop) : Prop := P
theorem Stop.go {P : Prop} (h : Stop P) : P := h
theorem Stop.on {P : Prop} (h : P) : Stop P := h
/-- a new tuple -/
abbrev tupObj (vs : List Value) : Obj := { cls := .type "tuple", data := .seq vs.toArray }
theorem Cl.use {prog : Program} {w : World} {K : Frag} {p : Program} {loose : List Str} {mean : ExcName → Option Value} {mg mb : Str → Option Value} {f : Addr} {T N₀ : List (Addr × Obj)} {D U : Nat} {vs : List Value} {Post : Value → List (Addr × Obj) → Prop}
    {dp un : Nat} {gd : Option (List Code)} {cn : Str} {cs : Scope} {a : Addr} {ccd : Value} {cl : List (Str × Addr)} {outer : List Env} {A₀ : Around} {base h₀ : Heap} {L : Addr} {m : Str → Option Value} {s : Shared} {Q E : Value → Shared → Prop}
    (C : Cl prog w K p loose mean mg mb f T D U vs Post) (B : Below A₀ base outer h₀) (F : Fr h₀ L s.heap m) (X : K.In h₀) (N : News h₀ L s.heap N₀) (hs : ∀ q ∈ T, q ∈ N₀) (Tp : Top p loose mean mg mb h₀) (hk : cs.kind = .function)
    (hd : dp + D < recursionLimit) (hu : un + U < cLine) (ret : ∀ r T' h' tk', Fr h₀ L h' m → News h₀ L h' T' → Post r T' → Q r { s with heap := h', toks := tk' }) :
    wpAny (model prog w) (ktrTop dp un gd cn cs L a ccd cl outer) (call (.ref f) vs) Q E s := C _ _ _ _ _ _ _ _ _ _ _ _ _ _ _ _ _ B F X (fun q hq => N q (hs q hq)) Tp hk hd hu ret
/-- x, its upper part struck -/
theorem land_high (x s : Nat) : x &&& (x / 2 ^ s * 2 ^ s) = x / 2 ^ s * 2 ^ s := by
  apply Nat.eq_of_testBit_eq
  intro i
  rw [Nat.testBit_and, Nat.testBit_mul_two_pow, Nat.testBit_div_two_pow]
  by_cases h : s ≤ i
  · simp [h, Nat.sub_add_cancel h]
  · simp [h]
theorem xor_high (x : Int) (s : Nat) (hx : 0 ≤ x) : Builtin.bitXor x (x / 2 ^ s * 2 ^ s) = x % 2 ^ s := by
  obtain ⟨n, rfl⟩ := Int.eq_ofNat_of_zero_le hx
  rw [bitXor_and]
  have e : ((n : Int) / 2 ^ s * 2 ^ s) = ((n / 2 ^ s * 2 ^ s : Nat) : Int) := by simp
  have h : Builtin.bitAnd (n : Int) ((n / 2 ^ s * 2 ^ s : Nat) : Int) = ((n / 2 ^ s * 2 ^ s : Nat) : Int) := by
    have g : ∀ k : Nat, Builtin.bitAnd (n : Int) (k : Int) = ((n &&& k : Nat) : Int) := fun k => by unfold Builtin.bitAnd; simp
    rw [g, land_high]
  rw [e, h]
  have h2 := Int.emod_add_mul_ediv (n : Int) (2 ^ s)
  rw [← e, Int.mul_comm]
  omega
/-- the table of a def that makes one def: empty, or the def's code stands in it -/
def TabSt (P : Addr) (pos : Pos) (q : Str) (T : List (Addr × Obj)) : Prop :=
  T = [(P, tabObj #[])] ∨ ∃ (c' : Addr) (oc : Obj) (ocv : Array Value) (tq : Tok), T = [(c', oc), (P, tabObj (#[] ++ #[rawInt pos.line, rawInt pos.col, .ref c']))] ∧ oc.data = .fields ocv ∧ ocv[1]? = some (.str q tq)
def Off (A B : List (Addr × Obj)) : Prop := ∀ q ∈ A, ∀ q' ∈ B, @Ne Nat q.1 q'.1
/-- what a call has added lies above what was there -/
def Grown (T led T' : List (Addr × Obj)) : Prop := ∀ q ∈ T', q.1 ∈ T.map (·.1) ∨ ∀ p ∈ led, @LT.lt Nat _ p.1 q.1
theorem mem_swap {A T R : List (Addr × Obj)} {q : Addr × Obj} (h : q ∈ T ++ (A ++ R)) : q ∈ A ++ (T ++ R) := by
  simp only [List.mem_append] at h ⊢
  rcases h with h | h | h
  · exact .inr (.inl h)
  · exact .inl h
  · exact .inr (.inr h)
theorem Off.cons {p : Addr × Obj} {A B : List (Addr × Obj)} (h : ∀ q ∈ B, @Ne Nat p.1 q.1) (ho : Off A B) : Off (p :: A) B := fun q hq => by
  rcases List.mem_cons.mp hq with rfl | hq
  · exact h
  · exact ho q hq
section
variable {M : Model} {A : Around} {E : Value → Shared → Prop} {s : Shared} {h₀ : Heap} {L a c P : Addr} {m mg mb : Str → Option Value} {cn : Str} {cs : Scope} {ccd : Value} {cl : List (Str × Addr)} {T rest : List (Addr × Obj)}
  {p : Program} {loose : List Str} {mean : ExcName → Option Value} {name qual : Str} {params : Arguments} {body : List Stmt} {scope : Scope} {pos : Pos} {clos : List (Str × Addr)}
theorem nestE {Q : Value → Shared → Prop} (F : Fr h₀ L s.heap m) (N : News h₀ L s.heap (T ++ rest)) (hT : TabSt P pos qual T) (hO : Off rest T) (Tp : Top p loose mean mg mb h₀) (C : CodeHd h₀ c P) (hcd : ccd = .ref c)
    (hcl : closureFor scope (envX cn cs L a ccd cl) = pure clos)
    (h : ∀ f c' oc ocv tq ctv doc T' h' tk, T' = [(c', oc), (P, tabObj (#[] ++ #[rawInt pos.line, rawInt pos.col, .ref c']))] → oc.data = .fields ocv → ocv[1]? = some (.str qual tq) → Fr h₀ L h' m →
      News h₀ L h' ((f, fnMade name qual params body scope clos doc ((mg "__name__").getD .none) c' ctv) :: (T' ++ rest)) → Grown T (T ++ rest) T' → (∀ q ∈ T ++ rest, @LT.lt Nat _ q.1 f) → @LT.lt Nat _ c' f → (∀ q ∈ rest, @Ne Nat q.1 c') → Q (.ref f) { s with heap := h', toks := tk }) :
    wpAny M A (makeFunction name qual params (.stmts body) scope (envX cn cs L a ccd cl) [] [] [] pos pos.line) Q E s := by
  rcases hT with rfl | ⟨c', oc, ocv, tq, rfl, hd, hv⟩
  · refine nest_K (news := (P, tabObj #[]) :: rest) F N Tp C hcd (.head fun q hq => hO q hq _ (.head _)) trivial rfl hcl fun f c' oc vs t ctv doc h' tk F' N' hd hv l1 l2 => ?_
    refine h f c' oc vs t ctv doc _ h' tk rfl hd hv F' N' ?_ (fun q hq => Nat.lt_trans (l1 q hq) l2) l2 (fun q hq => Nat.ne_of_lt (l1 q (List.mem_cons_of_mem _ hq)))
    intro q hq
    rcases List.mem_cons.mp hq with rfl | hq
    · exact .inr l1
    · obtain rfl := List.mem_singleton.mp hq
      exact .inl (.head _)
  · refine nestHit_K (P := P) (ps := #[] ++ #[rawInt pos.line, rawInt pos.col, .ref c']) (c' := c') F N Tp C hcd (.tail _ (.head _)) (by simp [TriplesOk, rawInt]) (by simp [codeAmong, rawInt]) hcl fun f ctv doc h' tk F' N' l1 => ?_
    refine h f c' oc ocv tq ctv doc _ h' tk rfl hd hv F' N' ?_ l1 (l1 _ (.head _)) fun q hq => hO q hq _ (.head _)
    exact fun q hq => .inl (List.mem_map_of_mem hq)
end
def bodyOf : Stmt → List Stmt | .FunctionDef _ _ b _ _ _ _ _ _ _ => b | _ => []
def parsOf : Stmt → Arguments | .FunctionDef _ a _ _ _ _ _ _ _ _ => a | _ => default
def scopeOf : Stmt → Scope | .FunctionDef _ _ _ _ _ _ s _ _ _ => s | _ => default
def posOf : Stmt → Pos | .FunctionDef _ _ _ _ _ _ _ _ _ p => p | _ => default
def isDef (x : Str) : Stmt → Bool | .FunctionDef n _ _ _ _ _ _ _ _ _ => n == x | _ => false
def firstDef (x : Str) (l : List Stmt) : Stmt := (l.find? (isDef x)).getD (.Pass default)
def innerS (f : String) (m : Program) : Stmt := firstDef (Str.ofString "inner") (bodyOf (firstDef (Str.ofString f) m.main.body))
/-- digits, the least first -/
def val (B : Int) : List Int → Int
  | [] => 0
  | d :: r => d + B * val B r
theorem val_append (B : Int) : ∀ (a b : List Int), val B (a ++ b) = val B a + B ^ a.length * val B b
  | [], b => by simp [val]
  | d :: r, b => by
    simp only [List.cons_append, val, val_append B r b, List.length_cons, Int.mul_add, Int.pow_succ]
    rw [Int.mul_comm (B ^ r.length) B, Int.mul_assoc]
    omega
theorem val_bound {n : Nat} : ∀ {ds : List Int}, (∀ d ∈ ds, 0 ≤ d ∧ d < 2 ^ n) → 0 ≤ val (2 ^ n) ds ∧ val (2 ^ n) ds < 2 ^ (n * ds.length)
  | [], _ => ⟨Int.le_refl _, by simp [val]⟩
  | d :: r, h => by
    obtain ⟨h1, h2⟩ := val_bound (ds := r) fun x hx => h x (.tail _ hx)
    obtain ⟨h3, h4⟩ := h d (.head _)
    have pp : (0 : Int) < 2 ^ n := Int.pow_pos (by decide)
    have e : (2 : Int) ^ (n * (r.length + 1)) = 2 ^ n * 2 ^ (n * r.length) := by rw [Nat.mul_succ, Int.pow_add, Int.mul_comm]
    have h5 := Int.mul_nonneg (Int.le_of_lt pp) h1
    have h6 : (2 : Int) ^ n * (val (2 ^ n) r + 1) ≤ 2 ^ n * 2 ^ (n * r.length) := Int.mul_le_mul_of_nonneg_left (by omega) (Int.le_of_lt pp)
    rw [Int.mul_add, Int.mul_one] at h6
    simp only [val, List.length_cons]
    rw [e]
    omega
theorem val_bits {n : Nat} {ds : List Int} (h : ∀ d ∈ ds, 0 ≤ d ∧ d < 2 ^ n) : Builtin.Int.intBits (val (2 ^ n) ds) ≤ n * ds.length := by
  obtain ⟨h1, h2⟩ := val_bound h
  refine intBits_le_iff.mpr ?_
  have h3 : ((val (2 ^ n) ds).natAbs : Int) < ((2 ^ (n * ds.length) : Nat) : Int) := by
    rw [Int.natCast_pow]
    have : ((val (2 ^ n) ds).natAbs : Int) = val (2 ^ n) ds := by omega
    rw [this]
    exact h2
  exact_mod_cast h3
theorem seg_len (ns ds : List Int) (a b : Nat) (hb : b = a + ds.length) (hl : b ≤ ns.length) : (ns.take a ++ ds ++ ns.drop b).length = ns.length := by
  simp only [List.length_append, List.length_take, List.length_drop]; omega
theorem seg_two (ns ds1 ds2 : List Int) (a b c : Nat) (hb : b = a + ds1.length) (hc : c = b + ds2.length) (hl : c ≤ ns.length) :
    (ns.take a ++ ds1 ++ ns.drop b).take b ++ ds2 ++ (ns.take a ++ ds1 ++ ns.drop b).drop c = ns.take a ++ (ds1 ++ ds2) ++ ns.drop c := by
  have h1 : (ns.take a ++ ds1).length = b := by simp only [List.length_append, List.length_take]; omega
  have h2 : (ns.take a ++ ds1 ++ ns.drop b).take b = ns.take a ++ ds1 := by
    rw [List.take_append_of_le_length (Nat.le_of_eq h1.symm), List.take_of_length_le (Nat.le_of_eq h1)]
  have h3 : (ns.take a ++ ds1 ++ ns.drop b).drop c = ns.drop c := by
    rw [List.drop_append, List.drop_of_length_le (by omega), h1, List.drop_drop, List.nil_append]
    congr 1
    omega
  rw [h2, h3]
  simp only [List.append_assoc]
theorem bits_small {a : Int} (h0 : 0 ≤ a) (h1 : a < 2 ^ 30) : Builtin.Int.intBits a ≤ 30 := intBits_le_iff.mpr (by omega)
theorem bits_mid {a : Int} (h0 : 0 ≤ a) (h1 : a < 2 ^ 60) : Builtin.Int.intBits a ≤ 60 := intBits_le_iff.mpr (by omega)
theorem allLt_all {d : Addr} : ∀ {l : List (Addr × Obj)}, AllLt d l → ∀ p ∈ l, @LT.lt Nat _ p.1 d
  | [], _, _, h => nomatch h
  | _ :: _, x, p, h => by
    rcases List.mem_cons.mp h with rfl | h
    · exact x.1
    · exact allLt_all x.2 p h
/-- a frame's map, its one letter said, the other stored names as they are -/
theorem kept1 {stored : List Str} {x : Str} {v : Option Value} {m₀ : Str → Option Value} (m₁ : Str → Option Value) (hx : m₁ x = v) (h : ∀ z, z ≠ x → stored.contains z = false → m₁ z = m₀ z) :
    m₁ = fun y => if y = x then v else if stored.contains y = true then m₁ y else m₀ y := by
  funext y
  by_cases h1 : y = x
  · simp only [h1, if_true, hx]
  · simp only [if_neg h1]
    cases h2 : stored.contains y with
    | true => simp
    | false => simpa using h y h1 h2
section
variable {prog : Program} {w : World} {A : Around} {E : Value → Shared → Prop} {s : Shared} {env : Env} {h₀ : Heap} {x : Str} {body : List Stmt} {Q : Flow → Shared → Prop}
/-- a for over a reversed list, by what holds ahead of each turn -/
theorem rev_loop {I : Addr} {lp : Addr × Obj} (J : List Value → (Str → Option Value) → List (Addr × Obj) → Prop)
    (step : ∀ v rs m1 nx it h tk, it.cls = .type "list_reverseiterator" → J (v :: rs) m1 nx → Fr h₀ env.locals h (fun y => if y = x then some v else m1 y) → News h₀ env.locals h ((I, it) :: nx) →
      wpAny (model prog w) A (execs body env) (UnrPost h₀ env.locals { s with heap := h, toks := tk } I it (fun m' n' => lp ∈ n' ∧ J rs m' n') Q) E { s with heap := h, toks := tk })
    (done : ∀ m1 nx h tk, J [] m1 nx → Fr h₀ env.locals h m1 → News h₀ env.locals h nx → Q .next { s with heap := h, toks := tk }) :
    ∀ vs m nx, J vs m nx → RevRest prog w A E h₀ env x body Q s I lp vs m nx
  | [], m, nx, hj => fun h tk F N => done m nx h tk hj F N
  | v :: r, m, nx, hj => fun it h tk hit F N => by
    refine wpAny_mono (step v r m nx it h tk hit hj F N) (fun f s' hf => ?_) fun _ _ e => e
    cases f with
    | ret v => exact hf
    | brk => exact hf
    | next => obtain ⟨h', tk', m', n', e, F', N', ho, hl, hJ⟩ := hf; exact ⟨h', tk', m', n', e, F', N', ho, hl, rev_loop J step done r m' n' hJ⟩
    | cont => obtain ⟨h', tk', m', n', e, F', N', ho, hl, hJ⟩ := hf; exact ⟨h', tk', m', n', e, F', N', ho, hl, rev_loop J step done r m' n' hJ⟩
end
end Mine
end

namespace Mine
theorem rsHdN : True ∧ True := by
  w_top off
  k_with_none
  first | (walk1; fail) | exact ⟨trivial, trivial⟩
end Mine
section
open PySem PySem.W PySem.Calls PyProof.Rows
set_option Elab.async false
set_option maxRecDepth 100000
namespace Mine
theorem tidy_caller {p : Pos} : TidyIn (((⟨.builtin "claim.caller" {}, none, none, [], none⟩ : PySem.Ctx).code, p) :: (⟨.builtin "claim.caller" {}, none, none, [], none⟩ : PySem.Ctx).below) :=
  .cons (by show (!heldIds.contains "claim.caller") = true; decide +kernel) fun _ h => nomatch h
/-- a call's thread, its tree proved of tidy stacks -/
theorem thread_N {prog : Program} {w : World} {t : Sem Fin} {s : Shared} {R : Result → Shared → Prop} (hz : s.asleep)
    (h : wpN (model prog w) callerA t (fun fin s' => ∃ f, fin = .done f ∧ R (.ok f) s' ∧ AllBare s'.gens) (fun _ _ => False) s) :
    ∃ n f s' s'', runN (denote table) prog w n s ⟨t, .builtin "claim.caller" {}, default, []⟩ = .halted (.done f) s' ∧
      schedN (denote table) prog w n (.single s ⟨t, .builtin "claim.caller" {}, default, []⟩) = .halted (.done f) s' ∧ s'.forget = s''.forget ∧ R (.ok f) s'' := by
  have h₁ := h ⟨.builtin "claim.caller" {}, none, none, [], none⟩ default caller_in tidy_caller
  have h₂ := Sem.wp_mono _ _ _ (post' := Sem.finPost (model prog w) ⟨.builtin "claim.caller" {}, none, none, [], none⟩ fun r s' => (∃ f, r = .ok f ∧ R (.ok f) s') ∧ leftWithCleanup s'.gens = false)
    (exc' := fun _ _ s' => (∃ f, (Except.error (α := Flow) (default : Value)) = .ok f ∧ R (.ok f) s') ∧ leftWithCleanup s'.gens = false) (fun fin p' s' h' => by
    obtain ⟨f, rfl, hr, hb⟩ := h'
    exact ⟨⟨f, rfl, hr⟩, leftWithCleanup_false_of_bare hb⟩) (fun _ _ _ h' => h'.elim) default s h₁
  obtain ⟨n, r, s₁, s₂, hs, hn, hf, f, rfl, hR⟩ := wp_halts_full (M := model prog w) (R := fun r s' => ∃ f, r = .ok f ∧ R (.ok f) s') hz
    (Sem.wp_mono _ _ _ (fun _ _ _ x => x) (fun e _ s' x => by obtain ⟨⟨f, e', _⟩, _⟩ := x; cases e') default s h₂)
  exact ⟨n, f, s₂, s₁, hn, hs, hf, hR⟩
theorem callFrom_N {c : ClaimW} {tree : List Value → Sem Fin} {w : World} {s : Shared} {free : Addr → Prop} {gens : Prop} {kept : Heap → Prop} (hz : s.asleep) (hg : s.gens = #[])
    (hspec : ∀ args, c.pre args = true → WData.layableAll args = true → ∀ ord : List DictEntry → List DictEntry, (∀ l, (ord l).Perm l) →
      ∃ vs s₁, layAllW c.records (classAt s.heap) w.params ord args s = some (vs, s₁) ∧
        wpN (model c.prog w) callerA (tree vs) (fun fin s' => ∃ f, fin = .done f ∧ (c.Ends s args vs s₁ (.ok f) s' ∧ s'.os = s.os ∧ kept s'.heap) ∧ AllBare s'.gens) (fun _ _ => False) s₁) :
    c.CallFrom (fun vs => ⟨tree vs, .builtin "claim.caller" {}, default, []⟩) w free gens kept s := by
  intro args hpre hlay ord hord
  obtain ⟨vs, s₁, hlaid, hcode⟩ := hspec args hpre hlay ord hord
  have hal := layAllW_rest _ _ _ hlaid
  obtain ⟨k, f, s', s'', hrun, hsched, hfo, hends, hos, hkp⟩ := thread_N (prog := c.prog) (w := w) (R := fun r s' => c.Ends s args vs s₁ r s' ∧ s'.os = s.os ∧ kept s'.heap) (Shared.asleep_of_life hal.2.2.2 hz) hcode
  obtain ⟨eh, _, _, eo, _⟩ := Shared.forget_eq hfo
  have hends := hends.congr eh
  have hkp : kept s'.heap := by rw [eh]; exact hkp
  have hos' : s'.os = s.os := eo.trans hos
  refine ⟨vs, s₁, hlaid, k, _, s', hsched, ?_, (fun _ i x hx => by rw [hg] at hx; simp at hx), hkp, ?_, Shared.rest_eq hos'⟩
  · rcases hends with ⟨v, e, d1, d2, d3, d4, d5⟩ | ⟨e, ob, cls, e', _⟩
    · cases e
      exact .inl ⟨v, rfl, d1, d2, d3, fun b o y _ => d4 b o y, d5⟩
    · cases e'
  · rw [(runN_life _ _ _ hrun).trans hal.2.2.2]

abbrev WalkON (q : Program) (loose : List Str) (XP : (Str → Option Value) → Heap → Prop) (YP : World → Heap → Prop) (r : RowW) (d : DefRec) (kwd : List (Str × Expr)) : Prop :=
  ∀ (w : World) (s₀ s₁ : Shared) (mg mb : Str → Option Value), Ground q loose r.records XP w s₀ mg mb s₁.heap → YP w s₁.heap → ∀ (a : Addr) (o : Obj) (pm cd doc dV kV : Value), s₁.heap.get? a = some o →
    o.data = .func { docDef d.name d.params d.body d.scope pm cd doc with defaults := dV, kwdefaults := kV } → s₁.heap.CodeRec cd d.name → Dflts mg s₁.heap d.params kwd dV kV → mg d.name = some (.ref a) → s₁.gens = #[] →
    ∀ (args : List WData) (vals : List Value) (as : List Addr), r.claim.pre args = true → WData.layableAll args = true → ReadsAllW r.records (classAt s₀.heap) s₁.heap vals args as → WellAll w.params s₁.heap vals args → (∀ a ∈ as, (a == sysModules) = false) →
      wpN (model r.prog w) callerA (PySem.call (.ref a) vals) (fun v s' => GoodWG r.claim (classAt s₀.heap) (ExcName.means s₀.heap) args s₁ (.ok (.ret v)) s') (fun _ _ => False) s₁

theorem PySem.W.holds_open {r : OpenRow} {q : Program} {loose : List Str} {Xt : Shared → Bool} {XP : (Str → Option Value) → Heap → Prop} {α : Type} {Yf : Shared → α} {Ya : World → α} {YP : World → Heap → Prop} {d : DefRec} {kwd : List (Str × Expr)} {N : Nat}
    (left : LeftO r.prog q loose Xt Yf Ya N) (hY : ∀ w s, Yf s = Ya w → YP w s.heap) (hYk : ∀ w h h', YP w h → (∀ b o, h.get? b = some o → h'.get? b = some o) → YP w h')
    (hX : ∀ s, Xt s = true → XP (s.heap.nsMap mainGlobals) s.heap) (hXk : ∀ mg h h', XP mg h → (∀ b o, h.get? b = some o → h'.get? b = some o) → XP mg h')
    (hdef : defOf q r.name = some (d, kwd)) (hp : r.prog.theDef r.name = some (d.params, d.body, d.scope)) (hk : kwWritten? d.params.kwonlyargs d.params.kw_defaults = some kwd) (hRf : ∀ s, Xt s = true → RecFacts r.records s.heap) (hwr : (!r.writes || r.records.isEmpty) = true)
    (k1 : r.wellSaid = true) (ok : (chainsOk q && opensWell r.prog && (frees r.toRowW && r.within.isEmpty)) = true) (hb : r.prog.bare) (hw : r.toRowW.promised)
    (call : WalkON q loose XP YP r.toRowW d kwd) : r.Holds := by
  simp only [Bool.and_eq_true] at ok
  obtain ⟨⟨hch, hop⟩, k5, k6⟩ := ok
  obtain ⟨hsame, hu, ha, hap, hm⟩ := frees_parts k5
  have hwi : r.toRowW.claim.within = [] := List.isEmpty_iff.mp k6
  have hi := ident_freeW hu ha hap
  refine ⟨k1, hw, ⟨hb, hop, by show r.makers.map _ = []; rw [hm]; rfl⟩, hw.witness, fun w => ⟨(left.behind hX hch w).1, fun s' hs' => ?_⟩⟩
  obtain ⟨s₀, hf, hg0, s, hT, hz, hgz, hg, G₁, y⟩ := (left.behind (XP := fun mg h => XP mg h ∧ RecFacts r.records h) (fun s hs => ⟨hX s hs, hRf s hs⟩) hch w).2 s' hs'
  have G₀ : Ground q loose [] XP w s (s.heap.nsMap mainGlobals) (s.heap.nsMap builtinsNs) s.heap := ⟨G₁.T, G₁.B, G₁.D, G₁.TE, G₁.TD, G₁.W, G₁.X.1, G₁.cls, G₁.has, G₁.apart, G₁.once, G₁.K⟩
  have RF := G₁.X.2
  have hgens : s.gens = #[] := Array.eq_empty_of_size_eq_zero (beq_iff_eq.mp hgz)
  have G : Ground q loose r.records XP w s _ _ s.heap := RF.ground G₀
  refine ⟨s₀, hf, hg0, s, hT, fun n hn => ?_, RF.1, RF.2.1, ?_⟩
  · obtain rfl : n = r.name := by split at hn <;> simp_all
    exact pinned_of_view hg G₀ hdef hp hk
  refine callFrom_N (c := r.toRowW.claim) (tree := fun vs => do match ← nsGet mainNs r.name with
      | some f => do ret (← PySem.call f vs)
      | none => unsupported "claim.caller:no-such-global") hz hgens fun args hpre hlay ord hord => ?_
  obtain ⟨⟨vs, s₁⟩, hlaid⟩ := Option.isSome_iff_exists.mp (layAllW_isSome (P := w.params) (ord := ord) G.has args r.args s (pre_splitW hpre).1)
  have keeps := layAllW_keeps _ _ _ hlaid
  have hal := layAllW_rest _ _ _ hlaid
  obtain ⟨as, hrd, hin, hold⟩ := reads_layAllW hord _ _ _ hlaid hlay s₁.heap (fun _ _ e => e)
  have L : Laid r.records w s s₁ args vs as := ⟨⟨ord, hord, hlaid⟩, hrd, hin, hold, keeps, hal.1.trans hgens, hal.2.2.1⟩
  have G₂ := G.keeps hXk keeps
  obtain ⟨a, o, pm, cd, doc, dV, kV, h1, h2, h3, h4, h5⟩ := G₂.fn hdef
  have hn := defOf_name hdef
  refine ⟨vs, s₁, hlaid, wpN_any_bind (wpAny_nsGet G₂.T.g ?_)⟩
  rw [h1]
  refine wpN_bind (wpN_mono (call w s s₁ _ _ G₂ (hYk _ _ _ (hY w s y) keeps) a o pm cd doc dV kV h2 h3 h4 h5 (hn ▸ h1) L.gens args vs as hpre hlay L.reads L.well (L.low G.low)) (fun v s' g => wpN_pure ⟨_, rfl, ?_⟩) fun _ _ x => x)
  have z := g.laid (c := r.toRowW.claim) hsame hwi hi L
  exact ⟨⟨z.1, z.2.1, fun p => ⟨namesKept_of hT hg r.keeps keeps g.2.1.old, noTable hwr p⟩⟩, z.2.2⟩
end Mine
end

namespace Mine
theorem rsTopN01 : True ∧ True := by
  w_top off
  k_with_none
  first | (walk1; fail) | exact ⟨trivial, trivial⟩
end Mine
section
open PySem PySem.W PyProof.Rows
set_option Elab.async false
set_option maxRecDepth 100000
set_option maxHeartbeats 8000000
namespace Mine
open_top hd for PySem.Challenge.rw_gh0004_01
end Mine
end

namespace Mine
theorem rsBsL : True ∧ True := by
  w_top off
  k_with_none
  first | (walk1; fail) | exact ⟨trivial, trivial⟩
end Mine
section
open PySem PySem.W PySem.Spec PySem.Calls PyProof.Rows
namespace Mine
def revP (b : Array UInt8) : Nat → Array UInt8
  | 0 => Array.replicate b.size 0
  | i + 1 => (revP b i).setIfInBounds (b.size - 1 - i) (b.getD i 0)
theorem revP_size (b : Array UInt8) : ∀ i, (revP b i).size = b.size
  | 0 => Array.size_replicate
  | i + 1 => by rw [revP, Array.size_setIfInBounds, revP_size]
theorem revP_get (b : Array UInt8) : ∀ i, i ≤ b.size → ∀ j (hj : j < b.size), (revP b i)[j]? = some (if b.size - 1 - j < i then b[b.size - 1 - j]'(by omega) else 0)
  | 0, _, j, hj => by simp [revP, hj]
  | i + 1, hi, j, hj => by
    have ih := revP_get b i (by omega) j hj
    simp only [revP]
    rw [Array.getElem?_setIfInBounds]
    by_cases h : b.size - 1 - i = j
    · have e : b.size - 1 - j = i := by omega
      have hs := revP_size b i
      rw [if_pos h, if_pos (by omega), if_pos (by omega)]
      simp [Array.getD, e, show i < b.size by omega]
    · rw [if_neg h, ih]
      by_cases h2 : b.size - 1 - j < i
      · rw [if_pos h2, if_pos (by omega)]
      · rw [if_neg h2, if_neg (by omega)]
theorem revP_all (b : Array UInt8) : revP b b.size = b.reverse := by
  apply Array.ext_getElem?
  intro j
  by_cases hj : j < b.size
  · rw [revP_get b b.size (Nat.le_refl _) j hj, if_pos (by omega), Array.getElem?_reverse hj]
    simp [Array.getElem?_eq_getElem (show b.size - 1 - j < b.size by omega)]
  · rw [Array.getElem?_eq_none (by rw [revP_size]; omega), Array.getElem?_eq_none (by rw [Array.size_reverse]; omega)]
theorem size_step {n : Nat} (h0 : 0 < n) : Builtin.Range.rangeSize 0 n n = 1 := by
  unfold Builtin.Range.rangeSize
  rw [if_pos (by omega), if_pos (by omega)]
  rw [Int.sub_zero, Int.ediv_eq_zero_of_lt (by omega) (by omega)]
  rfl
theorem small_step {n : Nat} (h0 : 0 < n) (h1 : n ≤ 1000) : Builtin.Range.small 0 n n = true := by
  unfold Builtin.Range.small
  rw [size_step h0]
  simp only [Builtin.Range.rangeFitsLong, Bool.and_eq_true, Bool.or_eq_true, decide_eq_true_eq, beq_iff_eq]
  rw [if_pos (by omega)]
  simp only [Bool.and_eq_true, decide_eq_true_eq]
  omega
end Mine
end

namespace Mine
theorem rsCM : True ∧ True := by
  w_top off
  k_with_none
  first | (walk1; fail) | exact ⟨trivial, trivial⟩
end Mine
section
open PySem PySem.W PySem.Spec PySem.Calls PyProof.Rows
set_option Elab.async false
set_option maxRecDepth 100000
namespace Mine
/-- a source of a comprehension: what its iterator gives -/
def Src (prog : Program) (w : World) (A : Around) (h₀ : Heap) (L : Addr) (xv : Value) (n : Nat) (P : Nat → Value → Prop) (S : List (Addr × Obj) → Prop) (news : List (Addr × Obj)) (s₁ : Shared) : Prop :=
  ∀ (Q : Value → Shared → Prop) (E : Value → Shared → Prop),
    (∀ I fp St s₂, (∃ h, s₂ = { s₁ with heap := h }) → Walks prog w A I fp [I] n P St → (∀ i h, St i h → ∃ o, h.get? I = some o) →
      (∀ i h h' o nw, St i h → h.get? I = some o → h'.get? I = some o → (∀ b o, h₀.get? b = some o → h'.get? b = some o) → News h₀ L h' nw → S nw → St i h') →
      St 0 s₂.heap → (∀ b ∈ fp, b < s₂.heap.objs.size) → (∀ b o, s₁.heap.get? b = some o → s₂.heap.get? b = some o) → L ≠ I → h₀.get? I = none → (∀ p ∈ news, p.1 ≠ I) → Q (.ref I) s₂) →
    wpAny (model prog w) A (pyIter xv) Q E s₁
section
variable {prog : Program} {w : World} {A : Around} {E : Value → Shared → Prop} {s : Shared} {h₀ : Heap} {L : Addr} {m : Str → Option Value} {env : Env} {news : List (Addr × Obj)}
theorem src_bytes {b : Array UInt8} {t : Tok} (hh : A.handled = none) (F : Fr h₀ L s.heap m) (N : News h₀ L s.heap news) :
    Src prog w A h₀ L (.bytes b t) b.size (fun i v => ∃ c u, b[i]? = some c ∧ v = .int (c.toNat : Int) u) (fun _ => True) news s := fun Q E hQ => by
  refine KBw.pyIter_bytes ?_
  refine hQ s.heap.objs.size [s.heap.objs.size] _ _ ⟨_, rfl⟩ (KBw.walks hh s.heap.objs.size b t) (fun i h st => by obtain ⟨o, e, _⟩ := st; exact ⟨o, e⟩) ?_ ⟨_, Heap.get?_push_size _ rfl, rfl, rfl⟩ ?_ (fun b o e => Heap.get?_push_of_some _ e) (Nat.ne_of_lt F.ns.lt) (next_is_new F) fun p hp => Nat.ne_of_lt (Heap.lt_size (N p hp).1)
  · intro i h h' o nw st e e' _ _ _
    obtain ⟨o', q, r⟩ := st
    rw [e] at q; cases q
    exact ⟨o, e', r⟩
  · intro b' hb
    rw [List.mem_singleton.mp hb]
    show s.heap.objs.size < (s.heap.push _).objs.size
    rw [Heap.size_push]; exact Nat.lt_succ_self _
theorem src_range {r : Addr} {a b : Int} {t u v : Tok} {n : Nat} (hh : A.handled = none) (F : Fr h₀ L s.heap m) (N : News h₀ L s.heap news) (hr : IsRange s.heap r a b 1 t u v) (hsm : Builtin.Range.small a b 1 = true) (hn : Builtin.Range.rangeSize a b 1 = ((n : Nat) : Int)) :
    Src prog w A h₀ L (.ref r) n (fun i v => ∃ t, v = .int (a + (i : Int)) t) (fun _ => True) news s := fun Q E hQ => by
  refine wpAny_pyIter_range hr hsm ?_
  refine hQ s.heap.objs.size [s.heap.objs.size] _ _ ⟨_, rfl⟩ (LCg.range_walks hh a n) (fun i h st => ⟨_, st⟩) LCg.range_st (by show IsRangeIter _ _ _ _ _; rw [hn]; simpa using Heap.get?_push_size _ rfl) ?_ (fun b o e => Heap.get?_push_of_some _ e) (Nat.ne_of_lt F.ns.lt) (next_is_new F) fun p hp => Nat.ne_of_lt (Heap.lt_size (N p hp).1)
  intro b' hb
  rw [List.mem_singleton.mp hb]
  show s.heap.objs.size < (s.heap.push _).objs.size
  rw [Heap.size_push]; exact Nat.lt_succ_self _
def CSrc (prog : Program) (w : World) (A : Around) (h₀ : Heap) (L : Addr) (m : Str → Option Value) (env : Env) (elt : Expr) (x : Str) (scope : Scope) (cl : List (Str × Addr)) (Fin : Shared → List Value → List (Addr × Obj) → Prop) (xv : Value) (s₁ : Shared) : Prop :=
  ∃ n P S news, Src prog w A h₀ L xv n P S news s₁ ∧ n ≤ sizeLine ∧ Fr h₀ L s₁.heap m ∧ News h₀ L s₁.heap news ∧ S news ∧
      ∀ s₂ : Shared, (∃ h, s₂ = { s₁ with heap := h }) → LCg.CompRest prog w A h₀ L m env elt x scope cl s₂ S P (Fin s₂) n 0 [] news
theorem CSrc.bytes {elt : Expr} {x : Str} {scope : Scope} {cl : List (Str × Addr)} {Fin : Shared → List Value → List (Addr × Obj) → Prop} {b : Array UInt8} {t : Tok}
    (hh : A.handled = none) (F : Fr h₀ L s.heap m) (N : News h₀ L s.heap news) (hz : b.size ≤ sizeLine)
    (h : ∀ g, LCg.CompRest prog w A h₀ L m env elt x scope cl { s with heap := g } (fun _ => True) (fun i v => ∃ c u, b[i]? = some c ∧ v = .int (c.toNat : Int) u) (Fin { s with heap := g }) b.size 0 [] news) :
    CSrc prog w A h₀ L m env elt x scope cl Fin (.bytes b t) s := ⟨_, _, _, _, src_bytes hh F N, hz, F, N, trivial, fun _ ⟨g, e⟩ => e ▸ h g⟩
theorem CSrc.range {elt : Expr} {x : Str} {scope : Scope} {cl : List (Str × Addr)} {Fin : Shared → List Value → List (Addr × Obj) → Prop} {r : Addr} {a b : Int} {t u v : Tok} {n : Nat}
    (hh : A.handled = none) (F : Fr h₀ L s.heap m) (N : News h₀ L s.heap news) (hr : IsRange s.heap r a b 1 t u v) (hsm : Builtin.Range.small a b 1 = true) (hn : Builtin.Range.rangeSize a b 1 = ((n : Nat) : Int)) (hz : n ≤ sizeLine)
    (h : ∀ g, LCg.CompRest prog w A h₀ L m env elt x scope cl { s with heap := g } (fun _ => True) (fun i v => ∃ t, v = .int (a + (i : Int)) t) (Fin { s with heap := g }) n 0 [] news) :
    CSrc prog w A h₀ L m env elt x scope cl Fin (.ref r) s := ⟨_, _, _, _, src_range hh F N hr hsm hn, hz, F, N, trivial, fun _ ⟨g, e⟩ => e ▸ h g⟩
theorem ints_of_rel {ys : List Value} {ns : List Int} (hl : ys.length = ns.length) (h : ∀ (i : Nat) (y : Value), ys[i]? = some y → ∃ t, y = Value.int (ns.getD i 0) t) : IntsAre ys ns := by
  induction ys generalizing ns with
  | nil => cases ns with
    | nil => exact .nil
    | cons _ _ => cases hl
  | cons y r ih => cases ns with
    | nil => cases hl
    | cons k q =>
      obtain ⟨t, rfl⟩ := h 0 y rfl
      exact .cons k t (ih (Nat.succ.inj hl) fun i z hz => h (i + 1) z hz)
end
end Mine
end

namespace Mine
theorem rsBtL : True ∧ True := by
  w_top off
  k_with_none
  first | (walk1; fail) | exact ⟨trivial, trivial⟩
end Mine
section
open PySem PySem.W PySem.Spec PySem.Calls PyProof.Rows
set_option Elab.async false
set_option maxRecDepth 100000
namespace Mine
/-- bytes by their numbers -/
def Bt (l : List Nat) : Array UInt8 := (l.map UInt8.ofNat).toArray
def zs (l : List Nat) : List Int := l.map fun (k : Nat) => (k : Int)
theorem Bt_size (l : List Nat) : (Bt l).size = l.length := by simp [Bt]
theorem zs_len (l : List Nat) : (zs l).length = l.length := by simp [zs]
theorem Bt_get {l : List Nat} {i : Nat} {c : UInt8} (h : (Bt l)[i]? = some c) : ∃ k, l[i]? = some k ∧ c = UInt8.ofNat k := by
  simp only [Bt, List.getElem?_toArray, List.getElem?_map, Option.map_eq_some_iff] at h
  obtain ⟨k, hk, e⟩ := h
  exact ⟨k, hk, e.symm⟩
theorem ofNat_toNat {k : Nat} (h : k < 256) : (UInt8.ofNat k).toNat = k := by
  rw [UInt8.toNat_ofNat']; omega
theorem Bt_getD {l : List Nat} {i : Nat} (h : ∀ k ∈ l, k < 256) : ((Bt l).getD i 0).toNat = l.getD i 0 := by
  simp only [Array.getD_eq_getD_getElem?, List.getD_eq_getElem?_getD, Bt, List.getElem?_toArray, List.getElem?_map]
  cases e : l[i]? with
  | none => rfl
  | some k => exact ofNat_toNat (h k (List.mem_of_getElem? e))
theorem zs_bytes (l : List Nat) : ((zs l).map fun n => n.toNat.toUInt8).toArray = Bt l := by
  simp only [zs, Bt, List.map_map]
  rfl
theorem zs_in {l : List Nat} (h : ∀ k ∈ l, k < 256) : ∀ n ∈ zs l, 0 ≤ n ∧ n < 256 := fun n hn => by
  obtain ⟨k, hk, rfl⟩ := List.mem_map.mp hn
  have := h k hk
  omega
theorem zs_getD (l : List Nat) (i : Nat) : (zs l).getD i 0 = (l.getD i 0 : Nat) := by
  simp only [zs, List.getD_eq_getElem?_getD, List.getElem?_map]
  cases l[i]? <;> rfl
theorem Bt_inj {a b : List Nat} (ha : ∀ k ∈ a, k < 256) (hb : ∀ k ∈ b, k < 256) (h : Bt a = Bt b) : a = b := by
  have h2 : a.map UInt8.ofNat = b.map UInt8.ofNat := by
    have := congrArg Array.toList h
    simpa [Bt] using this
  have inv : ∀ l : List Nat, (∀ k ∈ l, k < 256) → (l.map UInt8.ofNat).map UInt8.toNat = l := fun l hl => by
    rw [List.map_map]
    conv => rhs; rw [← List.map_id l]
    exact List.map_congr_left fun k hk => ofNat_toNat (hl k hk)
  rw [← inv a ha, ← inv b hb, h2]
theorem Bt_rev (l : List Nat) : (Bt l).reverse = Bt l.reverse := by
  simp [Bt, List.map_reverse]
theorem Bt_app (a b : List Nat) : Bt a ++ Bt b = Bt (a ++ b) := by
  simp [Bt]
section
variable {prog : Program} {w : World} {A : Around} {E : Value → Shared → Prop} {s : Shared} {h₀ : Heap} {L : Addr} {m : Str → Option Value} {news : List (Addr × Obj)}
theorem bytes_Bt {l : Addr} {vs : List Value} {ks : List Nat} {Q : Value → Shared → Prop} (F : Fr h₀ L s.heap m) (N : News h₀ L s.heap news) (hl : s.heap.IsList l vs.toArray) (hi : IntsAre vs (zs ks)) (hr : ∀ k ∈ ks, k < 256) (hz : ks.length ≤ 1000) (hh : A.handled = none)
    (h : ∀ h' t k, Fr h₀ L h' m → News h₀ L h' news → Q (.bytes (Bt ks) t) { s with heap := h', toks := k }) : wpAny (model prog w) A (call (.type "bytes") [.ref l]) Q E s := by
  refine bytes_K F N hl hi (zs_in hr) ?_ hh fun h' t k F' N' _ => ?_
  · rw [hi.length, zs_len, PySem.sizeLine_eq]; omega
  · rw [zs_bytes]; exact h h' t k F' N'
theorem len_Bt {l : List Nat} {t : Tok} {Q : Value → Shared → Prop} (hl : l.length ≤ 1000) (h : Q (.int (l.length : Nat) (s.toks + 1)) { s with toks := s.toks + 1 + 1 }) : wpAny (model prog w) A (call (.builtin "len") [.bytes (Bt l) t]) Q E s :=
  len_bytes (by rw [Bt_size]; omega) (by rw [Bt_size]; exact h)
theorem ne_Bt {a b : List Nat} {t u : Tok} {Q : Value → Shared → Prop} (ha : ∀ k ∈ a, k < 256) (hb : ∀ k ∈ b, k < 256) (h : Q (.bool (a != b)) s) : wpAny (model prog w) A (compareOp .NotEq (.bytes (Bt a) t) (.bytes (Bt b) u)) Q E s := by
  refine ne_bytes ?_
  have e : ((Bt a).toList != (Bt b).toList) = (a != b) := by
    rw [Bool.eq_iff_iff]
    simp only [bne_iff_ne, ne_eq]
    exact not_congr ⟨fun q => Bt_inj ha hb (Array.toList_inj.mp q), fun q => by rw [q]⟩
  rw [e]
  exact h
theorem eq_Bt {a b : List Nat} {t u : Tok} {Q : Value → Shared → Prop} (ha : ∀ k ∈ a, k < 256) (hb : ∀ k ∈ b, k < 256) (h : Q (.bool (a == b)) s) : wpAny (model prog w) A (compareOp .Eq (.bytes (Bt a) t) (.bytes (Bt b) u)) Q E s := by
  refine eq_bytes ?_
  have e : ((Bt a).toList == (Bt b).toList) = (a == b) := by
    rw [Bool.eq_iff_iff]
    simp only [beq_iff_eq]
    exact ⟨fun q => Bt_inj ha hb (Array.toList_inj.mp q), fun q => by rw [q]⟩
  rw [e]
  exact h
theorem item_Bt {l : List Nat} {i : Int} {t ui : Tok} {value slice : Expr} {Q : Value → Shared → Prop} (hl : ∀ k ∈ l, k < 256) (hz : l.length ≤ 1000) (h0 : 0 ≤ i) (h1 : i < (l.length : Int)) (h : Q (.int (l.getD i.toNat 0 : Nat) s.toks) { s with toks := s.toks + 1 })
    (hs : subscripted slice false (.bytes (Bt l) t) (.int i ui) = operate [.bytes (Bt l) t, .int i ui] (getItem (.bytes (Bt l) t) (.int i ui)) := by with_unfolding_all rfl)
    (ht : ∀ r, letTemporaryGo value (.bytes (Bt l) t) r = pure () := by intro _; with_unfolding_all rfl) :
    wpAny (model prog w) A (subscriptTail value slice (.bytes (Bt l) t) (.int i ui)) Q E s :=
  item_bytes (by rw [Bt_size]; omega) h0 (by rw [Bt_size]; exact h1) (by rw [Bt_getD hl]; exact h) hs ht
end
end Mine
end

namespace Mine
theorem rsEn : True ∧ True := by
  w_top off
  k_with_none
  first | (walk1; fail) | exact ⟨trivial, trivial⟩
end Mine
section
open PySem PySem.W PySem.Spec PySem.Calls PyProof.Rows
set_option Elab.async false
set_option maxRecDepth 100000
namespace Mine
/-- the law itself is entered: a def with cells, called from without -/
theorem call_cells_N {prog : Program} {w : World} {A : Around} {R : Result → Shared → Prop} {s : Shared} {name : Str} {params : Arguments} {body : List Stmt} {scope : Scope}
    {pm cd doc : Value} {a : Addr} {o : Obj} {args : List Value} {binds : List (Str × Value)}
    (hroom : A.depth < recursionLimit) (ho : s.heap.get? a = some o) (hdata : o.data = .func (Calls.docDef name params body scope pm cd doc)) (hlim : s.heap.NoLimit) (hcd : s.heap.CodeRec cd name)
    (hbind : bindArgs (Calls.docDef name params body scope pm cd doc) ⟨args, []⟩ = pure binds)
    (hkind : (binds.all fun y => scope.names.lookup y.1 == some .local || scope.names.lookup y.1 == some .cell) = true)
    (hnd : ((cellsFrom 0 scope.names []).map (·.1)).Nodup)
    (h : ∀ h₁ tk cells, Fr s.heap s.heap.objs.size h₁ (bindL (envOfC name scope s.heap.objs.size a cd).kindOf binds fun _ => none) → News s.heap s.heap.objs.size h₁ cells →
      CellsAre (bindC (envOfC name scope s.heap.objs.size a cd).kindOf binds fun _ => none) (cellsFrom (s.heap.objs.size + 1) scope.names []) cells →
      wpN (model prog w) (A.deeper (envOfC name scope s.heap.objs.size a cd)) (execs body (envOfC name scope s.heap.objs.size a cd))
        (fun f s' => R (.ok (.ret (match f with | .ret v => v | _ => .none))) s') (fun _ _ => False) { s with heap := h₁, toks := tk })
    (hco : scope.isCoroutine = false := by rfl) (hgen : scope.isGenerator = false := by rfl) (hk : scope.kind = .function := by rfl) :
    codeN (model prog w) A (.call (.ref a) ⟨args, []⟩) R s := by
  refine codeN_call_function hroom ho hdata hco hgen rfl hcd ((BindsTo.of_eq hbind) _ _ _ _ ?_)
  refine wpAny_newFunctionEnv_cells hk (kindsX hkind _) fun env' he s' x => ?_
  subst he
  refine ⟨hlim.keeps x.toInCall.keep, codeN_func ?_⟩
  obtain ⟨h₁, tk, rfl, _⟩ := x.done
  have hk₁ := x.toInCall.keep
  obtain ⟨cells, NC, Y⟩ := Cl.news (h₀ := s.heap) (Nat.le_refl _) fun n c hm => ⟨x.cell n c (lookup_of_mem_nodup (cellsFrom_names scope.names 0 (s.heap.objs.size + 1) [] [] rfl ▸ hnd) hm), x.above n c hm⟩
  exact h h₁ tk cells ⟨x.toInCall.ns, hk₁, Nat.le_refl _⟩ NC Y
/-- the end of a law whose text holds tables: what is wanted, by what the walk shows -/
theorem post_of {prog : Program} {w : World} {f : Flow} {s₁ s' : Shared} {cw : ClaimW} {cl : Str → Option Addr} {mean : ExcName → Option Value} {args : List WData} {tabs : List (Addr × Addr)} (hT : TabsAt tabs s₁.heap) (hr : ∀ a x, cw.raises a x = false)
    (h : GoodW cw cl mean args { s₁ with heap := ghostOf s₁.heap tabs } (.ok f) s' ∧ GrownAll tabs s'.heap) : GoodWG cw cl mean args s₁ (.ok f) s' := by
  have k := kn_post (M := ⟨fun _ => pure (.done f), prog, w⟩) (A := {}) (cd := .builtin "claim.caller" {}) (s := s') hT hr (codeAny_of_tree (wpAny_pure h))
  have k2 := k ⟨.builtin "claim.caller" {}, none, none, [], none⟩ default rfl ⟨rfl, Nat.zero_le _, fun l hl => (nomatch hl), fun g hg => (nomatch hg), Nat.zero_le _⟩
  rw [wpCode_iff_wp] at k2
  exact k2
end Mine
end

namespace Mine
theorem rsBSl : True ∧ True := by
  w_top off
  k_with_none
  first | (walk1; fail) | exact ⟨trivial, trivial⟩
end Mine
section
open PySem PySem.W PySem.Spec PySem.Calls PyProof.Rows
set_option Elab.async false
set_option maxRecDepth 100000
namespace Mine
theorem picked_Bt (l : List Nat) (lo hi : Option Int) : KBy.picked (Bt l) lo hi = Bt ((l.drop (lo.elim 0 (clipAt l.length))).take (hi.elim l.length (clipAt l.length) - lo.elim 0 (clipAt l.length))) := by
  rw [KBc.picked_eq, Bt_size]
  simp only [Bt, List.map_take, List.map_drop]
theorem Bt_ints {l : List Nat} (h : ∀ k ∈ l, k < 256) : KBw.bInts (Bt l) = zs l := by
  simp only [KBw.bInts, Bt, zs, List.map_map]
  exact List.map_congr_left fun k hk => by simp only [Function.comp]; rw [ofNat_toNat (h k hk)]
section
variable {prog : Program} {w : World} {A : Around} {E : Value → Shared → Prop} {s : Shared} {h₀ : Heap} {L : Addr} {m : Str → Option Value} {news : List (Addr × Obj)}
/-- a cut of bytes, by their numbers -/
theorem slice_Bt {value slice : PySem.Expr} {l r : List Nat} {t : Tok} {lv uv : Value} {lo hi : Option Int} {Q : Value → Shared → Prop} (hF : Fr h₀ L s.heap m) (hN : News h₀ L s.heap news) (hb : ∀ k ∈ l, k < 256) (hz : l.length ≤ 1000)
    (hl : IsPart lv lo) (hu : IsPart uv hi) (hr : (l.drop (lo.elim 0 (clipAt l.length))).take (hi.elim l.length (clipAt l.length) - lo.elim 0 (clipAt l.length)) = r)
    (h : ∀ h' t' k, Fr h₀ L h' m → News h₀ L h' news → Q (.bytes (Bt r) t') { s with heap := h', toks := k })
    (hs : subscripted slice false (.bytes (Bt l) t) (.ref s.heap.objs.size) = operate [.ref s.heap.objs.size, .bytes (Bt l) t] (getItem (.bytes (Bt l) t) (.ref s.heap.objs.size)) := by with_unfolding_all rfl)
    (ht : ∀ r, letTemporaryGo value (.bytes (Bt l) t) r = pure () := by intro _; with_unfolding_all rfl) :
    wpAny (model prog w) A (subscriptTail value slice (.bytes (Bt l) t) (.ref s.heap.objs.size)) Q E { s with heap := s.heap.push { cls := .type "slice", data := .fields #[lv, uv, .none] } } := by
  refine KBc.slice_K hF hN (Bt_ints hb) hl hu (by rw [zs_len]; omega) (fun h' t' k F' N' _ => ?_) hs ht
  rw [picked_Bt, hr]
  exact h h' t' k F' N'
end
theorem add_Bt {prog : Program} {w : World} {A : Around} {E : Value → Shared → Prop} {s : Shared} {a b : List Nat} {t u : Tok} {Q : Value → Shared → Prop} (hz : a.length + b.length ≤ 1000) (h : ∀ t' k, Q (.bytes (Bt (a ++ b)) t') { s with toks := k }) : wpAny (model prog w) A (binaryOp .Add (.bytes (Bt a) t) (.bytes (Bt b) u)) Q E s := by
  refine KBy.add_bytes (by rw [Bt_size, Bt_size]; omega) fun t' k => ?_
  rw [Bt_app]
  exact h t' k
/-- two ways meet: what is in hand afterwards is the same -/
theorem joinN {prog : Program} {w : World} {A : Around} {E : Value → Shared → Prop} {s : Shared} {g : Heap} {L : Addr} {m : Str → Option Value} {news : List (Addr × Obj)} {t : Sem Value} {Q : Value → Shared → Prop} (V : Tok → Value) (_F : Fr g L s.heap m) (_N : News g L s.heap news)
    (h : wpN (model prog w) A t (fun v s' => ∃ t h' tk', v = V t ∧ s' = ⟨h', s.gens, s.drawn, tk', s.os⟩ ∧ Fr g L h' m ∧ News g L h' news) E s)
    (k : ∀ t h' tk', Fr g L h' m → News g L h' news → Q (V t) ⟨h', s.gens, s.drawn, tk', s.os⟩) : wpN (model prog w) A t Q E s := by
  refine wpN_mono h ?_ fun _ _ x => x
  rintro v s' ⟨t, h', tk', rfl, rfl, F', N'⟩
  exact k t h' tk' F' N'
theorem cut_to {l : List Nat} {k : Nat} : (l.drop ((none : Option Int).elim 0 (clipAt l.length))).take ((some (k : Int)).elim l.length (clipAt l.length) - (none : Option Int).elim 0 (clipAt l.length)) = l.take k := by
  simp only [Option.elim, clipAt_nat, List.drop_zero, Nat.sub_zero]
  rw [List.take_eq_take_iff]; omega
theorem cut_from {l : List Nat} {k : Nat} (h : k ≤ l.length) : (l.drop ((some (k : Int)).elim 0 (clipAt l.length))).take ((none : Option Int).elim l.length (clipAt l.length) - (some (k : Int)).elim 0 (clipAt l.length)) = l.drop k := by
  simp only [Option.elim, clipAt_nat]
  rw [Nat.min_eq_left h, List.take_of_length_le]
  rw [List.length_drop]; omega
end Mine
end

namespace Mine
theorem rsDP : True ∧ True := by
  w_top off
  k_with_none
  first | (walk1; fail) | exact ⟨trivial, trivial⟩
end Mine
section
open PySem PySem.W PySem.Spec PySem.Calls PyProof.Rows
set_option Elab.async false
set_option maxRecDepth 100000
namespace Mine
theorem keys_no_list : typeLookup (.type "list") (Str.ofString "keys") = pure none := by rw [typeLookup_type, builtinLookup_eq_fast]; kernel_rfl
/-- a list has no «keys» -/
theorem keys_list {prog : Program} {w : World} {A : Around} {E : Value → Shared → Prop} {s : Shared} {a : Addr} {o : Obj} {xs : Array Value} {k : Nat} {Q : Option Value → Shared → Prop}
    (ho : s.heap.get? a = some o) (hc : o.cls = .type "list") (hd : o.data = .seq xs k) (hn : o.dict = none) (hA : A.handled = none)
    (h : ∀ h' tk, (∀ b ob, s.heap.get? b = some ob → h'.get? b = some ob) → Q none { s with heap := h', toks := tk }) :
    wpAny (model prog w) A (getAttr? (.ref a) (Str.ofString "keys")) Q E s := by
  obtain ⟨c, d, data, sl⟩ := o
  cases hc; cases hd; cases hn
  obtain ⟨hp, g, d, tk, os⟩ := s
  have hT : (⟨hp, g, d, tk + 1, os⟩ : Shared).TypeIs (.ref a) "list" := ⟨_, ho, rfl⟩
  have f1 := sub_AttributeError
  have f3 := F.slot_list_getattribute.lookup
  have f4 := F.slot_list_getattribute.bind (.ref a)
  have f5 := am_list_getattr_none
  unfold getAttr? getAttrBy? getAttrBy
  repeat (any_goals (first | assumption | ((with_reducible show wpAny _ _ (call (Value.builtin "list.__getattribute__") _ _) _ _ _); refine call_meets F.slot_list_getattribute hT am_entry_list_getattribute (F.args_list_getattribute_2 _ _) (meets_getattribute_miss_list a xs k sl (Str.ofString "keys") _ keys_no_list (by decide +kernel) (by size_fits)) ⟨ho, hA, fun h' tk' e hx => ?_⟩) | wp_step))
  obtain ⟨t', u', he⟩ := hx.there
  have hTe : (⟨h', g, d, tk', os⟩ : Shared).TypeIs (.ref e) "AttributeError" := ⟨_, he, rfl⟩
  show wpAny _ _ (getattributeRaised _ _ _ _ _ _ _) _ _ _
  unfold getattributeRaised
  repeat (any_goals (first | assumption | wp_step))
  exact h _ _ hx.keeps

/-- pairs put into a dict one after another -/
def putAll {K : Type} [DecidableEq K] (kvs : List (K × Value)) : List (K × Value) → List (K × Value)
  | [] => kvs
  | p :: r => putAll (stored kvs p.1 p.2) r
theorem upd_loop {prog : Program} {w : World} {R : Result → Shared → Prop} {l it d : Addr} {xs : List Value} (hdi : d ≠ it) (hdl : d ≠ l) (hil : it ≠ l) {A : Around} (hh : A.handled = none) :
    ∀ (rest : List (List UInt8 × Value)) (j : Nat) (s : Shared) (kvs : List (List UInt8 × Value)) (i : Int) (t : Tok), kvs.length + rest.length ≤ 1000 → xs.length = j + rest.length →
      s.heap.IsListIter it l j → s.heap.IsList l xs.toArray → s.heap.DictOf (bytesKind prog w) d kvs →
      (∀ q p, rest[q]? = some p → ∃ a o tk c, xs[j + q]? = some (.ref a) ∧ s.heap.get? a = some o ∧ o.cls = .type "tuple" ∧ o.data = .seq #[.bytes p.1.toArray tk, p.2] c ∧ a ≠ d ∧ a ≠ it) →
      (∀ h' tk, h'.DictOf (bytesKind prog w) d (putAll kvs rest) → (∀ b o, b ≠ d → b ≠ it → s.heap.get? b = some o → h'.get? b = some o) → R (.ok (.ret .none)) { s with heap := h', toks := tk }) →
      codeAny (model prog w) A (.builtin "dict.update.loop" ⟨[.ref d, .ref it, .int i t, .none], []⟩) R s := by
  intro rest
  induction rest with
  | nil =>
    intro j s kvs i t hz hx hit hl hD _ hR
    refine codeAny_builtin (b := Builtin.«dict.update.loop») (entryFor_of_tree (by kernel_rfl)) ?_
    show wpAny _ _ (pyNext (.ref it) >>= _) _ _ s
    refine wpAny_bind (wpAny_pyNext_list_end (by rw [Around.under_plainId (by decide +kernel)]; exact hh) hit hl (by simp at hx; simp [hx]) fun h' hs => ?_)
    show wpAny _ _ (Builtin.Dict.addKeywords d [] >>= fun _ => ret .none) _ _ _
    refine wpAny_bind (wpAny_pure (wpAny_pure ?_))
    exact hR h' _ (hD.extBut hs hdi) fun b o _ hb e => hs b o hb e
  | cons p rest ih =>
    intro j s kvs i t hz hx hit hl hD hP hR
    obtain ⟨a, o, tk, c, hxa, hoa, hoc, hod, had, hai⟩ := hP 0 p rfl
    refine codeAny_builtin (b := Builtin.«dict.update.loop») (entryFor_of_tree (by kernel_rfl)) ?_
    show wpAny _ _ (pyNext (.ref it) >>= _) _ _ s
    refine wpAny_bind (wpAny_pyNext_list_item hit hl (x := .ref a) (by simpa using hxa) fun h1 hit1 hs1 => ?_)
    have e1 : h1.get? a = some o := (hs1.2 a hai).trans hoa
    have hT : ({ s with heap := h1 } : Shared).TypeIs (.ref a) "tuple" := ⟨_, e1, hoc⟩
    have hD1 := hD.sameBut hs1 hdi
    dsimp only
    refine wpAny_bind (wpAny_holding (wpAny_bind (wpAny_tryCatch ?_)))
    unfold Builtin.Dict.pairItems
    refine wpAny_bind (wpAny_typeOf hT ?_)
    rw [if_pos (by decide)]
    refine wpAny_bind (wpAny_seqItems e1 hod (wpAny_pure ?_))
    show wpAny _ _ (holding [Value.bytes p.1.toArray tk, p.2] (dictSet d (Value.bytes p.1.toArray tk) p.2)) _ _ _
    refine wpAny_holding (wpAny_dictSet_pairs (knd := bytesKind prog w) (k := p.1) (key := .bytes p.1.toArray tk) (by show isBytes p.1 (.bytes p.1.toArray tk) = true; simp [isBytes]) hD1 (fun h2 hD2 hs2 => ?_) (by rw [PySem.sizeLine_eq]; simp only [List.length_cons] at hz; omega))
    refine wpAny_pure ⟨plainId_quiet (by decide +kernel) _, ?_⟩
    have e2 : ∀ b o, b ≠ d → b ≠ it → s.heap.get? b = some o → h2.get? b = some o := fun b o hb hb2 e => (hs2.2 b hb).trans ((hs1.2 b hb2).trans e)
    obtain ⟨oi, hoi, hci, hdi2⟩ := hit1
    obtain ⟨ol, hol, hcl, nl, hdl2⟩ := hl
    refine ih (j + 1) { s with heap := h2, toks := s.toks + 1 } (stored kvs p.1 p.2) (i + 1) 0 ?_ ?_ ⟨oi, (hs2.2 it (Ne.symm hdi)).trans hoi, hci, hdi2⟩ ⟨ol, e2 l ol (Ne.symm hdl) (Ne.symm hil) hol, hcl, nl, hdl2⟩ hD2 ?_ ?_
    · have : (stored kvs p.1 p.2).length ≤ kvs.length + 1 := by
        unfold stored
        split <;> simp
      simp only [List.length_cons] at hz
      omega
    · simp only [List.length_cons] at hx
      omega
    · intro q p' hq
      obtain ⟨a', o', tk', c', g1, g2, g3, g4, g5, g6⟩ := hP (q + 1) p' (by simpa using hq)
      exact ⟨a', o', tk', c', by rw [← g1]; congr 1; omega, e2 a' o' g5 g6 g2, g3, g4, g5, g6⟩
    · intro h' tk' hD' hk
      exact hR h' tk' hD' fun b o hb hb2 e => hk b o hb hb2 (e2 b o hb hb2 e)
/-- dict of a list of pairs (bytes, value) -/
theorem call_dict_pairs {prog : Program} {w : World} {A : Around} {E : Value → Shared → Prop} {s : Shared} {Q : Value → Shared → Prop} {l : Addr} {lo : Obj} {xs : List Value} {n : Nat} {rest : List (List UInt8 × Value)} (hh : A.handled = none)
    (hlo : s.heap.get? l = some lo) (hc : lo.cls = .type "list") (hd : lo.data = .seq xs.toArray n) (hn : lo.dict = none) (hz : rest.length ≤ 1000) (hx : xs.length = rest.length)
    (hP : ∀ (q : Nat) (p : List UInt8 × Value), rest[q]? = some p → ∃ a o tk c, xs[q]? = some (.ref a) ∧ s.heap.get? a = some o ∧ o.cls = .type "tuple" ∧ o.data = .seq #[.bytes p.1.toArray tk, p.2] c)
    (h : ∀ h' tk, h'.DictOf (bytesKind prog w) s.heap.objs.size (putAll [] rest) → (∀ b o, s.heap.get? b = some o → h'.get? b = some o) → Q (.ref s.heap.objs.size) { s with heap := h', toks := tk }) :
    wpAny (model prog w) A (call (.type "dict") [.ref l]) Q E s := by
  refine callType_codes (Q₁ := fun obj s₁ => obj = .ref s.heap.objs.size ∧ s₁ = { s with heap := s.heap.push { cls := .type "dict", data := .dict #[] } }) F.kt_called_dict (F.kt_typeCall_dict_1 _) F.entry_dict_init (kt_code_dict_new _ ⟨rfl, rfl⟩) ?_
  rintro obj s₁ ⟨rfl, rfl⟩
  have hnew : (s.heap.push { cls := .type "dict", data := .dict #[] }).DictOf (bytesKind prog w) s.heap.objs.size [] := Heap.DictOf.new s.heap
  have hlo' : (s.heap.push { cls := .type "dict", data := .dict #[] }).get? l = some lo := Heap.get?_push_of_some _ hlo
  refine ⟨hnew.typeIs, F.args_dict_init_2 _ _, ?_⟩
  unfold Builtin.«dict.__init__»
  refine wpAny_bind ?_
  unfold Builtin.Dict.selfAndRest
  refine wpAny_bind (wpAny_notOrdered_dict hnew.typeIs ?_)
  show wpAny _ _ (pure (s.heap.objs.size, [Value.ref l])) _ _ _
  refine wpAny_pure ?_
  show wpAny _ _ (Builtin.Dict.updateFrom "dict.__init__" s.heap.objs.size (.ref l) [] .none) _ _ _
  unfold Builtin.Dict.updateFrom
  refine wpAny_bind (wpAny_typeOf ⟨lo, hlo', hc⟩ ?_)
  rw [if_pos (by decide)]
  refine wpAny_bind (keys_list hlo' hc hd hn hh fun h1 tk1 k1 => ?_)
  rw [if_pos (by rfl)]
  refine wpAny_bind (wpAny_rule ?_)
  refine wpAny_bind (wpAny_pyIter_list ⟨lo, k1 _ _ hlo', hc, n, hd⟩ ?_)
  have kp : ∀ b o, s.heap.get? b = some o → h1.get? b = some o := fun b o e => k1 b o (Heap.get?_push_of_some _ e)
  have hDn : h1.DictOf (bytesKind prog w) s.heap.objs.size [] := by
    obtain ⟨o, es, ep, ho, r⟩ := hnew
    exact ⟨o, es, ep, k1 _ _ ho, r⟩
  have hlt : s.heap.objs.size < h1.objs.size := by
    obtain ⟨o, es, ep, ho, r⟩ := hDn
    exact Heap.lt_size ho
  have hll : l < s.heap.objs.size := Heap.lt_size hlo
  have hl2 : l < h1.objs.size := Heap.lt_size (kp _ _ hlo)
  refine wpAny_pure ⟨plainId_quiet (by decide +kernel) _, ?_⟩
  refine upd_loop (A := A.in1) (xs := xs) (Nat.ne_of_lt hlt) (Nat.ne_of_gt hll) (Nat.ne_of_gt hl2) hh rest 0 _ [] 0 0 (by simpa using hz) (by simpa using hx) ⟨_, Heap.get?_push_size _ rfl, rfl, rfl⟩ ⟨lo, Heap.get?_push_of_some _ (kp _ _ hlo), hc, n, hd⟩ (hDn.push _) ?_ ?_
  · intro q p hq
    obtain ⟨a, o, tk, c, g1, g2, g3, g4⟩ := hP q p hq
    exact ⟨a, o, tk, c, by rw [Nat.zero_add]; exact g1, Heap.get?_push_of_some _ (kp _ _ g2), g3, g4, Nat.ne_of_lt (Heap.lt_size g2), Nat.ne_of_lt (Heap.lt_size (kp _ _ g2))⟩
  · intro h' tk hD hk
    exact ⟨rfl, h h' tk hD fun b o e => hk b o (Nat.ne_of_lt (Heap.lt_size e)) (Nat.ne_of_lt (Heap.lt_size (kp _ _ e))) (Heap.get?_push_of_some _ (kp _ _ e))⟩
/-- the same, by frame and ledger -/
theorem dict_pairs_K {prog : Program} {w : World} {A : Around} {E : Value → Shared → Prop} {s : Shared} {Q : Value → Shared → Prop} {h₀ : Heap} {L l : Addr} {m : Str → Option Value} {news : List (Addr × Obj)} {lo : Obj} {xs : List Value} {n : Nat} {rest : List (List UInt8 × Value)} (hh : A.handled = none)
    (F : Fr h₀ L s.heap m) (N : News h₀ L s.heap news) (hlo : s.heap.get? l = some lo) (hc : lo.cls = .type "list") (hd : lo.data = .seq xs.toArray n) (hn : lo.dict = none) (hz : rest.length ≤ 1000) (hx : xs.length = rest.length)
    (hP : ∀ (q : Nat) (p : List UInt8 × Value), rest[q]? = some p → ∃ a o tk c, xs[q]? = some (.ref a) ∧ s.heap.get? a = some o ∧ o.cls = .type "tuple" ∧ o.data = .seq #[.bytes p.1.toArray tk, p.2] c)
    (h : ∀ h' tk o, Fr h₀ L h' m → News h₀ L h' ((s.heap.objs.size, o) :: news) → o.IsDictOf (bytesKind prog w) (putAll [] rest) → Q (.ref s.heap.objs.size) { s with heap := h', toks := tk }) :
    wpAny (model prog w) A (call (.type "dict") [.ref l]) Q E s := by
  refine call_dict_pairs hh hlo hc hd hn hz hx hP fun h' tk hD hk => ?_
  obtain ⟨o, ho, hdo⟩ := Heap.dictOf_iff.mp hD
  refine h h' tk o (F.keeps hk) (fun p hp => ?_) hdo
  rcases List.mem_cons.mp hp with rfl | hp
  · exact ⟨ho, Nat.ne_of_gt F.ns.lt, next_is_new F⟩
  · exact ⟨hk _ _ (N p hp).1, (N p hp).2⟩
end Mine
end

namespace Mine
theorem rsCL : True ∧ True := by
  w_top off
  k_with_none
  first | (walk1; fail) | exact ⟨trivial, trivial⟩
end Mine
section
open PySem PySem.W PySem.Spec PySem.Calls PyProof.Rows
set_option Elab.async false
set_option maxRecDepth 100000
namespace Mine
theorem codeN_loop {M : Model} {A : Around} {s : Shared} {c : Code} {R : Result → Shared → Prop} (hq : c.quiet = true) (ht : tidy c = true) (I : Nat → Shared → Prop)
    (turn : ∀ n s, I n s → wpN M (A.under c) (M.den c)
      (fun fin s' => match fin with | .done f => R (.ok f) s' | .again c' => c' = c ∧ ∃ m, m < n ∧ I m s') (fun e s' => R (.error e) s') s)
    (n : Nat) (h : I n s) : codeN M A c R s := by
  induction n using Nat.strongRecOn generalizing s with
  | ind n ih =>
    refine codeN_of_tree ht (wpN_mono (turn n s h) (fun fin s' hf => ?_) fun _ _ h' => h')
    cases fin with
    | done f => exact hf
    | again c' => obtain ⟨rfl, m, hm, hI⟩ := hf; exact ⟨hq, ih m hm hI⟩
section
variable {prog : Program} {w : World} {A : Around} {s : Shared} {R : Result → Shared → Prop}
/-- the turns of a comprehension whose test and element are reckoned in wpN; nothing is raised -/
theorem codeN_compLoop_tests {elt target iter : Expr} {ifs : List Expr} {scope : Scope} {pos : Pos} {it acc : Value} {env : Env} (I : Nat → Shared → Prop)
    (turn : ∀ n s, I n s → wpN (model prog w) A (pyNext it) (fun r s₁ => match r with
      | none => R (.ok .next) s₁
      | some v => wpN (model prog w) A (assign target env v) (fun _ s₂ =>
          wpN (model prog w) A (forIn ifs true fun c r => if r = true then do let ok ← isTrue c env (eval c env); pure (ForInStep.yield ok) else pure (ForInStep.yield r)) (fun ok s₃ =>
            if ok = true then wpN (model prog w) A (eval elt env) (fun x s₄ =>
              wpN (model prog w) A (call (.builtin "list.append") [acc, x]) (fun _ s₅ => ∃ m, m < n ∧ I m s₅) (fun _ _ => False) s₄) (fun _ _ => False) s₃
            else ∃ m, m < n ∧ I m s₃) (fun _ _ => False) s₂) (fun _ _ => False) s₁) (fun _ _ => False) s)
    (n : Nat) (h : I n s) (ht : ∀ v, letOwnedTupleGo target it v = pure () := by intro _; rfl) :
    codeN (model prog w) A (.compLoop (.ListComp elt [⟨target, iter, ifs, 0⟩] scope pos) 0 it acc env) R s := by
  refine codeN_loop rfl rfl I (fun n s hI => ?_) n h
  show wpN _ A ((compTurn (.ListComp elt [⟨target, iter, ifs, 0⟩] scope pos) 0 it acc env).onRaise (fun x => do noteFrame x env; theTreesLotGoes x)) _ _ s
  refine wpN_onRaise ?_
  rw [compTurn_list]
  refine wpN_standAt ?_
  refine wpN_bind (wpN_mono (turn n s hI) (fun r s₁ h₁ => ?_) fun _ _ h' => h')
  cases r with
  | none => exact wpN_pure h₁
  | some v =>
    refine wpN_eq_bind (ht v) ?_
    refine wpN_bind (wpN_mono h₁ (fun _ s₂ h₂ => wpN_bind (wpN_mono h₂ (fun ok s₃ h₃ => ?_) fun _ _ h' => h')) fun _ _ h' => h')
    cases ok with
    | false => exact wpN_pure ⟨rfl, h₃⟩
    | true =>
      exact wpN_bind (wpN_bind (wpN_mono h₃ (fun x s₄ h₄ => wpN_bind (wpN_mono h₄ (fun _ s₅ h₅ => wpN_pure (wpN_pure ⟨rfl, h₅⟩)) fun _ _ h' => h')) fun _ _ h' => h'))
theorem codeN_compStart_list {elt target iter : Expr} {ifs : List Expr} {rest : List Comprehension} {scope : Scope} {pos : Pos} {it acc : Value} {env : Env}
    (h0 : codeN (model prog w) A (.compLoop (.ListComp elt (⟨target, iter, ifs, 0⟩ :: rest) scope pos) 0 it acc env) R s)
    (h : wpN (model prog w) A (pyIter it) (fun it' s' => codeN (model prog w) A (.compLoop (.ListComp elt (⟨target, iter, ifs, 0⟩ :: rest) scope pos) 0 it' acc env) R s')
      (fun _ _ => False) s) :
    codeN (model prog w) A (.compStart (.ListComp elt (⟨target, iter, ifs, 0⟩ :: rest) scope pos) 0 it acc env) R s := by
  refine codeN_of_tree rfl ?_
  show wpN _ _ ((compStart (.ListComp elt (⟨target, iter, ifs, 0⟩ :: rest) scope pos) 0 it acc env).onRaise (fun x => do noteFrame x env; standAt theWindowsPlace)) _ _ s
  refine wpN_onRaise ?_
  unfold compStart
  show wpN _ _ (ask >>= _) _ _ s
  refine wpN_any_bind (wpAny_askSetting ?_)
  split
  · first
      | exact wpN_bind (wpN_pure (wpN_pure (And.intro rfl h0)))
      | exact wpN_pure (And.intro rfl h0)
  · first
      | exact wpN_any_bind (wpAny_rule (wpN_standAt (wpN_bind (wpN_mono h (fun it' s' h' => wpN_pure (And.intro rfl h')) fun _ _ x => x))))
theorem wpN_tests_nil {E : Value → Shared → Prop} {env : Env} {Q : Bool → Shared → Prop} (h : Q true s) :
    wpN (model prog w) A (forIn ([] : List Expr) true fun c r => if r = true then do let ok ← isTrue c env (eval c env); pure (ForInStep.yield ok) else pure (ForInStep.yield r)) Q E s :=
  wpN_pure h
theorem wpN_tests_one {E : Value → Shared → Prop} {env : Env} {c : Expr} {Q : Bool → Shared → Prop} (h : wpN (model prog w) A (PySem.isTrue c env (eval c env)) Q E s) :
    wpN (model prog w) A (forIn [c] true fun c r => if r = true then do let ok ← PySem.isTrue c env (eval c env); pure (ForInStep.yield ok) else pure (ForInStep.yield r)) Q E s := by
  simp only [List.forIn_cons, List.forIn_nil, if_true]
  exact wpN_bind (wpN_bind (wpN_mono h (fun b s' hb => wpN_pure (wpN_pure hb)) fun _ _ x => x))
end
end Mine
end

namespace Mine
theorem rsBlN : True ∧ True := by
  w_top off
  k_with_none
  first | (walk1; fail) | exact ⟨trivial, trivial⟩
end Mine
section
open PySem PySem.W PySem.Spec PySem.Calls PyProof.Rows
set_option Elab.async false
set_option maxRecDepth 100000
namespace Mine
section
variable {prog : Program} {w : World} {A : Around} {h₀ : Heap} {L : Addr} {m : Str → Option Value} {env : Env}
/-- the tests of a comprehension -/
abbrev tests (ifs : List Expr) (env : Env) : Sem Bool := forIn ifs true fun c r => if r = true then do let ok ← PySem.isTrue c env (eval c env); pure (ForInStep.yield ok) else pure (ForInStep.yield r)
/-- one turn of a comprehension, tests and element in wpN -/
def TurnN (prog : Program) (w : World) (A : Around) (h₀ : Heap) (L : Addr) (m : Str → Option Value) (env : Env) (elt : Expr) (ifs : List Expr) (x : Str) (scope : Scope) (cl : List (Str × Addr)) (s₂ : Shared) (n : Nat) (P : Nat → Value → Prop) (S : List (Addr × Obj) → Prop) (J : Nat → List Value → List (Addr × Obj) → Prop) : Prop :=
  ∀ i v ys news I oI C oC D m₂ h tk, i < n → P i v → LCg.NsObj oC m₂ → m₂ x = some v → Fr h₀ L h m → News h₀ L h ((I, oI) :: (C, oC) :: (D, LCg.lst ys) :: news) → LCg.Off3 I C D news → ((@Ne Nat I C) ∧ (@Ne Nat I D) ∧ (@Ne Nat C D)) → J i ys news →
    wpN (model prog w) A (tests ifs (compEnvC scope cl C env)) (fun ok s₃ => if ok = true then
        wpN (model prog w) A (eval elt (compEnvC scope cl C env)) (LCg.CompEnd h₀ L m { s₂ with heap := h, toks := tk } I oI C oC D (LCg.lst ys) S (fun y news' => J (i + 1) (ys ++ [y]) news')) (fun _ _ => False) s₃
      else LCg.CompEnd h₀ L m { s₂ with heap := h, toks := tk } I oI C oC D (LCg.lst ys) S (fun _ news' => J (i + 1) ys news') .none s₃) (fun _ _ => False) { s₂ with heap := h, toks := tk }
theorem loopN {elt iter : Expr} {ifs : List Expr} {x : Str} {px : Pos} {scope : Scope} {cl : List (Str × Addr)} {pos : Pos} {s₂ : Shared} {I C D : Addr} {fp : List Addr} {n : Nat} {P : Nat → Value → Prop} {St : Nat → Heap → Prop} {S : List (Addr × Obj) → Prop} {news : List (Addr × Obj)}
    {J : Nat → List Value → List (Addr × Obj) → Prop} {R : Result → Shared → Prop} {h₁ : Heap} {tk₁ : Nat} {mC : Str → Option Value}
    (W : Walks prog w A I fp [I] n P St) (hsz : n ≤ sizeLine) (hIo : ∀ i h, St i h → ∃ o, h.get? I = some o)
    (hSt : ∀ i h h' o nw, St i h → h.get? I = some o → h'.get? I = some o → (∀ b o, h₀.get? b = some o → h'.get? b = some o) → News h₀ L h' nw → S nw → St i h')
    (hkind : scope.kind = .function) (hx : scope.names.lookup x = some .local)
    (hCI : I ≠ C) (hDI : I ≠ D) (hDC : D ≠ C) (hCL : C ≠ L) (hDL : D ≠ L) (hC₀ : h₀.get? C = none) (hD₀ : h₀.get? D = none) (hCf : C ∉ fp) (hDf : D ∉ fp) (hIL : L ≠ I) (hI₀ : h₀.get? I = none)
    (hst : St 0 h₁) (F : Fr h₀ L h₁ m) (hns : h₁.Ns C mC) (N : News h₀ L h₁ ((D, LCg.lst []) :: news)) (off : LCg.Off3 I C D news) (hS : S news) (hJ : J 0 [] news)
    (T : TurnN prog w A h₀ L m env elt ifs x scope cl s₂ n P S J)
    (hR : ∀ h tk m' ys news', Fr h₀ L h m → News h₀ L h ((D, LCg.lst ys) :: news') → LCg.Off1 D news' → h.Ns C m' → (∀ p ∈ news', p.1 ≠ C) → J n ys news' → R (.ok .next) { s₂ with heap := h, toks := tk }) :
    codeN (model prog w) A (.compLoop (.ListComp elt [⟨.Name x px, iter, ifs, 0⟩] scope pos) 0 (.ref I) (.ref D) (compEnvC scope cl C env)) R { s₂ with heap := h₁, toks := tk₁ } := by
  refine codeN_compLoop_tests
    (fun k s' => ∃ h' tk i ys m' news', s' = { s₂ with heap := h', toks := tk } ∧ i ≤ n ∧ k = n + 1 - i ∧ ys.length ≤ i ∧ St i h' ∧ Fr h₀ L h' m ∧ h'.Ns C m' ∧ News h₀ L h' ((D, LCg.lst ys) :: news') ∧
      LCg.Off3 I C D news' ∧ S news' ∧ J i ys news') ?_ (n + 1) ⟨h₁, _, 0, [], _, news, rfl, Nat.zero_le _, rfl, Nat.le_refl _, hst, F, hns, N, off, hS, hJ⟩
  rintro k s' ⟨h', tk, i, ys, m', news', rfl, hi, rfl, hyl, hst', F', hn', N', off', hS', J'⟩
  have off3 := off'.mem
  by_cases hlt : i < n
  · refine wpN_of_any (W.item i _ _ _ hlt hst' fun v h₂ tk₂ hPv hst₂ hk₂ => ?_)
    refine wpN_of_any (wpAny_assign_Name (wpAny_storeName_local (lookup_relabel_local hx) (hn'.at' fun o e => hk₂ _ o (by simpa using Ne.symm hCI) e) (fun h₃ hn₃ hs₃ => ?_) (by simp [compEnvC, relabel, hkind])))
    have hst₃ : St (i + 1) h₃ := W.frame _ _ _ hst₂ fun b hb o e => hs₃.extBut b o (fun q => hCf (by have q' : b = C := q; rw [← q']; exact hb)) e
    obtain ⟨oI, heI⟩ := hIo _ _ hst₃
    obtain ⟨oC, heC, hoC⟩ := LCg.ns_obj hn₃
    have F₃ : Fr h₀ L h₃ m := (LCg.fr_but F' hk₂ hIL hI₀).change hs₃ hCL hC₀
    have N₂ : News h₀ L h₂ ((D, LCg.lst ys) :: news') := LCg.news_but N' hk₂ fun p hp => by
      rcases List.mem_cons.mp hp with rfl | hp
      · exact Ne.symm hDI
      · exact (off3 p hp).1
    have N₃ : News h₀ L h₃ ((I, oI) :: (C, oC) :: (D, LCg.lst ys) :: news') := fun p hp => by
      rcases List.mem_cons.mp hp with rfl | hp
      · exact ⟨heI, Ne.symm hIL, hI₀⟩
      · rcases List.mem_cons.mp hp with rfl | hp
        · exact ⟨heC, hCL, hC₀⟩
        · have z := N₂ p hp
          refine ⟨hs₃.extBut _ _ ?_ z.1, z.2⟩
          rcases List.mem_cons.mp hp with rfl | hp
          · exact hDC
          · exact (off3 p hp).2.1
    refine wpN_mono (T i v ys news' I oI C oC D _ h₃ _ hlt hPv hoC (by simp) F₃ N₃ off' ⟨hCI, hDI, Ne.symm hDC⟩ J') (fun ok s₃ hok => ?_) fun _ _ e => e
    cases ok with
    | false =>
      obtain ⟨h₄, tk₄, news₄, rfl, F₄, N₄, off₄, hS₄, J₄⟩ := hok
      have zI := (N₄ (I, oI) List.mem_cons_self).1
      have zC := (N₄ (C, oC) (List.mem_cons_of_mem _ List.mem_cons_self)).1
      have N₄' : News h₀ L h₄ news₄ := fun p hp => N₄ p (List.mem_cons_of_mem _ (List.mem_cons_of_mem _ (List.mem_cons_of_mem _ hp)))
      exact ⟨n + 1 - (i + 1), by omega, h₄, tk₄, i + 1, ys, _, news₄, rfl, hlt, rfl, Nat.le_succ_of_le hyl, hSt _ _ _ _ _ hst₃ heI zI F₄.keep N₄' hS₄, F₄, hoC.ns zC, fun p hp => N₄ p (List.mem_cons_of_mem _ (List.mem_cons_of_mem _ hp)), off₄, hS₄, J₄⟩
    | true =>
      refine wpN_mono hok (fun y s₄ h₄ => ?_) fun _ _ e => e
      obtain ⟨h₄, tk₄, news₄, rfl, F₄, N₄, off₄, hS₄, J₄⟩ := h₄
      have zI := (N₄ (I, oI) List.mem_cons_self).1
      have zC := (N₄ (C, oC) (List.mem_cons_of_mem _ List.mem_cons_self)).1
      have zD := (N₄ (D, LCg.lst ys) (List.mem_cons_of_mem _ (List.mem_cons_of_mem _ List.mem_cons_self))).1
      have N₄' : News h₀ L h₄ news₄ := fun p hp => N₄ p (List.mem_cons_of_mem _ (List.mem_cons_of_mem _ (List.mem_cons_of_mem _ hp)))
      have hst₄ : St (i + 1) h₄ := hSt _ _ _ _ _ hst₃ heI zI F₄.keep N₄' hS₄
      have off4 := off₄.mem
      refine wpN_of_any (append_at (hsz := by show ys.toArray.size ≤ sizeLine; rw [List.size_toArray]; exact Nat.le_trans (Nat.le_trans hyl hi) hsz) zD fun h₅ hs₅ hD₅ => ?_)
      refine ⟨n + 1 - (i + 1), by omega, h₅, tk₄, i + 1, ys ++ [y], _, news₄, rfl, hlt, rfl, by rw [List.length_append, List.length_singleton]; exact Nat.succ_le_succ hyl, W.frame _ _ _ hst₄ fun b hb o e => hs₅.extBut b o (fun q => hDf (q ▸ hb)) e, F₄.change hs₅ hDL hD₀,
        (hoC.ns zC).sameBut hs₅ (Ne.symm hDC), fun p hp => ?_, off₄, hS₄, J₄⟩
      rcases List.mem_cons.mp hp with rfl | hp
      · exact ⟨hD₅.trans (congrArg some (LCg.lst_snoc ys y)), hDL, hD₀⟩
      · exact ⟨hs₅.extBut _ _ (off4 p hp).2.2 (N₄' p hp).1, (N₄' p hp).2⟩
  · obtain rfl : i = n := Nat.le_antisymm hi (Nat.not_lt.mp hlt)
    refine wpN_of_any (W.done _ _ _ hst' fun h₂ tk₂ hk₂ => ?_)
    exact hR h₂ tk₂ _ ys news' (LCg.fr_but F' hk₂ hIL hI₀) (LCg.news_but N' hk₂ fun p hp => by
      rcases List.mem_cons.mp hp with rfl | hp
      · exact Ne.symm hDI
      · exact (off3 p hp).1) off'.one (hn'.at' fun o e => hk₂ _ o (by simpa using Ne.symm hCI) e) (fun p hp => (off3 p hp).2.1) J'
end
end Mine
end

namespace Mine
theorem rsCpN : True ∧ True := by
  w_top off
  k_with_none
  first | (walk1; fail) | exact ⟨trivial, trivial⟩
end Mine
section
open PySem PySem.W PySem.Spec PySem.Calls PyProof.Rows
set_option Elab.async false
set_option maxRecDepth 100000
namespace Mine
section
variable {M : Model} {A : Around} {E : Value → Shared → Prop} {s : Shared} {env : Env}
theorem wpN_standIf {α : Type} {c : Prop} [Decidable c] {pos : Pos} {k : PUnit → Sem α} {Q : α → Shared → Prop} (h : wpN M A (k ()) Q E s) :
    wpN M A (if c then (standAt pos >>= k) else k ()) Q E s := by
  split
  · exact wpN_standAt h
  · exact h
/-- a comprehension whose parts are reckoned in wpN -/
theorem compN {e : Expr} {scope : Scope} {pos : Pos} {newAcc first : Sem Value} {g : Comprehension} {gs : List Comprehension} {cl : List (Str × Addr)} {Q : Value → Shared → Prop}
    (hcl : clausesOf e = g :: gs) (hs : ∀ x, foldedSetIterable g.iter env x = pure x) (hclos : closureFor scope env = pure cl)
    (hkind : scope.kind = .function) (hnames : ∀ x ∈ scope.names, x.2 = .local → scope.names.lookup x.1 = some .local)
    (h : wpN M A first (fun x s₁ => wpN M A (pyIter x) (fun it s₂ => wpN M A newAcc (fun acc s₃ =>
      wpN M A (newFunctionEnv scope env.globals cl [] env.qual none .none (some env)) (fun cenv s₄ =>
        codeN M A (.compStart e 0 it acc { cenv with scope := relabel scope env }) (fun r s' => match r with
          | .ok _ => ∃ m, s'.heap.Ns cenv.locals m ∧ ∀ h', Heap.SameBut cenv.locals s'.heap h' → Q acc { s' with heap := h' }
          | .error _ => False) s₄) E s₃) E s₂) E s₁) E s) :
    wpN M A (comprehension e scope env pos newAcc false first none) Q E s := by
  unfold comprehension
  rw [hclos, hcl]
  refine wpN_bind (wpN_mono h (fun x s₁ h₁ => wpN_standAt (wpN_eq_bind (hs x) (wpN_bind (wpN_holding (wpN_mono h₁ (fun it s₂ h₂ =>
    wpN_standIf (wpN_bind (wpN_mono h₂ (fun acc s₃ h₃ => wpN_bind (wpN_pure (wpN_bind (wpN_mono h₃ (fun cenv s₄ h₄ => ?_) fun _ _ h' => h')))) fun _ _ h' => h')))
      fun _ _ h' => h'))))) fun _ _ h' => h')
  dsimp only
  have hv : ∀ x ∈ (scope.names.filter fun x => (x.2 == .local || x.2 == .cell) && x.1 != (".0" : Str)).reverse, x.2 = .local →
      Env.kindOf { cenv with scope := relabel scope env } x.1 = some .local := fun x hx hl => lookup_relabel_local (hnames x (List.mem_filter.mp (List.mem_reverse.mp hx)).1 hl)
  refine wpN_holding (wpN_bind (wpN_attempt (wpN_holding (wpN_run (codeN_mono h₄ fun r s' hr => ?_)))))
  cases r with
  | ok f =>
    obtain ⟨m, hn, hr⟩ := hr
    exact wpN_bind (wpN_holding (wpN_of_any (wpAny_comp_letGo (cenv := { cenv with scope := relabel scope env }) hkind _ s' m hv hn fun h' m' _ hs' => wpN_pure (hr h' hs'))))
  | error x => exact hr.elim
end
section
variable {prog : Program} {w : World} {A : Around} {E : Value → Shared → Prop} {s : Shared} {h₀ : Heap} {L : Addr} {m : Str → Option Value} {env : Env}
/-- a source, its turns and its end -/
def NSrc (prog : Program) (w : World) (A : Around) (h₀ : Heap) (L : Addr) (m : Str → Option Value) (env : Env) (elt : Expr) (ifs : List Expr) (x : Str) (scope : Scope) (cl : List (Str × Addr)) (Q : Value → Shared → Prop) (xv : Value) (s₁ : Shared) : Prop :=
  ∃ n P S news J, Src prog w A h₀ L xv n P S news s₁ ∧ n ≤ sizeLine ∧ Fr h₀ L s₁.heap m ∧ News h₀ L s₁.heap news ∧ S news ∧ J 0 [] news ∧
    ∀ s₂ : Shared, (∃ h, s₂ = { s₁ with heap := h }) → TurnN prog w A h₀ L m env elt ifs x scope cl s₂ n P S J ∧
      (∀ D h tk ys news', Fr h₀ L h m → News h₀ L h ((D, LCg.lst ys) :: news') → LCg.Off1 D news' → J n ys news' → Q (.ref D) { s₂ with heap := h, toks := tk })
theorem ListComp_N {elt iter : Expr} {ifs : List Expr} {x : Str} {px : Pos} {scope : Scope} {cl : List (Str × Addr)} {pos : Pos} {Q : Value → Shared → Prop} (_F₀ : Fr h₀ L s.heap m)
    (hclos : closureFor scope env = pure cl) (hcell : ∀ y ∈ scope.names, y.2 ≠ .cell) (hkind : scope.kind = .function)
    (hnames : ∀ y ∈ scope.names, y.2 = .local → scope.names.lookup y.1 = some .local) (hx : scope.names.lookup x = some .local)
    (h : wpN (model prog w) A (eval iter env) (NSrc prog w A h₀ L m env elt ifs x scope cl Q) E s)
    (hs : ∀ x, foldedSetIterable iter env x = pure x := by intro _; rfl) :
    wpN (model prog w) A (eval (.ListComp elt [⟨.Name x px, iter, ifs, 0⟩] scope pos) env) Q E s := by
  rw [eval_ListComp]
  refine compN rfl hs hclos hkind hnames (wpN_mono h (fun xv s₁ h₁ => ?_) fun _ _ e => e)
  obtain ⟨n, P, S, news, J, src, hsz, F₁, N₁, hS, hJ, rest⟩ := h₁
  refine wpN_of_any (src _ _ fun I fp St s₂ he W hIo hSt hst hfp up hIL hI₀ off => ?_)
  obtain ⟨T, fin⟩ := rest s₂ he
  have F := F₁.keeps up
  have N := N₁.grown up
  refine wpN_of_any (wpAny_newObj_type (wpN_of_any (wpAny_newFunctionEnv hcell (by intro y hy; simp at hy) (fun h₁ hns₁ hsb₁ => ?_) hkind)))
  dsimp only at hns₁ hsb₁ ⊢
  generalize hH2 : s₂.heap.push { cls := .type "list", dict := none, data := .seq ([] : List Value).toArray } = H2 at hns₁ hsb₁ ⊢
  have hC : H2.objs.size = s₂.heap.objs.size + 1 := by rw [← hH2, Heap.size_push]
  have hDC : s₂.heap.objs.size ≠ H2.objs.size := by rw [hC]; exact Nat.ne_of_lt (Nat.lt_succ_self _)
  have below : ∀ b, b < s₂.heap.objs.size → b ≠ H2.objs.size ∧ b ≠ s₂.heap.objs.size := fun b hb => ⟨by rw [hC]; exact Nat.ne_of_lt (Nat.lt_succ_of_lt hb), Nat.ne_of_lt hb⟩
  have hIlt : I < s₂.heap.objs.size := hfp I (W.sub I (List.mem_singleton.mpr rfl))
  have old : ∀ b o, s₂.heap.get? b = some o → h₁.get? b = some o := fun b o e => hsb₁.extBut b o (below b (Heap.lt_size e)).1 (Heap.get?_push_of_some _ (hH2 ▸ Heap.get?_push_of_some _ e))
  have hacc : h₁.get? s₂.heap.objs.size = some (LCg.lst []) := hsb₁.extBut _ _ hDC (Heap.get?_push_of_some _ (hH2 ▸ Heap.get?_push_size _ rfl))
  have hst₁ : St 0 h₁ := W.frame _ _ _ hst fun b _ o e => old b o e
  have fresh₀ : ∀ a, s₂.heap.objs.size ≤ a → h₀.get? a = none := fun a ha => by
    cases e : h₀.get? a with
    | none => rfl
    | some o' => exact absurd (Heap.lt_size (F.keep a o' e)) (Nat.not_lt.mpr ha)
  have hD₀ := fresh₀ s₂.heap.objs.size (Nat.le_refl _)
  have hC₀ := fresh₀ H2.objs.size (by rw [hC]; exact Nat.le_succ _)
  have hLlt : L < s₂.heap.objs.size := F.ns.lt
  have hCL : H2.objs.size ≠ L := Ne.symm (below L hLlt).1
  have loop := loopN (prog := prog) (w := w) (A := A) (elt := elt) (iter := iter) (ifs := ifs) (px := px) (pos := pos) (mC := _) (tk₁ := s₂.toks + ([] : List (Str × Value)).length)
    (R := fun r s' => match r with
      | .ok _ => ∃ m, s'.heap.Ns H2.objs.size m ∧ ∀ h', Heap.SameBut H2.objs.size s'.heap h' → Q (.ref s₂.heap.objs.size) { s' with heap := h' }
      | .error _ => False) W hsz hIo hSt hkind hx (below I hIlt).1 (below I hIlt).2 hDC hCL (Ne.symm (below L hLlt).2) hC₀ hD₀
    (fun hm => Nat.lt_irrefl _ (by have := hfp _ hm; rw [hC] at this; exact Nat.lt_of_succ_lt this)) (fun hm => Nat.lt_irrefl _ (hfp _ hm)) hIL hI₀ hst₁ (F.keeps old) hns₁
    (fun p hp => by
      rcases List.mem_cons.mp hp with rfl | hp
      · exact ⟨hacc, Ne.symm (below L hLlt).2, hD₀⟩
      · exact ⟨old _ _ (N p hp).1, (N p hp).2⟩) (LCg.Off3.of fun p hp => ⟨off p hp, (below _ (Heap.lt_size (N p hp).1)).1, (below _ (Heap.lt_size (N p hp).1)).2⟩) hS hJ T
    (fun h tk m' ys news' F' N' o1 hn offC hJ' => ⟨m', hn, fun h'' hs'' => fin _ h'' tk ys news' (F'.change hs'' hCL hC₀) (fun p hp => by
      refine ⟨hs''.extBut _ _ ?_ (N' p hp).1, (N' p hp).2⟩
      rcases List.mem_cons.mp hp with rfl | hp
      · exact hDC
      · exact offC p hp) o1 hJ'⟩)
  exact codeN_compStart_list loop (wpN_of_any (W.self 0 _ _ _ hst₁ loop))
end
section
variable {prog : Program} {w : World} {A : Around} {s : Shared} {h₀ : Heap} {L : Addr} {m : Str → Option Value} {env : Env} {news : List (Addr × Obj)}
/-- the source a range -/
theorem NSrc.range {elt : Expr} {ifs : List Expr} {x : Str} {scope : Scope} {cl : List (Str × Addr)} {Q : Value → Shared → Prop} {r : Addr} {a b : Int} {t u v : Tok} {n : Nat} (J : Nat → List Value → List (Addr × Obj) → Prop)
    (hh : A.handled = none) (F : Fr h₀ L s.heap m) (N : News h₀ L s.heap news) (hr : IsRange s.heap r a b 1 t u v) (hsm : Builtin.Range.small a b 1 = true) (hn : Builtin.Range.rangeSize a b 1 = ((n : Nat) : Int)) (hz : n ≤ sizeLine) (hJ : J 0 [] news)
    (T : ∀ g, TurnN prog w A h₀ L m env elt ifs x scope cl { s with heap := g } n (fun i v => ∃ t, v = .int (a + (i : Int)) t) (fun _ => True) J)
    (fin : ∀ D h tk ys news', Fr h₀ L h m → News h₀ L h ((D, LCg.lst ys) :: news') → LCg.Off1 D news' → J n ys news' → Q (.ref D) { s with heap := h, toks := tk }) :
    NSrc prog w A h₀ L m env elt ifs x scope cl Q (.ref r) s :=
  ⟨_, _, _, _, J, src_range hh F N hr hsm hn, hz, F, N, trivial, hJ, fun _ ⟨g, e⟩ => e ▸ ⟨T g, fun D h tk ys nx F' N' o j => fin D h tk ys nx F' N' o j⟩⟩
end
end Mine
end

namespace Mine
theorem rsSb : True ∧ True := by
  w_top off
  k_with_none
  first | (walk1; fail) | exact ⟨trivial, trivial⟩
end Mine
section
open PySem PySem.W PySem.Spec PySem.Calls PyProof.Rows
set_option Elab.async false
set_option maxRecDepth 100000
namespace Mine
section
variable {M : Model} {A : Around} {E : Value → Shared → Prop} {s : Shared} {env : Env}
/-- an item, its container reckoned in wpN -/
theorem wpN_Subscript {value slice : Expr} {pos : Pos} {Q : Value → Shared → Prop}
    (h : wpN M A (eval value env) (fun o s₁ => wpN M A (eval slice env) (fun i s₂ => wpAny M A (subscriptTail value slice o i) Q E s₂) E s₁) E s) :
    wpN M A (eval (.Subscript value slice pos) env) Q E s := by
  rw [arm_eval_Subscript]
  refine wpN_bind (wpN_mono h (fun o s₁ h₁ => wpN_bind (wpN_holding (wpN_mono h₁ (fun i s₂ h₂ => wpN_standAt ?_) fun _ _ x => x))) fun _ _ x => x)
  exact wpN_of_any h₂
end
/-- the first turn by which a row comes to itself -/
def rootN (l : List Nat) : Nat := (((List.range l.length).map (· + 1)).find? fun k => l.drop k ++ l.take k == l).getD 0
end Mine
end

namespace Mine
theorem rsDl : True ∧ True := by
  w_top off
  k_with_none
  first | (walk1; fail) | exact ⟨trivial, trivial⟩
end Mine
section
open PySem PySem.W PySem.Spec PySem.Calls PyProof.Rows
set_option Elab.async false
set_option maxRecDepth 100000
namespace Mine
/-- unlike keys, in the order in which they come first -/
def keysN : List (List Nat) → List (List Nat) → List (List Nat)
  | ks, [] => ks
  | ks, k :: r => keysN (if ks.contains k then ks else ks ++ [k]) r
theorem stored_keys {K : Type} [DecidableEq K] (kvs : List (K × Value)) (k : K) (v : Value) : (stored kvs k v).map (·.1) = if k ∈ kvs.map (·.1) then kvs.map (·.1) else kvs.map (·.1) ++ [k] := by
  unfold stored
  by_cases h : k ∈ kvs.map (·.1)
  · have h2 : kvs.any (fun kv => kv.1 = k) = true := by
      obtain ⟨p, hp, e⟩ := List.mem_map.mp h
      exact List.any_eq_true.mpr ⟨p, hp, by simpa using e⟩
    rw [if_pos h2, if_pos h, List.map_map]
    refine List.map_congr_left fun p _ => ?_
    simp only [Function.comp]
    split <;> rfl
  · have h2 : ¬ kvs.any (fun kv => kv.1 = k) = true := by
      intro hh
      obtain ⟨p, hp, e⟩ := List.any_eq_true.mp hh
      exact h (List.mem_map.mpr ⟨p, hp, by simpa using e⟩)
    rw [if_neg h2, if_neg h, List.map_append]
    rfl
def u8 (l : List Nat) : List UInt8 := l.map UInt8.ofNat
theorem u8_inj {a b : List Nat} (ha : ∀ k ∈ a, k < 256) (hb : ∀ k ∈ b, k < 256) (h : u8 a = u8 b) : a = b :=
  Bt_inj ha hb (congrArg List.toArray h)
theorem u8_mem {ks : List (List Nat)} {k : List Nat} (hs : ∀ l ∈ ks, ∀ q ∈ l, q < 256) (hk : ∀ q ∈ k, q < 256) : u8 k ∈ ks.map u8 ↔ ks.contains k = true := by
  rw [List.contains_iff_mem]
  constructor
  · intro h
    obtain ⟨x, hx, e⟩ := List.mem_map.mp h
    rw [← u8_inj (hs x hx) hk e]
    exact hx
  · exact fun h => List.mem_map_of_mem h
theorem putAll_keys : ∀ (rest : List (List UInt8 × Value)) (rs : List (List Nat)) (kvs : List (List UInt8 × Value)) (ks : List (List Nat)), rest.map (·.1) = rs.map u8 → kvs.map (·.1) = ks.map u8 → (∀ l ∈ rs, ∀ q ∈ l, q < 256) → (∀ l ∈ ks, ∀ q ∈ l, q < 256) →
    (putAll kvs rest).map (·.1) = (keysN ks rs).map u8
  | [], rs, kvs, ks, h1, h2, _, _ => by
    cases rs with
    | nil => exact h2
    | cons r rs => cases h1
  | p :: rest, rs, kvs, ks, h1, h2, h3, h4 => by
    cases rs with
    | nil => cases h1
    | cons r rs =>
      simp only [List.map_cons, List.cons.injEq] at h1
      obtain ⟨e1, h1⟩ := h1
      have hr := h3 r (.head _)
      refine putAll_keys rest rs _ _ h1 ?_ (fun l hl => h3 l (.tail _ hl)) ?_
      · rw [stored_keys, e1, h2]
        by_cases hc : ks.contains r = true
        · rw [if_pos ((u8_mem h4 hr).mpr hc), if_pos hc]
        · rw [if_neg fun hh => hc ((u8_mem h4 hr).mp hh), if_neg hc, List.map_append]
          rfl
      · intro l hl
        split at hl
        · exact h4 l hl
        · rcases List.mem_append.mp hl with hl | hl
          · exact h4 l hl
          · rw [List.mem_singleton.mp hl]
            exact hr
theorem putAll_len {rest : List (List UInt8 × Value)} {rs : List (List Nat)} (h1 : rest.map (·.1) = rs.map u8) (h3 : ∀ l ∈ rs, ∀ q ∈ l, q < 256) : (putAll [] rest).length = (keysN [] rs).length := by
  have h := congrArg List.length (putAll_keys rest rs [] [] h1 rfl h3 (fun l hl => nomatch hl))
  simpa using h
/-- dict of a list of pairs, what len wants of it said -/
theorem dict_pairs_L {prog : Program} {w : World} {A : Around} {E : Value → Shared → Prop} {s : Shared} {Q : Value → Shared → Prop} {h₀ : Heap} {L l : Addr} {m : Str → Option Value} {news : List (Addr × Obj)} {lo : Obj} {xs : List Value} {n : Nat} {rest : List (List UInt8 × Value)} {rs : List (List Nat)} (hh : A.handled = none) (hbig : h₀.NoLimit)
    (F : Fr h₀ L s.heap m) (N : News h₀ L s.heap news) (hlo : (l, lo) ∈ news) (hc : lo.cls = .type "list") (hd : lo.data = .seq xs.toArray n) (hn : lo.dict = none) (hz : rest.length ≤ 1000) (hx : xs.length = rest.length)
    (hP : ∀ (q : Nat) (p : List UInt8 × Value), rest[q]? = some p → ∃ a o tk c, xs[q]? = some (.ref a) ∧ (a, o) ∈ news ∧ o.cls = .type "tuple" ∧ o.data = .seq #[.bytes p.1.toArray tk, p.2] c)
    (h1 : rest.map (·.1) = rs.map u8) (h3 : ∀ l ∈ rs, ∀ q ∈ l, q < 256)
    (h : ∀ D h' tk o kvs, Fr h₀ L h' m → News h₀ L h' ((D, o) :: news) → o.IsDictOf (bytesKind prog w) kvs → kvs.length = (keysN [] rs).length → (D == sysModules) = false → Q (.ref D) { s with heap := h', toks := tk }) :
    wpAny (model prog w) A (call (.type "dict") [.ref l]) Q E s := by
  refine dict_pairs_K hh F N (N _ hlo).1 hc hd hn hz hx (fun q p hq => ?_) fun h' tk o F' N' hdo => h _ h' tk o _ F' N' hdo (putAll_len h1 h3) (F.notModules (modules_low hbig))
  obtain ⟨a, o, tk, c, g1, g2, g3, g4⟩ := hP q p hq
  exact ⟨a, o, tk, c, g1, (N _ g2).1, g3, g4⟩
end Mine
end

namespace Mine
theorem rsMu : True ∧ True := by
  w_top off
  k_with_none
  first | (walk1; fail) | exact ⟨trivial, trivial⟩
end Mine
section
open PySem PySem.W PySem.Spec PySem.Calls PyProof.Rows
set_option Elab.async false
set_option maxRecDepth 100000
namespace Mine
theorem Bt_rep (l : List Nat) (n : Nat) : ((List.replicate n (l.map UInt8.ofNat)).flatten).toArray = Bt ((List.replicate n l).flatten) := by
  simp only [Bt, List.map_flatten, List.map_replicate]
/-- a row told n times -/
theorem mul_Bt {prog : Program} {w : World} {A : Around} {E : Value → Shared → Prop} {s : Shared} {l : List Nat} {n : Int} {t u : Tok} {Q : Value → Shared → Prop} (h0 : 0 < l.length) (hl : l.length ≤ 16) (n0 : 0 ≤ n) (hn : n ≤ 1000)
    (h : ∀ t' k, Q (.bytes (Bt ((List.replicate n.toNat l).flatten)) t') { s with toks := k }) : wpAny (model prog w) A (binaryOp .Mult (.bytes (Bt l) t) (.int n u)) Q E s := by
  refine bytes_mul_any (b := l.map UInt8.ofNat) (fun e => by rw [List.map_eq_nil_iff] at e; subst e; exact absurd h0 (by decide)) (by omega) (by omega) (by rw [List.length_map]; exact hl) fun t' k => ?_
  rw [Bt_rep]
  exact h t' k
end Mine
end

namespace Mine
theorem rsPl1 : True ∧ True := by
  w_top off
  k_with_none
  first | (walk1; fail) | exact ⟨trivial, trivial⟩
end Mine
section
open PySem PySem.W PySem.Spec PySem.Calls PyProof.Rows
set_option Elab.async false
set_option maxRecDepth 100000
namespace Mine
/-- a row turned on by k places -/
def trn (l : List Nat) (k : Nat) : List Nat := l.drop k ++ l.take k
/-- what the law asks of a row -/
def okRow (l : List Nat) : Bool :=
  let r := rootN l
  decide (0 < r) && decide (r ≤ l.length) && l.length % r == 0 && l == (List.replicate (l.length / r) (l.take r)).flatten &&
  (List.range (l.length + 1)).all (fun k => (trn l k == l) == (k % r == 0)) &&
  (keysN [] ((List.range l.length).map (trn l))).length == r && rootN (l.take r) == r &&
  (let o := (List.replicate 3 (l.take r)).flatten; l ++ o == o ++ l && rootN o == r) && rootN l.reverse == r
/-- turned on twice -/
theorem trn_trn {l : List Nat} {a b : Nat} (ha : a < l.length) (hb : b < l.length) : trn (trn l a) b = trn l ((a + b) % l.length) := by
  unfold trn
  have hd : (l.drop a).length = l.length - a := List.length_drop ..
  rcases Nat.lt_trichotomy (a + b) l.length with h | h | h
  · rw [Nat.mod_eq_of_lt h, List.drop_append_of_le_length (by omega), List.take_append_of_le_length (by omega), List.drop_drop, List.append_assoc, ← List.take_add]
  · have e : (l.drop a).drop b = [] := List.drop_of_length_le (by omega)
    rw [h, Nat.mod_self, List.drop_append_of_le_length (by omega), List.take_append_of_le_length (by omega), e, List.take_of_length_le (by omega : (l.drop a).length ≤ b)]
    simp
  · obtain ⟨c, rfl⟩ : ∃ c, b = (l.length - a) + c := ⟨b - (l.length - a), by omega⟩
    have e : (a + (l.length - a + c)) % l.length = c := by
      rw [show a + (l.length - a + c) = l.length + c by omega, Nat.add_mod_left, Nat.mod_eq_of_lt (by omega)]
    rw [e, ← hd, List.drop_length_add_append, List.take_length_add_append, List.take_take, Nat.min_eq_left (by omega), ← List.append_assoc]
    congr 1
    rw [← List.drop_append_of_le_length (by rw [List.length_take]; omega), List.take_append_drop]
/-- the parts of n octets -/
def partsOf : Nat → List (List Nat)
  | 0 => [[]]
  | n + 1 => (partsOf n).flatMap fun l => [0 :: l, 1 :: l, 2 :: l]
theorem parts_mem : ∀ (l : List Nat), (∀ q ∈ l, q < 3) → l ∈ partsOf l.length
  | [], _ => List.mem_singleton.mpr rfl
  | q :: r, h => by
    have h1 := parts_mem r fun x hx => h x (.tail _ hx)
    have h2 := h q (.head _)
    refine List.mem_flatMap.mpr ⟨r, h1, ?_⟩
    have : q = 0 ∨ q = 1 ∨ q = 2 := by omega
    rcases this with rfl | rfl | rfl <;> simp
theorem ok_one : ∀ n ∈ [1, 2], ∀ l ∈ partsOf n, okRow l = true ∧ okRow (l ++ l) = true := by decide +kernel
theorem ok_three : ∀ l ∈ partsOf 3, okRow l = true ∧ okRow (l ++ l) = true := by decide +kernel
theorem ok_00 : ∀ x ∈ partsOf 2, okRow (0 :: 0 :: x) = true ∧ okRow ((0 :: 0 :: x) ++ (0 :: 0 :: x)) = true := by decide +kernel
theorem ok_01 : ∀ x ∈ partsOf 2, okRow (0 :: 1 :: x) = true ∧ okRow ((0 :: 1 :: x) ++ (0 :: 1 :: x)) = true := by decide +kernel
theorem ok_02 : ∀ x ∈ partsOf 2, okRow (0 :: 2 :: x) = true ∧ okRow ((0 :: 2 :: x) ++ (0 :: 2 :: x)) = true := by decide +kernel
theorem ok_10 : ∀ x ∈ partsOf 2, okRow (1 :: 0 :: x) = true ∧ okRow ((1 :: 0 :: x) ++ (1 :: 0 :: x)) = true := by decide +kernel
theorem ok_11 : ∀ x ∈ partsOf 2, okRow (1 :: 1 :: x) = true ∧ okRow ((1 :: 1 :: x) ++ (1 :: 1 :: x)) = true := by decide +kernel
theorem ok_12 : ∀ x ∈ partsOf 2, okRow (1 :: 2 :: x) = true ∧ okRow ((1 :: 2 :: x) ++ (1 :: 2 :: x)) = true := by decide +kernel
theorem ok_20 : ∀ x ∈ partsOf 2, okRow (2 :: 0 :: x) = true ∧ okRow ((2 :: 0 :: x) ++ (2 :: 0 :: x)) = true := by decide +kernel
theorem ok_21 : ∀ x ∈ partsOf 2, okRow (2 :: 1 :: x) = true ∧ okRow ((2 :: 1 :: x) ++ (2 :: 1 :: x)) = true := by decide +kernel
theorem ok_22 : ∀ x ∈ partsOf 2, okRow (2 :: 2 :: x) = true ∧ okRow ((2 :: 2 :: x) ++ (2 :: 2 :: x)) = true := by decide +kernel
theorem ok_four : ∀ l : List Nat, l.length = 4 → (∀ q ∈ l, q < 3) → okRow l = true ∧ okRow (l ++ l) = true
  | a :: b :: x, hl, h => by
    have hm := parts_mem x fun q hq => h q (.tail _ (.tail _ hq))
    rw [show x.length = 2 by simpa using hl] at hm
    have ha := h a (.head _)
    have hb := h b (.tail _ (.head _))
    have ea : a = 0 ∨ a = 1 ∨ a = 2 := by omega
    have eb : b = 0 ∨ b = 1 ∨ b = 2 := by omega
    rcases ea with rfl | rfl | rfl <;> rcases eb with rfl | rfl | rfl
    · exact ok_00 x hm
    · exact ok_01 x hm
    · exact ok_02 x hm
    · exact ok_10 x hm
    · exact ok_11 x hm
    · exact ok_12 x hm
    · exact ok_20 x hm
    · exact ok_21 x hm
    · exact ok_22 x hm
end Mine
end

namespace Mine
theorem rsTu : True ∧ True := by
  w_top off
  k_with_none
  first | (walk1; fail) | exact ⟨trivial, trivial⟩
end Mine
section
open PySem PySem.W PySem.Spec PySem.Calls PyProof.Rows
set_option Elab.async false
set_option maxRecDepth 100000
namespace Mine
section
variable {M : Model} {A : Around} {E : Value → Shared → Prop} {s : Shared} {env : Env}
/-- a tuple, its items reckoned in wpN -/
theorem wpN_Tuple {elts : List Expr} {k : Nat} {pos : Pos} {Q : Value → Shared → Prop}
    (h : wpN M A (spliced (backTo pos (starEach elts env))) (fun vs s₁ => wpAny M A (newTuple vs) Q E s₁) E s) : wpN M A (eval (.Tuple elts k pos) env) Q E s := by
  rw [arm_eval_Tuple]
  exact wpN_standAt (wpN_bind (wpN_mono h (fun _ _ h₁ => wpN_of_any h₁) fun _ _ x => x))
/-- a tuple's names stored, the value reckoned in wpN -/
theorem wpN_Assign_Tuple {elts : List Expr} {k : Nat} {tpos pos : Pos} {value : Expr} {Q : Flow → Shared → Prop}
    (h : wpN M A (eval value env) (fun v s₁ => wpAny M A (assign (.Tuple elts k tpos) env v) (fun _ => Q .next) E s₁) E s)
    (hs : swapsWithSole [.Tuple elts k tpos] value pos.line env = pure false := by rfl)
    (hw : swappedStores [.Tuple elts k tpos] value env = pure none := by rfl) :
    wpN M A (exec (.Assign [.Tuple elts k tpos] value pos) env) Q E s := by
  rw [PyProof.Rows.exec_Assign]
  refine wpN_standAt ?_
  refine wpN_eq_bind (a := false) hs ?_
  refine wpN_ff rfl ?_
  refine wpN_bind (wpN_mono h (fun v s₁ h₁ => ?_) fun _ _ x => x)
  refine wpN_eq_bind hw ?_
  refine wpN_of_any ?_
  show wpAny M A (do assignAll v [assign (.Tuple elts k tpos) env]; pure .next) Q E s₁
  exact wpAny_bind (wpAny_mono h₁ (fun _ _ x => wpAny_pure x) fun _ _ x => x)
end
end Mine
end

namespace Mine
theorem rsLB : True ∧ True := by
  w_top off
  k_with_none
  first | (walk1; fail) | exact ⟨trivial, trivial⟩
end Mine
section
open PySem PySem.W PySem.Spec PySem.Calls PyProof.Rows
set_option Elab.async false
set_option maxRecDepth 100000
namespace Mine
theorem bytes_len_slot : typeLookup (.type "bytes") "__len__" = pure (some (.builtin "bytes.__len__")) := by rw [typeLookup_type, builtinLookup_eq_fast]; kernel_rfl
/-- the list of a row of bytes -/
theorem list_Bt {prog : Program} {w : World} {A : Around} {E : Value → Shared → Prop} {s : Shared} {h₀ : Heap} {L : Addr} {m : Str → Option Value} {news : List (Addr × Obj)} {l : List Nat} {t : Tok} {Q : Value → Shared → Prop}
    (hh : A.handled = none) (Fm : Fr h₀ L s.heap m) (N : News h₀ L s.heap news) (hb : ∀ k ∈ l, k < 256) (hz : l.length ≤ 1000)
    (h : ∀ D us c h' tk, Fr h₀ L h' m → News h₀ L h' ((D, W.listOf (List.toArray us) c) :: news) → IntsAre us (zs l) → Q (.ref D) { s with heap := h', toks := tk }) :
    wpAny (model prog w) A (call (.type "list") [.bytes (Bt l) t]) Q E s := by
  refine callType_codes (Q₁ := fun obj s₁ => obj = .ref s.heap.objs.size ∧ s₁ = { s with heap := s.heap.push { cls := .type "list", data := .seq #[] } }) F.called_list (F.typeCall_list_1 _) F.entry_list_init (code_list_new _ ⟨rfl, rfl⟩) ?_
  rintro obj s₁ ⟨rfl, rfl⟩
  obtain ⟨h1, eh⟩ : ∃ h1, h1 = s.heap.push { cls := .type "list", data := .seq #[] } := ⟨_, rfl⟩
  rw [← eh]
  have hS : h1.get? s.heap.objs.size = some { cls := .type "list", data := .seq #[] } := by rw [eh]; exact Heap.get?_push_size _ rfl
  have k1 : ∀ b o, s.heap.get? b = some o → h1.get? b = some o := fun b o e => by rw [eh]; exact Heap.get?_push_of_some _ e
  have hne : ∀ b o, s.heap.get? b = some o → b ≠ s.heap.objs.size := fun b o e => Nat.ne_of_lt (Heap.lt_size e)
  have hnew := fun (h' : Heap) (k : ∀ b o, s.heap.get? b = some o → h'.get? b = some o) (o : Obj) (e : h'.get? s.heap.objs.size = some o) => news_grow Fm N k e
  clear eh
  generalize s.heap.objs.size = S at hS hne hnew ⊢
  refine ⟨⟨_, hS, rfl⟩, F.args_list_init_2 _ _, ?_⟩
  show wpAny _ _ (do let old ← Builtin.List.listItems (.ref S); Builtin.List.listUpdate (.ref S) (fun _ => #[]); letGo old.toList.reverse; Builtin.List.listExtendWith (.ref S) (.bytes (Bt l) t) .none) _ _ _
  refine wpAny_bind ?_
  unfold Builtin.List.listItems
  refine wpAny_bind (wpAny_seqItems hS rfl (wpAny_pure ?_))
  show wpAny _ _ (updateSeq S (fun _ => #[]) >>= fun _ => letGo (#[] : Array Value).toList.reverse >>= fun _ => Builtin.List.listExtendWith (.ref S) (.bytes (Bt l) t) .none) _ _ _
  refine wpAny_bind (wpAny_updateSeq hS rfl ?_)
  have hS2 := Heap.get?_update_self (Obj.mapSeq (fun _ => (#[] : Array Value))) hS rfl
  have k2 : ∀ b o, s.heap.get? b = some o → (h1.update S (Obj.mapSeq (fun _ => (#[] : Array Value)))).get? b = some o := fun b o e => (Heap.get?_update_other _ _ (Ne.symm (hne b o e))).trans (k1 b o e)
  generalize h1.update S (Obj.mapSeq (fun _ => (#[] : Array Value))) = h2 at hS2 k2 ⊢
  refine wpAny_bind (wpAny_letGo ?_)
  unfold Builtin.List.listExtendWith
  refine wpAny_bind (wpAny_typeOf (T := "bytes") (v := .bytes (Bt l) t) rfl ?_)
  have e1 : Builtin.List.listSameRef (.ref S) (.bytes (Bt l) t) = false := rfl
  have e2 : (Value.type "bytes" == Value.type "list") = false := by decide
  have e3 : (Value.type "bytes" == Value.type "tuple") = false := by decide
  simp only [e1, e2, e3, Bool.or_false, Bool.false_eq_true, if_false]
  refine wpAny_bind (KBw.pyIter_bytes ?_)
  refine wpAny_bind (wpAny_holding ?_)
  unfold Builtin.List.listLengthHint
  refine wpAny_bind (wpAny_specialOf (T := "bytes") (v := .bytes (Bt l) t) rfl bytes_len_slot ?_)
  wp_delta
  refine wpAny_bind (wpAny_isInstance (T := "bytes") (v := .bytes (Bt l) t) (b := true) rfl (by rw [isSubtype_type]; kernel_rfl) ?_)
  show wpAny _ _ (typeOf (Value.bytes (Bt l) t) >>= _) _ _ _
  refine wpAny_bind (wpAny_typeOf (T := "bytes") (v := .bytes (Bt l) t) rfl ?_)
  refine wpAny_pure ?_
  rw [if_neg (by decide)]
  have hSI : S ≠ h2.objs.size := Nat.ne_of_lt (Heap.lt_size hS2)
  refine wpAny_pure ⟨plainId_quiet F.plain_extend_loop _, codeAny_extend_loopS (KBw.walks (A := A.in1.in1) hh h2.objs.size (Bt l) t).toS (by rw [Bt_size, sizeLine_eq]; omega) S (fun hm => hSI (List.mem_singleton.mp hm)) _ (Bt l).size 0 _ _ _ rfl (Nat.zero_le _) ⟨_, Heap.get?_push_size _ rfl, rfl, rfl⟩ (Heap.get?_push_of_some _ hS2) (ItemsOf.nil _) fun s' acc c hm hS' hacc => ?_⟩
  have k3 : ∀ b o, s.heap.get? b = some o → s'.heap.get? b = some o := fun b o e => hm.heap b o (fun hmem => by
    rcases List.mem_cons.mp hmem with e' | hmem
    · exact hne b o e e'
    · exact absurd (Heap.lt_size (k2 b o e)) (by rw [List.mem_singleton.mp hmem]; exact Nat.lt_irrefl _)) (Heap.get?_push_of_some _ (k2 b o e))
  rw [Moved.eq_with hm]
  refine ⟨rfl, h S acc.toList c s'.heap s'.toks (Fm.keeps k3) ?_ (ints_of_rel ?_ fun i y hy => ?_)⟩
  · rw [Array.toArray_toList]
    exact hnew s'.heap k3 _ hS'
  · rw [Array.length_toList, hacc.1, Bt_size, zs_len]
  · obtain ⟨b, u, hbi, rfl⟩ := hacc.2 i y (by rw [← Array.getElem?_toList]; exact hy)
    obtain ⟨q, hq, rfl⟩ := Bt_get hbi
    refine ⟨u, ?_⟩
    rw [ofNat_toNat (hb q (List.mem_of_getElem? hq)), zs_getD, List.getD_eq_getElem?_getD, hq]
    rfl
end Mine
end

namespace Mine
theorem rsBs : True ∧ True := by
  w_top off
  k_with_none
  first | (walk1; fail) | exact ⟨trivial, trivial⟩
end Mine
section
open PySem PySem.W PyProof.Rows
set_option Elab.async false
set_option maxRecDepth 100000
set_option maxHeartbeats 8000000
namespace Mine
abbrev NClaim (prog : Program) (w : World) (K : Frag) (p : Program) (loose : List Str) (mean : ExcName → Option Value) (mg mb : Str → Option Value) (f : Addr) (news : List (Addr × Obj)) (pre : Prop) (vs : List Value) (R : Tok → Value) : Prop :=
  ∀ (dp un : Nat) (gd : Option (List Code)) (cn : Str) (cs : Scope) (a : Addr) (ccd : Value) (cl : List (Str × Addr)) (outer : List Env) (A₀ : Around) (base h₀ : Heap) (L : Addr) (m : Str → Option Value) (s : Shared) (Q E : Value → Shared → Prop),
    Below A₀ base outer h₀ → Fr h₀ L s.heap m → K.In h₀ → News h₀ L s.heap news → Top p loose mean mg mb h₀ → cs.kind = .function →
    (pre → dp + 1 < recursionLimit → un + 8 < cLine → CbRet h₀ L m news s Q R →
      wpN (model prog w) (ktrTop dp un gd cn cs L a ccd cl outer) (call (.ref f) vs) Q E s)
theorem bs (w : World) (p : Program) (loose : List Str) (mean : ExcName → Option Value) (mg mb : Str → Option Value) (news : List (Addr × Obj)) (b : Array UInt8) (tb : Tok) (n : Int) (tn : Tok) (hn : n = b.size) (h0 : 0 < n) (h1 : n ≤ 1000) :
   NClaim (PySem.Challenge.rw_gh0004_01.row.prog) w (hd.heap_39 w.params) p loose mean mg mb 21 news True [.bytes b tb, .int n tn] (fun t => .bytes b.reverse t) := by
  k_fill
  dsimp only [NClaim, CbRet]; intros; rename_i hret
  refine wpN_call ?_
  k_dflt (refine' enterN ?k1 ?k2 ?k3 ?k4 ?k5 ?kA ?kF ?kK ?k6 ?k7 ?k8 ?k9 ?kB ?_ ?c2 ?c3 ?c4 ?c5; (case kA => exact rfl); (case kF => exact rfl); (case kK => assumption); (case k1 => k_asm); (case k2 => k_asm); (case k3 => k_asm); (case k4 => k_asm); (case k5 => k_asm); (case k6 => k_is); (case k7 => k_is); (case k8 => ktr_room); (case k9 => exact BindsTo.of_eq rfl); (case c5 => decide); (case kB => exact locs rfl); (case c2 => exact rfl); (case c3 => exact rfl); (case c4 => exact rfl); k_whole)
  intro g' L' h' FG' F' N' B' X' T'
  replace F' : Fr g' L' h' (fun y => [(Str.ofString "width", Value.int n tn), (Str.ofString "data", Value.bytes b tb)].lookup y) := F'
  (try dsimp only); (try k_lift B'); (try k_fold)
  subst hn
  refine wpN_execs_cons (wpN_Assign_Name (wpN_CallName ?_))
  k_steps
  refine wpN_call_type (wpN_args_cons (wpN_of_any ?_))
  k_steps
  refine wpN_args_nil ?_
  refine call_ba_K (by assumption) (by assumption) ?_ ?_ fun D' h' F' N' l1 => ?_
  omega
  omega
  k_steps
  refine wpN_of_any ?_
  k_steps
  refine iter_rangeK (n := 1) [Str.ofString "j"] (fun i nx => nx = (D', baObj (if i = 0 then Array.replicate b.size 0 else b.reverse)) :: news) rfl (by assumption) ?_ ?_ (by assumption) (by assumption) rfl ?_ ?_
  case refine_1 => exact small_step (by omega) (by omega)
  case refine_2 => exact size_step (by omega)
  case refine_3 =>
    rintro i k t u nx h tk own0 hi hk ha hoff0 rfl F₁ N₁
    obtain rfl : i = 0 := by omega
    have hk0 : k = 0 := by simpa using hk
    subst hk0
    simp only [if_true, List.cons_append] at N₁
    replace F₁ : Fr g' L' h _ := F₁
    replace N₁ : News g' L' h _ := N₁
    k_sweep
    show wpAny _ _ _ _ _ _
    k_fold
    k_steps
    refine iter_rangeK (n := b.size) [] (fun i nx => ∃ x : Array UInt8, x = revP b i ∧ nx = (D', baObj x) :: (news ++ own0)) rfl (by assumption) ?_ ?_ (by assumption) (by assumption) ⟨_, rfl, rfl⟩ ?_ ?_
    case refine_1 => exact small_one (by omega) (by omega) (by omega) (by omega)
    case refine_2 => rw [rangeSize_one]; split <;> omega
    case refine_3 =>
      rintro i k t u nx h tk own hi hk ha hoff ⟨x, hx, rfl⟩ F₁ N₁
      simp only [Int.zero_add, Int.mul_one] at hk
      subst hk
      simp only [List.cons_append] at N₁
      replace F₁ : Fr g' L' h _ := F₁
      replace N₁ : News g' L' h _ := N₁
      k_sweep
      show wpAny _ _ _ _ _ _
      k_fold
      k_steps
      refine item_bytes ?_ ?_ ?_ ?_
      case refine_1 => omega
      case refine_2 => omega
      case refine_3 => omega
      dsimp only
      k_steps
      refine setItem_ba_K F₁ N₁ ?_ ?_ ?_ ?_ ?_ ?_ fun h2 F2 N2 => ?_
      case refine_1 =>
        intro q hq
        rcases List.mem_append.mp hq with hq | hq
        · rcases List.mem_append.mp hq with hq | hq
          · exact Nat.ne_of_lt (l1 q hq)
          · exact hoff0 q hq _ (.head _)
        · exact hoff q hq _ (.head _)
      case refine_2 => omega
      case refine_3 => rw [hx, revP_size]; omega
      case refine_4 => rw [hx, revP_size]; omega
      case refine_5 => omega
      case refine_6 =>
        have := (b.getD (0 + (i:Int)).toNat 0).toNat_lt
        omega
      dsimp only
      k_steps
      refine InvEndN.intro (nx := (D', baObj (x.setIfInBounds (0 + ↑b.size - 1 - ↑i : Int).toNat ((b.getD (0 + ↑i : Int).toNat 0).toNat : Int).toNat.toUInt8)) :: (news ++ own0)) F2 N2 ⟨fun z h1 h2 => by simp [h1], _, ?_, rfl⟩ rfl (fun q hq => ?_) (fun q hq => List.mem_cons_of_mem _ (List.mem_append_right _ hq))
      · subst hx
        have e1 : (0 + (b.size : Int) - 1 - (i : Int)).toNat = b.size - 1 - i := by omega
        have e2 : (0 + (i : Int)).toNat = i := by omega
        rw [e1, e2]
        simp [revP]
      · rcases List.mem_cons.mp hq with rfl | hq
        · exact .head _
        · exact .tail _ (List.mem_append_left _ hq)
    case refine_4 =>
      rintro u nx h tk ⟨x, rfl, rfl⟩ F₁ N₁
      rw [revP_all] at N₁
      replace F₁ : Fr g' L' h _ := F₁
      replace N₁ : News g' L' h _ := N₁
      k_sweep
      k_steps
      refine InvEndN.intro F₁ N₁ ⟨fun z h1 h2 => ?_, rfl⟩ rfl (fun q hq => ?_) (fun q hq => List.mem_cons_of_mem _ (List.mem_append_right _ hq))
      · have hz : z ≠ Str.ofString "j" := fun e => by
          rw [e] at h2
          exact absurd h2 (by decide)
        show (if z = _ then _ else if _ then _ else if z = _ then _ else if _ then _ else _) = _
        rw [if_neg hz, if_neg (by simp), if_neg h1, if_neg (by rw [h2]; simp)]
      rcases List.mem_cons.mp hq with rfl | hq
      · exact .head _
      · exact .tail _ (List.mem_append_left _ hq)
  case refine_4 =>
    rintro u nx h tk rfl F₁ N₁
    simp only [Nat.one_ne_zero, if_false] at N₁
    replace F₁ : Fr g' L' h _ := F₁
    replace N₁ : News g' L' h _ := N₁
    k_sweep
    dsimp only
    k_steps
    refine call_bytes_ba (News.get N₁ (.head _)) ?_ ?_
    case refine_1 => rw [Array.size_reverse]; omega
    k_steps
    exact hret _ _ _ (by assumption) fun q hq => (by assumption : News _ _ _ (_ :: news)) q (.tail _ hq)
end Mine
end

open PySem PySem.W PySem.Spec PySem.Calls PyProof.Rows
namespace Mine
local macro_rules | `(tactic| walk_at $s:str) => `(tactic| k_extra $s)

local macro_rules | `(tactic| walk_at "eval Name") => `(tactic| (k_here; k_dflt (first
  | (refine' nameX_L ?F ?v ?_ ?a ?b; (case a => rfl); (case b => rfl); (case F => k_asm); (case v => rfl); k_whole)
  | (refine' nameX_F ?N ?c ?m ?d ?_ ?a ?b; (case a => rfl); (case b => rfl); (case N => k_asm); (case c => rfl); (case m => k_mem); (case d => k_asm); k_whole)
  | (refine' nameX_C ?N ?c ?m ?d ?_ ?a ?b; (case a => rfl); (case b => rfl); (case N => k_asm); (case c => rfl); (case m => k_mem); (case d => k_asm); k_whole))))
theorem rsDc : True ∧ True := by
  w_top off
  k_with_none
  first | (walk1; fail) | exact ⟨trivial, trivial⟩
section
open PySem PySem.W PyProof.Rows
set_option Elab.async false
set_option maxRecDepth 100000
set_option maxHeartbeats 4000000
abbrev PRG : Program := PySem.Challenge.rw_gh0004_01.row.prog
abbrev inI : Stmt := innerS "_int2digits" PRG
abbrev fnI (q : Str) (cA cI cN : Addr) (doc pm : Value) (c' : Addr) (ctv : Value) : Obj := fnMade (Str.ofString "inner") q (parsOf inI) (bodyOf inI) (scopeOf inI) [(Str.ofString "n", cN), (Str.ofString "inner", cI), (Str.ofString "a_digits", cA)] doc pm c' ctv
local macro_rules | `(tactic| k_all) => `(tactic| (intro q hq; (have hq1 := (by assumption : ∀ p ∈ _, p.1 ≠ _) q hq; exact hq1)))
theorem inn (w : World) (p : Program) (loose : List Str) (mean : ExcName → Option Value) (mg mb : Str → Option Value) (news : List (Addr × Obj)) (f c' cA cI cN D : Addr) (q : Str) (doc pm ctv : Value) (oc oA oI oN : Obj) (ocv : Array Value) (tq tn : Tok) (n : Nat) (k : Nat)
    (h1 : oc.data = .fields ocv) (h2 : ocv[1]? = some (.str q tq)) (h3 : oA.data = .cell (some (.ref D))) (h4 : oI.data = .cell (some (.ref f))) (h5 : oN.data = .cell (some (.int n tn)))
    (h6 : ∀ p ∈ news, p.1 ≠ D) (h7 : @Ne Nat cA D ∧ @Ne Nat cI D ∧ @Ne Nat cN D ∧ @Ne Nat c' D ∧ @Ne Nat f D) (hn : 1 ≤ n) (hn1 : n < 50) : ∀ (len : Nat) (x lo hi : Int) (tx tl th : Tok) (vs : List Value) (ns : List Int), 1 ≤ len → 0 ≤ lo → hi = lo + len → hi ≤ ns.length → ns.length < 100 → 0 ≤ x → x < 2 ^ (n * len) → x < 2 ^ 30 → IntsAre vs ns →
   Cl PySem.Challenge.rw_gh0004_01.row.prog w (hd.heap_39 w.params) p loose mean mg mb f ((f, fnI q cA cI cN doc pm c' ctv) :: (c', oc) :: (cI, oI) :: (cA, oA) :: (cN, oN) :: (D, listOf vs.toArray k) :: news) (len + 1) (8 * (len + 1)) [.int x tx, .int lo tl, .int hi th]
     (fun r T' => ∃ ds vs', ds.length = len ∧ (∀ d ∈ ds, 0 ≤ d ∧ d < 2 ^ n) ∧ val (2 ^ n) ds = x ∧ IntsAre vs' (ns.take lo.toNat ++ ds ++ ns.drop hi.toNat) ∧ r = .none ∧ T' = ((f, fnI q cA cI cN doc pm c' ctv) :: (c', oc) :: (cI, oI) :: (cA, oA) :: (cN, oN) :: (D, listOf vs'.toArray k) :: news)) := by
  k_fill
  unfold fnI
  obtain ⟨B, hB⟩ : ∃ B, B = bodyOf inI := ⟨_, rfl⟩
  obtain ⟨PA, hP⟩ : ∃ B, B = parsOf inI := ⟨_, rfl⟩
  obtain ⟨SC, hS⟩ : ∃ B, B = scopeOf inI := ⟨_, rfl⟩
  rw [← hB, ← hP, ← hS]
  conv at hB => rhs; whnf
  conv at hP => rhs; whnf
  conv at hS => rhs; whnf
  subst hB; subst hP; subst hS
  intro len
  induction len using Nat.strongRecOn with
  | _ len IH =>
  intro x lo hi tx tl th vs ns hl hlo hhi hle hns hx hx1 hx2 hI
  subst hhi
  dsimp only [Cl]; intros; rename_i hret
  refine wpAny_call ?_
  refine' code_nest ?k1 ?k2 ?k3 ?k4 ?k5 ?kA ?kF ?kK ?k6 ?k7 ?k8 ?k9 ?kB ?_ ?c2 ?c3 ?c4 ?c5
  case kA => exact rfl
  case kF => exact rfl
  case kK => assumption
  case k1 => k_asm
  case k2 => k_asm
  case k3 => k_asm
  case k4 => k_asm
  case k5 => k_asm
  case k6 => k_mem
  case k7 => exact codeRec_news (by k_asm) (by k_mem) (by assumption) (by assumption)
  case k8 => ktr_room
  case k9 => exact BindsTo.of_eq rfl
  case c5 => decide
  case kB => exact locs rfl
  case c2 => exact rfl
  case c3 => exact rfl
  case c4 => exact rfl
  k_whole
  intro g' L' h' FG' F' N' B' X' T'
  replace F' : Fr g' L' h' (fun y => [(Str.ofString "R", Value.int (lo + len) th), (Str.ofString "L", Value.int lo tl), (Str.ofString "x", Value.int x tx)].lookup y) := F'
  have hcd := codeHd_of_K (c := 41) (P := 37) (by assumption : (hd.heap_39 w.params).In g') (by kernel_rfl)
  (try dsimp only)
  (try k_lift B')
  (try k_fold)
  by_cases hl1 : len = 1
  · have hc : lo + 1 = lo + (len : Int) := by omega
    clear IH
    k_steps
    rotate_left
    all_goals try (exact absurd hc (by assumption))
    refine hret _ _ _ _ (by assumption) (by assumption) ⟨[x], _, by rw [hl1]; rfl, ?_, by simp [val], ?_, rfl, rfl⟩
    · intro d hd
      obtain rfl := List.mem_singleton.mp hd
      rw [hl1, Nat.mul_one] at hx1
      exact ⟨hx, hx1⟩
    · have e : ns.take lo.toNat ++ [x] ++ ns.drop (lo + (len : Int)).toNat = ns.set lo.toNat x := by
        rw [List.set_eq_take_append_cons_drop, if_pos (by omega), show (lo + (len : Int)).toNat = lo.toNat + 1 by omega, List.append_assoc]
        rfl
      rw [e]
      assumption
  · have hc : lo + 1 ≠ lo + (len : Int) := by omega
    obtain ⟨l1, el⟩ : ∃ l1, l1 = len / 2 := ⟨_, rfl⟩
    have e2 : (2 ^ Int.toNat 1 : Int) = 2 := by decide
    have eM : (lo + (lo + (len : Int))).fdiv (2 ^ Int.toNat 1) = lo + l1 := by
      rw [e2, Int.fdiv_eq_ediv_of_nonneg _ (by decide)]
      omega
    have eS : ((lo + (lo + (len : Int))).fdiv (2 ^ Int.toNat 1) - lo) * (n : Int) = ((n * l1 : Nat) : Int) := by
      rw [eM, Int.natCast_mul, Int.mul_comm]
      congr 1
      omega
    have hb : n * l1 ≤ 50 * 100 := Nat.mul_le_mul (by omega) (by omega)
    have hS0 : 0 ≤ ((lo + (lo + (len : Int))).fdiv (2 ^ Int.toNat 1) - lo) * (n : Int) := by rw [eS]; omega
    have hS1 : ((lo + (lo + (len : Int))).fdiv (2 ^ Int.toNat 1) - lo) * (n : Int) ≤ 1000000 := by rw [eS]; omega
    have pp : (0 : Int) < 2 ^ (n * l1) := Int.pow_pos (by decide)
    have eU : x.fdiv (2 ^ (((lo + (lo + (len : Int))).fdiv (2 ^ Int.toNat 1) - lo) * (n : Int)).toNat) = x / 2 ^ (n * l1) := by
      rw [eS, Int.toNat_natCast, Int.fdiv_eq_ediv_of_nonneg _ (Int.le_of_lt pp)]
    have hU0 : 0 ≤ x.fdiv (2 ^ (((lo + (lo + (len : Int))).fdiv (2 ^ Int.toNat 1) - lo) * (n : Int)).toNat) := by
      rw [eU]; exact Int.ediv_nonneg hx (Int.le_of_lt pp)
    have hUx : x / 2 ^ (n * l1) ≤ x := Int.ediv_le_self _ hx
    have hU1 : (x.fdiv (2 ^ (((lo + (lo + (len : Int))).fdiv (2 ^ Int.toNat 1) - lo) * (n : Int)).toNat)).natAbs < 2 ^ 64 := by
      rw [eU] at hU0 ⊢; omega
    k_steps
    · exact absurd (by assumption) hc
    have eX : Builtin.bitXor x (x.fdiv (2 ^ (((lo + (lo + (len : Int))).fdiv (2 ^ Int.toNat 1) - lo) * (n : Int)).toNat) * 2 ^ (((lo + (lo + (len : Int))).fdiv (2 ^ Int.toNat 1) - lo) * (n : Int)).toNat) = x % 2 ^ (n * l1) := by
      rw [eU, eS, Int.toNat_natCast]
      exact xor_high x _ hx
    have hXx : x % 2 ^ (n * l1) ≤ x := by
      have := Int.emod_add_mul_ediv x (2 ^ (n * l1))
      have := Int.mul_nonneg (Int.le_of_lt pp) (Int.ediv_nonneg hx (Int.le_of_lt pp))
      omega
    have hX0 := Int.emod_nonneg x (Int.ne_of_gt pp)
    have hX1 := Int.emod_lt_of_pos x pp
    have eP : (2 : Int) ^ (n * len) = 2 ^ (n * l1) * 2 ^ (n * (len - l1)) := by
      rw [← Int.pow_add, ← Nat.mul_add, Nat.add_sub_of_le (by omega)]
    have hU2 : x / 2 ^ (n * l1) < 2 ^ (n * (len - l1)) := by
      refine Int.ediv_lt_of_lt_mul pp ?_
      rw [Int.mul_comm, ← eP]
      exact hx1
    refine' Cl.use (IH l1 ?ylt _ _ _ _ _ _ vs ns ?yp1 ?yp2 ?yp3 ?yp4 ?yp5 ?yp6 ?yp7 ?yp8 hI) ?yB ?yF ?yX ?yN ?ysub ?yT ?yk ?yd ?yu ?_
    case ylt => omega
    case yp1 => omega
    case yp2 => exact hlo
    case yp3 => exact eM
    case yp4 => rw [eM]; omega
    case yp5 => exact hns
    case yp6 => rw [eX]; exact hX0
    case yp7 => rw [eX]; exact hX1
    case yp8 => rw [eX]; omega
    case yB => k_asm
    case yF => k_asm
    case yX => k_asm
    case yN => k_asm
    case ysub => exact fun _ h => h
    case yT => k_asm
    case yk => rfl
    case yd => (dsimp only [ktrTop]; omega)
    case yu => (dsimp only [ktrTop]; omega)
    rintro r T2 h2 tk2 F2 N2 ⟨ds1, vs1, hd1, hb1, hv1, hI1, rfl, rfl⟩
    k_sweep
    rw [eX] at hv1
    have eL : (lo + (l1 : Int)).toNat = lo.toNat + l1 := by omega
    rw [eM, eL] at hI1
    have hln := seg_len ns ds1 lo.toNat (lo.toNat + l1) (by rw [hd1]) (by omega)
    dsimp only
    k_steps
    refine' Cl.use (IH (len - l1) ?zlt _ _ _ _ _ _ vs1 _ ?zp1 ?zp2 ?zp3 ?zp4 ?zp5 ?zp6 ?zp7 ?zp8 hI1) ?zB ?zF ?zX ?zN ?zsub ?zT ?zk ?zd ?zu ?_
    case zlt => omega
    case zp1 => omega
    case zp2 => rw [eM]; omega
    case zp3 => rw [eM]; omega
    case zp4 => rw [hln]; exact hle
    case zp5 => rw [hln]; exact hns
    case zp6 => exact hU0
    case zp7 => rw [eU]; exact hU2
    case zp8 => rw [eU]; omega
    case zB => k_asm
    case zF => k_asm
    case zX => k_asm
    case zN => k_asm
    case zsub => exact fun _ h => h
    case zT => k_asm
    case zk => rfl
    case zd => (dsimp only [ktrTop]; omega)
    case zu => (dsimp only [ktrTop]; omega)
    rintro r T3 h3 tk3 F3 N3 ⟨ds2, vs2, hd2, hb2, hv2, hI2, rfl, rfl⟩
    k_sweep
    rw [eU] at hv2
    have eH : (lo + (len : Int)).toNat = lo.toNat + len := by omega
    rw [eM, eL, eH, seg_two _ _ _ _ _ _ (by rw [hd1]) (by omega) (by omega)] at hI2
    dsimp only
    k_steps
    refine hret _ _ _ _ (by assumption) (by assumption) ⟨ds1 ++ ds2, vs2, ?_, ?_, ?_, ?_, rfl, rfl⟩
    · rw [List.length_append]; omega
    · intro d hd
      exact (List.mem_append.mp hd).elim (hb1 d) (hb2 d)
    · rw [val_append, hv1, hv2, hd1, ← Int.pow_mul]
      exact Int.emod_add_mul_ediv x _
    · rw [eH]; exact hI2
end

local macro_rules | `(tactic| k_all) => `(tactic| (intro q hq; (have hq1 := (by assumption : ∀ p ∈ _, @LT.lt Nat _ p.1 _) q hq; refine neN ?_; (try dsimp only); omega)))
theorem rsDi : True ∧ True := by
  w_top off
  k_with_none
  first | (walk1; fail) | exact ⟨trivial, trivial⟩
section
open PySem PySem.W PyProof.Rows
set_option Elab.async false
set_option maxRecDepth 100000
set_option maxHeartbeats 4000000
abbrev qI : Str := qualnameIn (envX (Str.ofString "_int2digits") (scopeOf (firstDef (Str.ofString "_int2digits") PRG.main.body)) 0 0 .none []) (Str.ofString "inner") (Str.ofString "inner")
theorem cdiv {b n : Nat} (hn : 1 ≤ n) (hb : b ≤ 30) : ∃ k : Nat, ((b : Int) + n - 1).fdiv n = k ∧ k ≤ 30 ∧ b ≤ n * k ∧ (b = 0 → k = 0) ∧ (0 < b → 1 ≤ k) := by
  refine ⟨(b + n - 1) / n, ?_, ?_, ?_, ?_, ?_⟩
  · rw [Int.fdiv_eq_ediv_of_nonneg _ (by omega), show ((b : Int) + n - 1) = ((b + n - 1 : Nat) : Int) by omega]
    rfl
  · refine Nat.lt_succ_iff.mp (Nat.div_lt_of_lt_mul ?_)
    have : n * 31 ≥ n + 30 := by omega
    omega
  · have h1 := Nat.div_add_mod (b + n - 1) n
    have h2 := Nat.mod_lt (b + n - 1) hn
    omega
  · rintro rfl
    exact Nat.div_eq_of_lt (by omega)
  · intro h
    exact Nat.div_pos (by omega) hn
theorem i2d (w : World) (p : Program) (loose : List Str) (mean : ExcName → Option Value) (mg mb : Str → Option Value) (T news : List (Addr × Obj)) (a : Int) (n : Nat) (ta tn : Tok) (ha0 : 0 ≤ a) (ha1 : a < 2 ^ 30) (hn : 1 ≤ n) (hn1 : n < 50) (hT : TabSt 37 (posOf inI) qI T) (hO : Off news T) :
   Cl PySem.Challenge.rw_gh0004_01.row.prog w (hd.heap_39 w.params) p loose mean mg mb 42 (T ++ news) 40 400 [.int a ta, .int n tn] (fun r T' => ∃ D vs cnt ds T1, r = .ref D ∧ T' = (D, listOf vs.toArray cnt) :: (T1 ++ news) ∧ IntsAre vs ds ∧ (∀ d ∈ ds, 0 ≤ d ∧ d < 2 ^ n) ∧ val (2 ^ n) ds = a ∧ ds.length ≤ 30 ∧ TabSt 37 (posOf inI) qI T1 ∧ Grown T (T ++ news) T1 ∧ (∀ q ∈ T ++ news, @LT.lt Nat _ q.1 D) ∧ (∀ q ∈ T1 ++ news, @Ne Nat q.1 D)) := by
  k_fill
  have hbits := bits_small ha0 ha1
  obtain ⟨k, ek, hk1, hk2, hk3, hk4⟩ := cdiv hn hbits
  dsimp only [Cl]
  intro dp un gd cn cs a0 ccd cl outer A₀ base h₀ L m s Q E hB hF hX hN hTp hkd hdp hun hret
  refine wpAny_call ?_
  refine' code_defC ?k1 ?k2 ?k3 ?k4 ?k5 ?kA ?kF ?kK ?k6 ?k7 ?k8 ?k9 ?kB ?kD ?_ ?c2 ?c3 ?c4
  case kA => exact rfl
  case kF => exact rfl
  case kK => assumption
  case k1 => k_asm
  case k2 => k_asm
  case k3 => k_asm
  case k4 => k_asm
  case k5 => k_asm
  case k6 => k_dflt k_is
  case k7 => k_dflt k_is
  case k8 => ktr_room
  case k9 => exact BindsTo.of_eq rfl
  case kB => exact rfl
  case kD => decide +kernel
  case c2 => exact rfl
  case c3 => exact rfl
  case c4 => exact rfl
  k_whole
  intro g' L' h' tk' cells' FG' F' N' Y' B' X' T' lT
  obtain ⟨o1, o2, o3, hE, d1, d2, d3⟩ := CellsAre.three Y'
  subst hE
  clear Y'
  simp only [List.cons_append, List.nil_append] at N'
  replace lT : ∀ q ∈ T ++ news, @LT.lt Nat _ q.1 L' := lT
  replace F' : Fr g' L' h' (fun y => if y = Str.ofString "a" then some (Value.int a ta) else none) := F'
  replace d1 : o1.data = .cell none := d1
  replace d2 : o2.data = .cell none := d2
  replace d3 : o3.data = .cell (some (.int n tn)) := d3
  have hcd := codeHd_of_K (c := 41) (P := 37) (by assumption : (hd.heap_39 w.params).In g') (by kernel_rfl)
  (try dsimp only)
  (try k_lift B')
  (try k_fold)
  have hf0 : 0 ≤ (((Builtin.Int.intBits a : Nat) : Int) + n - 1).fdiv n := by rw [ek]; omega
  have hf1 : (((Builtin.Int.intBits a : Nat) : Int) + n - 1).fdiv n ≤ 30 := by rw [ek]; omega
  k_steps
  rename_i l2 hh1 lL D' hh2 i1 n1 s1 e1 e2 e3 lD hx oA F1 N1 dA
  have lt1 : ∀ q ∈ T, @LT.lt Nat _ q.1 L' := fun q hq => lT q (List.mem_append_left _ hq)
  have ln1 : ∀ q ∈ news, @LT.lt Nat _ q.1 L' := fun q hq => lT q (List.mem_append_right _ hq)
  refine' nestDef_K ?wd ?wk ?wa ?_
  case wd => exact rfl
  case wk => exact rfl
  case wa => exact rfl
  refine nestE (T := T) (rest := [_, _, _, _, _] ++ news) F1 (fun q hq => N1 q (mem_swap hq)) hT ?_ (by assumption) hcd rfl rfl ?_
  · refine Off.cons ?_ (Off.cons ?_ (Off.cons ?_ (Off.cons ?_ (Off.cons ?_ hO)))) <;> (intro q hq; have h9 := lt1 q hq; refine neN ?_; dsimp only; omega)
  intro f c' oc ocv tq ctv doc T1 h2 tk2 eT hoc hocv F2 N2 hG hf hcf hRc
  subst eT
  simp only [List.cons_append, List.nil_append] at N2
  have f1 := hf _ (List.mem_append_right _ (.head _))
  have r1 := hRc _ (.head _)
  have r2 := hRc _ (.tail _ (.head _))
  have r3 := hRc _ (.tail _ (.tail _ (.head _)))
  have r4 := hRc _ (.tail _ (.tail _ (.tail _ (.head _))))
  have r5 := hRc _ (.tail _ (.tail _ (.tail _ (.tail _ (.head _)))))
  have p37 : @LT.lt Nat _ 37 L' := by
    rcases hT with rfl | ⟨c2, oc2, ocv2, tq2, rfl, _, _⟩
    · exact lt1 _ (.head _)
    · exact lt1 _ (.tail _ (.head _))
  dsimp only at f1 r1 r2 r3 r4 r5
  clear hf
  have fin : ∀ (vs : List Value) (ds : List Int) (h : Heap) (tk : Nat), Fr h₀ L h m → News h₀ L h ((D', listOf vs.toArray 0) :: ([(c', oc), (37, tabObj (#[] ++ #[rawInt (posOf inI).line, rawInt (posOf inI).col, .ref c']))] ++ news)) → IntsAre vs ds → (∀ d ∈ ds, 0 ≤ d ∧ d < 2 ^ n) → val (2 ^ n) ds = a → ds.length ≤ 30 → Q (.ref D') { s with heap := h, toks := tk } := fun vs ds h tk F N h1 h2 h3 h4 =>
    hret _ _ _ _ F N ⟨D', vs, 0, ds, _, rfl, rfl, h1, h2, h3, h4, .inr ⟨c', oc, ocv, tq, rfl, hoc, hocv⟩, fun q hq => (hG q hq).imp id fun k p hp => k p (by
        rcases List.mem_append.mp hp with hp | hp
        · exact List.mem_append_left _ hp
        · exact List.mem_append_right _ (List.mem_append_right _ hp)), fun q hq => by have := lT q hq; omega, fun q hq => by
        rcases List.mem_append.mp hq with hq | hq
        · rcases List.mem_cons.mp hq with rfl | hq
          · exact r1.symm
          · obtain rfl := List.mem_singleton.mp hq
            refine neN ?_
            dsimp only
            omega
        · have := ln1 q hq
          refine neN ?_
          omega⟩
  k_steps
  · rename (Obj.data _ = Data.cell (some (Value.ref f))) => dI
    refine' Cl.use (inn w p loose mean mg mb ((37, tabObj (#[] ++ #[rawInt (posOf inI).line, rawInt (posOf inI).col, .ref c'])) :: news) f c' (L' + 1 + 1) (L' + 1 + 1 + 1) (L' + 1) D' qI doc ((mg "__name__").getD .none) ctv oc oA _ o3 ocv tq tn n 0 hoc hocv dA dI d3 ?yO ?yD hn hn1 k _ _ _ _ _ _ _ _ ?p1 ?p2 ?p3 ?p4 ?p5 ?p6 ?p7 ?p8 i1) ?yB ?yF ?yX ?yN ?ysub ?yT ?yk ?yd ?yu ?_
    case yO => exact List.forall_mem_cons.mpr ⟨by refine neN ?_; dsimp only; omega, fun q hq => by have := ln1 q hq; refine neN ?_; omega⟩
    case yD => refine ⟨?_, ?_, ?_, r1.symm, ?_⟩ <;> (refine neN ?_; omega)
    case p1 =>
      refine hk4 ?_
      rcases Nat.eq_zero_or_pos (Builtin.Int.intBits a) with h | h
      · have := intBits_le_iff.mp (Nat.le_of_eq h)
        have h3 : a ≠ 0 := by assumption
        omega
      · exact h
    case p2 => exact Int.le_refl _
    case p3 => have := e3 hf0; omega
    case p4 => rw [e1]; exact Int.le_refl _
    case p5 => rw [e1]; have := e3 hf0; omega
    case p6 => exact ha0
    case p7 =>
      have h3 := intBits_le_iff.mp hk2
      have h4 : ((a.natAbs : Nat) : Int) < ((2 ^ (n * k) : Nat) : Int) := by exact_mod_cast h3
      rw [Int.natCast_pow] at h4
      have h5 : ((a.natAbs : Nat) : Int) = a := by omega
      rw [h5] at h4
      exact h4
    case p8 => exact ha1
    case yB => k_asm
    case yF => k_asm
    case yX => k_asm
    case yN => k_asm
    case ysub => repeat' (first | (refine List.forall_mem_cons.mpr ⟨?_, ?_⟩) | (k_dflt k_mem) | exact fun q hq => by (repeat (first | exact hq | refine List.Mem.tail _ ?_)))
    case yT => k_asm
    case yk => rfl
    case yd => (dsimp only [ktrTop]; omega)
    case yu => (dsimp only [ktrTop]; omega)
    rintro r T2 h3 tk3 F3 N3 ⟨ds, vs, hds, hdb, hdv, hI, rfl, rfl⟩
    k_sweep
    dsimp only
    k_steps
    refine fin vs ds _ _ (by assumption) (fun q hq => (by assumption : News h₀ L _ _) q ?_) ?_ hdb hdv (by omega)
    · revert q hq
      repeat' (first | (refine List.forall_mem_cons.mpr ⟨?_, ?_⟩) | (k_dflt k_mem) | exact fun q hq => by (repeat (first | exact hq | refine List.Mem.tail _ ?_)))
    · rw [List.drop_of_length_le (by rw [e1]; exact Nat.le_refl _), List.append_nil] at hI
      exact hI
  · have ha : a = 0 := by assumption
    have hk0 : k = 0 := hk3 (by rw [ha]; rfl)
    have hn0 := e3 hf0
    have hns := List.eq_nil_of_length_eq_zero (e1.trans (show n1 = 0 by omega))
    rw [hns] at i1
    refine fin _ [] _ _ (by assumption) (fun q hq => (by assumption : News h₀ L _ _) q ?_) i1 (fun _ h => nomatch h) ha.symm (by decide)
    revert q hq
    repeat' (first | (refine List.forall_mem_cons.mpr ⟨?_, ?_⟩) | (k_dflt k_mem) | exact fun q hq => by (repeat (first | exact hq | refine List.Mem.tail _ ?_)))
end

theorem rsDd : True ∧ True := by
  w_top off
  k_with_none
  first | (walk1; fail) | exact ⟨trivial, trivial⟩
section
open PySem PySem.W PyProof.Rows
set_option Elab.async false
set_option maxRecDepth 100000
set_option maxHeartbeats 4000000
local macro_rules | `(tactic| walk_at "binaryOp LShift int int") => `(tactic| (k_here; refine lshift_int (by with_reducible assumption) (by with_reducible assumption) ?_))
abbrev inD : Stmt := innerS "_digits2int" PRG
abbrev fnD (q : Str) (cG cI cN : Addr) (doc pm : Value) (c' : Addr) (ctv : Value) : Obj := fnMade (Str.ofString "inner") q (parsOf inD) (bodyOf inD) (scopeOf inD) [(Str.ofString "n", cN), (Str.ofString "inner", cI), (Str.ofString "digits", cG)] doc pm c' ctv
theorem ind (w : World) (p : Program) (loose : List Str) (mean : ExcName → Option Value) (mg mb : Str → Option Value) (news : List (Addr × Obj)) (f c' cG cI cN D : Addr) (q : Str) (doc pm ctv : Value) (oc oG oI oN : Obj) (ocv : Array Value) (tq tn : Tok) (n : Nat) (k : Nat)
    (h1 : oc.data = .fields ocv) (h2 : ocv[1]? = some (.str q tq)) (h3 : oG.data = .cell (some (.ref D))) (h4 : oI.data = .cell (some (.ref f))) (h5 : oN.data = .cell (some (.int n tn)))
    (vs : List Value) (ns : List Int) (hI : IntsAre vs ns) (hds : ∀ d ∈ ns, 0 ≤ d ∧ d < 2 ^ n) (hns : ns.length < 100) (hn : 1 ≤ n) (hn1 : n < 50) : ∀ (len : Nat) (lo hi : Int) (tl th : Tok), 1 ≤ len → 0 ≤ lo → hi = lo + len → hi ≤ ns.length →
   Cl PySem.Challenge.rw_gh0004_01.row.prog w (hd.heap_39 w.params) p loose mean mg mb f ((f, fnD q cG cI cN doc pm c' ctv) :: (c', oc) :: (cI, oI) :: (cG, oG) :: (cN, oN) :: (D, listOf vs.toArray k) :: news) (len + 1) (8 * (len + 1)) [.int lo tl, .int hi th]
     (fun r T' => ∃ t, r = .int (val (2 ^ n) ((ns.drop lo.toNat).take len)) t ∧ T' = ((f, fnD q cG cI cN doc pm c' ctv) :: (c', oc) :: (cI, oI) :: (cG, oG) :: (cN, oN) :: (D, listOf vs.toArray k) :: news)) := by
  k_fill
  unfold fnD
  obtain ⟨B, hB⟩ : ∃ B, B = bodyOf inD := ⟨_, rfl⟩
  obtain ⟨PA, hP⟩ : ∃ B, B = parsOf inD := ⟨_, rfl⟩
  obtain ⟨SC, hS⟩ : ∃ B, B = scopeOf inD := ⟨_, rfl⟩
  rw [← hB, ← hP, ← hS]
  conv at hB => rhs; whnf
  conv at hP => rhs; whnf
  conv at hS => rhs; whnf
  subst hB; subst hP; subst hS
  intro len
  induction len using Nat.strongRecOn with
  | _ len IH =>
  intro lo hi tl th hl hlo hhi hle
  subst hhi
  dsimp only [Cl]
  intro dp un gd cn cs a0 ccd cl outer A₀ base h₀ L m s Q E hB hF hX hN hTp hkd hdp hun hret
  refine wpAny_call ?_
  refine' code_nest ?k1 ?k2 ?k3 ?k4 ?k5 ?kA ?kF ?kK ?k6 ?k7 ?k8 ?k9 ?kB ?_ ?c2 ?c3 ?c4 ?c5
  case kA => exact rfl
  case kF => exact rfl
  case kK => assumption
  case k1 => k_asm
  case k2 => k_asm
  case k3 => k_asm
  case k4 => k_asm
  case k5 => k_asm
  case k6 => k_mem
  case k7 => exact codeRec_news (by k_asm) (by k_mem) (by assumption) (by assumption)
  case k8 => ktr_room
  case k9 => exact BindsTo.of_eq rfl
  case c5 => decide
  case kB => exact locs rfl
  case c2 => exact rfl
  case c3 => exact rfl
  case c4 => exact rfl
  k_whole
  intro g' L' h' FG' F' N' B' X' T'
  replace F' : Fr g' L' h' (fun y => [(Str.ofString "R", Value.int (lo + len) th), (Str.ofString "L", Value.int lo tl)].lookup y) := F'
  have hcd := codeHd_of_K (c := 48) (P := 44) (by assumption : (hd.heap_39 w.params).In g') (by kernel_rfl)
  (try dsimp only)
  (try k_lift B')
  (try k_fold)
  by_cases hl1 : len = 1
  · have hc : lo + 1 = lo + (len : Int) := by omega
    have hlt : lo < ns.length := by omega
    clear IH
    k_steps
    rotate_left
    all_goals try (exact absurd hc (by assumption))
    have e1 : (ns.drop lo.toNat).take 1 = [ns.getD lo.toNat 0] := by
      have hj : lo.toNat < ns.length := by omega
      rw [List.take_one, List.head?_drop, List.getElem?_eq_getElem hj]
      simp [List.getD_eq_getElem?_getD, List.getElem?_eq_getElem hj]
    have e3 : ns.getD lo.toNat 0 = val (2 ^ n) ((ns.drop lo.toNat).take len) := by
      rw [hl1, e1]
      simp [val]
    exact hret _ _ _ _ (by assumption) (by assumption) ⟨_, congrArg (fun z => Value.int z _) e3, rfl⟩
  · have hc : lo + 1 ≠ lo + (len : Int) := by omega
    obtain ⟨l1, el⟩ : ∃ l1, l1 = len / 2 := ⟨_, rfl⟩
    have e2 : (2 ^ Int.toNat 1 : Int) = 2 := by decide
    have eM : (lo + (lo + (len : Int))).fdiv (2 ^ Int.toNat 1) = lo + l1 := by
      rw [e2, Int.fdiv_eq_ediv_of_nonneg _ (by decide)]
      omega
    have eS : ((lo + (lo + (len : Int))).fdiv (2 ^ Int.toNat 1) - lo) * (n : Int) = ((n * l1 : Nat) : Int) := by
      rw [eM, Int.natCast_mul, Int.mul_comm]
      congr 1
      omega
    have hb : n * l1 ≤ 50 * 100 := Nat.mul_le_mul (by omega) (by omega)
    have hS0 : 0 ≤ ((lo + (lo + (len : Int))).fdiv (2 ^ Int.toNat 1) - lo) * (n : Int) := by rw [eS]; omega
    have hS1 : ((lo + (lo + (len : Int))).fdiv (2 ^ Int.toNat 1) - lo) * (n : Int) ≤ 1000000 := by rw [eS]; omega
    k_steps
    · exact absurd (by assumption) hc
    (first | refine Stop.on ?_ | skip)
    refine' Cl.use (IH (len - l1) ?lt _ _ _ _ ?p1 ?p2 ?p3 ?p4) ?yB ?yF ?yX ?yN ?ysub ?yT ?yk ?yd ?yu ?_
    case yB => k_asm
    case yF => k_asm
    case yX => k_asm
    case yN => k_asm
    case yT => k_asm
    case yk => first | exact rfl | assumption
    case yd => first | (dsimp only [ktrTop]; omega) | decide | decide +kernel
    case yu => first | (dsimp only [ktrTop]; omega) | decide | decide +kernel
    case lt => omega
    case p1 => omega
    case p2 => rw [eM]; omega
    case p3 => rw [eM]; omega
    case p4 => omega
    case ysub => exact fun _ h => h
    rintro r T2 h2 tk2 F2 N2 ⟨t2, rfl, rfl⟩
    k_sweep
    have eL : (lo + (l1 : Int)).toNat = lo.toNat + l1 := by omega
    rw [eM, eL]
    have hseg : ∀ d ∈ (ns.drop (lo.toNat + l1)).take (len - l1), 0 ≤ d ∧ d < 2 ^ n := fun d hd => hds d (List.mem_of_mem_drop (List.mem_of_mem_take hd))
    have hbv := val_bits hseg
    have hsl : ((ns.drop (lo.toNat + l1)).take (len - l1)).length ≤ 100 := by rw [List.length_take]; omega
    have hb2 : n * ((ns.drop (lo.toNat + l1)).take (len - l1)).length ≤ 50 * 100 := Nat.mul_le_mul (by omega) hsl
    have hV : (Builtin.Int.intBits (val (2 ^ n) ((ns.drop (lo.toNat + l1)).take (len - l1))) : Int) + ((lo + (lo + (len : Int))).fdiv (2 ^ Int.toNat 1) - lo) * (n : Int) ≤ 2 ^ 27 := by rw [eS]; omega
    dsimp only
    k_steps
    (first | refine Stop.on ?_ | skip)
    refine' Cl.use (IH l1 ?qt _ _ _ _ ?q1 ?q2 ?q3 ?q4) ?zB ?zF ?zX ?zN ?zsub ?zT ?zk ?zd ?zu ?_
    case zB => k_asm
    case zF => k_asm
    case zX => k_asm
    case zN => k_asm
    case zT => k_asm
    case zk => first | exact rfl | assumption
    case zd => first | (dsimp only [ktrTop]; omega) | decide | decide +kernel
    case zu => first | (dsimp only [ktrTop]; omega) | decide | decide +kernel
    case qt => omega
    case q1 => omega
    case q2 => exact hlo
    case q3 => exact eM
    case q4 => rw [eM]; omega
    case zsub => exact fun _ h => h
    rintro r T3 h3 tk3 F3 N3 ⟨t3, rfl, rfl⟩
    k_sweep
    dsimp only
    k_steps
    have e5 : (ns.drop lo.toNat).take len = (ns.drop lo.toNat).take l1 ++ (ns.drop (lo.toNat + l1)).take (len - l1) := by
      rw [← List.drop_drop, ← List.take_add, Nat.add_sub_of_le (by omega)]
    have e6 : ((ns.drop lo.toNat).take l1).length = l1 := by rw [List.length_take, List.length_drop]; omega
    refine hret _ _ _ _ (by assumption) (by assumption) ⟨_, congrArg (fun z => Value.int z _) ?_, rfl⟩
    rw [e5, val_append, e6, ← Int.pow_mul, eS, Int.toNat_natCast, Int.mul_comm, Int.add_comm]
end

theorem rsDe : True ∧ True := by
  w_top off
  k_with_none
  first | (walk1; fail) | exact ⟨trivial, trivial⟩
section
open PySem PySem.W PyProof.Rows
set_option Elab.async false
set_option maxRecDepth 100000
set_option maxHeartbeats 4000000
abbrev qD : Str := qualnameIn (envX (Str.ofString "_digits2int") (scopeOf (firstDef (Str.ofString "_digits2int") PRG.main.body)) 0 0 .none []) (Str.ofString "inner") (Str.ofString "inner")
theorem d2i (w : World) (p : Program) (loose : List Str) (mean : ExcName → Option Value) (mg mb : Str → Option Value) (T news : List (Addr × Obj)) (Dq : Addr) (vs : List Value) (cnt : Nat) (ns : List Int) (n : Nat) (tn : Tok) (hI0 : IntsAre vs ns) (hds : ∀ d ∈ ns, 0 ≤ d ∧ d < 2 ^ n) (hns : ns.length < 50) (hn : 1 ≤ n) (hn1 : n < 50) (hT : TabSt 44 (posOf inD) qD T) (hO : Off ((Dq, listOf vs.toArray cnt) :: news) T) :
   Cl PySem.Challenge.rw_gh0004_01.row.prog w (hd.heap_39 w.params) p loose mean mg mb 49 (T ++ (Dq, listOf vs.toArray cnt) :: news) 60 600 [.ref Dq, .int n tn] (fun r T' => ∃ t T1, r = .int (val (2 ^ n) ns) t ∧ T' = T1 ++ (Dq, listOf vs.toArray cnt) :: news ∧ TabSt 44 (posOf inD) qD T1 ∧ Grown T (T ++ (Dq, listOf vs.toArray cnt) :: news) T1) := by
  k_fill
  dsimp only [Cl]
  intro dp un gd cn cs a0 ccd cl outer A₀ base h₀ L m s Q E hB hF hX hN hTp hkd hdp hun hret
  refine wpAny_call ?_
  refine' code_defC ?k1 ?k2 ?k3 ?k4 ?k5 ?kA ?kF ?kK ?k6 ?k7 ?k8 ?k9 ?kB ?kD ?_ ?c2 ?c3 ?c4
  case kA => exact rfl
  case kF => exact rfl
  case kK => assumption
  case k1 => k_asm
  case k2 => k_asm
  case k3 => k_asm
  case k4 => k_asm
  case k5 => k_asm
  case k6 => k_dflt k_is
  case k7 => k_dflt k_is
  case k8 => ktr_room
  case k9 => exact BindsTo.of_eq rfl
  case kB => exact rfl
  case kD => decide +kernel
  case c2 => exact rfl
  case c3 => exact rfl
  case c4 => exact rfl
  k_whole
  intro g' L' h' tk' cells' FG' F' N' Y' B' X' T' lT
  obtain ⟨o1, o2, o3, hE, d1, d2, d3⟩ := CellsAre.three Y'
  subst hE
  clear Y'
  simp only [List.cons_append, List.nil_append] at N'
  replace lT : ∀ q ∈ T ++ (Dq, listOf vs.toArray cnt) :: news, @LT.lt Nat _ q.1 L' := lT
  replace F' : Fr g' L' h' (fun y => none) := F'
  replace d1 : o1.data = .cell none := d1
  replace d2 : o2.data = .cell (some (.int n tn)) := d2
  replace d3 : o3.data = .cell (some (.ref Dq)) := d3
  have hcd := codeHd_of_K (c := 48) (P := 44) (by assumption : (hd.heap_39 w.params).In g') (by kernel_rfl)
  have lt1 : ∀ q ∈ T, @LT.lt Nat _ q.1 L' := fun q hq => lT q (List.mem_append_left _ hq)
  have ln1 : ∀ q ∈ (Dq, listOf vs.toArray cnt) :: news, @LT.lt Nat _ q.1 L' := fun q hq => lT q (List.mem_append_right _ hq)
  have ln2 : ∀ q ∈ news, @LT.lt Nat _ q.1 L' := fun q hq => ln1 q (.tail _ hq)
  have lq : @LT.lt Nat _ Dq L' := ln1 _ (.head _)
  have hI := hI0
  (try dsimp only)
  (try k_lift B')
  (try k_fold)
  k_steps
  refine' nestDef_K ?wd ?wk ?wa ?_
  case wd => exact rfl
  case wk => exact rfl
  case wa => exact rfl
  refine nestE (T := T) (rest := [_, _, _] ++ ((Dq, listOf vs.toArray cnt) :: news)) (by assumption) (fun q hq => (by assumption : News g' L' _ _) q (mem_swap hq)) hT ?_ (by assumption) hcd rfl rfl ?_
  · refine Off.cons ?_ (Off.cons ?_ (Off.cons ?_ hO)) <;> (intro q hq; have h9 := lt1 q hq; refine neN ?_; dsimp only; omega)
  intro f c' oc ocv tq ctv doc T1 h2 tk2 eT hoc hocv F2 N2 hG hf hcf hRc
  subst eT
  simp only [List.cons_append, List.nil_append] at N2
  have f1 := hf _ (List.mem_append_right _ (.head _))
  have r1 := hRc _ (.head _)
  have r2 := hRc _ (.tail _ (.head _))
  have r3 := hRc _ (.tail _ (.tail _ (.head _)))
  have r4 := hRc _ (.tail _ (.tail _ (.tail _ (.head _))))
  have p44 : @LT.lt Nat _ 44 L' := by
    rcases hT with rfl | ⟨c2, oc2, ocv2, tq2, rfl, _, _⟩
    · exact lt1 _ (.head _)
    · exact lt1 _ (.tail _ (.head _))
  dsimp only at f1 r1 r2 r3 r4
  clear hf
  have fin : ∀ (z : Int) (t : Tok) (h : Heap) (tk : Nat), Fr h₀ L h m → News h₀ L h (([(c', oc), (44, tabObj (#[] ++ #[rawInt (posOf inD).line, rawInt (posOf inD).col, .ref c']))] ++ (Dq, listOf vs.toArray cnt) :: news)) → z = val (2 ^ n) ns → Q (.int z t) { s with heap := h, toks := tk } := fun z t h tk F N ez =>
    hret _ _ _ _ F N ⟨t, _, by rw [ez], rfl, .inr ⟨c', oc, ocv, tq, rfl, hoc, hocv⟩, fun q hq => (hG q hq).imp id fun k p hp => k p (by
        rcases List.mem_append.mp hp with hp | hp
        · exact List.mem_append_left _ hp
        · exact List.mem_append_right _ (List.mem_append_right _ hp))⟩
  k_steps
  · rename (Obj.data _ = Data.cell (some (Value.ref f))) => dI
    have hnz : ns.length ≠ 0 := by first | assumption | (simp_all; done) | omega
    (first | refine Stop.on ?_ | skip)
    refine' Cl.use (ind w p loose mean mg mb ((44, tabObj (#[] ++ #[rawInt (posOf inD).line, rawInt (posOf inD).col, .ref c'])) :: news) f c' (L' + 1) (L' + 1 + 1 + 1) (L' + 1 + 1) Dq qD doc ((mg "__name__").getD .none) ctv oc o3 _ o2 ocv tq tn n cnt hoc hocv d3 dI d2 vs ns hI0 hds (by omega) hn hn1 ns.length 0 ns.length _ _ ?p1 ?p2 ?p3 ?p4) ?yB ?yF ?yX ?yN ?ysub ?yT ?yk ?yd ?yu ?_
    case yB => k_asm
    case yF => k_asm
    case yX => k_asm
    case yN => k_asm
    case yT => k_asm
    case yk => first | exact rfl | assumption
    case yd => first | (dsimp only [ktrTop]; omega) | decide | decide +kernel
    case yu => first | (dsimp only [ktrTop]; omega) | decide | decide +kernel
    case p1 => omega
    case p2 => exact Int.le_refl _
    case p3 => omega
    case p4 => exact Int.le_refl _
    case ysub =>
      repeat' (first | (refine List.forall_mem_cons.mpr ⟨?_, ?_⟩) | (k_dflt k_mem) | exact fun q hq => by (repeat (first | exact hq | refine List.Mem.tail _ ?_)))
    rintro r T2 h3 tk3 F3 N3 ⟨t3, rfl, rfl⟩
    k_sweep
    dsimp only
    k_steps
    refine fin _ _ _ _ (by assumption) (fun q hq => (by assumption : News h₀ L _ _) q ?_) (by simp)
    revert q hq
    repeat' (first | (refine List.forall_mem_cons.mpr ⟨?_, ?_⟩) | (k_dflt k_mem) | exact fun q hq => by (repeat (first | exact hq | refine List.Mem.tail _ ?_)))
  · have hz : ns.length = 0 := by first | assumption | (simp_all; done) | omega
    have hn0 := List.eq_nil_of_length_eq_zero hz
    refine fin _ _ _ _ (by assumption) (fun q hq => (by assumption : News h₀ L _ _) q ?_) (by rw [hn0]; rfl)
    revert q hq
    repeat' (first | (refine List.forall_mem_cons.mpr ⟨?_, ?_⟩) | (k_dflt k_mem) | exact fun q hq => by (repeat (first | exact hq | refine List.Mem.tail _ ?_)))
end

theorem rsDm : True ∧ True := by
  w_top off
  k_with_none
  first | (walk1; fail) | exact ⟨trivial, trivial⟩
section
open PySem PySem.W PyProof.Rows
set_option Elab.async false
set_option maxRecDepth 100000
set_option maxHeartbeats 8000000
theorem d2 (w : World) (p : Program) (loose : List Str) (mean : ExcName → Option Value) (mg mb : Str → Option Value) (news : List (Addr × Obj)) (a b n : Int) (ta tb tn : Tok) (ha0 : 0 ≤ a) (ha1 : a < 2 ^ 60) (hb : 0 < b) (hb1 : b < 2 ^ 30) (hn : 0 ≤ n) (hn1 : n < 100) :
   Cl PySem.Challenge.rw_gh0004_01.row.prog w (hd.heap_39 w.params) p loose mean mg mb 28 news 1 8 [.int a ta, .int b tb, .int n tn] (fun r T' => ∃ D t1 t2, r = .ref D ∧ T' = (D, tupObj [.int (a / b) t1, .int (a % b) t2]) :: news ∧ ∀ p ∈ news, @LT.lt Nat _ p.1 D) := by
  k_fill
  have hbits : (Builtin.Int.intBits a : Int) - n ≤ 4000 := by have := bits_mid ha0 ha1; omega
  rw [← Int.fdiv_eq_ediv_of_nonneg a (Int.le_of_lt hb), ← Int.fmod_eq_emod_of_nonneg a (Int.le_of_lt hb)]
  dsimp only [Cl]; intros; rename_i hret
  refine wpAny_call ?_
  k_dflt cell_enter
  k_steps
  exact hret _ _ _ _ (by assumption) (by assumption) ⟨_, _, _, rfl, rfl, fun q hq => Heap.lt_size ((by assumption : News _ _ _ news) q hq).1⟩
end

theorem rsDf : True ∧ True := by
  w_top off
  k_with_none
  first | (walk1; fail) | exact ⟨trivial, trivial⟩
section
open PySem PySem.W PyProof.Rows
set_option Elab.async false
set_option maxRecDepth 100000
set_option maxHeartbeats 4000000
local macro_rules | `(tactic| size_fits) => `(tactic| ((simp only [List.size_toArray, List.length_append, List.length_cons, List.length_nil, PySem.sizeLine_eq]); omega))
local macro_rules | `(tactic| walk_at "binaryOp LShift int int") => `(tactic| (k_here; refine lshift_int (by with_reducible assumption) (by with_reducible assumption) ?_))
/-- the two tables of int_divmod -/
def Tabs (T : List (Addr × Obj)) : Prop := ∃ TA TB, T = TA ++ TB ∧ TabSt 37 (posOf inI) qI TA ∧ TabSt 44 (posOf inD) qD TB ∧ Off TB TA
theorem dmp (w : World) (p : Program) (loose : List Str) (mean : ExcName → Option Value) (mg mb : Str → Option Value) (T news : List (Addr × Obj)) (a b : Int) (ta tb : Tok) (ha0 : 0 ≤ a) (ha1 : a < 2 ^ 30) (hb0 : 0 < b) (hb1 : b < 2 ^ 30) (hT : Tabs T) (hO : Off news T) :
   Cl PySem.Challenge.rw_gh0004_01.row.prog w (hd.heap_39 w.params) p loose mean mg mb 56 (T ++ news) 100 1000 [.int a ta, .int b tb] (fun r T' => ∃ D t1 t2 T1, r = .ref D ∧ T' = (D, tupObj [.int (a / b) t1, .int (a % b) t2]) :: (T1 ++ news) ∧ Tabs T1 ∧ Grown T (T ++ news) T1 ∧ (∀ q ∈ T1 ++ news, @LT.lt Nat _ q.1 D)) := by
  k_fill
  obtain ⟨TA, TB, rfl, hTA, hTB, hAB⟩ := hT
  obtain ⟨n, en⟩ : ∃ n, n = Builtin.Int.intBits b := ⟨_, rfl⟩
  have hn1 : n ≤ 30 := by rw [en]; exact bits_small (Int.le_of_lt hb0) hb1
  have hbn : b < 2 ^ n := by
    have h3 := intBits_le_iff.mp (Nat.le_of_eq en.symm)
    have h4 : ((b.natAbs : Nat) : Int) < ((2 ^ n : Nat) : Int) := by exact_mod_cast h3
    rw [Int.natCast_pow] at h4
    have h5 : ((b.natAbs : Nat) : Int) = b := by omega
    rw [h5] at h4
    exact h4
  have hn0 : 1 ≤ n := by
    rcases Nat.eq_zero_or_pos n with h | h
    · rw [h] at hbn; simp at hbn; omega
    · exact h
  subst en
  dsimp only [Cl]
  intro dp un gd cn cs a0 ccd cl outer A₀ base h₀ L m s Q E hB hF hX hN hTp hkd hdp hun hret
  refine wpAny_call ?_
  refine' code_def ?k1 ?k2 ?k3 ?k4 ?k5 ?kA ?kF ?kK ?k6 ?k7 ?k8 ?k9 ?kB ?_ ?c2 ?c3 ?c4 ?c5
  case kA => exact rfl
  case kF => exact rfl
  case kK => assumption
  case k1 => k_asm
  case k2 => k_asm
  case k3 => k_asm
  case k4 => k_asm
  case k5 => k_asm
  case k6 => k_dflt k_is
  case k7 => k_dflt k_is
  case k8 => ktr_room
  case k9 => exact BindsTo.of_eq rfl
  case c5 => decide
  case kB => exact locs rfl
  case c2 => exact rfl
  case c3 => exact rfl
  case c4 => exact rfl
  k_whole
  intro g' L' h' FG' F' N' B' X' T'
  (try dsimp only)
  (try k_lift B')
  (try k_fold)
  have X0 : (hd.heap_39 w.params).In g' := by assumption
  replace F' : Fr g' L' h' (fun y => [(Str.ofString "b", Value.int b tb), (Str.ofString "a", Value.int a ta)].lookup y) := F'
  k_steps
  (first | refine Stop.on ?_ | skip)
  refine' Cl.use (i2d w p loose mean mg mb TA (TB ++ news) a (Builtin.Int.intBits b) _ _ ha0 ha1 hn0 (by omega) hTA ?yO) ?yB ?yF ?yX ?yN ?ysub ?yT ?yk ?yd ?yu ?_
  case yB => k_asm
  case yF => k_asm
  case yX => k_asm
  case yN => k_asm
  case yT => k_asm
  case yk => first | exact rfl | assumption
  case yd => first | (dsimp only [ktrTop]; omega) | decide | decide +kernel
  case yu => first | (dsimp only [ktrTop]; omega) | decide | decide +kernel
  case yO =>
    intro q hq q' hq'
    rcases List.mem_append.mp hq with hq | hq
    · exact hAB q hq q' hq'
    · exact hO q hq q' (List.mem_append_left _ hq')
  case ysub => intro q hq; rw [List.append_assoc]; exact hq
  rintro r T2 h2 tk2 F2 N2 ⟨D, vs, cnt, ds, TA1, rfl, rfl, hI, hdb, hdv, hdl, hTA1, hG1, hlt1, hne1⟩
  k_sweep
  dsimp only
  k_steps
  rename_i _ _ Dq _ lq _ I hI0 F1 N1 lI
  obtain ⟨t0, t1, F0⟩ : ∃ t0 t1, Fr g' L' hI0 (fun y => if y = Str.ofString "q_digits" then some (.ref Dq) else if y = Str.ofString "r" then some (.int 0 t0) else if y = Str.ofString "a_digits" then some (.ref D) else if y = Str.ofString "n" then some (.int (Builtin.Int.intBits b) t1) else [(Str.ofString "b", Value.int b tb), (Str.ofString "a", Value.int a ta)].lookup y) := ⟨_, _, F1⟩
  clear F1
  have lqa := allLt_all lq.2
  have pp : (0 : Int) < 2 ^ Builtin.Int.intBits b := Int.pow_pos (by decide)
  refine iter_revUnr (ax := D) (lo := listOf vs.toArray cnt) (vs := vs) (n := cnt) rfl F0 N1 ?hof (.tail _ (.head _)) rfl rfl ?_
  case hof =>
    refine ⟨.inl (neN ?_), .inl (neN ?_), ?_⟩
    · dsimp only; omega
    · dsimp only; omega
    · generalize hR : TA1 ++ (TB ++ news) = R at lI ⊢
      have lIa := allLt_all lI.2.2
      clear hR lI
      induction R with
      | nil => trivial
      | cons q R ih => exact ⟨.inl (Nat.ne_of_lt (lIa q (.head _))), ih fun p hp => lIa p (.tail _ hp)⟩
  refine rev_loop (fun rs m1 nx => ∃ (xs dn qs : List Int) (vq : List Value) (cq : Nat) (r : Int) (tr : Tok) (u : Str → Option Value), IntsAre rs xs ∧ ds = xs.reverse ++ dn ∧ IntsAre vq qs ∧ (∀ q ∈ qs, 0 ≤ q ∧ q < 2 ^ Builtin.Int.intBits b) ∧ qs.length = dn.length ∧ 0 ≤ r ∧ r < b ∧ val (2 ^ Builtin.Int.intBits b) dn = val (2 ^ Builtin.Int.intBits b) qs.reverse * b + r ∧
      m1 = (fun y => if y = Str.ofString "r" then some (.int r tr) else if [Str.ofString "a_digit", Str.ofString "q_digit"].contains y = true then u y else (if y = Str.ofString "q_digits" then some (.ref Dq) else if y = Str.ofString "r" then some (.int 0 t0) else if y = Str.ofString "a_digits" then some (.ref D) else if y = Str.ofString "n" then some (.int (Builtin.Int.intBits b) t1) else [(Str.ofString "b", Value.int b tb), (Str.ofString "a", Value.int a ta)].lookup y)) ∧
      nx = (Dq, listOf vq.toArray cq) :: (D, listOf vs.toArray cnt) :: (TA1 ++ (TB ++ news))) ?step ?done _ _ _ ?init
  case init =>
    refine ⟨ds.reverse, [], [], [], 0, 0, t0, _, IntsAre.reverse hI, by simp, .nil, fun _ h => (nomatch h), rfl, Int.le_refl _, hb0, by simp [val], kept1 _ rfl fun _ _ _ => rfl, rfl⟩
  case step =>
    rintro v rs m1 nx it h tk hit ⟨xs, dn, qs, vq, cq, r, tr, u, hxs, hsp, hvq, hqb, hql, hr0, hr1, hval, rfl, rfl⟩ F1 N1
    cases hxs with
    | cons x tx hxs =>
    rename_i xs
    replace F1 : Fr g' L' h _ := F1
    replace N1 : News g' L' h _ := N1
    have hxd := hdb x (by rw [hsp]; simp)
    have hn2 : (0 : Int) ≤ (Builtin.Int.intBits b : Int) := Int.natCast_nonneg _
    have hV : (Builtin.Int.intBits r : Int) + (Builtin.Int.intBits b : Int) ≤ 2 ^ 27 := by
      have := bits_small hr0 (by omega)
      omega
    have eN : ((Builtin.Int.intBits b : Nat) : Int).toNat = Builtin.Int.intBits b := Int.toNat_natCast _
    have hP30 : (2 : Int) ^ Builtin.Int.intBits b ≤ 2 ^ 30 := by
      have h9 : 2 ^ Builtin.Int.intBits b ≤ 2 ^ 30 := Nat.pow_le_pow_right (by decide) hn1
      exact_mod_cast h9
    have hr2 : 0 ≤ r * 2 ^ Builtin.Int.intBits b := Int.mul_nonneg hr0 (Int.le_of_lt pp)
    have hr3 : (r + 1) * 2 ^ Builtin.Int.intBits b ≤ b * 2 ^ Builtin.Int.intBits b := Int.mul_le_mul_of_nonneg_right (by omega) (Int.le_of_lt pp)
    have hr4 : b * 2 ^ Builtin.Int.intBits b ≤ 2 ^ 30 * 2 ^ 30 := Int.mul_le_mul (by omega) hP30 (Int.le_of_lt pp) (by decide)
    rw [Int.add_mul, Int.one_mul] at hr3
    show wpAny _ _ _ _ _ _
    k_fold
    k_steps
    (first | refine Stop.on ?_ | skip)
    refine' Cl.use (d2 w p loose mean mg mb ((I, it) :: (Dq, listOf vq.toArray cq) :: (D, listOf vs.toArray cnt) :: (TA1 ++ (TB ++ news))) _ b _ _ _ _ ?a0 ?a1 hb0 hb1 hn2 ?n1) ?zB ?zF ?zX ?zN ?zsub ?zT ?zk ?zd ?zu ?_
    case zB => k_asm
    case zF => k_asm
    case zX => k_asm
    case zN => k_asm
    case zT => k_asm
    case zk => first | exact rfl | assumption
    case zd => first | (dsimp only [ktrTop]; omega) | decide | decide +kernel
    case zu => first | (dsimp only [ktrTop]; omega) | decide | decide +kernel
    case a0 => rw [eN]; omega
    case a1 => rw [eN]; omega
    case n1 => omega
    case zsub => exact fun _ h => h
    rintro r9 T3 h3 tk3 F3 N3 ⟨D2, t2, t3, rfl, rfl, hlt3⟩
    k_sweep
    rw [eN] at N3
    have z1 := hlt3 _ (.tail _ (.head _))
    have z2 := hlt3 _ (.head _)
    dsimp only at z1 z2
    have hvl : vq.length ≤ 30 := by
      rw [hvq.length, hql]
      have := congrArg List.length hsp
      simp only [List.length_append] at this
      omega
    dsimp only
    k_steps
    rename Fr _ _ _ _ => F5
    rename News _ _ _ _ => N5
    rw [List.push_toArray] at N5
    obtain ⟨qd, eqd⟩ : ∃ qd, qd = (r * 2 ^ Builtin.Int.intBits b + x) / b := ⟨_, rfl⟩
    obtain ⟨rd, erd⟩ : ∃ rd, rd = (r * 2 ^ Builtin.Int.intBits b + x) % b := ⟨_, rfl⟩
    have em := Int.emod_add_mul_ediv (r * 2 ^ Builtin.Int.intBits b + x) b
    have hrd0 := Int.emod_nonneg (r * 2 ^ Builtin.Int.intBits b + x) (Int.ne_of_gt hb0)
    have hrd1 := Int.emod_lt_of_pos (r * 2 ^ Builtin.Int.intBits b + x) hb0
    have hqd0 : 0 ≤ (r * 2 ^ Builtin.Int.intBits b + x) / b := Int.ediv_nonneg (by omega) (Int.le_of_lt hb0)
    have hqd1 : (r * 2 ^ Builtin.Int.intBits b + x) / b < 2 ^ Builtin.Int.intBits b := Int.ediv_lt_of_lt_mul hb0 (by rw [Int.mul_comm (2 ^ Builtin.Int.intBits b) b]; omega)
    rw [← eqd] at em hqd0 hqd1 N5
    rw [← erd] at em hrd0 hrd1 N5
    rw [← eqd, ← erd] at F5
    refine UnrEnd.intro F5 N5 ((Dq, listOf (vq ++ [Value.int qd t2]).toArray (cq + 1)) :: (D, listOf vs.toArray cnt) :: (TA1 ++ (TB ++ news))) (fun q hq => .tail _ hq) ?off ⟨.tail _ (.head _), xs, x :: dn, qs ++ [qd], vq ++ [Value.int qd t2], cq + 1, rd, t3, _, hxs, ?e1, IntsAre.append hvq (.cons qd t2 .nil), ?e2, ?e3, hrd0, hrd1, ?e4, kept1 _ rfl ?e5, rfl⟩
    case off =>
      intro q hq
      have hI := allLt_all lI.2.2
      rcases List.mem_cons.mp hq with rfl | hq
      · exact Nat.ne_of_lt lI.1
      · rcases List.mem_cons.mp hq with rfl | hq
        · exact Nat.ne_of_lt lI.2.1
        · exact Nat.ne_of_lt (hI q hq)
    case e1 => rw [hsp]; simp
    case e2 =>
      intro q hq
      rcases List.mem_append.mp hq with hq | hq
      · exact hqb q hq
      · obtain rfl := List.mem_singleton.mp hq
        exact ⟨hqd0, hqd1⟩
    case e3 => simp [hql]
    case e4 =>
      rw [List.reverse_append]
      simp only [List.reverse_cons, List.reverse_nil, List.nil_append, List.cons_append, val, hval]
      generalize val (2 ^ Builtin.Int.intBits b) qs.reverse = V at *
      generalize (2 : Int) ^ Builtin.Int.intBits b = P at *
      have e6 : P * (V * b + r) = P * V * b + r * P := by rw [Int.mul_add, Int.mul_assoc, Int.mul_comm P r]
      rw [e6, Int.add_mul, Int.mul_comm qd b]
      omega
    case e5 =>
      intro z h1 h2
      have h3 : z ≠ Str.ofString "q_digit" := fun e => by rw [e] at h2; exact absurd h2 (by decide)
      have h4 : z ≠ Str.ofString "a_digit" := fun e => by rw [e] at h2; exact absurd h2 (by decide)
      simp only [if_neg h1, if_neg h3, if_neg h4, h2, Bool.false_eq_true, if_false]
  case done =>
    rintro m1 nx h tk ⟨xs, dn, qs, vq, cq, r, tr, u, hxs, hsp, hvq, hqb, hql, hr0, hr1, hval, rfl, rfl⟩ F1 N1
    cases hxs
    obtain rfl : ds = dn := by rw [hsp]; rfl
    replace F1 : Fr g' L' h _ := F1
    replace N1 : News g' L' h _ := N1
    have eQ : val (2 ^ Builtin.Int.intBits b) qs.reverse = a / b := by
      rw [← hdv, hval, Int.add_comm, Int.add_mul_ediv_right _ _ (Int.ne_of_gt hb0), Int.ediv_eq_zero_of_lt hr0 hr1, Int.zero_add]
    have eR : r = a % b := by
      rw [← hdv, hval, Int.add_comm, Int.add_mul_emod_self_right, Int.emod_eq_of_lt hr0 hr1]
    k_sweep
    dsimp only
    k_steps
    refine kl_reverse (l := vq.reverse) F1 N1 (by simp) (Upd.head (List.forall_mem_cons.mpr ⟨by k_dflt k_ne, fun q hq => by have hq1 := lqa q hq; refine neN ?_; omega⟩)) (by simp; have := hvq.length; have := PySem.sizeLine_eq; omega) fun h2 F2 N2 => ?_
    dsimp only
    k_steps
    have hTA2 := hTA1
    (first | refine Stop.on ?_ | skip)
    refine' Cl.use (d2i w p loose mean mg mb TB ((D, listOf vs.toArray cnt) :: (TA1 ++ news)) Dq vq.reverse cq qs.reverse (Builtin.Int.intBits b) _ (IntsAre.reverse hvq) ?hds (by rw [List.length_reverse]; omega) hn0 (by omega) hTB ?hO) ?yB ?yF ?yX ?yN ?ysub ?yT ?yk ?yd ?yu ?_
    case yB => k_asm
    case yF => k_asm
    case yX => k_asm
    case yN => k_asm
    case yT => k_asm
    case yk => first | exact rfl | assumption
    case yd => first | (dsimp only [ktrTop]; omega) | decide | decide +kernel
    case yu => first | (dsimp only [ktrTop]; omega) | decide | decide +kernel
    case hds => exact fun d hd => hqb d (List.mem_reverse.mp hd)
    case hO =>
      intro q hq q' hq'
      have l0 := hlt1 q' (List.mem_append_right _ (List.mem_append_left _ hq'))
      have l1 := lqa q' (List.mem_append_right _ (List.mem_append_left _ hq'))
      rcases List.mem_cons.mp hq with rfl | hq
      · exact (Nat.ne_of_lt l1).symm
      rcases List.mem_cons.mp hq with rfl | hq
      · exact (Nat.ne_of_lt l0).symm
      rcases List.mem_append.mp hq with hq | hq
      · rcases hG1 q hq with hg | hg
        · obtain ⟨q0, hq0, e0⟩ := List.mem_map.mp hg
          rw [← e0]
          exact (hAB q' hq' q0 hq0).symm
        · exact (Nat.ne_of_lt (hg q' (List.mem_append_right _ (List.mem_append_left _ hq')))).symm
      · exact hO q hq q' (List.mem_append_right _ hq')
    case ysub =>
      intro q hq
      rcases List.mem_append.mp hq with hq | hq
      · exact .tail _ (.tail _ (List.mem_append_right _ (List.mem_append_left _ hq)))
      rcases List.mem_cons.mp hq with rfl | hq
      · exact .head _
      rcases List.mem_cons.mp hq with rfl | hq
      · exact .tail _ (.head _)
      rcases List.mem_append.mp hq with hq | hq
      · exact .tail _ (.tail _ (List.mem_append_left _ hq))
      · exact .tail _ (.tail _ (List.mem_append_right _ (List.mem_append_right _ hq)))
    rintro r9 T3 h3 tk3 F3 N3 ⟨t3, TB1, rfl, rfl, hTB1, hG2⟩
    k_sweep
    dsimp only
    k_steps
    rename_i Dt ht Ft Nt lt kF kN _ _
    rw [eQ, eR] at kN
    have hsub : ∀ q ∈ (TA1 ++ TB1) ++ news, q ∈ TB1 ++ (Dq, listOf vq.reverse.toArray cq) :: (D, listOf vs.toArray cnt) :: (TA1 ++ news) := fun q hq => by
      rcases List.mem_append.mp hq with hq | hq
      · rcases List.mem_append.mp hq with hq | hq
        · exact List.mem_append_right _ (.tail _ (.tail _ (List.mem_append_left _ hq)))
        · exact List.mem_append_left _ hq
      · exact List.mem_append_right _ (.tail _ (.tail _ (List.mem_append_right _ hq)))
    refine hret _ ((Dt, tupObj [.int (a / b) t3, .int (a % b) tr]) :: ((TA1 ++ TB1) ++ news)) _ _ kF (fun q hq => ?_) ⟨Dt, t3, tr, TA1 ++ TB1, rfl, rfl, ⟨TA1, TB1, rfl, hTA1, hTB1, ?_⟩, ?_, fun q hq => lt q (hsub q hq)⟩
    · rcases List.mem_cons.mp hq with rfl | hq
      · exact kN _ (.head _)
      · exact kN _ (.tail _ (hsub q hq))
    · intro q hq q' hq'
      rcases hG2 q hq with hg | hg
      · obtain ⟨q0, hq0, e0⟩ := List.mem_map.mp hg
        rw [← e0]
        rcases hG1 q' hq' with hg1 | hg1
        · obtain ⟨q1, hq1, e1⟩ := List.mem_map.mp hg1
          rw [← e1]
          exact hAB q0 hq0 q1 hq1
        · exact Nat.ne_of_lt (hg1 q0 (List.mem_append_right _ (List.mem_append_left _ hq0)))
      · exact (Nat.ne_of_lt (hg q' (List.mem_append_right _ (.tail _ (.tail _ (List.mem_append_left _ hq')))))).symm
    · intro q hq
      rcases List.mem_append.mp hq with hq | hq
      · rcases hG1 q hq with hg | hg
        · exact .inl (by rw [List.map_append]; exact List.mem_append_left _ hg)
        · exact .inr fun p hp => hg p (by rw [← List.append_assoc]; exact hp)
      · rcases hG2 q hq with hg | hg
        · exact .inl (by rw [List.map_append]; exact List.mem_append_right _ hg)
        · have hD := hg _ (List.mem_append_right _ (.tail _ (.head _)))
          dsimp only at hD
          refine .inr fun p hp => Nat.lt_trans (hlt1 p ?_) hD
          rw [← List.append_assoc]
          exact hp
end

theorem rsDg : True ∧ True := by
  w_top off
  k_with_none
  first | (walk1; fail) | exact ⟨trivial, trivial⟩
section
open PySem PySem.W PyProof.Rows
set_option Elab.async false
set_option maxRecDepth 100000
set_option maxHeartbeats 4000000
theorem idm (w : World) (p : Program) (loose : List Str) (mean : ExcName → Option Value) (mg mb : Str → Option Value) (T news : List (Addr × Obj)) (a b : Int) (ta tb : Tok) (ha0 : 0 ≤ a) (ha1 : a < 2 ^ 30) (hb0 : 0 < b) (hb1 : b < 2 ^ 30) (hT : Tabs T) (hO : Off news T) :
   Cl PySem.Challenge.rw_gh0004_01.row.prog w (hd.heap_39 w.params) p loose mean mg mb 63 (T ++ news) 110 1100 [.int a ta, .int b tb] (fun r T' => ∃ D t1 t2 T1, r = .ref D ∧ T' = (D, tupObj [.int (a / b) t1, .int (a % b) t2]) :: (T1 ++ news) ∧ Tabs T1 ∧ Grown T (T ++ news) T1 ∧ (∀ q ∈ T1 ++ news, @LT.lt Nat _ q.1 D)) := by
  k_fill
  dsimp only [Cl]
  intro dp un gd cn cs a0 ccd cl outer A₀ base h₀ L m s Q E hB hF hX hN hTp hkd hdp hun hret
  refine wpAny_call ?_
  refine' code_def ?k1 ?k2 ?k3 ?k4 ?k5 ?kA ?kF ?kK ?k6 ?k7 ?k8 ?k9 ?kB ?_ ?c2 ?c3 ?c4 ?c5
  case kA => exact rfl
  case kF => exact rfl
  case kK => assumption
  case k1 => k_asm
  case k2 => k_asm
  case k3 => k_asm
  case k4 => k_asm
  case k5 => k_asm
  case k6 => k_dflt k_is
  case k7 => k_dflt k_is
  case k8 => ktr_room
  case k9 => exact BindsTo.of_eq rfl
  case c5 => decide
  case kB => exact locs rfl
  case c2 => exact rfl
  case c3 => exact rfl
  case c4 => exact rfl
  k_whole
  intro g' L' h' FG' F' N' B' X' T'
  (try dsimp only)
  (try k_lift B')
  (try k_fold)
  replace F' : Fr g' L' h' (fun y => [(Str.ofString "b", Value.int b tb), (Str.ofString "a", Value.int a ta)].lookup y) := F'
  have hb2 : b ≠ 0 := by omega
  have hb3 : ¬ b < 0 := by omega
  have ha3 : ¬ a < 0 := by omega
  k_steps
  all_goals (try (exfalso; first | exact hb2 (by assumption) | exact hb3 (by assumption) | exact ha3 (by assumption)))
  (first | refine Stop.on ?_ | skip)
  refine' Cl.use (dmp w p loose mean mg mb T news a b _ _ ha0 ha1 hb0 hb1 hT hO) ?yB ?yF ?yX ?yN ?ysub ?yT ?yk ?yd ?yu ?_
  case yB => k_asm
  case yF => k_asm
  case yX => k_asm
  case yN => k_asm
  case yT => k_asm
  case yk => first | exact rfl | assumption
  case yd => first | (dsimp only [ktrTop]; omega) | decide | decide +kernel
  case yu => first | (dsimp only [ktrTop]; omega) | decide | decide +kernel
  case ysub => exact fun _ h => h
  rintro r9 T3 h3 tk3 F3 N3 ⟨D, t1, t2, T1, rfl, rfl, hT1, hG, hlt⟩
  dsimp only
  k_steps
  rename_i kF kN _ _
  exact hret _ _ _ _ kF kN ⟨D, t1, t2, T1, rfl, rfl, hT1, hG, hlt⟩
end

local macro_rules | `(tactic| walk_at "call builtin:len") => `(tactic| (k_here; (with_reducible show wpAny _ _ (call (Value.builtin "len") [Value.bytes (Bt _) _]) _ _ _); (refine len_Bt (by omega) ?_)))
local macro_rules | `(tactic| walk_at "subscriptTail") => `(tactic| (k_here; (with_reducible show wpAny _ _ (subscriptTail _ _ (Value.bytes (Bt _) _) (Value.int _ _)) _ _ _); k_dflt (refine' item_Bt ?a ?z ?i ?j ?_ ?hs ?ht; (case a => assumption); (case z => omega); (case i => omega); (case j => omega); (case hs => with_unfolding_all rfl); (case ht => (intro _; with_unfolding_all rfl)))))
local macro_rules | `(tactic| walk_at "compareOp NotEq bytes bytes") => `(tactic| (k_here; (refine' ne_Bt ?a ?b ?_; (case a => assumption); (case b => assumption))))
local macro_rules | `(tactic| walk_at "compareOp Eq bytes bytes") => `(tactic| (k_here; (refine' eq_Bt ?a ?b ?_; (case a => assumption); (case b => assumption))))
local macro_rules | `(tactic| walk_at "call type:bytes") => `(tactic| (k_here; (with_reducible show wpAny _ _ (call (Value.type "bytes") [Value.ref _]) _ _ _); k_dflt (refine' bytes_range_K ?F ?N ?r ?n ?h ?_; (case F => k_asm); (case N => k_asm); (case r => assumption); (case n => omega); (case h => rfl)); intro h' t' k' F' N'; (try k_sweep)))
local macro_rules | `(tactic| walk_at "subscriptTail") => `(tactic| (k_here; (with_reducible show wpAny _ _ (subscriptTail _ (Expr.Slice _ _ none _) (Value.bytes (Bt _) _) (Value.ref _)) _ _ _); (with_reducible rename Fr _ _ _ _ => F'); (with_reducible rename News _ _ _ _ => N'); (first | refine slice_Bt (s := ⟨_, _, _, _, _⟩) F' N' (by assumption) (by omega) .none (.int _ _) cut_to ?_ | refine slice_Bt (s := ⟨_, _, _, _, _⟩) F' N' (by assumption) (by omega) (.int _ _) .none (cut_from (by omega)) ?_); intro _ _ _ _ _; (try dsimp only)))
theorem rsLt : True ∧ True := by
  w_top off
  k_with_none
  k_with "call ref" => (k_here; refine Stop.go ?_)
  first | (walk1; fail) | exact ⟨trivial, trivial⟩
section
open PySem PySem.W PyProof.Rows
set_option Elab.async false
set_option maxRecDepth 100000
set_option maxHeartbeats 4000000
local macro_rules | `(tactic| walk_at "binaryOp Add bytes bytes") => `(tactic| (k_here; (with_reducible show wpAny _ _ (binaryOp Operator.Add (Value.bytes (Bt _) _) (Value.bytes (Bt _) _)) _ _ _); (refine add_Bt (by (try simp only [List.length_append, List.length_reverse, List.length_take, List.length_drop]); omega) ?_); intro _ _; (try dsimp only)))
abbrev NCl (d u : Nat) (prog : Program) (w : World) (K : Frag) (p : Program) (loose : List Str) (mean : ExcName → Option Value) (mg mb : Str → Option Value) (f : Addr) (news : List (Addr × Obj)) (vs : List Value) (R : Tok → Value) : Prop :=
  ∀ (dp un : Nat) (gd : Option (List Code)) (cn : Str) (cs : Scope) (a : Addr) (ccd : Value) (cl : List (Str × Addr)) (outer : List Env) (A₀ : Around) (base h₀ : Heap) (L : Addr) (m : Str → Option Value) (s : Shared) (Q E : Value → Shared → Prop),
    Below A₀ base outer h₀ → Fr h₀ L s.heap m → K.In h₀ → News h₀ L s.heap news → Top p loose mean mg mb h₀ → cs.kind = .function →
    (dp + d < recursionLimit → un + u < cLine → CbRet h₀ L m news s Q R →
      wpN (model prog w) (ktrTop dp un gd cn cs L a ccd cl outer) (call (.ref f) vs) Q E s)
theorem ltd (w : World) (p : Program) (loose : List Str) (mean : ExcName → Option Value) (mg mb : Str → Option Value) (news : List (Addr × Obj)) (l : List Nat) (tb : Tok) (k : Nat) (tk : Tok) (hb : ∀ q ∈ l, q < 256) (h0 : 0 < l.length) (hl : l.length ≤ 50) (hk : k ≤ l.length) :
   NCl 3 30 (PySem.Challenge.rw_gh0004_01.row.prog) w (hd.heap_39 w.params) p loose mean mg mb 70 news [.bytes (Bt l) tb, .int k tk] (fun t => .bytes (Bt (l.drop k ++ l.take k)) t) := by
  k_fill
  dsimp only [NCl, CbRet]
  intro dp un gd cn cs a ccd cl outer A₀ base h₀ L m s Q E hB hF hX hN hTp hkd hdp hun hret
  refine wpN_call ?_
  k_dflt (refine' enterN ?k1 ?k2 ?k3 ?k4 ?k5 ?kA ?kF ?kK ?k6 ?k7 ?k8 ?k9 ?kB ?_ ?c2 ?c3 ?c4 ?c5; (case kA => exact rfl); (case kF => exact rfl); (case kK => assumption); (case k1 => k_asm); (case k2 => k_asm); (case k3 => k_asm); (case k4 => k_asm); (case k5 => k_asm); (case k6 => k_is); (case k7 => k_is); (case k8 => ktr_room); (case k9 => exact BindsTo.of_eq rfl); (case c5 => decide); (case kB => exact locs rfl); (case c2 => exact rfl); (case c3 => exact rfl); (case c4 => exact rfl); k_whole)
  intro g' L' h' FG' F' N' B' X' T'
  replace F' : Fr g' L' h' (fun y => [(Str.ofString "many", Value.int k tk), (Str.ofString "row", Value.bytes (Bt l) tb)].lookup y) := F'
  (try dsimp only); (try k_lift B'); (try k_fold)
  have ht : ∀ q ∈ l.take k, q < 256 := fun q hq => hb q (List.mem_of_mem_take hq)
  have hd : ∀ q ∈ l.drop k, q < 256 := fun q hq => hb q (List.mem_of_mem_drop hq)
  have lt1 : (l.take k).length ≤ 50 := by rw [List.length_take]; omega
  have ld1 : (l.drop k).length ≤ 50 := by rw [List.length_drop]; omega
  have lb : ((l.take k).reverse ++ (l.drop k).reverse).length = l.length := by simp only [List.length_append, List.length_reverse, List.length_take, List.length_drop]; omega
  refine wpN_execs_cons (wpN_of_any ?_)
  k_steps
  refine wpN_execs_cons (wpN_Assign_Name (wpN_BinOp (wpN_IfExp ?_)))
  k_steps
  rename Fr g' L' _ _ => F1
  rename News g' L' _ _ => N1
  replace N1 : News g' L' _ news := fun q hq => N1 q (by first | exact hq | exact .tail _ hq)
  refine joinN (fun t => .bytes (Bt (l.take k).reverse) t) F1 N1 ?A ?B
  case A =>
    split
    · refine wpN_CallName ?_
      k_steps
      refine wpN_call_fn (hlen := by show ¬ (2 + 2 * 0 > 30); decide) (wpN_args_cons (wpN_of_any ?_))
      k_steps
      refine wpN_args_cons (wpN_of_any ?_)
      k_steps
      refine wpN_args_nil ⟨⟨_, _, F1.keep _ _ (X' _ _ (by k_dflt k_is)), rfl⟩, ?_⟩
      rename_i hc
      have hz : 0 < (l.take k).length := by
        rcases Nat.eq_zero_or_pos (l.take k).length with e | e
        · rw [List.length_eq_zero_iff.mp e] at hc
          exact absurd hc (by decide)
        · exact e
      refine' bs w p loose mean mg mb news (Bt (l.take k)) _ ((l.take k).length : Nat) _ (by rw [Bt_size]) (by omega) (by omega) _ _ _ _ _ _ _ _ _ _ _ _ _ _ _ _ _ ?bB ?bF ?bX ?bN ?bT ?bk trivial ?bd ?bu ?bR
      case bB => k_asm
      case bF => k_asm
      case bX => k_asm
      case bN => k_asm
      case bT => k_asm
      case bk => rfl
      case bd => first | (dsimp only [ktrTop]; omega) | decide | decide +kernel
      case bu => first | (dsimp only [ktrTop]; omega) | decide | decide +kernel
      case bR =>
        dsimp only [CbRet]
        intro t5 h5 tk5 F5 N5
        exact ⟨_, _, _, by rw [Bt_rev], rfl, F5, N5⟩
    · rename_i hc
      have hz : l.take k = [] := by
        cases e : l.take k with
        | nil => rfl
        | cons a r => rw [e] at hc; exact absurd rfl hc
      refine wpN_of_any (Constant_bytes ?_)
      exact ⟨_, _, _, by rw [hz]; rfl, rfl, F1, N1⟩
  intro t2 h2 tk2 F2 N2
  k_sweep
  refine wpN_IfExp ?_
  k_steps
  refine joinN (fun t => .bytes (Bt (l.drop k).reverse) t) F2 N2 ?A2 ?B2
  case A2 =>
    split
    · refine wpN_CallName ?_
      k_steps
      refine wpN_call_fn (hlen := by show ¬ (2 + 2 * 0 > 30); decide) (wpN_args_cons (wpN_of_any ?_))
      k_steps
      refine wpN_args_cons (wpN_of_any ?_)
      k_steps
      refine wpN_args_nil ⟨⟨_, _, F2.keep _ _ (X' _ _ (by k_dflt k_is)), rfl⟩, ?_⟩
      rename_i hc
      have hz : 0 < (l.drop k).length := by
        rcases Nat.eq_zero_or_pos (l.drop k).length with e | e
        · rw [List.length_eq_zero_iff.mp e] at hc
          exact absurd hc (by decide)
        · exact e
      refine' bs w p loose mean mg mb news (Bt (l.drop k)) _ ((l.drop k).length : Nat) _ (by rw [Bt_size]) (by omega) (by omega) _ _ _ _ _ _ _ _ _ _ _ _ _ _ _ _ _ ?cB ?cF ?cX ?cN ?cT ?ck trivial ?cd ?cu ?cR
      case cB => k_asm
      case cF => k_asm
      case cX => k_asm
      case cN => k_asm
      case cT => k_asm
      case ck => rfl
      case cd => first | (dsimp only [ktrTop]; omega) | decide | decide +kernel
      case cu => first | (dsimp only [ktrTop]; omega) | decide | decide +kernel
      case cR =>
        dsimp only [CbRet]
        intro t5 h5 tk5 F5 N5
        exact ⟨_, _, _, by rw [Bt_rev], rfl, F5, N5⟩
    · rename_i hc
      have hz : l.drop k = [] := by
        cases e : l.drop k with
        | nil => rfl
        | cons a r => rw [e] at hc; exact absurd rfl hc
      refine wpN_of_any (Constant_bytes ?_)
      exact ⟨_, _, _, by rw [hz]; rfl, rfl, F2, N2⟩
  intro t3 h3 tk3 F3 N3
  k_sweep
  refine wpAny_operating (add_Bt (by simp only [List.length_reverse]; omega) fun t4 k4 => ?_)
  k_steps
  refine wpN_execs_cons (wpN_Return (wpN_CallName ?_))
  k_steps
  refine wpN_call_fn (hlen := by show ¬ (2 + 2 * 0 > 30); decide) (wpN_args_cons (wpN_of_any ?_))
  k_steps
  refine wpN_args_cons (wpN_of_any ?_)
  k_steps
  rename Fr g' L' _ _ => F4
  rename News g' L' _ _ => N4
  refine wpN_args_nil ⟨⟨_, _, F4.keep _ _ (X' _ _ (by k_dflt k_is)), rfl⟩, ?_⟩
  refine' bs w p loose mean mg mb news (Bt ((l.take k).reverse ++ (l.drop k).reverse)) _ (((l.take k).reverse ++ (l.drop k).reverse).length : Nat) _ (by rw [Bt_size]) (by omega) (by omega) _ _ _ _ _ _ _ _ _ _ _ _ _ _ _ _ _ ?dB ?dF ?dX ?dN ?dT ?dk trivial ?dd ?du ?dR
  case dB => k_asm
  case dF => k_asm
  case dX => k_asm
  case dN => k_asm
  case dT => k_asm
  case dk => rfl
  case dd => first | (dsimp only [ktrTop]; omega) | decide | decide +kernel
  case du => first | (dsimp only [ktrTop]; omega) | decide | decide +kernel
  case dR =>
    dsimp only [CbRet]
    intro t6 h6 tk6 F6 N6
    rw [Bt_rev, List.reverse_append, List.reverse_reverse, List.reverse_reverse]
    k_steps
    rename Fr h₀ L _ _ => F9
    rename News h₀ L _ _ => N9
    exact hret _ _ _ F9 fun q hq => N9 q (by first | exact hq | exact .tail _ hq)
end

theorem rsLr : True ∧ True := by
  w_top off
  k_with_none
  k_with "call ref" => (k_here; refine Stop.go ?_)
  first | (walk1; fail) | exact ⟨trivial, trivial⟩
section
open PySem PySem.W PyProof.Rows
set_option Elab.async false
set_option maxRecDepth 100000
set_option maxHeartbeats 4000000
theorem lrt (w : World) (p : Program) (loose : List Str) (mean : ExcName → Option Value) (mg mb : Str → Option Value) (news : List (Addr × Obj)) (l : List Nat) (tb : Tok) (hb : ∀ q ∈ l, q < 256) (h0 : 0 < l.length) (hl : l.length ≤ 50) :
   NCl 8 100 (PySem.Challenge.rw_gh0004_01.row.prog) w (hd.heap_39 w.params) p loose mean mg mb 75 news [.bytes (Bt l) tb] (fun t => .int (rootN l : Nat) t) := by
  k_fill
  dsimp only [NCl, CbRet]
  intro dp un gd cn cs a ccd cl outer A₀ base h₀ L m s Q E hB hF hX hN hTp hkd hdp hun hret
  refine wpN_call ?_
  refine' enterCN ?k1 ?k2 ?k3 ?k4 ?k5 ?kA ?kF ?kK ?k6 ?k7 ?k8 ?k9 ?kB ?kD ?_ ?c2 ?c3 ?c4
  case kA => exact rfl
  case kF => exact rfl
  case kK => assumption
  case k1 => k_asm
  case k2 => k_asm
  case k3 => k_asm
  case k4 => k_asm
  case k5 => k_asm
  case k6 => k_dflt k_is
  case k7 => k_dflt k_is
  case k8 => ktr_room
  case k9 => exact BindsTo.of_eq rfl
  case kB => exact rfl
  case kD => decide +kernel
  case c2 => exact rfl
  case c3 => exact rfl
  case c4 => exact rfl
  k_whole
  intro g' L' h' tk' cells' FG' F' N' Y' B' X' T' lT
  (try dsimp only)
  (try k_lift B')
  (try k_fold)
  obtain ⟨o1, hE, d1⟩ := CellsAre.one Y'
  subst hE
  clear Y'
  simp only [List.cons_append, List.nil_append] at N'
  replace d1 : o1.data = .cell (some (.bytes (Bt l) tb)) := d1
  replace F' : Fr g' L' h' (fun _ => none) := F'
  refine wpN_execs_cons (wpN_Return (wpN_Subscript (ListComp_N F' (by with_unfolding_all rfl) (by decide) (by rfl) (by decide) (by rfl) (wpN_of_any ?_))))
  k_steps
  rename Fr g' L' _ _ => F2
  rename News g' L' _ _ => N2
  refine NSrc.range (n := l.length) (fun i ys nx => nx = (L' + 1, o1) :: news ∧ IntsAre ys (zs (((List.range i).map (· + 1)).filter fun k => l.drop k ++ l.take k == l))) rfl F2 (news := (L' + 1, o1) :: news) (fun q hq => N2 q (by first | exact hq | exact .tail _ hq)) (by assumption) ?sm ?hn ?hz ?hJ ?T ?fin
  case sm => exact small_one (by omega) (by omega) (by omega) (by omega)
  case hn => rw [rangeSize_one]; split <;> omega
  case hz => rw [PySem.sizeLine_eq]; omega
  case hJ => exact ⟨rfl, by constructor⟩
  case T =>
    rintro G i v ys nx I oI C oC D m₂ h tk hi ⟨u, rfl⟩ hC hx1 F3 N3 off ne ⟨rfl, hys⟩
    k_sweep
    refine wpN_tests_one (wpN_isTrue_Compare (wpN_CallName ?_))
    k_steps
    refine wpN_call_fn (hlen := by show ¬ (2 + 2 * 0 > 30); decide) (wpN_args_cons (wpN_of_any ?_))
    k_steps
    refine wpN_args_cons (wpN_of_any ?_)
    k_steps
    rename Fr g' L' _ _ => F4
    rename News g' L' _ _ => N4
    refine wpN_args_nil ⟨⟨_, _, F4.keep _ _ (X' _ _ (by k_dflt k_is)), rfl⟩, ?_⟩
    have ek : (1 + (i : Int)) = ((i + 1 : Nat) : Int) := by omega
    rw [ek]
    refine' ltd w p loose mean mg mb ((I, oI) :: (C, oC) :: (D, LCg.lst ys) :: (L' + 1, o1) :: news) l _ (i + 1) _ hb h0 hl (by omega) _ _ _ _ _ _ _ _ _ _ _ _ _ _ _ _ _ ?bB ?bF ?bX ?bN ?bT ?bk ?bd ?bu ?bR
    case bB => k_asm
    case bF => k_asm
    case bX => k_asm
    case bN => k_asm
    case bT => k_asm
    case bk => rfl
    case bd => first | (dsimp only [ktrTop]; omega) | decide | decide +kernel
    case bu => first | (dsimp only [ktrTop]; omega) | decide | decide +kernel
    case bR =>
      dsimp only [CbRet]
      intro t5 h5 tk5 F5 N5
      refine wpN_of_any ?_
      k_steps
      have hbt : ∀ q ∈ l.drop (i + 1) ++ l.take (i + 1), q < 256 := fun q hq => by
        rcases List.mem_append.mp hq with hq | hq
        · exact hb q (List.mem_of_mem_drop hq)
        · exact hb q (List.mem_of_mem_take hq)
      refine wpAny_operating (eq_Bt hbt hb ?_)
      k_steps
      · rename_i hc
        refine wpN_of_any ?_
        k_steps
        rename Fr g' L' _ _ => F6
        rename News g' L' _ _ => N6
        refine LCg.CompEnd.intro F6 N6 _ (fun _ h => h) off trivial ⟨rfl, ?_⟩
        rw [List.range_succ, List.map_append, List.filter_append]
        simp only [List.map_cons, List.map_nil, List.filter_cons, hc, if_true, List.filter_nil]
        unfold zs at hys ⊢
        rw [List.map_append]
        refine hys.append ?_
        rw [ek]
        constructor
        constructor
      · rename_i hc
        rename Fr g' L' _ _ => F6
        rename News g' L' _ _ => N6
        refine LCg.CompEnd.intro F6 N6 _ (fun _ h => h) off trivial ⟨rfl, ?_⟩
        rw [List.range_succ, List.map_append, List.filter_append]
        simp only [List.map_cons, List.map_nil, List.filter_cons, hc, Bool.false_eq_true, if_false, List.filter_nil, List.append_nil]
        exact hys
  case fin =>
    rintro D h6 tk6 ys nx F6 N6 o1' ⟨rfl, hys⟩
    have hne : 0 < (zs (((List.range l.length).map (· + 1)).filter fun k => l.drop k ++ l.take k == l)).length := by
      rw [zs_len]
      refine List.length_pos_of_mem (a := l.length) (List.mem_filter.mpr ⟨List.mem_map.mpr ⟨l.length - 1, List.mem_range.mpr (by omega), by omega⟩, by simp⟩)
    have hlen : (zs (((List.range l.length).map (· + 1)).filter fun k => l.drop k ++ l.take k == l)).length ≤ 50 := by
      rw [zs_len]
      refine Nat.le_trans (List.length_filter_le _ _) ?_
      rw [List.length_map, List.length_range]
      exact hl
    refine wpN_of_any ?_
    k_steps
    have e : (zs (((List.range l.length).map (· + 1)).filter fun k => l.drop k ++ l.take k == l)).getD (Int.toNat 0) 0 = (rootN l : Nat) := by
      rw [zs_getD, rootN, ← List.head?_filter]
      cases List.filter (fun k => l.drop k ++ l.take k == l) (List.map (· + 1) (List.range l.length)) <;> rfl
    rw [e]
    rename Fr h₀ L _ _ => F9
    rename News h₀ L _ _ => N9
    exact hret _ _ _ F9 fun q hq => N9 q (by first | exact hq | exact .tail _ hq | exact .tail _ (.tail _ hq))
end

theorem rsLh : True ∧ True := by
  w_top off
  k_with_none
  first | (walk1; fail) | exact ⟨trivial, trivial⟩
section
open PySem PySem.W PyProof.Rows
set_option Elab.async false
set_option maxRecDepth 100000
set_option maxHeartbeats 4000000
theorem off_grown {T news T1 : List (Addr × Obj)} (hO : Off news T) (hG : Grown T (T ++ news) T1) : Off news T1 := fun p hp q hq => by
  rcases hG q hq with h | h
  · obtain ⟨q0, h0, e⟩ := List.mem_map.mp h
    rw [← e]
    exact hO p hp q0 h0
  · exact Nat.ne_of_lt (h p (List.mem_append_right _ hp))
theorem idn (w : World) (p : Program) (loose : List Str) (mean : ExcName → Option Value) (mg mb : Str → Option Value) (T news : List (Addr × Obj)) (a b : Nat) (ta tb : Tok) (ha1 : a < 2 ^ 30) (hb0 : 0 < b) (hb1 : b < 2 ^ 30) (hT : Tabs T) (hO : Off news T) :
   Cl PySem.Challenge.rw_gh0004_01.row.prog w (hd.heap_39 w.params) p loose mean mg mb 63 (T ++ news) 110 1100 [.int a ta, .int b tb] (fun r T' => ∃ D t1 t2 T1, r = .ref D ∧ T' = (D, tupObj [.int (a / b : Nat) t1, .int (a % b : Nat) t2]) :: (T1 ++ news) ∧ Tabs T1 ∧ Off news T1 ∧ (∀ q ∈ T1 ++ news, @LT.lt Nat _ q.1 D)) := by
  have h := idm w p loose mean mg mb T news a b ta tb (Int.natCast_nonneg _) (by omega) (by omega) (by omega) hT hO
  intro dp un gd cn cs a0 ccd cl outer A₀ base h₀ L m s Q E hB hF hX hN hTp hkd hdp hun hret
  refine h dp un gd cn cs a0 ccd cl outer A₀ base h₀ L m s Q E hB hF hX hN hTp hkd hdp hun fun r T' h' tk' F' N' hp => hret r T' h' tk' F' N' ?_
  obtain ⟨D, t1, t2, T1, e1, e2, h1, h2, h3⟩ := hp
  exact ⟨D, t1, t2, T1, e1, by rw [e2, Int.natCast_ediv, Int.natCast_emod], h1, off_grown hO h2, h3⟩
end

theorem rsNa : True ∧ True := by
  w_top off
  k_with_none
  first | (walk1; fail) | exact ⟨trivial, trivial⟩
section
open PySem PySem.W PyProof.Rows
set_option Elab.async false
set_option maxRecDepth 100000
set_option maxHeartbeats 4000000
abbrev lawD : Stmt := firstDef (Str.ofString "law") PRG.main.body
def RS (k : Nat) : List Stmt := (bodyOf lawD).drop k
def LEnv (L a : Addr) (cdv : Value) : Env := envOfC (Str.ofString "law") (scopeOf lawD) L a cdv
/-- the frame's two names that the law reads later -/
theorem keep2 {g h : Heap} {L : Addr} {m : Str → Option Value} {x y : Str} {a b : Option Value} (F : Fr g L h m) (hx : m x = a) (hy : m y = b) :
    Fr g L h (fun z => if z = x then a else if z = y then b else m z) := by
  refine cast (congrArg (Fr g L h) (funext fun z => ?_)) F
  split
  · rename_i e; rw [e, hx]
  · split
    · rename_i e; rw [e, hy]
    · rfl
theorem rot0 {a b q : Addr × Obj} {T : List (Addr × Obj)} (h : q ∈ T ++ [a, b]) : q ∈ a :: b :: T := by
  simp only [List.mem_append, List.mem_cons, List.not_mem_nil, or_false] at h ⊢
  rcases h with h | h | h
  · exact .inr (.inr h)
  · exact .inl h
  · exact .inr (.inl h)
theorem rot2 {p a b q : Addr × Obj} {T : List (Addr × Obj)} (h : q ∈ p :: a :: b :: T) : q ∈ p :: (T ++ [a, b]) := by
  simp only [List.mem_append, List.mem_cons, List.not_mem_nil, or_false] at h ⊢
  rcases h with h | h | h | h
  · exact .inl h
  · exact .inr (.inr (.inl h))
  · exact .inr (.inr (.inr h))
  · exact .inr (.inl h)
theorem rot05 {i c d a b q : Addr × Obj} {T : List (Addr × Obj)} (h : q ∈ T ++ [i, c, d, a, b]) : q ∈ i :: c :: d :: a :: b :: T := by
  simp only [List.mem_append, List.mem_cons, List.not_mem_nil, or_false] at h ⊢
  rcases h with h | h | h | h | h | h <;> simp [h]
theorem rot5 {p i c d a b q : Addr × Obj} {T : List (Addr × Obj)} (h : q ∈ p :: i :: c :: d :: a :: b :: T) : q ∈ p :: (T ++ [i, c, d, a, b]) := by
  simp only [List.mem_append, List.mem_cons, List.not_mem_nil, or_false] at h ⊢
  rcases h with h | h | h | h | h | h | h <;> simp [h]
theorem off5 {I C D : Addr} {oI oC oD : Obj} {a b : Addr × Obj} {T : List (Addr × Obj)} (off : LCg.Off3 I C D (a :: b :: T)) (hO : Off [a, b] T) : Off [(I, oI), (C, oC), (D, oD), a, b] T := by
  intro q hq q' hq'
  have o := off.mem q' (.tail _ (.tail _ hq'))
  simp only [List.mem_cons, List.not_mem_nil, or_false] at hq
  rcases hq with rfl | rfl | rfl | rfl | rfl
  · exact o.1.symm
  · exact o.2.1.symm
  · exact o.2.2.symm
  · exact hO _ (.head _) q' hq'
  · exact hO _ (.tail _ (.head _)) q' hq'
theorem off5_back {I C D : Addr} {oI oC oD : Obj} {a b : Addr × Obj} {T T0 : List (Addr × Obj)} (off : LCg.Off3 I C D (a :: b :: T0)) (hO : Off [(I, oI), (C, oC), (D, oD), a, b] T) : LCg.Off3 I C D (a :: b :: T) ∧ Off [a, b] T := by
  refine ⟨⟨off.1, off.2.1, LCg.Off3.of fun q hq => ⟨(hO _ (.head _) q hq).symm, (hO _ (.tail _ (.head _)) q hq).symm, (hO _ (.tail _ (.tail _ (.head _))) q hq).symm⟩⟩, fun q hq q' hq' => hO q ?_ q' hq'⟩
  exact .tail _ (.tail _ (.tail _ hq))
/-- what the law asks, told apart -/
structure OkIs (l : List Nat) : Prop where
  pos : 0 < rootN l
  le : rootN l ≤ l.length
  dvd : l.length % rootN l = 0
  rep : (List.replicate (l.length / rootN l) (l.take (rootN l))).flatten = l
  turn : ∀ k, k ≤ l.length → (trn l k == l) = (k % rootN l == 0)
  keys : (keysN [] ((List.range l.length).map (trn l))).length = rootN l
  sub : rootN (l.take (rootN l)) = rootN l
  com : l ++ (List.replicate 3 (l.take (rootN l))).flatten = (List.replicate 3 (l.take (rootN l))).flatten ++ l
  oroot : rootN (List.replicate 3 (l.take (rootN l))).flatten = rootN l
  rev : rootN l.reverse = rootN l
  two : ∀ a b, a < l.length → b < l.length → trn (trn l a) b = trn l ((a + b) % l.length)
theorem ok_is {l : List Nat} (h : okRow l = true) : OkIs l := by
  simp only [okRow, Bool.and_eq_true, decide_eq_true_eq, beq_iff_eq, List.all_eq_true, List.mem_range] at h
  obtain ⟨⟨⟨⟨⟨⟨⟨⟨h1, h2⟩, h3⟩, h4⟩, h5⟩, h6⟩, h7⟩, h8, h9⟩, h10⟩ := h
  exact ⟨h1, h2, h3, h4.symm, fun k hk => h5 k (by omega), h6, h7, h8, h9, h10, fun a b ha hb => trn_trn ha hb⟩
end

local macro_rules | `(tactic| walk_at "exec For") => `(tactic| (k_here; (rename Fr _ _ _ _ => lF'); (with_unfolding_all refine' For_invVF lF' ?k1 ?k2 ?_; (case k1 => exact rfl); (case k2 => exact rfl); k_whole)))
local macro_rules | `(tactic| walk_at "pyIter ref") => `(tactic| ((with_reducible show wpAny _ _ (pyIter (Value.ref _)) (fun it s₂ => LoopAtV _ _ _ _ _ _ _ _ _ it s₂) _ _); refine Stop.go ?_))
theorem rsNb : True ∧ True := by
  w_top off
  k_with_none
  k_with "exec While" => (k_here; refine Stop.go ?_)
  k_with "exec While Compare cons nil" => (k_here; refine Stop.go ?_)
  k_with "exec While BoolOp cons nil" => (k_here; refine Stop.go ?_)
  k_with "KswEnd" => (refine Stop.go ?_)
  k_with "UnrEnd" => (refine Stop.go ?_)
  k_with "call ref" => (k_here; refine Stop.go ?_)
  first | (walk1; fail) | exact ⟨trivial, trivial⟩
section
open PySem PySem.W PyProof.Rows
set_option Elab.async false
set_option maxRecDepth 100000
set_option maxHeartbeats 4000000
theorem ok_part {pt : List Nat} (h3 : ∀ q ∈ pt, q < 3) (h1 : 1 ≤ pt.length) (h4 : pt.length ≤ 4) {n : Nat} (hn : n = 1 ∨ n = 2) : okRow (List.replicate n pt).flatten = true := by
  have hm := parts_mem pt h3
  have key : okRow pt = true ∧ okRow (pt ++ pt) = true := by
    have hl : pt.length = 1 ∨ pt.length = 2 ∨ pt.length = 3 ∨ pt.length = 4 := by omega
    rcases hl with e | e | e | e
    · exact ok_one _ (.head _) _ (e ▸ hm)
    · exact ok_one _ (.tail _ (.head _)) _ (e ▸ hm)
    · exact ok_three _ (e ▸ hm)
    · exact ok_four _ e h3
  rcases hn with rfl | rfl
  · simpa using key.1
  · simpa [List.replicate] using key.2
theorem bytes_mod (x : List Int) : byteArr (List.map (fun a => a.fmod 3) (List.filter (fun _ => true) x)) = Bt (x.map fun a => (a.fmod 3).toNat) := by
  rw [List.filter_eq_self.mpr (fun _ _ => rfl)]
  have e : List.map (fun a => a.fmod 3) x = zs (x.map fun a => (a.fmod 3).toNat) := by
    rw [zs, List.map_map]
    refine List.map_congr_left fun a _ => ?_
    have := Int.fmod_nonneg_of_pos a (by decide : (0 : Int) < 3)
    simp only [Function.comp]
    omega
  rw [e]
  exact zs_bytes _
/-- the row is built -/
theorem seg_a (w : World) (p : Program) (loose : List Str) (mean : ExcName → Option Value) (mg mb : Str → Option Value) (g : Heap) (L a : Addr) (cdv : Value) (s₁ : Shared) (R : Flow → Shared → Prop) (X : (hd.heap_39 w.params).In g) (T : Top p loose mean mg mb g) (B : Below callerA g [] g) (l0 : @LT.lt Nat _ 44 L ∧ @LT.lt Nat _ 37 L) (h₁ : Heap) (tk : Nat) (oR oQ : Obj) (la : Addr) (vs : List Value) (ns : List Int)
    (F : Fr g L h₁ (fun y => if y = Str.ofString "script" then some (.ref la) else none)) (N : News g L h₁ [(L + 1, oR), (L + 2, oQ), (44, tabObj #[]), (37, tabObj #[])]) (dR : oR.data = .cell none) (dQ : oQ.data = .cell none)
    (hl : g.IsList la vs.toArray) (hi : IntsAre vs ns) (hn : ns.length ≤ 63)
    (k : ∀ l t oD m' h' tk', okRow l = true → (∀ q ∈ l, q < 3) → 1 ≤ l.length → l.length ≤ 8 → oD.data = .cell (some (.bytes (Bt l) t)) → m' (Str.ofString "script") = some (.ref la) → Fr g L h' m' → News g L h' [(L + 1, oD), (L + 2, oQ), (44, tabObj #[]), (37, tabObj #[])] →
      wpN (model PySem.Challenge.rw_gh0004_01.row.prog w) (callerA.deeper (LEnv L a cdv)) (execs (RS 2) (LEnv L a cdv)) R (fun _ _ => False) { s₁ with heap := h', toks := tk' }) :
    wpN (model PySem.Challenge.rw_gh0004_01.row.prog w) (callerA.deeper (LEnv L a cdv)) (execs (RS 0) (LEnv L a cdv)) R (fun _ _ => False) { s₁ with heap := h₁, toks := tk } := by
  revert X
  k_fill
  intro X
  obtain ⟨B1, hB1⟩ : ∃ B, B = RS 0 := ⟨_, rfl⟩
  obtain ⟨SC, hS⟩ : ∃ B, B = scopeOf lawD := ⟨_, rfl⟩
  unfold LEnv
  rw [← hB1, ← hS]
  conv at hB1 => rhs; whnf
  conv at hS => rhs; whnf
  subst hB1; subst hS
  refine wpN_execs_cons (wpN_of_any ?_)
  k_steps
  rename Fr _ _ _ _ => F1
  rename News _ _ _ _ => N1
  rw [bytes_mod] at F1
  obtain ⟨c, hc⟩ : ∃ c : Nat, c = (if (if (ns.length : Int) < 4 then (ns.length : Int) else 4) > 1 then (if (ns.length : Int) < 4 then (ns.length : Int) else 4) else 1).toNat := ⟨_, rfl⟩
  rw [← hc] at F1
  have hc1 : 1 ≤ c ∧ c ≤ 4 ∧ c ≤ ns.length + 1 := by
    rw [hc]
    split <;> split <;> omega
  clear hc
  obtain ⟨pt, hpt⟩ : ∃ pt, pt = ((List.take c (ns ++ [0])).map fun a => (a.fmod 3).toNat) := ⟨_, rfl⟩
  rw [← hpt] at F1
  have hp3 : ∀ q ∈ pt, q < 3 := by
    rw [hpt]
    intro q hq
    obtain ⟨a, _, rfl⟩ := List.mem_map.mp hq
    have := Int.fmod_lt_of_pos a (by decide : (0 : Int) < 3)
    have := Int.fmod_nonneg_of_pos a (by decide : (0 : Int) < 3)
    omega
  have hpl : pt.length = c := by
    rw [hpt, List.length_map, List.length_take, List.length_append, List.length_singleton]
    omega
  clear hpt
  obtain ⟨t0, N1, F1⟩ : ∃ t0, News g L _ [(L + 1, oR), (L + 2, oQ), (44, tabObj #[]), (37, tabObj #[])] ∧ Fr g L _ (fun y => if y = Str.ofString "part" then some (.bytes (Bt pt) t0) else if y = Str.ofString "script" then some (.ref la) else none) := ⟨_, fun q hq => N1 q (.tail _ (.tail _ (.tail _ hq))), F1⟩
  k_sweep
  refine wpN_execs_cons (wpN_of_any ?_)
  k_steps
  obtain ⟨n, hnn, hn2⟩ : ∃ n : Nat, 1 + ns.sum.fmod 2 = (n : Int) ∧ (n = 1 ∨ n = 2) := by
    have h0 := Int.fmod_nonneg_of_pos ns.sum (by decide : (0 : Int) < 2)
    have h1 := Int.fmod_lt_of_pos ns.sum (by decide : (0 : Int) < 2)
    exact ⟨(1 + ns.sum.fmod 2).toNat, by omega, by omega⟩
  rw [hnn]
  refine mul_Bt (by omega) (by omega) (by omega) (by omega) fun t1 k1 => ?_
  rw [Int.toNat_natCast]
  have hok := ok_part hp3 (by omega) (by omega) hn2
  have hq : ∀ q ∈ (List.replicate n pt).flatten, q < 3 := fun q hq => by
    obtain ⟨x, hx, hqx⟩ := List.mem_flatten.mp hq
    rw [List.eq_of_mem_replicate hx] at hqx
    exact hp3 q hqx
  have hlen : 1 ≤ (List.replicate n pt).flatten.length ∧ (List.replicate n pt).flatten.length ≤ 8 := by
    rw [List.length_flatten, List.map_replicate, List.sum_replicate_nat]
    rcases hn2 with rfl | rfl <;> omega
  generalize (List.replicate n pt).flatten = l at hok hq hlen ⊢
  k_steps
  rename (Obj.data _ = Data.cell (some _)) => dD
  rename Fr _ _ _ _ => F6
  rename News _ _ _ _ => N6
  exact k l t1 _ _ _ _ hok hq hlen.1 hlen.2 dD rfl F6 N6
end

theorem rsNc : True ∧ True := by
  w_top off
  k_with_none
  k_with "exec While" => (k_here; refine Stop.go ?_)
  k_with "exec While Compare cons nil" => (k_here; refine Stop.go ?_)
  k_with "exec While BoolOp cons nil" => (k_here; refine Stop.go ?_)
  k_with "KswEnd" => (refine Stop.go ?_)
  k_with "UnrEnd" => (refine Stop.go ?_)
  k_with "call ref" => (k_here; refine Stop.go ?_)
  first | (walk1; fail) | exact ⟨trivial, trivial⟩
section
open PySem PySem.W PyProof.Rows
set_option Elab.async false
set_option maxRecDepth 100000
set_option maxHeartbeats 4000000
/-- its length and its root -/
theorem seg_b (w : World) (p : Program) (loose : List Str) (mean : ExcName → Option Value) (mg mb : Str → Option Value) (g : Heap) (L a : Addr) (cdv : Value) (s₁ : Shared) (R : Flow → Shared → Prop) (X : (hd.heap_39 w.params).In g) (T : Top p loose mean mg mb g) (B : Below callerA g [] g) (l0 : @LT.lt Nat _ 44 L ∧ @LT.lt Nat _ 37 L) (h₁ : Heap) (tk : Nat) (oR oQ : Obj) (l : List Nat) (tl : Tok) (la : Addr) (m' : Str → Option Value)
    (F : Fr g L h₁ m') (N : News g L h₁ [(L + 1, oR), (L + 2, oQ), (44, tabObj #[]), (37, tabObj #[])]) (dR : oR.data = .cell (some (.bytes (Bt l) tl))) (dQ : oQ.data = .cell none)
    (hs : m' (Str.ofString "script") = some (.ref la)) (h3 : ∀ q ∈ l, q < 3) (hl1 : 1 ≤ l.length) (hl8 : l.length ≤ 8)
    (k : ∀ t t2 oD m'' h' tk', oD.data = .cell (some (.int (rootN l : Nat) t)) → m'' (Str.ofString "script") = some (.ref la) → m'' (Str.ofString "size") = some (.int (l.length : Nat) t2) → Fr g L h' m'' → News g L h' [(L + 1, oR), (L + 2, oD), (44, tabObj #[]), (37, tabObj #[])] →
      wpN (model PySem.Challenge.rw_gh0004_01.row.prog w) (callerA.deeper (LEnv L a cdv)) (execs (RS 3) (LEnv L a cdv)) R (fun _ _ => False) { s₁ with heap := h', toks := tk' }) :
    wpN (model PySem.Challenge.rw_gh0004_01.row.prog w) (callerA.deeper (LEnv L a cdv)) (execs (RS 2) (LEnv L a cdv)) R (fun _ _ => False) { s₁ with heap := h₁, toks := tk } := by
  have h256 : ∀ q ∈ l, q < 256 := fun q hq => by have := h3 q hq; omega
  obtain ⟨hl50⟩ : Nonempty (l.length ≤ 50) := ⟨by omega⟩
  revert X
  k_fill
  intro X
  obtain ⟨B1, hB1⟩ : ∃ B, B = RS 2 := ⟨_, rfl⟩
  obtain ⟨SC, hS⟩ : ∃ B, B = scopeOf lawD := ⟨_, rfl⟩
  unfold LEnv
  rw [← hB1, ← hS]
  conv at hB1 => rhs; whnf
  conv at hS => rhs; whnf
  subst hB1; subst hS
  refine wpN_execs_cons (wpN_Assign_Tuple (wpN_Tuple (wpN_args_cons (wpN_of_any ?_))))
  k_steps
  refine wpN_args_cons (wpN_CallName ?_)
  k_steps
  refine wpN_call_fn (hlen := by show ¬ (1 + 2 * 0 > 30); decide) (wpN_args_cons (wpN_of_any ?_))
  k_steps
  refine wpN_args_nil ⟨⟨_, _, F.keep _ _ (X _ _ (by k_dflt k_is)), rfl⟩, ?_⟩
  refine' lrt w p loose mean mg mb [(L + 1, oR), (L + 2, oQ), (44, tabObj #[]), (37, tabObj #[])] l _ h256 (by omega) (by omega) _ _ _ _ _ _ _ _ _ _ _ _ _ _ _ _ _ ?bB ?bF ?bX ?bN ?bT ?bk ?bd ?bu ?bR
  case bB => k_asm
  case bF => k_asm
  case bX => k_asm
  case bN => k_asm
  case bT => k_asm
  case bk => rfl
  case bd => first | (dsimp only [ktrTop]; omega) | decide | decide +kernel
  case bu => first | (dsimp only [ktrTop]; omega) | decide | decide +kernel
  case bR =>
    dsimp only [CbRet]
    intro t5 h5 tk5 F5 N5
    refine wpN_args_nil ?_
    generalize hr : rootN l = rt at *
    k_steps
    rename (Obj.data _ = Data.cell (some (Value.int _ _))) => dD
    rename Fr _ _ _ _ => F6
    rename News _ _ _ _ => N6
    exact k _ _ _ _ _ _ dD (by exact hs) (by exact rfl) F6 fun q hq => N6 q (.tail _ hq)
end

theorem rsNd : True ∧ True := by
  w_top off
  k_with_none
  k_with "exec While" => (k_here; refine Stop.go ?_)
  k_with "exec While Compare cons nil" => (k_here; refine Stop.go ?_)
  k_with "exec While BoolOp cons nil" => (k_here; refine Stop.go ?_)
  k_with "KswEnd" => (refine Stop.go ?_)
  k_with "UnrEnd" => (refine Stop.go ?_)
  k_with "call ref" => (k_here; refine Stop.go ?_)
  first | (walk1; fail) | exact ⟨trivial, trivial⟩
section
open PySem PySem.W PyProof.Rows
set_option Elab.async false
set_option maxRecDepth 100000
set_option maxHeartbeats 4000000
/-- its root goes into its length; the row is the root told again and again -/
theorem seg_c (w : World) (p : Program) (loose : List Str) (mean : ExcName → Option Value) (mg mb : Str → Option Value) (g : Heap) (L a : Addr) (cdv : Value) (s₁ : Shared) (R : Flow → Shared → Prop) (X : (hd.heap_39 w.params).In g) (T : Top p loose mean mg mb g) (B : Below callerA g [] g) (l0 : @LT.lt Nat _ 44 L ∧ @LT.lt Nat _ 37 L) (h₁ : Heap) (tk : Nat) (oR oQ : Obj) (l : List Nat) (tl tr tz : Tok) (la : Addr) (m' : Str → Option Value) (T0 : List (Addr × Obj)) (hT0 : Tabs T0) (hO0 : Off [(L + 1, oR), (L + 2, oQ)] T0)
    (F : Fr g L h₁ m') (N : News g L h₁ ((L + 1, oR) :: (L + 2, oQ) :: T0)) (dR : oR.data = .cell (some (.bytes (Bt l) tl))) (dQ : oQ.data = .cell (some (.int (rootN l : Nat) tr)))
    (hs : m' (Str.ofString "script") = some (.ref la)) (hz : m' (Str.ofString "size") = some (.int (l.length : Nat) tz)) (ok : OkIs l) (h3 : ∀ q ∈ l, q < 3) (hl1 : 1 ≤ l.length) (hl8 : l.length ≤ 8)
    (k : ∀ (T : List (Addr × Obj)) (m'' : Str → Option Value) (h' : Heap) (tk' : Nat), Tabs T → Off [(L + 1, oR), (L + 2, oQ)] T → m'' (Str.ofString "script") = some (.ref la) → m'' (Str.ofString "size") = some (.int (l.length : Nat) tz) → Fr g L h' m'' → News g L h' ((L + 1, oR) :: (L + 2, oQ) :: T) →
      wpN (model PySem.Challenge.rw_gh0004_01.row.prog w) (callerA.deeper (LEnv L a cdv)) (execs (RS 4) (LEnv L a cdv)) R (fun _ _ => False) { s₁ with heap := h', toks := tk' }) :
    wpN (model PySem.Challenge.rw_gh0004_01.row.prog w) (callerA.deeper (LEnv L a cdv)) (execs (RS 3) (LEnv L a cdv)) R (fun _ _ => False) { s₁ with heap := h₁, toks := tk } := by
  have h256 : ∀ q ∈ l, q < 256 := fun q hq => by have := h3 q hq; omega
  obtain ⟨hl50⟩ : Nonempty (l.length ≤ 50) := ⟨by omega⟩
  have rpos := ok.pos
  have rle := ok.le
  replace F := keep2 F hs hz
  have hdv := ok.dvd
  have hrep := ok.rep
  have hq1 : l.length / rootN l ≤ 50 := Nat.le_trans (Nat.div_le_self _ _) hl50
  revert X
  k_fill
  intro X
  obtain ⟨B1, hB1⟩ : ∃ B, B = RS 3 := ⟨_, rfl⟩
  obtain ⟨SC, hS⟩ : ∃ B, B = scopeOf lawD := ⟨_, rfl⟩
  unfold LEnv
  rw [← hB1, ← hS]
  conv at hB1 => rhs; whnf
  conv at hS => rhs; whnf
  subst hB1; subst hS
  refine wpN_execs_cons (wpN_of_any ?_)
  generalize hr : rootN l = r at *
  k_steps
  (first | refine Stop.on ?_ | skip)
  refine' Cl.use (idn w p loose mean mg mb T0 [(L + 1, oR), (L + 2, oQ)] l.length r _ _ (by omega) rpos (by omega) hT0 hO0) ?yB ?yF ?yX ?yN ?ysub ?yT ?yk ?yd ?yu ?_
  case yB => k_asm
  case yF => k_asm
  case yX => k_asm
  case yN => k_asm
  case yT => k_asm
  case yk => first | exact rfl | assumption
  case yd => first | (dsimp only [ktrTop]; omega) | decide | decide +kernel
  case yu => first | (dsimp only [ktrTop]; omega) | decide | decide +kernel
  case ysub => exact fun q hq => rot0 hq
  rintro r1 T2 h2 tk2 F2 N2 ⟨D, t1, t2, T1, rfl, rfl, hT1, hO1, hlt⟩
  replace N2 : News g L h2 (_ :: (L + 1, oR) :: (L + 2, oQ) :: T1) := fun q hq => N2 q (rot2 hq)
  k_sweep
  rw [hdv] at N2
  generalize hdd : l.length / r = dd at *
  dsimp only
  k_steps
  (first | refine Stop.on ?_ | skip)
  refine' Cl.use (idn w p loose mean mg mb T1 [(L + 1, oR), (L + 2, oQ)] l.length r _ _ (by omega) rpos (by omega) hT1 hO1) ?zB ?zF ?zX ?zN ?zsub ?zT ?zk ?zd ?zu ?_
  case zB => k_asm
  case zF => k_asm
  case zX => k_asm
  case zN => k_asm
  case zT => k_asm
  case zk => first | exact rfl | assumption
  case zd => first | (dsimp only [ktrTop]; omega) | decide | decide +kernel
  case zu => first | (dsimp only [ktrTop]; omega) | decide | decide +kernel
  case zsub => exact fun q hq => .tail _ (rot0 hq)
  rintro r3 T3 h3' tk3 F3 N3 ⟨D3, t3, t4, T4, rfl, rfl, hT4, hO4, hlt4⟩
  replace N3 : News g L h3' (_ :: (L + 1, oR) :: (L + 2, oQ) :: T4) := fun q hq => N3 q (rot2 hq)
  k_sweep
  rw [hdv, hdd] at N3
  dsimp only
  k_steps
  have hlt1 : (l.take r).length = r := by rw [List.length_take]; omega
  refine mul_Bt (by omega) (by omega) (by omega) (by omega) fun t5 k5 => ?_
  rw [Int.toNat_natCast, hrep]
  k_steps
  · exact absurd (by assumption : (l != l) = true) (by simp)
  · rename Fr _ _ _ _ => F6
    rename News _ _ _ _ => N6
    exact k _ _ _ _ hT4 hO4 (by exact rfl) (by exact rfl) F6 fun q hq => N6 q (.tail _ hq)
end

theorem rsNe : True ∧ True := by
  w_top off
  k_with_none
  k_with "exec While" => (k_here; refine Stop.go ?_)
  k_with "exec While Compare cons nil" => (k_here; refine Stop.go ?_)
  k_with "exec While BoolOp cons nil" => (k_here; refine Stop.go ?_)
  k_with "KswEnd" => (refine Stop.go ?_)
  k_with "UnrEnd" => (refine Stop.go ?_)
  k_with "call ref" => (k_here; refine Stop.go ?_)
  first | (walk1; fail) | exact ⟨trivial, trivial⟩
section
open PySem PySem.W PyProof.Rows
set_option Elab.async false
set_option maxRecDepth 100000
set_option maxHeartbeats 4000000
/-- it comes to itself at so many times its root, and at no others -/
theorem seg_d (w : World) (p : Program) (loose : List Str) (mean : ExcName → Option Value) (mg mb : Str → Option Value) (g : Heap) (L a : Addr) (cdv : Value) (s₁ : Shared) (R : Flow → Shared → Prop) (X : (hd.heap_39 w.params).In g) (T : Top p loose mean mg mb g) (B : Below callerA g [] g) (l0 : @LT.lt Nat _ 44 L ∧ @LT.lt Nat _ 37 L) (h₁ : Heap) (tk : Nat) (oR oQ : Obj) (l : List Nat) (tl tr tz : Tok) (la : Addr) (m' : Str → Option Value) (T0 : List (Addr × Obj)) (hT0 : Tabs T0) (hO0 : Off [(L + 1, oR), (L + 2, oQ)] T0)
    (F : Fr g L h₁ m') (N : News g L h₁ ((L + 1, oR) :: (L + 2, oQ) :: T0)) (dR : oR.data = .cell (some (.bytes (Bt l) tl))) (dQ : oQ.data = .cell (some (.int (rootN l : Nat) tr)))
    (hs : m' (Str.ofString "script") = some (.ref la)) (hz : m' (Str.ofString "size") = some (.int (l.length : Nat) tz)) (ok : OkIs l) (h3 : ∀ q ∈ l, q < 3) (hl1 : 1 ≤ l.length) (hl8 : l.length ≤ 8)
    (k : ∀ (T : List (Addr × Obj)) (m'' : Str → Option Value) (h' : Heap) (tk' : Nat), Tabs T → Off [(L + 1, oR), (L + 2, oQ)] T → m'' (Str.ofString "script") = some (.ref la) → m'' (Str.ofString "size") = some (.int (l.length : Nat) tz) → Fr g L h' m'' → News g L h' ((L + 1, oR) :: (L + 2, oQ) :: T) →
      wpN (model PySem.Challenge.rw_gh0004_01.row.prog w) (callerA.deeper (LEnv L a cdv)) (execs (RS 5) (LEnv L a cdv)) R (fun _ _ => False) { s₁ with heap := h', toks := tk' }) :
    wpN (model PySem.Challenge.rw_gh0004_01.row.prog w) (callerA.deeper (LEnv L a cdv)) (execs (RS 4) (LEnv L a cdv)) R (fun _ _ => False) { s₁ with heap := h₁, toks := tk } := by
  have h256 : ∀ q ∈ l, q < 256 := fun q hq => by have := h3 q hq; omega
  obtain ⟨hl50⟩ : Nonempty (l.length ≤ 50) := ⟨by omega⟩
  have rpos := ok.pos
  have rle := ok.le
  replace F := keep2 F hs hz
  have hturn := ok.turn
  obtain ⟨hid⟩ : Nonempty (l.length ≤ 8) := ⟨hl8⟩
  clear hl8
  revert X
  k_fill
  intro X
  obtain ⟨B1, hB1⟩ : ∃ B, B = RS 4 := ⟨_, rfl⟩
  obtain ⟨SC, hS⟩ : ∃ B, B = scopeOf lawD := ⟨_, rfl⟩
  unfold LEnv
  rw [← hB1, ← hS]
  conv at hB1 => rhs; whnf
  conv at hS => rhs; whnf
  subst hB1; subst hS
  refine wpN_execs_cons (wpN_If (wpN_isTrue_Compare (ListComp_N F (by with_unfolding_all rfl) (by decide) (by rfl) (by decide) (by rfl) (wpN_of_any ?_))))
  generalize hr : rootN l = r at *
  k_steps
  rename Fr _ _ _ _ => F2
  rename News _ _ _ _ => N2
  refine NSrc.range (n := l.length + 1) (fun i ys nx => ys = [] ∧ ∃ T, nx = (L + 1, oR) :: (L + 2, oQ) :: T ∧ Tabs T ∧ Off [(L + 1, oR), (L + 2, oQ)] T) rfl F2 (news := (L + 1, oR) :: (L + 2, oQ) :: T0) (fun q hq => N2 q (by first | exact hq | exact .tail _ hq)) (by assumption) ?sm ?hn ?hz ?hJ ?T ?fin
  case sm => exact small_one (by omega) (by omega) (by omega) (by omega)
  case hn => rw [rangeSize_one]; split <;> omega
  case hz => rw [PySem.sizeLine_eq]; omega
  case hJ => exact ⟨rfl, T0, rfl, hT0, hO0⟩
  case T =>
    rintro G i v ys nx I oI C oC D m₂ h tk hi ⟨u, rfl⟩ hC hx1 F3 N3 off ne ⟨rfl, T1, rfl, hT1, hO1⟩
    k_sweep
    refine wpN_tests_one (wpN_isTrue_Compare (wpN_Compare (wpN_CallName ?_)))
    k_steps
    refine wpN_call_fn (hlen := by show ¬ (2 + 2 * 0 > 30); decide) (wpN_args_cons (wpN_of_any ?_))
    k_steps
    refine wpN_args_cons (wpN_of_any ?_)
    k_steps
    rename Fr _ _ _ _ => F4
    rename News _ _ _ _ => N4
    refine wpN_args_nil ⟨⟨_, _, F4.keep _ _ (X _ _ (by k_dflt k_is)), rfl⟩, ?_⟩
    have ek : (0 + (i : Int)) = ((i : Nat) : Int) := by omega
    rw [ek]
    rw [ek] at hx1
    refine' ltd w p loose mean mg mb ((I, oI) :: (C, oC) :: (D, LCg.lst []) :: (L + 1, oR) :: (L + 2, oQ) :: T1) l _ i _ h256 (by omega) hl50 (by omega) _ _ _ _ _ _ _ _ _ _ _ _ _ _ _ _ _ ?bB ?bF ?bX ?bN ?bT ?bk ?bd ?bu ?bR
    case bB => k_asm
    case bF => k_asm
    case bX => k_asm
    case bN => k_asm
    case bT => k_asm
    case bk => rfl
    case bd => first | (dsimp only [ktrTop]; omega) | decide | decide +kernel
    case bu => first | (dsimp only [ktrTop]; omega) | decide | decide +kernel
    case bR =>
      dsimp only [CbRet]
      intro t5 h5 tk5 F5 N5
      refine wpN_of_any ?_
      k_steps
      have hbt : ∀ q ∈ l.drop i ++ l.take i, q < 256 := fun q hq => by
        rcases List.mem_append.mp hq with hq | hq
        · exact h256 q (List.mem_of_mem_drop hq)
        · exact h256 q (List.mem_of_mem_take hq)
      refine wpAny_operating (eq_Bt hbt h256 ?_)
      have et : (l.drop i ++ l.take i == l) = (i % r == 0) := hturn i (by omega)
      rw [et]
      refine wpN_of_any ?_
      k_steps
      (first | refine Stop.on ?_ | skip)
      refine' Cl.use (idn w p loose mean mg mb T1 [(I, oI), (C, oC), (D, LCg.lst []), (L + 1, oR), (L + 2, oQ)] i r _ _ (by omega) rpos (by omega) hT1 (off5 off hO1)) ?yB ?yF ?yX ?yN ?ysub ?yT ?yk ?yd ?yu ?_
      case yB => k_asm
      case yF => k_asm
      case yX => k_asm
      case yN => k_asm
      case yT => k_asm
      case yk => first | exact rfl | assumption
      case yd => first | (dsimp only [ktrTop]; omega) | decide | decide +kernel
      case yu => first | (dsimp only [ktrTop]; omega) | decide | decide +kernel
      case ysub => exact fun q hq => rot05 hq
      rintro r6 T6 h6 tk6 F6 N6 ⟨D6, t6, t7, T7, rfl, rfl, hT7, hO7, hlt7⟩
      replace N6 : News g L h6 (_ :: (I, oI) :: (C, oC) :: (D, LCg.lst []) :: (L + 1, oR) :: (L + 2, oQ) :: T7) := fun q hq => N6 q (rot5 hq)
      k_sweep
      dsimp only
      k_steps
      refine wpAny_operating (ne_bool ?_)
      have eb : ((i % r == 0) != (((i % r : Nat) : Int) == 0)) = false := by
        have : ((i % r == 0) : Bool) = (((i % r : Nat) : Int) == 0) := by
          rw [Bool.eq_iff_iff, beq_iff_eq, beq_iff_eq]
          omega
        rw [this]
        exact bne_self_eq_false _
      rw [eb]
      k_steps
      rename Fr _ _ _ _ => F9
      rename News _ _ _ _ => N9
      obtain ⟨off7, hO8⟩ := off5_back off hO7
      exact LCg.CompEnd.intro F9 N9 _ (fun _ h => .tail _ h) off7 trivial ⟨rfl, T7, rfl, hT7, hO8⟩
  case fin =>
    rintro D h6 tk6 ys nx F6 N6 o1' ⟨rfl, T6, rfl, hT6, hO6⟩
    refine wpN_of_any ?_
    k_steps
    refine wpAny_operating ?_
    k_steps
    refine wpN_ff rfl (wpN_execs_nil ?_)
    rename Fr _ _ _ _ => F9
    rename News _ _ _ _ => N9
    exact k _ _ _ _ hT6 hO6 (by exact rfl) (by exact rfl) F9 fun q hq => N9 q (.tail _ (.tail _ hq))
end

theorem rsNf : True ∧ True := by
  w_top off
  k_with_none
  k_with "exec While" => (k_here; refine Stop.go ?_)
  k_with "exec While Compare cons nil" => (k_here; refine Stop.go ?_)
  k_with "exec While BoolOp cons nil" => (k_here; refine Stop.go ?_)
  k_with "KswEnd" => (refine Stop.go ?_)
  k_with "UnrEnd" => (refine Stop.go ?_)
  k_with "call ref" => (k_here; refine Stop.go ?_)
  first | (walk1; fail) | exact ⟨trivial, trivial⟩
section
open PySem PySem.W PyProof.Rows
set_option Elab.async false
set_option maxRecDepth 100000
set_option maxHeartbeats 4000000
def PairsAt (rest : List (List UInt8 × Value)) (ys : List Value) (nx : List (Addr × Obj)) : Prop :=
  ys.length = rest.length ∧ ∀ (q : Nat) (p : List UInt8 × Value), rest[q]? = some p → ∃ a o tk c, ys[q]? = some (.ref a) ∧ (a, o) ∈ nx ∧ o.cls = .type "tuple" ∧ o.data = .seq #[.bytes p.1.toArray tk, p.2] c
theorem pairs_step {rest : List (List UInt8 × Value)} {ys : List Value} {nx nx' : List (Addr × Obj)} {a : Addr} {k : List Nat} {t : Tok} {v : Value} (hP : PairsAt rest ys nx) (hsub : ∀ q ∈ nx, q ∈ nx') (hm : (a, tupObj [.bytes (Bt k) t, v]) ∈ nx') :
    PairsAt (rest ++ [(u8 k, v)]) (ys ++ [.ref a]) nx' := by
  obtain ⟨hl, hP⟩ := hP
  refine ⟨by rw [List.length_append, List.length_append, hl]; rfl, fun q p hq => ?_⟩
  rcases Nat.lt_trichotomy q rest.length with h1 | h1 | h1
  · rw [List.getElem?_append_left h1] at hq
    obtain ⟨a', o, tk, c, g1, g2, g3, g4⟩ := hP q p hq
    exact ⟨a', o, tk, c, by rw [List.getElem?_append_left (by omega)]; exact g1, hsub _ g2, g3, g4⟩
  · rw [h1, List.getElem?_append_right (Nat.le_refl _), Nat.sub_self] at hq
    obtain rfl := Option.some.inj hq
    exact ⟨a, _, t, _, by rw [h1, ← hl, List.getElem?_append_right (Nat.le_refl _), Nat.sub_self]; rfl, hm, rfl, rfl⟩
  · rw [List.getElem?_append_right (Nat.le_of_lt h1)] at hq
    obtain ⟨d, hd⟩ : ∃ d, q - rest.length = d + 1 := ⟨q - rest.length - 1, by omega⟩
    rw [hd] at hq
    cases hq
theorem trn_lt {l : List Nat} {b k : Nat} (h : ∀ q ∈ l, q < b) : ∀ q ∈ trn l k, q < b := fun q hq => by
  rcases List.mem_append.mp hq with hq | hq
  · exact h q (List.mem_of_mem_drop hq)
  · exact h q (List.mem_of_mem_take hq)
/-- so many unlike turns as its root says -/
theorem seg_e (w : World) (p : Program) (loose : List Str) (mean : ExcName → Option Value) (mg mb : Str → Option Value) (g : Heap) (L a : Addr) (cdv : Value) (s₁ : Shared) (R : Flow → Shared → Prop) (X : (hd.heap_39 w.params).In g) (T : Top p loose mean mg mb g) (B : Below callerA g [] g) (l0 : @LT.lt Nat _ 44 L ∧ @LT.lt Nat _ 37 L) (h₁ : Heap) (tk : Nat) (oR oQ : Obj) (l : List Nat) (tl tr tz : Tok) (la : Addr) (m' : Str → Option Value) (T0 : List (Addr × Obj)) (hT0 : Tabs T0) (hO0 : Off [(L + 1, oR), (L + 2, oQ)] T0)
    (F : Fr g L h₁ m') (N : News g L h₁ ((L + 1, oR) :: (L + 2, oQ) :: T0)) (dR : oR.data = .cell (some (.bytes (Bt l) tl))) (dQ : oQ.data = .cell (some (.int (rootN l : Nat) tr)))
    (hs : m' (Str.ofString "script") = some (.ref la)) (hz : m' (Str.ofString "size") = some (.int (l.length : Nat) tz)) (ok : OkIs l) (h3 : ∀ q ∈ l, q < 3) (hl1 : 1 ≤ l.length) (hl8 : l.length ≤ 8)
    (k : ∀ (T : List (Addr × Obj)) (m'' : Str → Option Value) (h' : Heap) (tk' : Nat), Tabs T → Off [(L + 1, oR), (L + 2, oQ)] T → m'' (Str.ofString "script") = some (.ref la) → m'' (Str.ofString "size") = some (.int (l.length : Nat) tz) → Fr g L h' m'' → News g L h' ((L + 1, oR) :: (L + 2, oQ) :: T) →
      wpN (model PySem.Challenge.rw_gh0004_01.row.prog w) (callerA.deeper (LEnv L a cdv)) (execs (RS 7) (LEnv L a cdv)) R (fun _ _ => False) { s₁ with heap := h', toks := tk' }) :
    wpN (model PySem.Challenge.rw_gh0004_01.row.prog w) (callerA.deeper (LEnv L a cdv)) (execs (RS 5) (LEnv L a cdv)) R (fun _ _ => False) { s₁ with heap := h₁, toks := tk } := by
  have h256 : ∀ q ∈ l, q < 256 := fun q hq => by have := h3 q hq; omega
  obtain ⟨hl50⟩ : Nonempty (l.length ≤ 50) := ⟨by omega⟩
  have rpos := ok.pos
  have rle := ok.le
  replace F := keep2 F hs hz
  have hkeys := ok.keys
  have hsub := ok.sub
  obtain ⟨hid⟩ : Nonempty (l.length ≤ 8) := ⟨hl8⟩
  clear hl8
  revert X
  k_fill
  intro X
  obtain ⟨B1, hB1⟩ : ∃ B, B = RS 5 := ⟨_, rfl⟩
  obtain ⟨SC, hS⟩ : ∃ B, B = scopeOf lawD := ⟨_, rfl⟩
  unfold LEnv
  rw [← hB1, ← hS]
  conv at hB1 => rhs; whnf
  conv at hS => rhs; whnf
  subst hB1; subst hS
  refine wpN_execs_cons (wpN_Assign_Name (wpN_CallName ?_))
  k_steps
  refine wpN_call_type (wpN_args_cons (ListComp_N F (by with_unfolding_all rfl) (by decide) (by rfl) (by decide) (by rfl) (wpN_of_any ?_)))
  k_steps
  rename Fr _ _ _ _ => F2
  rename News _ _ _ _ => N2
  refine NSrc.range (n := l.length) (fun i ys nx => ∃ X rest, nx = (L + 1, oR) :: (L + 2, oQ) :: X ∧ (∀ q ∈ T0, q ∈ X) ∧ PairsAt rest ys nx ∧ rest.map (·.1) = ((List.range i).map (trn l)).map u8) rfl F2 (news := (L + 1, oR) :: (L + 2, oQ) :: T0) (fun q hq => N2 q (by first | exact hq | exact .tail _ hq)) (by assumption) ?sm ?hn ?hz ?hJ ?T ?fin
  case sm => exact small_one (by omega) (by omega) (by omega) (by omega)
  case hn => rw [rangeSize_one]; split <;> omega
  case hz => rw [PySem.sizeLine_eq]; omega
  case hJ => exact ⟨T0, [], rfl, fun _ h => h, ⟨rfl, fun q p hq => nomatch hq⟩, rfl⟩
  case T =>
    rintro G i v ys nx I oI C oC D m₂ h tk hi ⟨u, rfl⟩ hC hx1 F3 N3 off ne ⟨Y, rest, rfl, hX, hP, hrm⟩
    k_sweep
    refine wpN_tests_nil ?_
    rw [if_pos rfl]
    refine wpN_Tuple (wpN_args_cons (wpN_CallName ?_))
    k_steps
    refine wpN_call_fn (hlen := by show ¬ (2 + 2 * 0 > 30); decide) (wpN_args_cons (wpN_of_any ?_))
    k_steps
    refine wpN_args_cons (wpN_of_any ?_)
    k_steps
    rename Fr _ _ _ _ => F4
    rename News _ _ _ _ => N4
    refine wpN_args_nil ⟨⟨_, _, F4.keep _ _ (X _ _ (by k_dflt k_is)), rfl⟩, ?_⟩
    have ek : (0 + (i : Int)) = ((i : Nat) : Int) := by omega
    rw [ek]
    rw [ek] at hx1
    refine' ltd w p loose mean mg mb ((I, oI) :: (C, oC) :: (D, LCg.lst ys) :: (L + 1, oR) :: (L + 2, oQ) :: Y) l _ i _ h256 (by omega) hl50 (by omega) _ _ _ _ _ _ _ _ _ _ _ _ _ _ _ _ _ ?bB ?bF ?bX ?bN ?bT ?bk ?bd ?bu ?bR
    case bB => k_asm
    case bF => k_asm
    case bX => k_asm
    case bN => k_asm
    case bT => k_asm
    case bk => rfl
    case bd => first | (dsimp only [ktrTop]; omega) | decide | decide +kernel
    case bu => first | (dsimp only [ktrTop]; omega) | decide | decide +kernel
    case bR =>
      dsimp only [CbRet]
      intro t5 h5 tk5 F5 N5
      refine wpN_args_cons (wpN_of_any ?_)
      k_steps
      refine wpN_args_nil ?_
      k_steps
      rename Fr _ _ _ _ => F9
      rename News _ _ _ _ => N9
      rename (@LT.lt Nat _ I _ ∧ _) => l9
      rename Addr => D9
      obtain ⟨ti, N9⟩ : ∃ ti, News g L _ ((D9, tupObj [.bytes (Bt (trn l i)) t5, .int 1 ti]) :: (I, oI) :: (C, oC) :: (D, LCg.lst ys) :: (L + 1, oR) :: (L + 2, oQ) :: Y) := ⟨_, N9⟩
      refine LCg.CompEnd.intro F9 N9 ((L + 1, oR) :: (L + 2, oQ) :: (D9, tupObj [.bytes (Bt (trn l i)) t5, .int 1 ti]) :: Y) ?sub ?off trivial ⟨_, _, rfl, fun q hq => .tail _ (hX q hq), pairs_step hP ?_ (.tail _ (.tail _ (.head _))), ?_⟩
      case sub =>
        intro q hq
        rcases List.mem_cons.mp hq with rfl | hq
        · exact .tail _ (.head _)
        rcases List.mem_cons.mp hq with rfl | hq
        · exact .tail _ (.tail _ (.head _))
        rcases List.mem_cons.mp hq with rfl | hq
        · exact .tail _ (.tail _ (.tail _ (.head _)))
        rcases List.mem_cons.mp hq with rfl | hq
        · exact .tail _ (.tail _ (.tail _ (.tail _ (.head _))))
        rcases List.mem_cons.mp hq with rfl | hq
        · exact .tail _ (.tail _ (.tail _ (.tail _ (.tail _ (.head _)))))
        rcases List.mem_cons.mp hq with rfl | hq
        · exact .head _
        · exact .tail _ (.tail _ (.tail _ (.tail _ (.tail _ (.tail _ hq)))))
      case off => exact ⟨off.1, off.2.1, ⟨(Nat.ne_of_lt l9.1).symm, (Nat.ne_of_lt l9.2.1).symm, (Nat.ne_of_lt l9.2.2.1).symm⟩, off.2.2⟩
      · intro q hq
        rcases List.mem_cons.mp hq with rfl | hq
        · exact .head _
        rcases List.mem_cons.mp hq with rfl | hq
        · exact .tail _ (.head _)
        · exact .tail _ (.tail _ (.tail _ hq))
      · rw [List.map_append, hrm, List.range_succ, List.map_append, List.map_append]
        rfl
  case fin =>
    rintro D h6 tk6 ys nx F6 N6 o1' ⟨Y, rest, rfl, hX, hP, hrm⟩
    refine wpN_args_nil (wpN_of_any ?_)
    refine dict_pairs_L (A := callerA.deeper _) rfl (Top.nolimit T) F6 N6 (.head _) rfl rfl rfl ?z1 hP.1 ?z2 hrm ?z3 fun D2 h7 tk7 o7 kvs F7 N7 hdo hkl lo => ?_
    case z1 =>
      have := congrArg List.length hrm
      simp only [List.length_map, List.length_range] at this
      omega
    case z2 =>
      intro q p hq
      obtain ⟨a, o, tk, c, g1, g2, g3, g4⟩ := hP.2 q p hq
      exact ⟨a, o, tk, c, g1, .tail _ g2, g3, g4⟩
    case z3 =>
      intro x hx
      obtain ⟨y, _, rfl⟩ := List.mem_map.mp hx
      exact trn_lt h256
    rw [hkeys] at hkl
    k_steps
    rename Fr _ _ _ _ => F8
    rename News _ _ _ _ => N8
    k_sweep
    refine wpN_execs_cons (wpN_If (wpN_isTrue_Or (wpN_isTrue_Compare (wpN_of_any ?_))))
    generalize hr : rootN l = r at *
    k_steps
    rename News _ _ _ _ => N9
    refine kda_len (knd := bytesKind _ _) N9 (.head _) hdo lo (by omega) ?_
    rw [hkl]
    refine wpN_of_any ?_
    k_steps
    refine wpAny_operating ?_
    k_steps
    · exact absurd rfl (by assumption : ((r : Nat) : Int) ≠ ((r : Nat) : Int))
    refine wpN_isTrue_Compare (wpN_CallName ?_)
    k_steps
    refine wpN_call_fn (hlen := by show ¬ (1 + 2 * 0 > 30); decide) (wpN_args_cons (wpN_of_any ?_))
    k_steps
    rename Fr _ _ _ _ => F4
    rename News _ _ _ _ => N4
    refine wpN_args_nil ⟨⟨_, _, F4.keep _ _ (X _ _ (by k_dflt k_is)), rfl⟩, ?_⟩
    have hlt1 : (l.take r).length = r := by rw [List.length_take]; omega
    refine' lrt w p loose mean mg mb ((D2, o7) :: (D, LCg.lst ys) :: (L + 1, oR) :: (L + 2, oQ) :: Y) (l.take r) _ (fun q hq => h256 q (List.mem_of_mem_take hq)) (by omega) (by omega) _ _ _ _ _ _ _ _ _ _ _ _ _ _ _ _ _ ?bB ?bF ?bX ?bN ?bT ?bk ?bd ?bu ?bR
    case bB => k_asm
    case bF => k_asm
    case bX => k_asm
    case bN => k_asm
    case bT => k_asm
    case bk => rfl
    case bd => first | (dsimp only [ktrTop]; omega) | decide | decide +kernel
    case bu => first | (dsimp only [ktrTop]; omega) | decide | decide +kernel
    case bR =>
      dsimp only [CbRet]
      intro t5 h5 tk5 F5 N5
      refine wpN_of_any ?_
      rw [hsub]
      k_steps
      refine wpAny_operating ?_
      k_steps
      refine wpN_ff (bne_self_eq_false _) (wpN_execs_nil ?_)
      rename Fr _ _ _ _ => F9
      rename News _ _ _ _ => N9
      refine k _ _ _ _ hT0 hO0 (by exact rfl) (by exact rfl) F9 fun q hq => N9 q (.tail _ (.tail _ ?_))
      rcases List.mem_cons.mp hq with rfl | hq
      · exact .head _
      rcases List.mem_cons.mp hq with rfl | hq
      · exact .tail _ (.head _)
      · exact .tail _ (.tail _ (hX q hq))
end

theorem rsNg : True ∧ True := by
  w_top off
  k_with_none
  k_with "exec While" => (k_here; refine Stop.go ?_)
  k_with "exec While Compare cons nil" => (k_here; refine Stop.go ?_)
  k_with "exec While BoolOp cons nil" => (k_here; refine Stop.go ?_)
  k_with "KswEnd" => (refine Stop.go ?_)
  k_with "UnrEnd" => (refine Stop.go ?_)
  k_with "call ref" => (k_here; refine Stop.go ?_)
  first | (walk1; fail) | exact ⟨trivial, trivial⟩
section
open PySem PySem.W PyProof.Rows
set_option Elab.async false
set_option maxRecDepth 100000
set_option maxHeartbeats 4000000
local macro_rules | `(tactic| walk_at "binaryOp Add bytes bytes") => `(tactic| (k_here; (with_reducible show wpAny _ _ (binaryOp Operator.Add (Value.bytes (Bt _) _) (Value.bytes (Bt _) _)) _ _ _); (refine add_Bt (by (try simp only [List.length_append, List.length_reverse, List.length_take, List.length_drop]); omega) ?_); intro _ _; (try dsimp only)))
/-- a turn is what two cuts give -/
theorem seg_f (w : World) (p : Program) (loose : List Str) (mean : ExcName → Option Value) (mg mb : Str → Option Value) (g : Heap) (L a : Addr) (cdv : Value) (s₁ : Shared) (R : Flow → Shared → Prop) (X : (hd.heap_39 w.params).In g) (T : Top p loose mean mg mb g) (B : Below callerA g [] g) (l0 : @LT.lt Nat _ 44 L ∧ @LT.lt Nat _ 37 L) (h₁ : Heap) (tk : Nat) (oR oQ : Obj) (l : List Nat) (tl tr tz : Tok) (la : Addr) (m' : Str → Option Value) (T0 : List (Addr × Obj)) (hT0 : Tabs T0) (hO0 : Off [(L + 1, oR), (L + 2, oQ)] T0)
    (F : Fr g L h₁ m') (N : News g L h₁ ((L + 1, oR) :: (L + 2, oQ) :: T0)) (dR : oR.data = .cell (some (.bytes (Bt l) tl))) (dQ : oQ.data = .cell (some (.int (rootN l : Nat) tr)))
    (hs : m' (Str.ofString "script") = some (.ref la)) (hz : m' (Str.ofString "size") = some (.int (l.length : Nat) tz)) (ok : OkIs l) (h3 : ∀ q ∈ l, q < 3) (hl1 : 1 ≤ l.length) (hl8 : l.length ≤ 8)
    (k : ∀ (T : List (Addr × Obj)) (m'' : Str → Option Value) (h' : Heap) (tk' : Nat), Tabs T → Off [(L + 1, oR), (L + 2, oQ)] T → m'' (Str.ofString "script") = some (.ref la) → m'' (Str.ofString "size") = some (.int (l.length : Nat) tz) → Fr g L h' m'' → News g L h' ((L + 1, oR) :: (L + 2, oQ) :: T) →
      wpN (model PySem.Challenge.rw_gh0004_01.row.prog w) (callerA.deeper (LEnv L a cdv)) (execs (RS 8) (LEnv L a cdv)) R (fun _ _ => False) { s₁ with heap := h', toks := tk' }) :
    wpN (model PySem.Challenge.rw_gh0004_01.row.prog w) (callerA.deeper (LEnv L a cdv)) (execs (RS 7) (LEnv L a cdv)) R (fun _ _ => False) { s₁ with heap := h₁, toks := tk } := by
  have h256 : ∀ q ∈ l, q < 256 := fun q hq => by have := h3 q hq; omega
  obtain ⟨hl50⟩ : Nonempty (l.length ≤ 50) := ⟨by omega⟩
  have rpos := ok.pos
  have rle := ok.le
  replace F := keep2 F hs hz
  obtain ⟨hid⟩ : Nonempty (l.length ≤ 8) := ⟨hl8⟩
  clear hl8
  revert X
  k_fill
  intro X
  obtain ⟨B1, hB1⟩ : ∃ B, B = RS 7 := ⟨_, rfl⟩
  obtain ⟨SC, hS⟩ : ∃ B, B = scopeOf lawD := ⟨_, rfl⟩
  unfold LEnv
  rw [← hB1, ← hS]
  conv at hB1 => rhs; whnf
  conv at hS => rhs; whnf
  subst hB1; subst hS
  refine wpN_execs_cons (wpN_If (wpN_isTrue_Compare (ListComp_N F (by with_unfolding_all rfl) (by decide) (by rfl) (by decide) (by rfl) (wpN_of_any ?_))))
  k_steps
  rename Fr _ _ _ _ => F2
  rename News _ _ _ _ => N2
  refine NSrc.range (n := l.length) (fun i ys nx => ys = [] ∧ nx = (L + 1, oR) :: (L + 2, oQ) :: T0) rfl F2 (news := (L + 1, oR) :: (L + 2, oQ) :: T0) (fun q hq => N2 q (by first | exact hq | exact .tail _ hq)) (by assumption) ?sm ?hn ?hz ?hJ ?T ?fin
  case sm => exact small_one (by omega) (by omega) (by omega) (by omega)
  case hn => rw [rangeSize_one]; split <;> omega
  case hz => rw [PySem.sizeLine_eq]; omega
  case hJ => exact ⟨rfl, rfl⟩
  case T =>
    rintro G i v ys nx I oI C oC D m₂ h tk hi ⟨u, rfl⟩ hC hx1 F3 N3 off ne ⟨rfl, rfl⟩
    have ek : (0 + (i : Int)) = ((i : Nat) : Int) := by omega
    rw [ek] at hx1
    k_sweep
    refine wpN_tests_one (wpN_isTrue_Compare (wpN_CallName ?_))
    k_steps
    refine wpN_call_fn (hlen := by show ¬ (2 + 2 * 0 > 30); decide) (wpN_args_cons (wpN_of_any ?_))
    k_steps
    refine wpN_args_cons (wpN_of_any ?_)
    k_steps
    rename Fr _ _ _ _ => F4
    rename News _ _ _ _ => N4
    refine wpN_args_nil ⟨⟨_, _, F4.keep _ _ (X _ _ (by k_dflt k_is)), rfl⟩, ?_⟩
    refine' ltd w p loose mean mg mb ((I, oI) :: (C, oC) :: (D, LCg.lst []) :: (L + 1, oR) :: (L + 2, oQ) :: T0) l _ i _ h256 (by omega) hl50 (by omega) _ _ _ _ _ _ _ _ _ _ _ _ _ _ _ _ _ ?bB ?bF ?bX ?bN ?bT ?bk ?bd ?bu ?bR
    case bB => k_asm
    case bF => k_asm
    case bX => k_asm
    case bN => k_asm
    case bT => k_asm
    case bk => rfl
    case bd => first | (dsimp only [ktrTop]; omega) | decide | decide +kernel
    case bu => first | (dsimp only [ktrTop]; omega) | decide | decide +kernel
    case bR =>
      dsimp only [CbRet]
      intro t5 h5 tk5 F5 N5
      refine wpN_of_any ?_
      have hbt : ∀ q ∈ l.drop i ++ l.take i, q < 256 := fun q hq => by
        rcases List.mem_append.mp hq with hq | hq
        · exact h256 q (List.mem_of_mem_drop hq)
        · exact h256 q (List.mem_of_mem_take hq)
      k_steps
      refine wpAny_operating (ne_Bt hbt hbt ?_)
      rw [bne_self_eq_false]
      k_steps
      rename Fr _ _ _ _ => F9
      rename News _ _ _ _ => N9
      exact LCg.CompEnd.intro F9 N9 _ (fun _ h => h) off trivial ⟨rfl, rfl⟩
  case fin =>
    rintro D h6 tk6 ys nx F6 N6 o1' ⟨rfl, rfl⟩
    refine wpN_of_any ?_
    k_steps
    refine wpAny_operating ?_
    k_steps
    refine wpN_ff rfl (wpN_execs_nil ?_)
    rename Fr _ _ _ _ => F9
    rename News _ _ _ _ => N9
    exact k _ _ _ _ hT0 hO0 (by exact rfl) (by exact rfl) F9 fun q hq => N9 q (.tail _ (.tail _ hq))
end

theorem rsNh : True ∧ True := by
  w_top off
  k_with_none
  k_with "exec While" => (k_here; refine Stop.go ?_)
  k_with "exec While Compare cons nil" => (k_here; refine Stop.go ?_)
  k_with "exec While BoolOp cons nil" => (k_here; refine Stop.go ?_)
  k_with "KswEnd" => (refine Stop.go ?_)
  k_with "UnrEnd" => (refine Stop.go ?_)
  k_with "call ref" => (k_here; refine Stop.go ?_)
  first | (walk1; fail) | exact ⟨trivial, trivial⟩
section
open PySem PySem.W PyProof.Rows
set_option Elab.async false
set_option maxRecDepth 100000
set_option maxHeartbeats 4000000
local macro_rules | `(tactic| walk_at "binaryOp Add bytes bytes") => `(tactic| (k_here; (with_reducible show wpAny _ _ (binaryOp Operator.Add (Value.bytes (Bt _) _) (Value.bytes (Bt _) _)) _ _ _); (refine add_Bt (by (try simp only [List.length_append, List.length_reverse, List.length_take, List.length_drop]); omega) ?_); intro _ _; (try dsimp only)))
/-- the row and its root told three times -/
theorem seg_g (w : World) (p : Program) (loose : List Str) (mean : ExcName → Option Value) (mg mb : Str → Option Value) (g : Heap) (L a : Addr) (cdv : Value) (s₁ : Shared) (R : Flow → Shared → Prop) (X : (hd.heap_39 w.params).In g) (T : Top p loose mean mg mb g) (B : Below callerA g [] g) (l0 : @LT.lt Nat _ 44 L ∧ @LT.lt Nat _ 37 L) (h₁ : Heap) (tk : Nat) (oR oQ : Obj) (l : List Nat) (tl tr tz : Tok) (la : Addr) (m' : Str → Option Value) (T0 : List (Addr × Obj)) (hT0 : Tabs T0) (hO0 : Off [(L + 1, oR), (L + 2, oQ)] T0)
    (F : Fr g L h₁ m') (N : News g L h₁ ((L + 1, oR) :: (L + 2, oQ) :: T0)) (dR : oR.data = .cell (some (.bytes (Bt l) tl))) (dQ : oQ.data = .cell (some (.int (rootN l : Nat) tr)))
    (hs : m' (Str.ofString "script") = some (.ref la)) (hz : m' (Str.ofString "size") = some (.int (l.length : Nat) tz)) (ok : OkIs l) (h3 : ∀ q ∈ l, q < 3) (hl1 : 1 ≤ l.length) (hl8 : l.length ≤ 8)
    (k : ∀ (T : List (Addr × Obj)) (m'' : Str → Option Value) (h' : Heap) (tk' : Nat), Tabs T → Off [(L + 1, oR), (L + 2, oQ)] T → m'' (Str.ofString "script") = some (.ref la) → m'' (Str.ofString "size") = some (.int (l.length : Nat) tz) → Fr g L h' m'' → News g L h' ((L + 1, oR) :: (L + 2, oQ) :: T) →
      wpN (model PySem.Challenge.rw_gh0004_01.row.prog w) (callerA.deeper (LEnv L a cdv)) (execs (RS 10) (LEnv L a cdv)) R (fun _ _ => False) { s₁ with heap := h', toks := tk' }) :
    wpN (model PySem.Challenge.rw_gh0004_01.row.prog w) (callerA.deeper (LEnv L a cdv)) (execs (RS 8) (LEnv L a cdv)) R (fun _ _ => False) { s₁ with heap := h₁, toks := tk } := by
  have h256 : ∀ q ∈ l, q < 256 := fun q hq => by have := h3 q hq; omega
  obtain ⟨hl50⟩ : Nonempty (l.length ≤ 50) := ⟨by omega⟩
  have rpos := ok.pos
  have rle := ok.le
  replace F := keep2 F hs hz
  have hcom := ok.com
  have horoot := ok.oroot
  revert X
  k_fill
  intro X
  obtain ⟨B1, hB1⟩ : ∃ B, B = RS 8 := ⟨_, rfl⟩
  obtain ⟨SC, hS⟩ : ∃ B, B = scopeOf lawD := ⟨_, rfl⟩
  unfold LEnv
  rw [← hB1, ← hS]
  conv at hB1 => rhs; whnf
  conv at hS => rhs; whnf
  subst hB1; subst hS
  refine wpN_execs_cons (wpN_of_any ?_)
  generalize hr : rootN l = r at *
  k_steps
  have hlt1 : (l.take r).length = r := by rw [List.length_take]; omega
  refine mul_Bt (by omega) (by omega) (by omega) (by omega) fun t5 k5 => ?_
  have e3 : Int.toNat 3 = 3 := rfl
  rw [e3]
  have hol : (List.replicate 3 (l.take r)).flatten.length = 3 * r := by
    rw [List.length_flatten, List.map_replicate, List.sum_replicate_nat, hlt1]
  have ho2 : ∀ q ∈ (List.replicate 3 (l.take r)).flatten, q < 256 := fun q hq => by
    obtain ⟨x, hx, hqx⟩ := List.mem_flatten.mp hq
    rw [List.eq_of_mem_replicate hx] at hqx
    exact h256 q (List.mem_of_mem_take hqx)
  generalize (List.replicate 3 (l.take r)).flatten = o at *
  have hol2 : o.length ≤ 50 := by omega
  k_steps
  refine wpN_execs_cons (wpN_If (wpN_isTrue_Or (wpN_isTrue_Compare (wpN_of_any ?_))))
  k_steps
  refine wpN_of_any ?_
  k_steps
  rw [← hcom]
  refine wpAny_operating (ne_Bt (fun q hq => ?_) (fun q hq => ?_) ?_)
  · rcases List.mem_append.mp hq with hq | hq
    · exact h256 q hq
    · exact ho2 q hq
  · rcases List.mem_append.mp hq with hq | hq
    · exact h256 q hq
    · exact ho2 q hq
  rw [bne_self_eq_false]
  k_steps
  refine wpN_isTrue_Compare (wpN_CallName ?_)
  k_steps
  refine wpN_call_fn (hlen := by show ¬ (1 + 2 * 0 > 30); decide) (wpN_args_cons (wpN_of_any ?_))
  k_steps
  rename Fr _ _ _ _ => F4
  rename News _ _ _ _ => N4
  refine wpN_args_nil ⟨⟨_, _, F4.keep _ _ (X _ _ (by k_dflt k_is)), rfl⟩, ?_⟩
  refine' lrt w p loose mean mg mb ((L + 1, oR) :: (L + 2, oQ) :: T0) o _ ho2 (by omega) hol2 _ _ _ _ _ _ _ _ _ _ _ _ _ _ _ _ _ ?bB ?bF ?bX ?bN ?bT ?bk ?bd ?bu ?bR
  case bB => k_asm
  case bF => k_asm
  case bX => k_asm
  case bN => k_asm
  case bT => k_asm
  case bk => rfl
  case bd => first | (dsimp only [ktrTop]; omega) | decide | decide +kernel
  case bu => first | (dsimp only [ktrTop]; omega) | decide | decide +kernel
  case bR =>
    dsimp only [CbRet]
    intro t5 h5 tk5 F5 N5
    refine wpN_of_any ?_
    rw [horoot]
    k_steps
    refine wpAny_operating ?_
    k_steps
    refine wpN_ff (bne_self_eq_false _) (wpN_execs_nil ?_)
    rename Fr _ _ _ _ => F9
    rename News _ _ _ _ => N9
    exact k _ _ _ _ hT0 hO0 (by exact rfl) (by exact rfl) F9 N9
end

theorem rsNi : True ∧ True := by
  w_top off
  k_with_none
  k_with "exec While" => (k_here; refine Stop.go ?_)
  k_with "exec While Compare cons nil" => (k_here; refine Stop.go ?_)
  k_with "exec While BoolOp cons nil" => (k_here; refine Stop.go ?_)
  k_with "KswEnd" => (refine Stop.go ?_)
  k_with "UnrEnd" => (refine Stop.go ?_)
  k_with "call ref" => (k_here; refine Stop.go ?_)
  first | (walk1; fail) | exact ⟨trivial, trivial⟩
section
open PySem PySem.W PyProof.Rows
set_option Elab.async false
set_option maxRecDepth 100000
set_option maxHeartbeats 4000000
local macro_rules | `(tactic| walk_at "subscriptTail") => `(tactic| (k_here; (with_reducible show wpAny _ _ (subscriptTail _ (PySem.Expr.Slice none none (some _) _) (Value.ref _) (Value.ref _)) _ _ _); refine Stop.go ?_))
/-- turned about as a whole -/
theorem seg_h (w : World) (p : Program) (loose : List Str) (mean : ExcName → Option Value) (mg mb : Str → Option Value) (g : Heap) (L a : Addr) (cdv : Value) (s₁ : Shared) (R : Flow → Shared → Prop) (X : (hd.heap_39 w.params).In g) (T : Top p loose mean mg mb g) (B : Below callerA g [] g) (l0 : @LT.lt Nat _ 44 L ∧ @LT.lt Nat _ 37 L) (h₁ : Heap) (tk : Nat) (oR oQ : Obj) (l : List Nat) (tl tr tz : Tok) (la : Addr) (m' : Str → Option Value) (T0 : List (Addr × Obj)) (hT0 : Tabs T0) (hO0 : Off [(L + 1, oR), (L + 2, oQ)] T0)
    (F : Fr g L h₁ m') (N : News g L h₁ ((L + 1, oR) :: (L + 2, oQ) :: T0)) (dR : oR.data = .cell (some (.bytes (Bt l) tl))) (dQ : oQ.data = .cell (some (.int (rootN l : Nat) tr)))
    (hs : m' (Str.ofString "script") = some (.ref la)) (hz : m' (Str.ofString "size") = some (.int (l.length : Nat) tz)) (ok : OkIs l) (h3 : ∀ q ∈ l, q < 3) (hl1 : 1 ≤ l.length) (hl8 : l.length ≤ 8)
    (k : ∀ (T : List (Addr × Obj)) (m'' : Str → Option Value) (h' : Heap) (tk' : Nat), Tabs T → Off [(L + 1, oR), (L + 2, oQ)] T → m'' (Str.ofString "script") = some (.ref la) → m'' (Str.ofString "size") = some (.int (l.length : Nat) tz) → Fr g L h' m'' → News g L h' ((L + 1, oR) :: (L + 2, oQ) :: T) →
      wpN (model PySem.Challenge.rw_gh0004_01.row.prog w) (callerA.deeper (LEnv L a cdv)) (execs (RS 12) (LEnv L a cdv)) R (fun _ _ => False) { s₁ with heap := h', toks := tk' }) :
    wpN (model PySem.Challenge.rw_gh0004_01.row.prog w) (callerA.deeper (LEnv L a cdv)) (execs (RS 10) (LEnv L a cdv)) R (fun _ _ => False) { s₁ with heap := h₁, toks := tk } := by
  have h256 : ∀ q ∈ l, q < 256 := fun q hq => by have := h3 q hq; omega
  obtain ⟨hl50⟩ : Nonempty (l.length ≤ 50) := ⟨by omega⟩
  have rpos := ok.pos
  have rle := ok.le
  replace F := keep2 F hs hz
  have hrev := ok.rev
  have hrl : ∀ q ∈ l.reverse, q < 256 := fun q hq => h256 q (List.mem_reverse.mp hq)
  have hrn : l.reverse.length ≤ 50 := by rw [List.length_reverse]; omega
  revert X
  k_fill
  intro X
  obtain ⟨B1, hB1⟩ : ∃ B, B = RS 10 := ⟨_, rfl⟩
  obtain ⟨SC, hS⟩ : ∃ B, B = scopeOf lawD := ⟨_, rfl⟩
  unfold LEnv
  rw [← hB1, ← hS]
  conv at hB1 => rhs; whnf
  conv at hS => rhs; whnf
  subst hB1; subst hS
  refine wpN_execs_cons (wpN_Assign_Name (wpN_CallName ?_))
  generalize hr : rootN l = r at *
  k_steps
  refine wpN_call_fn (hlen := by show ¬ (2 + 2 * 0 > 30); decide) (wpN_args_cons (wpN_of_any ?_))
  k_steps
  refine wpN_args_cons (wpN_of_any ?_)
  k_steps
  refine wpN_args_nil ⟨⟨_, _, F.keep _ _ (X _ _ (by k_dflt k_is)), rfl⟩, ?_⟩
  refine' bs w p loose mean mg mb ((L + 1, oR) :: (L + 2, oQ) :: T0) (Bt l) _ (l.length : Nat) _ (by rw [Bt_size]) (by omega) (by omega) _ _ _ _ _ _ _ _ _ _ _ _ _ _ _ _ _ ?bB ?bF ?bX ?bN ?bT ?bk trivial ?bd ?bu ?bR
  case bB => k_asm
  case bF => k_asm
  case bX => k_asm
  case bN => k_asm
  case bT => k_asm
  case bk => rfl
  case bd => first | (dsimp only [ktrTop]; omega) | decide | decide +kernel
  case bu => first | (dsimp only [ktrTop]; omega) | decide | decide +kernel
  case bR =>
    dsimp only [CbRet]
    intro t5 h5 tk5 F5 N5
    rw [Bt_rev]
    k_steps
    rename Fr _ _ _ _ => F6
    rename News _ _ _ _ => N6
    k_sweep
    refine wpN_execs_cons (wpN_If (wpN_isTrue_Or (wpN_isTrue_Compare (wpN_CallName ?_))))
    k_steps
    refine wpN_call_fn (hlen := by show ¬ (1 + 2 * 0 > 30); decide) (wpN_args_cons (wpN_of_any ?_))
    k_steps
    rename Fr _ _ _ _ => F4
    rename News _ _ _ _ => N4
    refine wpN_args_nil ⟨⟨_, _, F4.keep _ _ (X _ _ (by k_dflt k_is)), rfl⟩, ?_⟩
    refine' lrt w p loose mean mg mb ((L + 1, oR) :: (L + 2, oQ) :: T0) l.reverse _ hrl (by rw [List.length_reverse]; omega) hrn _ _ _ _ _ _ _ _ _ _ _ _ _ _ _ _ _ ?cB ?cF ?cX ?cN ?cT ?ck ?cd ?cu ?cR
    case cB => k_asm
    case cF => k_asm
    case cX => k_asm
    case cN => k_asm
    case cT => k_asm
    case ck => rfl
    case cd => first | (dsimp only [ktrTop]; omega) | decide | decide +kernel
    case cu => first | (dsimp only [ktrTop]; omega) | decide | decide +kernel
    case cR =>
      dsimp only [CbRet]
      intro t7 h7 tk7 F7 N7
      refine wpN_of_any ?_
      rw [hrev]
      k_steps
      refine wpAny_operating ?_
      k_steps
      · exact absurd rfl (by assumption : ((r : Nat) : Int) ≠ ((r : Nat) : Int))
      refine wpN_of_any ?_
      k_steps
      refine list_Bt (by rfl) F7 N7 h256 (by omega) fun D us c h8 tk8 F8 N8 hI => ?_
      k_sweep
      dsimp only
      k_steps
      refine Stop.on ?_
      refine kba_turn (value' := PySem.Expr.Name (PySem.Str.ofString "_") ⟨0, 0, 0, 0⟩) (fun _ => rfl) ?_
      refine' krv_ints ?F ?N ?l ?k hI ?_ ?s ?t ?z
      case F => k_asm
      case N => k_asm
      case l => exact News.isList N8 (.head _)
      case k => exact .int _ _
      case s => with_unfolding_all rfl
      case t => exact fun _ => rfl
      case z => rw [List.size_toArray, hI.length, zs_len, sizeLine_eq]; omega
      intro D2 ws h9 F9 N9 l9 hI2 _
      k_sweep
      dsimp only
      k_steps
      have er : (zs l).reverse = zs l.reverse := by simp [zs]
      rw [er] at hI2
      refine bytes_Bt F9 N9 (News.isList N9 (.head _)) hI2 hrl (by omega) rfl fun h5 t5 k5 F5 N5 => ?_
      k_steps
      refine wpN_ff (bne_self_eq_false _) (wpN_execs_nil ?_)
      exact k _ _ _ _ hT0 hO0 (by exact rfl) (by exact rfl) F5 fun q hq => N5 q (.tail _ (.tail _ hq))
end

theorem rsNj : True ∧ True := by
  w_top off
  k_with_none
  k_with "exec While" => (k_here; refine Stop.go ?_)
  k_with "exec While Compare cons nil" => (k_here; refine Stop.go ?_)
  k_with "exec While BoolOp cons nil" => (k_here; refine Stop.go ?_)
  k_with "KswEnd" => (refine Stop.go ?_)
  k_with "UnrEnd" => (refine Stop.go ?_)
  k_with "call ref" => (k_here; refine Stop.go ?_)
  first | (walk1; fail) | exact ⟨trivial, trivial⟩
section
open PySem PySem.W PyProof.Rows
set_option Elab.async false
set_option maxRecDepth 100000
set_option maxHeartbeats 4000000
/-- the end of the law: a turn by two numbers of places -/
theorem seg_i (w : World) (p : Program) (loose : List Str) (mean : ExcName → Option Value) (mg mb : Str → Option Value) (g : Heap) (L a : Addr) (cdv : Value) (s₁ : Shared) (R : Flow → Shared → Prop) (X : (hd.heap_39 w.params).In g) (T : Top p loose mean mg mb g) (B : Below callerA g [] g) (l0 : @LT.lt Nat _ 44 L ∧ @LT.lt Nat _ 37 L) (h₁ : Heap) (tk : Nat) (oR oQ : Obj) (l : List Nat) (tl tz : Tok) (la : Addr) (vs : List Value) (ns : List Int) (m' : Str → Option Value) (T0 : List (Addr × Obj)) (hT0 : Tabs T0)
    (F : Fr g L h₁ m') (N : News g L h₁ ((L + 1, oR) :: (L + 2, oQ) :: T0)) (dR : oR.data = .cell (some (.bytes (Bt l) tl)))
    (hs : m' (Str.ofString "script") = some (.ref la)) (hz : m' (Str.ofString "size") = some (.int (l.length : Nat) tz)) (ok : OkIs l) (h3 : ∀ q ∈ l, q < 3) (hl1 : 1 ≤ l.length) (hl8 : l.length ≤ 8)
    (hl : g.IsList la vs.toArray) (hi : IntsAre vs ns) (hn : ns.length ≤ 63)
    (fin : ∀ (m'' : Str → Option Value) (h' : Heap) (tk' : Nat), Fr g L h' m'' → News g L h' T0 → R (.ret (.bool true)) { s₁ with heap := h', toks := tk' }) :
    wpN (model PySem.Challenge.rw_gh0004_01.row.prog w) (callerA.deeper (LEnv L a cdv)) (execs (RS 12) (LEnv L a cdv)) R (fun _ _ => False) { s₁ with heap := h₁, toks := tk } := by
  have h256 : ∀ q ∈ l, q < 256 := fun q hq => by have := h3 q hq; omega
  obtain ⟨hl50⟩ : Nonempty (l.length ≤ 50) := ⟨by omega⟩
  have htwo := ok.two
  obtain ⟨hid⟩ : Nonempty (l.length ≤ 8) := ⟨hl8⟩
  clear hl8
  replace F := keep2 F hs hz
  revert X
  k_fill
  intro X
  obtain ⟨B1, hB1⟩ : ∃ B, B = RS 12 := ⟨_, rfl⟩
  obtain ⟨SC, hS⟩ : ∃ B, B = scopeOf lawD := ⟨_, rfl⟩
  unfold LEnv
  rw [← hB1, ← hS]
  conv at hB1 => rhs; whnf
  conv at hS => rhs; whnf
  subst hB1; subst hS
  refine wpN_execs_cons (wpN_of_any ?_)
  k_steps
  have hn0 : (0 : Int) < (l.length : Int) := by omega
  have hmod : ∀ z : Int, ∃ x : Nat, z.fmod (l.length : Int) = (x : Int) ∧ x < l.length := fun z => by
    have h1 := Int.fmod_nonneg_of_pos z hn0
    have h2 := Int.fmod_lt_of_pos z hn0
    exact ⟨(z.fmod (l.length : Int)).toNat, by omega, by omega⟩
  obtain ⟨x, hx, hxl⟩ := hmod ((ns ++ [0, 0]).getD (Int.toNat 0) 0)
  obtain ⟨y, hy, hyl⟩ := hmod ((ns ++ [0, 0]).getD (Int.toNat 1) 0)
  clear hmod
  rename Fr _ _ _ _ => F1
  rename News _ _ _ _ => N1
  rw [hx, hy] at F1
  replace N1 : News g L _ ((L + 1, oR) :: (L + 2, oQ) :: T0) := fun q hq => N1 q (.tail _ (.tail _ (.tail _ (.tail _ (.tail _ hq)))))
  clear hx hy
  have hbt : ∀ k, ∀ q ∈ l.drop k ++ l.take k, q < 256 := fun k q hq => by
    rcases List.mem_append.mp hq with hq | hq
    · exact h256 q (List.mem_of_mem_drop hq)
    · exact h256 q (List.mem_of_mem_take hq)
  have hlt : ∀ k, (l.drop k ++ l.take k).length = l.length := fun k => by
    rw [List.length_append, List.length_drop, List.length_take]; omega
  k_sweep
  refine wpN_execs_cons (wpN_Return (wpN_Compare (wpN_CallName ?_)))
  k_steps
  refine wpN_call_fn (hlen := by show ¬ (2 + 2 * 0 > 30); decide) (wpN_args_cons (wpN_CallName ?_))
  k_steps
  refine wpN_call_fn (hlen := by show ¬ (2 + 2 * 0 > 30); decide) (wpN_args_cons (wpN_of_any ?_))
  k_steps
  refine wpN_args_cons (wpN_of_any ?_)
  k_steps
  rename Fr _ _ _ _ => F4
  refine wpN_args_nil ⟨⟨_, _, F4.keep _ _ (X _ _ (by k_dflt k_is)), rfl⟩, ?_⟩
  refine' ltd w p loose mean mg mb ((L + 1, oR) :: (L + 2, oQ) :: T0) l _ x _ h256 (by omega) hl50 (by omega) _ _ _ _ _ _ _ _ _ _ _ _ _ _ _ _ _ ?bB ?bF ?bX ?bN ?bT ?bk ?bd ?bu ?bR
  case bB => k_asm
  case bF => k_asm
  case bX => k_asm
  case bN => k_asm
  case bT => k_asm
  case bk => rfl
  case bd => first | (dsimp only [ktrTop]; omega) | decide | decide +kernel
  case bu => first | (dsimp only [ktrTop]; omega) | decide | decide +kernel
  case bR =>
    dsimp only [CbRet]
    intro t5 h5 tk5 F5 N5
    have hbx := hbt x
    have hlx := hlt x
    have h2 : (l.drop x ++ l.take x).drop y ++ (l.drop x ++ l.take x).take y = l.drop ((x + y) % l.length) ++ l.take ((x + y) % l.length) := htwo x y hxl hyl
    generalize hlx2 : l.drop x ++ l.take x = lx at *
    refine wpN_args_cons (wpN_of_any ?_)
    k_steps
    rename Fr _ _ _ _ => F6
    refine wpN_args_nil ⟨⟨_, _, F6.keep _ _ (X _ _ (by k_dflt k_is)), rfl⟩, ?_⟩
    refine' ltd w p loose mean mg mb ((L + 1, oR) :: (L + 2, oQ) :: T0) lx _ y _ hbx (by omega) (by omega) (by omega) _ _ _ _ _ _ _ _ _ _ _ _ _ _ _ _ _ ?cB ?cF ?cX ?cN ?cT ?ck ?cd ?cu ?cR
    case cB => k_asm
    case cF => k_asm
    case cX => k_asm
    case cN => k_asm
    case cT => k_asm
    case ck => rfl
    case cd => first | (dsimp only [ktrTop]; omega) | decide | decide +kernel
    case cu => first | (dsimp only [ktrTop]; omega) | decide | decide +kernel
    case cR =>
      dsimp only [CbRet]
      intro t7 h7 tk7 F7 N7
      refine wpN_CallName ?_
      k_steps
      refine wpN_call_fn (hlen := by show ¬ (2 + 2 * 0 > 30); decide) (wpN_args_cons (wpN_of_any ?_))
      k_steps
      refine wpN_args_cons (wpN_of_any ?_)
      k_steps
      rename Fr _ _ _ _ => F8
      have em : ((x : Int) + (y : Int)).fmod (l.length : Int) = (((x + y) % l.length : Nat) : Int) := by
        rw [Int.fmod_eq_emod_of_nonneg _ (Int.natCast_nonneg _), Int.natCast_emod, Int.natCast_add]
      rw [em]
      have hml : (x + y) % l.length < l.length := Nat.mod_lt _ (by omega)
      generalize (x + y) % l.length = z at *
      refine wpN_args_nil ⟨⟨_, _, F8.keep _ _ (X _ _ (by k_dflt k_is)), rfl⟩, ?_⟩
      refine' ltd w p loose mean mg mb ((L + 1, oR) :: (L + 2, oQ) :: T0) l _ z _ h256 (by omega) hl50 (by omega) _ _ _ _ _ _ _ _ _ _ _ _ _ _ _ _ _ ?dB ?dF ?dX ?dN ?dT ?dk ?dd ?du ?dR
      case dB => k_asm
      case dF => k_asm
      case dX => k_asm
      case dN => k_asm
      case dT => k_asm
      case dk => rfl
      case dd => first | (dsimp only [ktrTop]; omega) | decide | decide +kernel
      case du => first | (dsimp only [ktrTop]; omega) | decide | decide +kernel
      case dR =>
        dsimp only [CbRet]
        intro t9 h9 tk9 F9 N9
        rw [h2]
        refine wpAny_operating (eq_Bt (hbt z) (hbt z) ?_)
        rw [beq_self_eq_true]
        exact fin _ _ _ F9 fun q hq => N9 q (.tail _ (.tail _ hq))
end

theorem rsNk : True ∧ True := by
  w_top off
  k_with_none
  first | (walk1; fail) | exact ⟨trivial, trivial⟩
section
open PySem PySem.W PyProof.Rows
set_option Elab.async false
set_option maxRecDepth 100000
set_option maxHeartbeats 4000000
theorem law_body (w : World) (p : Program) (loose : List Str) (mean : ExcName → Option Value) (mg mb : Str → Option Value) (g : Heap) (L a : Addr) (cdv : Value) (s₁ : Shared) (R : Flow → Shared → Prop) (X : (hd.heap_39 w.params).In g) (T : Top p loose mean mg mb g) (B : Below callerA g [] g) (l0 : @LT.lt Nat _ 44 L ∧ @LT.lt Nat _ 37 L) (h₁ : Heap) (tk : Nat) (oR oQ : Obj) (la : Addr) (vs : List Value) (ns : List Int)
    (F : Fr g L h₁ (fun y => if y = Str.ofString "script" then some (.ref la) else none)) (N : News g L h₁ [(L + 1, oR), (L + 2, oQ), (44, tabObj #[]), (37, tabObj #[])]) (dR : oR.data = .cell none) (dQ : oQ.data = .cell none)
    (hl : g.IsList la vs.toArray) (hi : IntsAre vs ns) (hn : ns.length ≤ 63)
    (fin : ∀ (m'' : Str → Option Value) (h' : Heap) (tk' : Nat) (T0 : List (Addr × Obj)), Tabs T0 → Fr g L h' m'' → News g L h' T0 → R (.ret (.bool true)) { s₁ with heap := h', toks := tk' }) :
    wpN (model PySem.Challenge.rw_gh0004_01.row.prog w) (callerA.deeper (LEnv L a cdv)) (execs (RS 0) (LEnv L a cdv)) R (fun _ _ => False) { s₁ with heap := h₁, toks := tk } := by
  refine seg_a w p loose mean mg mb g L a cdv s₁ R X T B l0 h₁ tk oR oQ la vs ns F N dR dQ hl hi hn ?_
  clear F N dR
  intro l tl oR m0 h0 tk0 hok h3 hl1 hl8 dR hs F N
  have ok := ok_is hok
  refine seg_b w p loose mean mg mb g L a cdv s₁ R X T B l0 h0 tk0 oR oQ l tl la m0 F N dR dQ hs h3 hl1 hl8 ?_
  clear F N hs dQ
  intro tr tz oQ m1 h1 tk1 dQ hs hz F N
  obtain ⟨T0, hT0, hO0, N⟩ : ∃ T0, Tabs T0 ∧ Off [(L + 1, oR), (L + 2, oQ)] T0 ∧ News g L h1 ((L + 1, oR) :: (L + 2, oQ) :: T0) := by
    refine ⟨[(37, tabObj #[])] ++ [(44, tabObj #[])], ⟨_, _, rfl, .inl rfl, .inl rfl, ?_⟩, ?_, fun q hq => N q ?_⟩
    · intro q hq q' hq'
      obtain rfl := List.mem_singleton.mp hq
      obtain rfl := List.mem_singleton.mp hq'
      decide
    · intro q hq q' hq'
      simp only [List.mem_cons, List.not_mem_nil, or_false] at hq
      simp only [List.mem_append, List.mem_singleton] at hq'
      rcases hq with rfl | rfl <;> rcases hq' with rfl | rfl <;> (refine neN ?_; dsimp only; omega)
    · simp only [List.mem_cons, List.mem_append, List.not_mem_nil, or_false] at hq ⊢
      rcases hq with h | h | h | h <;> simp [h]
  refine seg_c w p loose mean mg mb g L a cdv s₁ R X T B l0 h1 tk1 oR oQ l tl tr tz la m1 T0 hT0 hO0 F N dR dQ hs hz ok h3 hl1 hl8 ?_
  clear F N hs hz hT0 hO0
  intro T0 m1 h1 tk1 hT0 hO0 hs hz F N
  refine seg_d w p loose mean mg mb g L a cdv s₁ R X T B l0 h1 tk1 oR oQ l tl tr tz la m1 T0 hT0 hO0 F N dR dQ hs hz ok h3 hl1 hl8 ?_
  clear F N hs hz hT0 hO0
  intro T0 m1 h1 tk1 hT0 hO0 hs hz F N
  refine seg_e w p loose mean mg mb g L a cdv s₁ R X T B l0 h1 tk1 oR oQ l tl tr tz la m1 T0 hT0 hO0 F N dR dQ hs hz ok h3 hl1 hl8 ?_
  clear F N hs hz hT0 hO0
  intro T0 m1 h1 tk1 hT0 hO0 hs hz F N
  refine seg_f w p loose mean mg mb g L a cdv s₁ R X T B l0 h1 tk1 oR oQ l tl tr tz la m1 T0 hT0 hO0 F N dR dQ hs hz ok h3 hl1 hl8 ?_
  clear F N hs hz hT0 hO0
  intro T0 m1 h1 tk1 hT0 hO0 hs hz F N
  refine seg_g w p loose mean mg mb g L a cdv s₁ R X T B l0 h1 tk1 oR oQ l tl tr tz la m1 T0 hT0 hO0 F N dR dQ hs hz ok h3 hl1 hl8 ?_
  clear F N hs hz hT0 hO0
  intro T0 m1 h1 tk1 hT0 hO0 hs hz F N
  refine seg_h w p loose mean mg mb g L a cdv s₁ R X T B l0 h1 tk1 oR oQ l tl tr tz la m1 T0 hT0 hO0 F N dR dQ hs hz ok h3 hl1 hl8 ?_
  clear F N hs hz hT0 hO0
  intro T0 m1 h1 tk1 hT0 hO0 hs hz F N
  exact seg_i w p loose mean mg mb g L a cdv s₁ R X T B l0 h1 tk1 oR oQ l tl tz la vs ns m1 T0 hT0 F N dR hs hz ok h3 hl1 hl8 hl hi hn fun m2 h2 tk2 F2 N2 => fin m2 h2 tk2 T0 hT0 F2 N2
end

theorem rsM1 : True ∧ True := by
  w_top off
  k_with_none
  first | (walk1; fail) | exact ⟨trivial, trivial⟩
section
open PySem PySem.W PyProof.Rows
set_option Elab.async false
set_option maxRecDepth 100000
set_option maxHeartbeats 4000000
theorem tab_in {P : Addr} {pos : Pos} {q : Str} {T : List (Addr × Obj)} (h : TabSt P pos q T) : ∃ ps, (P, tabObj ps) ∈ T := by
  rcases h with rfl | ⟨c', oc, ocv, tq, rfl, _, _⟩
  · exact ⟨_, .head _⟩
  · exact ⟨_, .tail _ (.head _)⟩
theorem grown_of {g h : Heap} {L : Addr} {T : List (Addr × Obj)} (hT : Tabs T) (N : News g L h T) : GrownAll [(48, 44), (41, 37)] h := by
  obtain ⟨TA, TB, rfl, hA, hB, _⟩ := hT
  obtain ⟨p1, m1⟩ := tab_in hA
  obtain ⟨p2, m2⟩ := tab_in hB
  exact ⟨⟨p2, (N _ (List.mem_append_right _ m2)).1⟩, ⟨p1, (N _ (List.mem_append_left _ m1)).1⟩, trivial⟩
theorem swap2 {g h : Heap} {L : Addr} {a b : Addr × Obj} {T : List (Addr × Obj)} (N : News g L h (a :: b :: T)) : News g L h (b :: a :: T) := fun q hq => N q (by
  rcases List.mem_cons.mp hq with rfl | hq
  · exact .tail _ (.head _)
  rcases List.mem_cons.mp hq with rfl | hq
  · exact .head _
  · exact .tail _ (.tail _ hq))
theorem law_walk : PySem.Challenge.rw_gh0004_01.Holds := hd (by
  k_fill
  intro w s₀ s₁ mg mb G Y fa o pm cd doc dV kV ho hd hcd hD hmg hg args vals as hpre hlay hrd hwl hlo
  have KX := km_in_of Y
  km_tabs Y
  have X := (Ground.X G).1
  have V := (Ground.X G).2
  refine Ground.open G ?_
  intro T B D TE TW
  try (refine guard_noD D (by decide +kernel) ?_; clear D)
  km_lay T hmg ho hd cd
  clear hmg
  wrow_args hpre hlay hrd hwl hlo
  refine wpN_call ?_
  w_top on
  have K0 := below_caller (Top.heap T)
  have he := Dflts.none hD rfl; subst he; have he := Dflts.noKw hD; subst he
  refine call_cells_N (by decide) ho (fd_plain hd) (Top.nolimit T) hcd rfl rfl (by decide) fun h₁ tk₁ cells F N0 X0 => ?_
  refine wpN_mono ?_ (fun f s' h => post_of (prog := PRG) (w := w) hT9 (fun _ _ => rfl) h) fun _ _ h => h
  cells_open X0
  clear hd
  kn_ghosts F T
  k_drop
  rename Fr _ _ _ _ => F1
  rename News _ _ _ _ => N1
  rename (Obj.data _ = Data.cell _) => dC2
  revert dC2
  rename (Obj.data _ = Data.cell _) => dC1
  intro dC2
  replace N1 := swap2 N1
  rename Heap.IsList (ghostOf _ _) _ _ => hL1
  rename IntsAre _ _ => hI1
  rename (@LT.lt Nat _ 44 _ ∧ _) => l0
  refine law_body w _ _ _ mg mb (ghostOf s₁.heap [(48, 44), (41, 37)]) s₁.heap.objs.size fa _ s₁ _ (by assumption) (by assumption) (by assumption) l0 h₁ tk₁ _ _ _ _ _ F1 N1 dC2 dC1 hL1 hI1 (by omega) ?_
  clear F1 N1
  intro m'' h' tk' T0 hT0 F9 N9
  dsimp only
  refine ⟨?_, ?_⟩
  · k_steps
  · exact grown_of hT0 N9)
end

end Mine

theorem PySem.Challenge.cw_gh0004_01_holds : PySem.Challenge.rw_gh0004_01.Holds :=
  Mine.law_walk
