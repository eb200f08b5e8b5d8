import PyProof.Rows.All
import Wide.All
import OpenK.AllK
import Wide.FinOn
import Lean
import PySem.Challenge.RW_gh0004_02
set_option Elab.async false
set_option rowWalk.seconds 0
open PySem PySem.W PyProof.Rows
namespace Mine
theorem rsNB : True ∧ True := by
  w_top off
  k_with_none
  first | (walk1; fail) | exact ⟨trivial, trivial⟩
end Mine
section
open PySem PySem.W PySem.Spec PySem.Calls PyProof.Rows
set_option Elab.async false
set_option maxRecDepth 100000
namespace Mine

/-- ids whose activations can hold a bytearray -/
def heldIds : List String := Builtin.Bytes.decodersThatHold ++ ["bytearray.__contains__", "bytearray.__mod__", "bytearray.__rmod__", "_struct.pack_into.held", "bytearray.find.held"]
def tidy : Code → Bool
  | .builtin id _ => !heldIds.contains id
  | _ => true
def TidyIn (l : List (Code × Pos)) : Prop := ∀ x ∈ l, tidy x.1 = true
theorem TidyIn.cons {c : Code} {p : Pos} {l : List (Code × Pos)} (h : tidy c = true) (t : TidyIn l) : TidyIn ((c, p) :: l) := fun x hx => by
  rcases List.mem_cons.mp hx with rfl | hx
  · exact h
  · exact t x hx

/-- as wpAny, of the contexts in which nothing holds a bytearray -/
def wpN {α : Type} (M : Model) (A : Around) (t : Sem α) (Q : α → Shared → Prop) (E : Value → Shared → Prop) (s : Shared) : Prop :=
  ∀ Γ p, Γ.In A → TidyIn ((Γ.code, p) :: Γ.below) → Sem.wp M Γ t (fun a _ s' => Q a s') (fun e _ s' => E e s') p s
def codeN (M : Model) (A : Around) (c : Code) (R : Result → Shared → Prop) (s : Shared) : Prop :=
  ∀ Γ p, Γ.code = c → Γ.Below A → TidyIn Γ.below → wpCode M Γ R p s

section
variable {α β : Type} {M : Model} {A : Around} {E : Value → Shared → Prop} {s : Shared}
theorem wpN_of_any {t : Sem α} {Q : α → Shared → Prop} (h : wpAny M A t Q E s) : wpN M A t Q E s := fun Γ p hΓ _ => h Γ p hΓ
theorem codeN_of_any {c : Code} {R : Result → Shared → Prop} (h : codeAny M A c R s) : codeN M A c R s := fun Γ p hc hΓ _ => h Γ p hc hΓ
theorem wpN_mono {t : Sem α} {Q Q' : α → Shared → Prop} {E' : Value → Shared → Prop} (h : wpN M A t Q E s)
    (hQ : ∀ a s, Q a s → Q' a s) (hE : ∀ e s, E e s → E' e s) : wpN M A t Q' E' s :=
  fun Γ p hΓ hT => Sem.wp_mono M Γ t (fun a _ s => hQ a s) (fun e _ s => hE e s) p s (h Γ p hΓ hT)
theorem tidy_pos {Γ : PySem.Ctx} {p p' : Pos} (h : TidyIn ((Γ.code, p) :: Γ.below)) : TidyIn ((Γ.code, p') :: Γ.below) :=
  .cons (h (Γ.code, p) (.head _)) fun x hx => h x (.tail _ hx)
theorem wpN_bind {m : Sem α} {f : α → Sem β} {Q : β → Shared → Prop} (h : wpN M A m (fun a s' => wpN M A (f a) Q E s') E s) :
    wpN M A (m >>= f) Q E s := fun Γ p hΓ hT => by
  rw [Sem.wp_bind']
  exact Sem.wp_mono M Γ m (fun a p' s' h' => h' Γ p' hΓ (tidy_pos hT)) (fun _ _ _ h' => h') p s (h Γ p hΓ hT)
theorem wpN_any_bind {m : Sem α} {f : α → Sem β} {Q : β → Shared → Prop} (h : wpAny M A m (fun a s' => wpN M A (f a) Q E s') E s) :
    wpN M A (m >>= f) Q E s := wpN_bind (wpN_of_any h)
theorem wpN_pure {a : α} {Q : α → Shared → Prop} (h : Q a s) : wpN M A (pure a) Q E s := fun _ _ _ _ => h
theorem wpN_holding {vs : List Value} {m : Sem α} {Q : α → Shared → Prop} (h : wpN M A m Q E s) : wpN M A (holding vs m) Q E s :=
  fun Γ p hΓ hT => by rw [Sem.wp_holding]; exact h Γ p hΓ hT
theorem wpN_keep {vs : List Value} {m : Sem α} {Q : α → Shared → Prop} (h : wpN M A m Q E s) : wpN M A (m.keep vs) Q E s :=
  fun Γ p hΓ hT => by rw [Sem.wp_keep]; exact h Γ p hΓ hT
theorem wpN_standAt {pos : Pos} {f : Unit → Sem α} {Q : α → Shared → Prop} (h : wpN M A (f ()) Q E s) : wpN M A (standAt pos >>= f) Q E s :=
  wpN_bind (wpN_of_any (wpAny_standAt h))
theorem wpN_onRaise {m : Sem α} {k : Value → Sem Unit} {Q : α → Shared → Prop} (h : wpN M A m Q (fun _ _ => False) s) : wpN M A (m.onRaise k) Q E s := fun Γ p hΓ hT => by
  rw [Sem.wp_onRaise]
  exact Sem.wp_mono M Γ m (fun _ _ _ h' => h') (fun _ _ _ h' => h'.elim) p s (h Γ p hΓ hT)
theorem wpN_ff {c : Bool} {a b : Sem α} {Q : α → Shared → Prop} (hc : c = false) (h : wpN M A b Q E s) : wpN M A (if c = true then a else b) Q E s := by
  subst hc
  exact h
theorem wpN_tt {c : Bool} {a b : Sem α} {Q : α → Shared → Prop} (hc : c = true) (h : wpN M A a Q E s) : wpN M A (if c = true then a else b) Q E s := by
  subst hc
  exact h
theorem wpN_eq_bind {m : Sem α} {a : α} {f : α → Sem β} {Q : β → Shared → Prop} (e : m = pure a) (h : wpN M A (f a) Q E s) : wpN M A (m >>= f) Q E s := by
  subst e
  exact wpN_bind (wpN_pure h)
theorem wpN_runValue {c : Code} {Q : Value → Shared → Prop}
    (hc : codeN M A c (fun r s' => match r with | .ok (.ret v) => Q v s' | .ok _ => False | .error e => E e s') s) :
    wpN M A (runValue c) Q E s := fun Γ p hΓ hT => by rw [Sem.wp_runValue]; exact hc _ p rfl (hΓ.enter c none p (by intro x; cases x)) hT
theorem wpN_call {f : Value} {pos : List Value} {kw : List (Str × Value)} {Q : Value → Shared → Prop}
    (hc : codeN M A (.call f ⟨pos, kw⟩) (fun r s' => match r with | .ok (.ret v) => Q v s' | .ok _ => False | .error e => E e s') s) :
    wpN M A (call f pos kw) Q E s := wpN_runValue hc
theorem codeN_of_tree {c : Code} {R : Result → Shared → Prop} (ht : tidy c = true)
    (h : wpN M (A.under c) (M.den c) (fun fin s' => match fin with | .done f => R (.ok f) s' | .again c' => c'.quiet = true ∧ codeN M A c' R s')
      (fun e s' => R (.error e) s') s) : codeN M A c R s := fun Γ p hc hΓ hT => by
  rw [wpCode_iff_wp, hc]
  refine Sem.wp_mono M Γ _ (fun fin p' s' h' => ?_) (fun _ _ _ h' => h') p s (h Γ p (hc ▸ hΓ.in) (.cons (by rw [hc]; exact ht) hT))
  cases fin with
  | done f => exact h'
  | again c' => exact ⟨h'.1, h'.2 (Γ.goto c') p' rfl (hΓ.goto c') hT⟩
end
section
variable {prog : Program} {w : World} {A : Around} {s : Shared} {R : Result → Shared → Prop}
theorem codeN_func {body : List Stmt} {env : Env}
    (h : wpN (model prog w) (A.deeper env) (execs body env) (fun f s' => R (.ok (.ret (match f with | .ret v => v | _ => .none))) s') (fun _ _ => False) s) :
    codeN (model prog w) A (.func body env) R s := by
  refine codeN_of_tree rfl ?_
  show wpN _ (A.deeper env) (do point; match ← (execs body env).onRaise (leaving env) with | .ret v => ret v | _ => ret .none) _ _ s
  refine wpN_any_bind (wpAny_point (wpN_bind (wpN_onRaise (wpN_mono h (fun f s' h' => ?_) fun _ _ h' => h'.elim))))
  cases f <;> exact wpN_pure h'

theorem codeN_call_function {a : Addr} {args : Args} {o : Obj} {fd : FuncData} {body : List Stmt} (hroom : A.depth < recursionLimit)
    (ho : s.heap.get? a = some o) (hd : o.data = .func fd) (hco : fd.scope.isCoroutine = false) (hgen : fd.scope.isGenerator = false) (hbody : fd.body = .stmts body) (hcd : s.heap.CodeRec fd.code fd.qualname)
    (h : wpAny (model prog w) A.in1 (bindArgs fd args) (fun binds s₁ =>
      wpAny (model prog w) A.in1 (newFunctionEnv fd.scope fd.globals fd.closure binds (fd.qualname ++ ".<locals>.") (some a) fd.code none fd.builtins)
        (fun env s₂ => s₂.heap.NoLimit ∧ codeN (model prog w) A (.func body env) R s₂) (fun e s' => R (.error e) s') s₁) (fun e s' => R (.error e) s') s) :
    codeN (model prog w) A (.call (.ref a) args) R s := by
  refine codeN_of_tree rfl (wpN_of_any ?_)
  show wpAny _ A.in1 (callAny (.ref a) args) _ _ s
  simp only [callAny]
  refine wpAny_bind (wpAny_load ho ?_)
  obtain ⟨c, oc, vs, tq, hc, hoc, hdc, hq⟩ := hcd
  simp only [hd, callFunction, hco, hgen, hbody, hc]
  rw [hc] at h
  refine wpAny_bind (m := field (.ref c) 1) (wpAny_field hoc hdc hq (wpAny_bind (wpAny_pure ?_)))
  exact wpAny_bind (wpAny_mono h (fun binds s₁ h₁ => wpAny_bind (wpAny_mono h₁ (fun env s₂ h₂ => wpAny_bind (wpAny_enterFrame h₂.1 hroom
    (wpAny_pure ⟨rfl, h₂.2⟩))) fun _ _ x => x)) fun _ _ x => x)
end
section
variable {prog : Program} {w : World} {A₀ A : Around} {s : Shared} {K : Frag} {L : Addr} {h₀ base : Heap} {m mg mb : Str → Option Value} {news : List (Addr × Obj)} {p : Program} {loose : List Str} {mean : ExcName → Option Value}
  {env : Env} {outer : List Env} {R : Result → Shared → Prop} {name qual : Str} {params : Arguments} {body : List Stmt} {scope : Scope} {dV kV doc pm cdv ct oc : Value} {an od : Option Addr} {osl : Array (Option Value)} {f : Addr} {args : Args} {binds : List (Str × Value)}
/-- a plain def is entered -/
theorem enterN
    (B : Below A₀ base outer h₀) (F : Fr h₀ L s.heap m) (X₀ : K.In h₀) (N : News h₀ L s.heap news) (T : Top p loose mean mg mb h₀) (hA : A.frames = some (env :: outer)) (hf : env.frame = some L) (hke : env.scope.kind = .function)
    (ho : K.lookup f = some ⟨oc, od, .func (fnOf name qual params body scope dV kV doc pm an cdv ct), osl⟩) (hcd : codeIn K cdv qual = true) (hroom : A.depth < recursionLimit)
    (hbind : BindsTo s (fnOf name qual params body scope dV kV doc pm an cdv ct) args binds) (hloc : ∀ y ∈ binds, scope.names.lookup y.1 = some .local)
    (h : ∀ g L' h₁, Fr h₀ L g m → Fr g L' h₁ (fun y => binds.reverse.lookup y) → News g L' h₁ news → Below A base (env :: outer) g → K.In g → Top p loose mean mg mb g →
      wpN (model prog w) (A.deeper (envOf qual scope L' f cdv)) (execs body (envOf qual scope L' f cdv))
        (fun fl s' => LeaveK h₀ L m g R (match fl with | .ret v => v | _ => .none) s') (fun _ _ => False)
        { s with heap := h₁, toks := s.toks + binds.length })
    (hco : scope.isCoroutine = false) (hgen : scope.isGenerator = false) (hk : scope.kind = .function)
    (hcell : ∀ x ∈ scope.names, x.2 ≠ .cell) : codeN (model prog w) A (.call (.ref f) args) R s := by
  have X := X₀.keeps F.keep
  obtain ⟨FG, BG, st, lv⟩ := groundX (R := R) B F N hA hf hke
  refine codeN_call_function hroom (X _ _ ho) rfl hco hgen rfl (codeRec_of X hcd) (hbind _ _ _ _ ?_)
  refine wpAny_newFunctionEnv hcell hloc (fun h₁ hns₁ hsb₁ => ⟨(T.nolimit.keeps F.keep).fresh _ hsb₁, codeN_func ?_⟩) hk
  have hk₁ : ∀ b o, s.heap.get? b = some o → h₁.get? b = some o := fun b o e => hsb₁.extBut b o (Nat.ne_of_lt (Heap.lt_size e)) (Heap.get?_push_of_some _ e)
  exact wpN_mono (h _ s.heap.objs.size h₁ FG ⟨hns₁, fun b o e => hk₁ b o (of_hideAll _ e), Nat.le_of_eq (hideAll_size _ _)⟩
    (fun q hq => ⟨hk₁ _ _ (N q hq).1, Nat.ne_of_lt (Heap.lt_size (N q hq).1), hideAll_none _ (List.mem_map_of_mem hq)⟩) BG (X₀.keeps st) (T.keeps st)) (fun fl s' hl => lv _ _ hl) fun _ _ y => y
end
end Mine
end

namespace Mine
theorem rsBA : True ∧ True := by
  w_top off
  k_with_none
  first | (walk1; fail) | exact ⟨trivial, trivial⟩
end Mine
section
open PySem PySem.W PySem.Spec PySem.Calls PyProof.Rows
set_option Elab.async false
set_option maxRecDepth 100000
namespace Mine
theorem ba_mro : mroOf (.type "bytearray") = pure [.type "bytearray", .type "object"] := by rw [mroOf_type]; kernel_rfl
theorem ba_lookup_new : typeLookup (.type "bytearray") "__new__" = pure (some (.builtin "bytearray.__new__")) := by rw [typeLookup_type, builtinLookup_eq_fast]; kernel_rfl
theorem ba_slot_init : Slot "bytearray" "__init__" "bytearray.__init__" :=
  .of (owner := "bytearray") (n := "__init__") (by rw [typeLookup_type, builtinLookup_eq_fast]; kernel_rfl) (by decide +kernel) (by decide +kernel) (by decide +kernel)
    (by first | exact .inl (by decide +kernel) | exact .inr (by decide +kernel)) (by rw [isSubtype_type]; kernel_rfl)
theorem ba_called : TypeCalled "bytearray" "bytearray.__new__" "bytearray.__init__" :=
  ⟨by decide +kernel, by decide +kernel, ⟨_, _, ba_mro⟩, madeBy_type ba_mro ba_lookup_new (by decide +kernel), by decide +kernel, by rw [isSubtype_type]; kernel_rfl, ba_slot_init⟩
theorem ba_typeCall (a : Value) : checkTypeCall "bytearray" ⟨[a], []⟩ = pure () := by kernel_rfl
theorem ba_newCall (a : Value) : checkBuiltinCall "bytearray.__new__" ⟨[.type "bytearray", a], []⟩ = pure () := by kernel_rfl
theorem ba_plain : plainId "bytearray.__new__" = true := by decide +kernel
theorem ba_entry : entryFor table "bytearray.__new__" = some Builtin.«list.__new__» := entryFor_alias (id' := "list.__new__") (by kernel_rfl) (by first | rfl | decide +kernel) (by decide +kernel) (by kernel_rfl)
theorem ba_entry_init : entryFor table "bytearray.__init__" = some Builtin.«bytearray.__init__» := by first | exact entryFor_of_fast (by kernel_rfl) | exact entryFor_of_tree (by kernel_rfl)
theorem ba_sub : isSubtype (.type "bytearray") (.type "bytearray") = pure true := by rw [isSubtype_type]; kernel_rfl
set_option maxRecDepth 1000000 in
set_option maxHeartbeats 4000000 in
theorem owner_ba_new : ("bytearray.__new__".splitOn ".__new__").headD "" = "bytearray" := by simp +decide [String.splitOn, String.splitOnAux]

theorem tidy_out {id : String} {args : Args} (h : tidy (.builtin id args) = true) (hm : id ∈ heldIds) : False := by
  simp [tidy] at h
  exact h hm
theorem exported_no {M : Model} {A : Around} {E : Value → Shared → Prop} {s : Shared} {Q : Bool → Shared → Prop} {self : Value} (h : Q false s) : wpN M A (Builtin.Bytes.exported self) Q E s := fun Γ p _ hT => by
  unfold Builtin.Bytes.exported
  show Q (((Γ.code, p) :: Γ.below).any _) s
  refine (congrArg (Q · s) ?_).mpr h
  rw [List.any_eq_false]
  rintro ⟨c, q⟩ hx
  have ht : tidy c = true := hT (c, q) hx
  split <;> rename_i e
  all_goals (try (cases e; exact (tidy_out ht (by decide)).elim))
  · cases e
    simp only [Bool.and_eq_true, not_and]
    intro _ hc
    exact tidy_out ht (List.mem_append_left _ (List.contains_iff_mem.mp hc))
  · exact Bool.false_ne_true
section
variable {prog : Program} {w : World} {A : Around} {E : Value → Shared → Prop} {s : Shared}
theorem codeN_builtin {id : String} {args : Args} {b : Builtin} {R : Result → Shared → Prop} (ht : tidy (.builtin id args) = true) (hb : entryFor table id = some b)
    (h : wpN (model prog w) (A.under (.builtin id args)) (b args)
      (fun fin s' => match fin with | .done f => R (.ok f) s' | .again c' => c'.quiet = true ∧ codeN (model prog w) A c' R s') (fun e s' => R (.error e) s') s) :
    codeN (model prog w) A (.builtin id args) R s := by
  refine codeN_of_tree ht ?_
  show wpN _ _ (match entryFor table id with | some b => b args | none => unsupported ((withoutEnding? id "#data").getD id)) _ _ s
  rw [hb]; exact h

theorem code_ba_new (a : Value) {Q₁ : Value → Shared → Prop}
    (h : Q₁ (.ref s.heap.objs.size) { s with heap := s.heap.push { cls := .type "bytearray", data := .bytearray #[] } }) :
    codeAny (model prog w) A (.call (.builtin "bytearray.__new__") ⟨[.type "bytearray", a], []⟩) (wants Q₁ E) s := by
  refine codeAny_of_tree ?_
  show wpAny _ A.in1 (do checkBuiltinCall "bytearray.__new__" ⟨[.type "bytearray", a], []⟩; again (.builtin "bytearray.__new__" ⟨[.type "bytearray", a], []⟩)) _ _ s
  refine wpAny_bind (wpAny_of_eq (ba_newCall a) (wpAny_pure ⟨plainId_quiet ba_plain _, codeAny_builtin_stack ba_entry rfl fun p st => ?_⟩))
  rw [Around.under_plainId ba_plain _]
  have hsub := ba_sub
  have hown := owner_ba_new
  obtain ⟨hp, g, d, tk, os⟩ := s
  simp only [hown]
  wp_walk
  exact h
end
theorem ba_lookup_rel : typeLookup (.type "bytearray") "__release_buffer__" = pure (some (.builtin "bytearray.__release_buffer__")) := by rw [typeLookup_type, builtinLookup_eq_fast]; kernel_rfl
theorem ba_bind (v : Value) : Builtin.Bytes.bindOptional "bytearray.__init__" "bytearray" ["source", "encoding", "errors"] [v] [] = pure [some v, none, none] := by kernel_rfl
theorem ba_initArgs (a b : Value) : argsOk "bytearray.__init__" ⟨[a, b], []⟩ := by unfold argsOk; kernel_rfl
section
variable {M : Model} {A : Around} {E : Value → Shared → Prop} {s : Shared}
theorem wpAny_write {D : Addr} {b : Array UInt8} {f : Array UInt8 → Array UInt8} {Q : Unit → Shared → Prop} (hD : s.heap.get? D = some { cls := .type "bytearray", data := .bytearray b }) (hz : (f b).size ≤ sizeLine)
    (h : (s.heap.update D (Obj.mapBytearray f)).get? D = some { cls := .type "bytearray", data := .bytearray (f b) } → Q () { s with heap := s.heap.update D (Obj.mapBytearray f) }) : wpAny M A (Builtin.Bytes.write (.ref D) f) Q E s := by
  show wpAny _ _ (updateBytearray D f) _ _ _
  unfold updateBytearray
  refine wpAny_bind (wpAny_load hD ?_)
  show wpAny _ _ (update D (Obj.mapBytearray f) >>= fun _ => lookBehind D) _ _ _
  refine wpAny_bind (wpAny_update hD ?_)
  have hS : (s.heap.update D (Obj.mapBytearray f)).get? D = some { cls := .type "bytearray", data := .bytearray (f b) } := Heap.get?_update_self (Obj.mapBytearray f) hD rfl
  refine wpAny_lookBehind hS ?_ (h hS)
  show (if (f b).size > sizeLine then some "bytearray:memory" else none) = none
  rw [if_neg (by omega)]
end
section
variable {prog : Program} {w : World} {A : Around} {E : Value → Shared → Prop} {s : Shared}
theorem codeN_ba_init {n : Int} {t : Tok} {D : Addr} {R : Result → Shared → Prop} (h0 : 0 ≤ n) (hn1 : n ≤ 1000) (hD : s.heap.get? D = some { cls := .type "bytearray", data := .bytearray #[] })
    (hQ : ∀ h', (∀ b o, b ≠ D → s.heap.get? b = some o → h'.get? b = some o) → h'.get? D = some { cls := .type "bytearray", data := .bytearray (Array.replicate n.toNat 0) } → R (.ok (.ret .none)) { s with heap := h' }) :
    codeN (model prog w) A (.call (.builtin "bytearray.__init__") ⟨[.ref D, .int n t], []⟩) R s := by
  refine codeN_of_tree rfl ?_
  show wpN _ A.in1 (do checkBuiltinCall "bytearray.__init__" ⟨[.ref D, .int n t], []⟩; again (.builtin "bytearray.__init__" ⟨[.ref D, .int n t], []⟩)) _ _ s
  have hT : s.TypeIs (.ref D) "bytearray" := ⟨_, hD, rfl⟩
  refine wpN_any_bind (ba_slot_init.check _ _ _ _ _ _ _ _ hT (ba_initArgs _ _) ?_)
  refine wpN_pure ⟨plainId_quiet (by decide +kernel) _, codeN_builtin (by show (!heldIds.contains "bytearray.__init__") = true; decide +kernel) ba_entry_init ?_⟩
  rw [Around.under_plainId (by decide +kernel) _]
  unfold Builtin.«bytearray.__init__»
  simp only
  refine wpN_any_bind (m := Builtin.Bytes.ownRelease (.ref D)) ?_
  unfold Builtin.Bytes.ownRelease Builtin.Bytes.slotIsOwn
  refine wpAny_bind (wpAny_bind (wpAny_specialOf hT ba_lookup_rel ?_))
  dsimp only
  refine bm_if_false (by decide +kernel) ?_
  rw [show ("bytearray.__release_buffer__".dropRight ("__release_buffer__".length + 1) : String) = "bytearray" from by decide +kernel]
  refine wpAny_isInstance (T := "bytearray") (b := true) hT ba_sub (wpAny_pure ?_)
  refine wpN_ff rfl ?_
  refine wpN_eq_bind (ba_bind _) ?_
  dsimp only
  refine wpN_eq_bind (a := ()) rfl ?_
  refine wpN_eq_bind (a := ()) rfl ?_
  refine wpN_bind (m := Builtin.Bytes.exported (.ref D) <||> _) (wpN_bind (exported_no ?_))
  refine wpN_bind (wpN_of_any ?_)
  unfold Builtin.Bytes.exportsOf
  refine wpAny_bind (wpAny_load hD (wpAny_pure ?_))
  refine wpN_pure ?_
  refine wpN_ff rfl ?_
  refine wpN_any_bind (wpAny_write hD (Nat.zero_le _) fun hD1 => ?_)
  refine wpN_eq_bind (a := none) rfl ?_
  refine wpN_ff rfl ?_
  refine wpN_eq_bind (a := ()) rfl ?_
  refine wpN_any_bind (wpAny_specialOf (name := Str.ofString "__index__") (typeIs_int _ n t) F.slot_int_index.lookup ?_)
  refine wpN_tt rfl ?_
  refine wpN_eq_bind (a := Except.ok n) rfl ?_
  dsimp only
  refine wpN_ff (by simp [Builtin.Bytes.fitsIndex]; omega) ?_
  rw [if_neg (by omega)]
  refine wpN_ff (by simp; omega) ?_
  refine wpN_ff (by simp [Builtin.Bytes.tooLong, sizeLine_eq]; omega) ?_
  refine wpN_any_bind (wpAny_rule ?_)
  have hup : ∀ b o, b ≠ D → s.heap.get? b = some o → (s.heap.update D (Obj.mapBytearray fun _ => #[])).get? b = some o := fun b o hb e => (Heap.get?_update_other _ _ (Ne.symm hb)).trans e
  by_cases hp : n > 0
  · rw [if_pos hp]
    refine wpN_any_bind (wpAny_write hD1 (by rw [Array.size_replicate, sizeLine_eq]; omega) fun hD2 => ?_)
    refine wpN_pure (hQ _ (fun b o hb e => (Heap.get?_update_other _ _ (Ne.symm hb)).trans (hup b o hb e)) hD2)
  · rw [if_neg hp]
    have : n = 0 := by omega
    subst this
    exact wpN_pure (hQ _ hup hD1)
theorem call_ba {n : Int} {t : Tok} {Q : Value → Shared → Prop} (h0 : 0 ≤ n) (hn1 : n ≤ 1000)
    (hQ : ∀ h', (∀ b o, s.heap.get? b = some o → h'.get? b = some o) → h'.get? s.heap.objs.size = some { cls := .type "bytearray", data := .bytearray (Array.replicate n.toNat 0) } → Q (.ref s.heap.objs.size) { s with heap := h' }) :
    wpN (model prog w) A (call (.type "bytearray") [.int n t]) Q E s := by
  refine wpN_call (codeN_of_tree rfl ?_)
  show wpN _ _ (callAny (.type "bytearray") _) _ _ _
  refine wpN_pure ⟨Code.quiet_builtin _ (by decide +kernel), codeN_builtin rfl PySem.F.entry_type_call ?_⟩
  rw [Around.under_plain (weight_type_call_type "bytearray" _ []) rfl]
  have ft := ba_called
  obtain ⟨c, tl, hmro⟩ := ft.mro
  have h1 := ft.notType
  have h2 := ft.canCreate
  unfold Builtin.«type.__call__»
  simp only [h1, Bool.false_eq_true, if_false]
  refine wpN_ff h2 ?_
  refine wpN_eq_bind (ba_typeCall _) ?_
  refine wpN_eq_bind hmro ?_
  refine wpN_ff rfl ?_
  refine wpN_eq_bind ft.made ?_
  refine wpN_eq_bind rfl ?_
  have hnew : (s.heap.push { cls := .type "bytearray", data := .bytearray #[] }).get? s.heap.objs.size = some { cls := .type "bytearray", data := .bytearray #[] } := Heap.get?_push_size _ rfl
  refine wpN_bind (wpN_holding (wpN_call (codeN_of_any (codeAny_mono (code_ba_new _ (Q₁ := fun v s₁ => v = .ref s.heap.objs.size ∧ s₁ = { s with heap := s.heap.push { cls := .type "bytearray", data := .bytearray #[] } }) (E := fun _ _ => False) ⟨rfl, rfl⟩) fun r s₁ hr => ?_))))
  cases r with
  | error e => exact hr.elim
  | ok fl =>
    cases fl with
    | ret obj =>
      obtain ⟨rfl, rfl⟩ := hr
      have hT : Shared.TypeIs { s with heap := s.heap.push { cls := .type "bytearray", data := .bytearray #[] } } (.ref s.heap.objs.size) "bytearray" := ⟨_, hnew, rfl⟩
      refine wpN_any_bind (wpAny_isInstance (T := "bytearray") (b := true) hT ft.sub ?_)
      refine wpN_ff rfl ?_
      refine wpN_bind (wpN_holding ?_)
      unfold callSpecial?
      refine wpN_any_bind (wpAny_specialOf (T := "bytearray") hT ft.init.lookup ?_)
      refine wpN_holding ?_
      refine wpN_eq_bind (ft.init.bind _) ?_
      refine wpN_bind (wpN_call (codeN_ba_init h0 hn1 hnew fun h' hk hD => ?_))
      refine wpN_pure ?_
      dsimp only
      refine wpN_ff rfl ?_
      exact wpN_pure (hQ h' (fun b o e => hk b o (Nat.ne_of_lt (Heap.lt_size e)) (Heap.get?_push_of_some _ e)) hD)
    | _ => exact hr.elim
end
end Mine
end

namespace Mine
theorem rsNE : True ∧ True := by
  w_top off
  k_with_none
  first | (walk1; fail) | exact ⟨trivial, trivial⟩
end Mine
section
open PySem PySem.W PySem.Spec PySem.Calls PyProof.Rows
set_option Elab.async false
set_option maxRecDepth 100000
namespace Mine
section
variable {M : Model} {A : Around} {E : Value → Shared → Prop} {s : Shared} {env : Env}
theorem wpN_execs_cons {st : Stmt} {rest : List Stmt} {Q : Flow → Shared → Prop}
    (h : wpN M A (exec st env) (fun f s' => match f with | .next => wpN M A (execs rest env) Q E s' | f => Q f s') E s) : wpN M A (execs (st :: rest) env) Q E s := by
  rw [arm_execs_cons]
  refine wpN_bind (wpN_mono h (fun f s' h' => ?_) fun _ _ x => x)
  cases f <;> first | exact h' | exact wpN_pure h'
theorem wpN_Assign_Name {x : Str} {px pos : Pos} {value : Expr} {Q : Flow → Shared → Prop}
    (h : wpN M A (eval value env) (fun v s₁ => wpAny M A (bindName env x v) (fun _ s₂ => Q .next s₂) E s₁) E s) (hs : swapsWith value (some (.Name x px)) pos.line env = pure false := by rfl)
    (hw : swappedStores [.Name x px] value env = pure none := by rfl) : wpN M A (exec (.Assign [.Name x px] value pos) env) Q E s := by
  rw [arm_exec_Assign]
  refine wpN_standAt ?_
  refine wpN_eq_bind (a := false) hs ?_
  refine wpN_ff rfl ?_
  refine wpN_bind (wpN_mono h (fun v s₁ h₁ => ?_) fun _ _ x => x)
  refine wpN_eq_bind hw ?_
  refine wpN_of_any ?_
  show wpAny _ _ (do assignAll v ((assignEach [.Name x px] env).map (·.2)); pure Flow.next) _ _ _
  refine wpAny_bind ?_
  show wpAny _ _ (assign (.Name x px) env v) _ _ _
  rw [arm_assign_Name]
  exact wpAny_bind (wpAny_standAt (wpAny_mono h₁ (fun _ _ y => wpAny_pure y) fun _ _ y => y))
theorem wpN_spliced_cons {x : Sem Value} {rest : List (Bool × Sem Value)} {Q : List Value → Shared → Prop}
    (h : wpN M A x (fun v s₁ => wpN M A (spliced rest) (fun vs s₂ => Q (v :: vs) s₂) E s₁) E s) : wpN M A (spliced ((false, x) :: rest)) Q E s := by
  rw [spliced]
  refine wpN_bind (wpN_mono h (fun v s₁ h₁ => ?_) fun _ _ x => x)
  show wpN _ _ (pure [v] >>= _) _ _ _
  exact wpN_eq_bind rfl (wpN_bind (wpN_holding (wpN_mono h₁ (fun vs s₂ h₂ => wpN_pure h₂) fun _ _ x => x)))
theorem wpN_evalArgs {f : Value} {x : Sem Value} {rest : List (Bool × Sem Value)} {Q : Args → Shared → Prop}
    (h : wpN M A (spliced ((false, x) :: rest)) (fun vs s₁ => Q ⟨vs, []⟩ s₁) E s) : wpN M A (evalArgs f true ((false, x) :: rest) []) Q E s := by
  unfold evalArgs
  show wpN M A (spliced ((false, x) :: rest) >>= _) Q E s
  refine wpN_bind (wpN_mono h (fun vs s₁ h₁ => ?_) fun _ _ x => x)
  refine wpN_holding ?_
  exact wpN_eq_bind (a := []) rfl (wpN_eq_bind rfl (wpN_pure h₁))
theorem wpN_callWith_fn {pos : Pos} {a : Addr} {x : Sem Value} {rest : List (Bool × Sem Value)} {Q : Value → Shared → Prop} (hst : rest.any (·.1) = false := by rfl) (hlen : ¬ (((false, x) :: rest).length + 2 * ([] : List (Option Str × Sem Value)).length > 30) := by decide)
    (h : wpN M A (spliced ((false, x) :: rest)) (fun vs s₁ => (∃ o fd, s₁.heap.get? a = some o ∧ o.data = .func fd) ∧ wpN M A (call (.ref a) vs) Q E s₁) E s) :
    wpN M A (callWith pos (.ref a) [] ((false, x) :: rest) []) Q E s := by
  unfold callWith
  refine wpN_bind (wpN_holding (wpN_mono (wpN_evalArgs (f := .ref a) (Q := fun x s₁ => (∃ o fd, s₁.heap.get? a = some o ∧ o.data = .func fd) ∧ x.kw = [] ∧ wpN M A (call (.ref a) x.pos) Q E s₁) (wpN_mono h (fun _ _ y => ⟨y.1, rfl, y.2⟩) fun _ _ y => y)) (fun x s₁ h₁ => wpN_standAt ?_) fun _ _ x => x))
  obtain ⟨⟨o, fd, ho, hd⟩, hk, hc⟩ := h₁
  refine wpN_any_bind (m := keeperOf (.ref a)) ?_
  unfold keeperOf
  refine wpAny_bind (wpAny_load ho ?_)
  rw [hd]
  refine wpAny_pure ?_
  simp only [List.any_cons, hst, List.any_nil, Bool.or_false]
  rw [if_neg hlen, hk]
  unfold callMarked
  exact wpN_bind (wpN_keep (wpN_mono hc (fun r s₂ hr => wpN_bind (wpN_holding (wpN_of_any (wpAny_point (wpN_pure hr))))) fun _ _ x => x))
theorem wpN_callWith_type {pos : Pos} {T : String} {x : Sem Value} {rest : List (Bool × Sem Value)} {Q : Value → Shared → Prop} (hst : rest.any (·.1) = false := by rfl)
    (h : wpN M A (spliced ((false, x) :: rest)) (fun vs s₁ => wpN M A (call (.type T) vs) Q E s₁) E s) :
    wpN M A (callWith pos (.type T) [] ((false, x) :: rest) []) Q E s := by
  unfold callWith
  refine wpN_bind (wpN_holding (wpN_mono (wpN_evalArgs (f := .type T) (Q := fun x s₁ => x.kw = [] ∧ wpN M A (call (.type T) x.pos) Q E s₁) (wpN_mono h (fun _ _ y => ⟨rfl, y⟩) fun _ _ y => y)) (fun x s₁ h₁ => wpN_standAt ?_) fun _ _ x => x))
  obtain ⟨hk, hc⟩ := h₁
  refine wpN_eq_bind (m := keeperOf (.type T)) rfl ?_
  simp only [List.any_cons, hst, List.any_nil, Bool.or_false]
  rw [hk]
  exact wpN_bind (wpN_mono hc (fun r s₂ hr => wpN_bind (wpN_holding (wpN_of_any (wpAny_point (wpN_pure hr))))) fun _ _ x => x)
theorem wpN_CallName {f : Str} {p pos : Pos} {args : List Expr} {Q : Value → Shared → Prop}
    (h : wpAny M A (eval (.Name f p) env) (fun v s₁ => wpN M A (callWith pos v [] (backTo pos (starEach args env)) []) Q E s₁) E s) : wpN M A (eval (.Call (.Name f p) args [] pos) env) Q E s := by
  rw [arm_eval_Call_Name']
  exact wpN_bind (wpN_of_any h)
theorem wpN_args_nil {pos : Pos} {Q : List Value → Shared → Prop} (h : Q [] s) : wpN M A (spliced (backTo pos (starEach [] env))) Q E s := wpN_pure h
theorem wpN_args_cons {e : Expr} {es : List Expr} {pos : Pos} {Q : List Value → Shared → Prop}
    (h : wpN M A (eval e env) (fun v s₁ => wpN M A (spliced (backTo pos (starEach es env))) (fun vs s₂ => Q (v :: vs) s₂) E s₁) E s)
    (hs : starEach (e :: es) env = (false, eval e env) :: starEach es env := by rfl) : wpN M A (spliced (backTo pos (starEach (e :: es) env))) Q E s := by
  rw [hs]
  exact wpN_spliced_cons h
theorem wpN_call_fn {e : Expr} {es : List Expr} {pos pos' : Pos} {a : Addr} {Q : Value → Shared → Prop}
    (h : wpN M A (spliced (backTo pos' (starEach (e :: es) env))) (fun vs s₁ => (∃ o fd, s₁.heap.get? a = some o ∧ o.data = .func fd) ∧ wpN M A (call (.ref a) vs) Q E s₁) E s)
    (hs : starEach (e :: es) env = (false, eval e env) :: starEach es env := by rfl) (hst : (backTo pos' (starEach es env)).any (·.1) = false := by rfl) (hlen : ¬ ((backTo pos' (starEach (e :: es) env)).length + 2 * ([] : List (Option Str × Sem Value)).length > 30) := by decide) :
    wpN M A (callWith pos (.ref a) [] (backTo pos' (starEach (e :: es) env)) []) Q E s := by
  rw [hs] at h hlen ⊢
  exact wpN_callWith_fn hst hlen h
theorem wpN_call_type {e : Expr} {es : List Expr} {pos pos' : Pos} {T : String} {Q : Value → Shared → Prop}
    (h : wpN M A (spliced (backTo pos' (starEach (e :: es) env))) (fun vs s₁ => wpN M A (call (.type T) vs) Q E s₁) E s)
    (hs : starEach (e :: es) env = (false, eval e env) :: starEach es env := by rfl) (hst : (backTo pos' (starEach es env)).any (·.1) = false := by rfl) :
    wpN M A (callWith pos (.type T) [] (backTo pos' (starEach (e :: es) env)) []) Q E s := by
  rw [hs] at h ⊢
  exact wpN_callWith_type hst h
end
section
variable {h₀ h h' : Heap} {L a : Addr} {m : Str → Option Value} {news : List (Addr × Obj)} {o : Obj}
/-- a heap that has grown by an object of the call's own -/
theorem news_grow (F : Fr h₀ L h m) (N : News h₀ L h news) (hk : ∀ b o, h.get? b = some o → h'.get? b = some o) (ho : h'.get? h.objs.size = some o) : News h₀ L h' ((h.objs.size, o) :: news) := fun p hp => by
  rcases List.mem_cons.mp hp with rfl | hp
  · refine ⟨ho, Nat.ne_of_gt F.ns.lt, ?_⟩
    exact Heap.get?_none_of_le (Nat.le_trans F.above (Nat.le_of_lt F.ns.lt))
  · exact ⟨hk _ _ (N p hp).1, (N p hp).2⟩
end
abbrev baObj (b : Array UInt8) : Obj := { cls := .type "bytearray", data := .bytearray b }
theorem call_ba_K {prog : Program} {w : World} {A : Around} {E : Value → Shared → Prop} {s : Shared} {h₀ : Heap} {L : Addr} {m : Str → Option Value} {news : List (Addr × Obj)} {n : Int} {t : Tok} {Q : Value → Shared → Prop}
    (F : Fr h₀ L s.heap m) (N : News h₀ L s.heap news) (h0 : 0 ≤ n) (h1 : n ≤ 1000)
    (h : ∀ D h', Fr h₀ L h' m → News h₀ L h' ((D, baObj (Array.replicate n.toNat 0)) :: news) → (∀ p ∈ news, p.1 < D) → Q (.ref D) { s with heap := h' }) :
    wpN (model prog w) A (call (.type "bytearray") [.int n t]) Q E s :=
  call_ba h0 h1 fun h' hk hD => h _ h' (F.keeps hk) (news_grow F N hk hD) fun p hp => Heap.lt_size (N p hp).1
section
variable {prog : Program} {w : World} {A : Around} {E : Value → Shared → Prop} {s : Shared} {env : Env} {h₀ : Heap} {x : Str} {body : List Stmt} {Q : Flow → Shared → Prop}
/-- a for over a range, whatever its step -/
theorem iter_rangeJ {r : Addr} {a b c : Int} {t u v : Tok} {n : Nat} {m₀ : Str → Option Value} {news : List (Addr × Obj)} (J : Nat → (Str → Option Value) → List (Addr × Obj) → Prop)
    (hh : A.handled = none) (hr : IsRange s.heap r a b c t u v) (hsmall : Builtin.Range.small a b c = true) (hn : Builtin.Range.rangeSize a b c = (n : Int)) (F : Fr h₀ env.locals s.heap m₀) (N : News h₀ env.locals s.heap news) (hj : J 0 m₀ news)
    (turn : ∀ i k t m₁ news₁ h tk own, i < n → k = a + (i : Int) * c → news₁.map (·.1) = news.map (·.1) → OwnOff own (news.map (·.1)) → J i m₁ news₁ → Fr h₀ env.locals h (fun y => if y = x then some (.int k t) else m₁ y) → News h₀ env.locals h (news₁ ++ own) →
      wpAny (model prog w) A (execs body env) (InvPostN h₀ env.locals (J (i + 1)) own (news.map (·.1)) { s with heap := h, toks := tk } Q) E { s with heap := h, toks := tk })
    (done : ∀ m₁ news₁ h tk, J n m₁ news₁ → Fr h₀ env.locals h m₁ → News h₀ env.locals h news₁ → Q .next { s with heap := h, toks := tk }) :
    wpAny (model prog w) A (pyIter (.ref r)) (fun it s₂ => LoopAtV prog w A h₀ env x body Q E it s₂) E s := by
  refine wpAny_pyIter_range hr hsmall ?_
  have W := (Walks.range (prog := prog) (w := w) hh s.heap.objs.size a c n).bound
  have off : ∀ p ∈ news, p.1 ∉ [s.heap.objs.size] := fun p hp hI => Nat.lt_irrefl _ ((List.mem_singleton.mp hI) ▸ Heap.lt_size (N p hp).1)
  refine loop_invN J W ?_ ?_ off off (by show IsRangeIter _ _ _ _ _; rw [hn]; simpa using Heap.get?_push_size _ rfl) (F.push _) (fun p hp => ⟨Heap.get?_push_of_some _ (N p hp).1, (N p hp).2⟩) hj ?_ done
  · intro hm
    exact absurd F.ns.lt ((List.mem_singleton.mp hm) ▸ Nat.lt_irrefl _)
  · intro b' hb
    rw [List.mem_singleton.mp hb]
    exact next_is_new F
  · rintro i v' m₁ nx h tk own hi ⟨_, t', rfl⟩ ha hoff hJ F₁ N₁
    exact turn i _ t' m₁ nx h tk own hi rfl ha hoff hJ F₁ N₁
/-- what a loop's turn leaves of the frame's names -/
def Kept (x : Str) (stored : List Str) (m₀ m' : Str → Option Value) : Prop := ∀ z, z ≠ x → stored.contains z = false → m' z = m₀ z
theorem kept_map {stored : List Str} {m₀ m₁ : Str → Option Value} {v : Option Value} (h : Kept x stored m₀ m₁) : (fun y => if y = x then v else m₁ y) = fun y => if y = x then v else if stored.contains y = true then m₁ y else m₀ y := by
  funext y
  by_cases h1 : y = x
  · simp [h1]
  · simp only [if_neg h1]
    cases h2 : stored.contains y with
    | true => simp
    | false => simpa using h y h1 h2
theorem kept_out {stored : List Str} {m₀ m₁ : Str → Option Value} (h : Kept x stored m₀ m₁) : m₁ = fun y => if y = x then m₁ y else if stored.contains y = true then m₁ y else m₀ y := by
  have := kept_map (v := m₁ x) h
  funext y
  have e := congrFun this y
  by_cases h1 : y = x
  · simp [h1]
  · simpa only [if_neg h1] using e
theorem iter_rangeK {r : Addr} {a b c : Int} {t u v : Tok} {n : Nat} {m₀ : Str → Option Value} {news : List (Addr × Obj)} (stored : List Str) (J : Nat → List (Addr × Obj) → Prop)
    (hh : A.handled = none) (hr : IsRange s.heap r a b c t u v) (hsmall : Builtin.Range.small a b c = true) (hn : Builtin.Range.rangeSize a b c = (n : Int)) (F : Fr h₀ env.locals s.heap m₀) (N : News h₀ env.locals s.heap news) (hj : J 0 news)
    (turn : ∀ i k t (u : Str → Option Value) news₁ h tk own, i < n → k = a + (i : Int) * c → news₁.map (·.1) = news.map (·.1) → OwnOff own (news.map (·.1)) → J i news₁ → Fr h₀ env.locals h (fun y => if y = x then some (.int k t) else if stored.contains y = true then u y else m₀ y) → News h₀ env.locals h (news₁ ++ own) →
      wpAny (model prog w) A (execs body env) (InvPostN h₀ env.locals (fun m' nx => Kept x stored m₀ m' ∧ J (i + 1) nx) own (news.map (·.1)) { s with heap := h, toks := tk } Q) E { s with heap := h, toks := tk })
    (done : ∀ (u : Str → Option Value) news₁ h tk, J n news₁ → Fr h₀ env.locals h (fun y => if y = x then u y else if stored.contains y = true then u y else m₀ y) → News h₀ env.locals h news₁ → Q .next { s with heap := h, toks := tk }) :
    wpAny (model prog w) A (pyIter (.ref r)) (fun it s₂ => LoopAtV prog w A h₀ env x body Q E it s₂) E s := by
  refine iter_rangeJ (fun i m₁ nx => Kept x stored m₀ m₁ ∧ J i nx) hh hr hsmall hn F N ⟨fun _ _ _ => rfl, hj⟩ ?_ ?_
  · rintro i k t m₁ nx h tk own hi hk ha hoff ⟨hm, hJ⟩ F₁ N₁
    rw [kept_map hm] at F₁
    exact turn i k t m₁ nx h tk own hi hk ha hoff hJ F₁ N₁
  · rintro m₁ nx h tk ⟨hm, hJ⟩ F₁ N₁
    rw [kept_out hm] at F₁
    exact done m₁ nx h tk hJ F₁ N₁
end
theorem ba_slot_set : Slot "bytearray" (Str.ofString "__setitem__") "bytearray.__setitem__" :=
  .of (owner := "bytearray") (n := "__setitem__") (by rw [typeLookup_type, builtinLookup_eq_fast]; kernel_rfl) (by decide +kernel) (by decide +kernel) (by decide +kernel)
    (by first | exact .inl (by decide +kernel) | exact .inr (by decide +kernel)) (by rw [isSubtype_type]; kernel_rfl)
theorem ba_entry_set : entryFor table "bytearray.__setitem__" = some Builtin.«bytearray.__setitem__» := by first | exact entryFor_of_fast (by kernel_rfl) | exact entryFor_of_tree (by kernel_rfl)
theorem ba_args_set (a b c : Value) : argsOk "bytearray.__setitem__" ⟨[a, b, c], []⟩ := by unfold argsOk; kernel_rfl
theorem ba_look_buf : typeLookup (.type "bytearray") "__buffer__" = pure (some (.builtin "bytearray.__buffer__")) := by rw [typeLookup_type, builtinLookup_eq_fast]; kernel_rfl
theorem ba_look_bytes : typeLookup (.type "bytearray") "__bytes__" = pure none := by rw [typeLookup_type, builtinLookup_eq_fast]; kernel_rfl
theorem ba_look_index : typeLookup (.type "bytearray") "__index__" = pure none := by rw [typeLookup_type, builtinLookup_eq_fast]; kernel_rfl
section
variable {prog : Program} {w : World} {A : Around} {E : Value → Shared → Prop} {s : Shared}
theorem setItem_ba {D : Addr} {b : Array UInt8} {k v : Int} {t u : Tok} {Q : Unit → Shared → Prop} (hD : s.heap.get? D = some (baObj b)) (h0 : 0 ≤ k) (h1 : k < (b.size : Int)) (hz : b.size ≤ 1000) (v0 : 0 ≤ v) (v1 : v < 256)
    (h : (s.heap.update D (Obj.mapBytearray (·.setIfInBounds k.toNat v.toNat.toUInt8))).get? D = some (baObj (b.setIfInBounds k.toNat v.toNat.toUInt8)) → Q () { s with heap := s.heap.update D (Obj.mapBytearray (·.setIfInBounds k.toNat v.toNat.toUInt8)) }) :
    wpAny (model prog w) A (setItem (.ref D) (.int k t) (.int v u)) Q E s := by
  have hT : s.TypeIs (.ref D) "bytearray" := ⟨_, hD, rfl⟩
  unfold setItem
  refine wpAny_holding ?_
  refine wpAny_bind (wpAny_sequenceKey hT (by decide) ?_)
  refine wpAny_bind (wpAny_callSpecial?_slot (name := Str.ofString "__setitem__") hT ba_slot_set
    (wpAny_call_entry ba_slot_set hT ba_entry_set ?_ (ba_args_set _ _ _)))
  unfold Builtin.«bytearray.__setitem__»
  simp only [List.isEmpty_nil, Bool.not_true, Bool.false_eq_true, if_false]
  refine wpAny_bind (m := Builtin.Bytes.subscript? (.int k t)) ?_
  unfold Builtin.Bytes.subscript?
  refine wpAny_bind (wpAny_specialOf (name := Str.ofString "__index__") (typeIs_int _ k t) PySem.F.slot_int_index.lookup ?_)
  refine bm_if_false rfl ?_
  refine wpAny_bind (wpAny_of_eq (rfl : asIndex (.int k t) = pure k) ?_)
  dsimp only
  refine bm_if_false (by simp [Builtin.Bytes.fitsIndex]; omega) ?_
  refine wpAny_pure ?_
  dsimp only
  refine wpAny_bind (m := Builtin.Bytes.byteValue (.int v u)) ?_
  unfold Builtin.Bytes.byteValue
  refine wpAny_bind (wpAny_of_eq (rfl : asIndex (.int v u) = pure v) ?_)
  refine bm_if_false (by simp; omega) ?_
  refine wpAny_pure ?_
  refine wpAny_bind ?_
  unfold Builtin.Bytes.payload Builtin.Bytes.payload?
  refine wpAny_bind (wpAny_bind (wpAny_load hD (wpAny_pure (wpAny_pure ?_))))
  have hs : seqIndex? k b.size = some k.toNat := by
    simp only [seqIndex?]
    rw [if_neg (by omega : ¬ k < 0)]
    simp [h0, h1]
  rw [hs]
  dsimp only
  refine wpAny_bind (wpAny_write hD (by rw [Array.size_setIfInBounds, sizeLine_eq]; omega) fun hD1 => ?_)
  exact wpAny_pure ⟨_, rfl, wpAny_pure (h hD1)⟩
theorem slotOwn_ba {D : Addr} {b : Array UInt8} {name : String} {Q : Bool → Shared → Prop} (hD : s.heap.get? D = some (baObj b)) (hl : typeLookup (.type "bytearray") (Str.ofString name) = pure (some (.builtin ("bytearray." ++ name)))) (he : ("bytearray." ++ name).endsWith ("." ++ name) = true) (hd : ("bytearray." ++ name).dropRight (name.length + 1) = "bytearray") (hQ : Q true s) :
    wpAny (model prog w) A (Builtin.Bytes.slotIsOwn (.ref D) name) Q E s := by
  have hT : s.TypeIs (.ref D) "bytearray" := ⟨_, hD, rfl⟩
  unfold Builtin.Bytes.slotIsOwn
  refine wpAny_bind (wpAny_specialOf hT hl ?_)
  dsimp only
  refine bm_if_false (by rw [he]; rfl) ?_
  rw [hd]
  exact wpAny_isInstance (T := "bytearray") (b := true) hT ba_sub hQ

theorem new_bytes_ba {D : Addr} {b : Array UInt8} {Q : Value → Shared → Prop} (hD : s.heap.get? D = some (baObj b)) (hz : b.size ≤ 1000)
    (hQ : Q (.bytes b s.toks) { s with toks := s.toks + 1 }) :
    codeAny (model prog w) A (.call (.builtin "bytes.__new__") ⟨[.type "bytes", .ref D], []⟩) (wants Q E) s := by
  refine codeAny_of_tree ?_
  show wpAny _ A.in1 (do checkBuiltinCall "bytes.__new__" ⟨[.type "bytes", .ref D], []⟩; again (.builtin "bytes.__new__" ⟨[.type "bytes", .ref D], []⟩)) _ _ s
  refine wpAny_bind (wpAny_of_eq (PySem.F.bm_newCall _) (wpAny_pure ⟨plainId_quiet PySem.F.bm_plain _, codeAny_builtin PySem.F.bm_entry ?_⟩))
  rw [Around.under_plainId PySem.F.bm_plain _]
  have hT : s.TypeIs (.ref D) "bytearray" := ⟨_, hD, rfl⟩
  unfold Builtin.«bytes.__new__»
  refine wpAny_bind (wpAny_of_eq (a := true) rfl ?_)
  refine bm_if_false rfl ?_
  refine wpAny_bind (wpAny_of_eq PySem.F.bm_sub ?_)
  refine bm_if_false rfl ?_
  refine wpAny_bind (wpAny_of_eq (PySem.F.bm_bind _) ?_)
  refine wpAny_bind (wpAny_of_eq (a := ()) rfl ?_)
  refine wpAny_bind (wpAny_of_eq (a := ()) rfl ?_)
  refine bm_if_false rfl ?_
  refine wpAny_bind (wpAny_specialOf hT ba_look_bytes ?_)
  refine wpAny_bind (wpAny_bind ?_)
  show wpAny _ _ (load D >>= _) _ _ _
  refine wpAny_bind (wpAny_load hD ?_)
  refine wpAny_pure (wpAny_pure ?_)
  refine bm_if_false rfl ?_
  refine wpAny_bind (wpAny_specialOf hT ba_look_index ?_)
  refine bm_if_true rfl ?_
  first
    | show wpAny _ _ (Builtin.Bytes.buffer? "bytes.__new__" (.ref D) true >>= _) _ _ _
    | (refine wpAny_bind ?_; show wpAny _ _ (Builtin.Bytes.buffer? "bytes.__new__" (.ref D) true >>= _) _ _ _)
  refine wpAny_bind ?_
  unfold Builtin.Bytes.buffer?
  refine wpAny_bind (wpAny_specialOf hT ba_look_buf ?_)
  dsimp only
  refine wpAny_bind (slotOwn_ba hD ba_look_buf (by decide +kernel) (by decide +kernel) ?_)
  refine bm_if_false rfl ?_
  refine wpAny_bind (wpAny_specialOf hT ba_look_buf ?_)
  refine wpAny_bind (m := Builtin.Bytes.ownRelease (.ref D)) ?_
  unfold Builtin.Bytes.ownRelease
  refine wpAny_bind (slotOwn_ba hD ba_lookup_rel (by decide +kernel) (by decide +kernel) (wpAny_pure ?_))
  refine bm_if_false rfl ?_
  refine wpAny_bind ?_
  unfold Builtin.Bytes.payload Builtin.Bytes.payload?
  refine wpAny_bind (wpAny_bind (wpAny_load hD (wpAny_pure (wpAny_pure ?_))))
  refine wpAny_pure ?_
  dsimp only
  refine wpAny_bind (wpAny_rule ?_)
  refine wpAny_bind (wpAny_mkBytes ?_ (by rw [sizeLine_eq]; omega))
  show wpAny _ _ (if (Value.type "bytes" == Value.type "bytes") = true then _ else _) _ _ _
  refine bm_if_true (by decide) ?_
  first
    | exact wpAny_pure hQ
    | exact wpAny_bind (wpAny_pure (wpAny_pure hQ))
theorem call_bytes_ba {D : Addr} {b : Array UInt8} {Q : Value → Shared → Prop} (hD : s.heap.get? D = some (baObj b)) (hz : b.size ≤ 1000)
    (hQ : Q (.bytes b s.toks) { s with toks := s.toks + 1 }) : wpAny (model prog w) A (call (.type "bytes") [.ref D]) Q E s := by
  refine callType_codes (Q₁ := fun obj s₁ => s₁.TypeIs obj "bytes" ∧ Q obj s₁) PySem.F.bm_called (PySem.F.bm_typeCall _) PySem.F.entry_object_init
    (new_bytes_ba hD hz ⟨PySem.W.typeIs_bytes _ _ _, hQ⟩) fun obj s₁ h₁ => ?_
  exact ⟨h₁.1, PySem.F.args_object_init_2 obj _, object_init_meets PySem.F.bm_called.init.lookup PySem.F.bm_called.made (by decide) prog w A.in1 _ s₁ ⟨h₁.1, rfl, h₁.2⟩⟩
theorem item_bytes {x : Array UInt8} {i : Int} {t ui : Tok} {value slice : Expr} {Q : Value → Shared → Prop} (hfit : x.size ≤ 1099511627776) (h0 : 0 ≤ i) (h1 : i < (x.size : Int)) (h : Q (.int (x.getD i.toNat 0).toNat s.toks) { s with toks := s.toks + 1 })
    (hs : subscripted slice false (.bytes x t) (.int i ui) = operate [.bytes x t, .int i ui] (getItem (.bytes x t) (.int i ui)) := by with_unfolding_all rfl)
    (ht : ∀ r, letTemporaryGo value (.bytes x t) r = pure () := by intro _; with_unfolding_all rfl) :
    wpAny (model prog w) A (subscriptTail value slice (.bytes x t) (.int i ui)) Q E s := by
  obtain ⟨l⟩ := x
  exact KBy.item_N (x := l) hfit h0 h1 (by simpa [List.getD_eq_getElem?_getD, Array.getD_eq_getD_getElem?] using h) hs ht
end
section
variable {prog : Program} {w : World} {A : Around} {E : Value → Shared → Prop} {s : Shared} {h₀ : Heap} {L : Addr} {m : Str → Option Value} {rest : List (Addr × Obj)}
theorem setItem_ba_K {D : Addr} {b : Array UInt8} {k v : Int} {t u : Tok} {Q : Unit → Shared → Prop} (F : Fr h₀ L s.heap m) (N : News h₀ L s.heap ((D, baObj b) :: rest)) (hne : ∀ p ∈ rest, p.1 ≠ D)
    (h0 : 0 ≤ k) (h1 : k < (b.size : Int)) (hz : b.size ≤ 1000) (v0 : 0 ≤ v) (v1 : v < 256)
    (h : ∀ h', Fr h₀ L h' m → News h₀ L h' ((D, baObj (b.setIfInBounds k.toNat v.toNat.toUInt8)) :: rest) → Q () { s with heap := h' }) :
    wpAny (model prog w) A (setItem (.ref D) (.int k t) (.int v u)) Q E s :=
  setItem_ba (News.get N (.head _)) h0 h1 hz v0 v1 fun _ =>
    have U := news_upd (pre := []) (f := Obj.mapBytearray (·.setIfInBounds k.toNat v.toNat.toUInt8)) (o' := baObj (b.setIfInBounds k.toNat v.toNat.toUInt8)) F N (fun _ h => nomatch h) hne rfl rfl
    h _ U.1 U.2
end
end Mine
end

namespace Mine
theorem rsCB : True ∧ True := by
  w_top off
  k_with_none
  first | (walk1; fail) | exact ⟨trivial, trivial⟩
end Mine
section
open PySem PySem.W PySem.Spec PySem.Calls PyProof.Rows
set_option Elab.async false
set_option maxRecDepth 100000
namespace Mine
/-- a call's claim: T is the ledger that it wants, D and U its room, Post what comes back and the ledger then -/
abbrev Cl (prog : Program) (w : World) (K : Frag) (p : Program) (loose : List Str) (mean : ExcName → Option Value) (mg mb : Str → Option Value) (f : Addr) (T : List (Addr × Obj)) (D U : Nat) (vs : List Value) (Post : Value → List (Addr × Obj) → Prop) : Prop :=
  ∀ (dp un : Nat) (gd : Option (List Code)) (cn : Str) (cs : Scope) (a : Addr) (ccd : Value) (cl : List (Str × Addr)) (outer : List Env) (A₀ : Around) (base h₀ : Heap) (L : Addr) (m : Str → Option Value) (s : Shared) (Q E : Value → Shared → Prop),
    Below A₀ base outer h₀ → Fr h₀ L s.heap m → K.In h₀ → News h₀ L s.heap T → Top p loose mean mg mb h₀ → cs.kind = .function →
    dp + D < recursionLimit → un + U < cLine →
    (∀ r T' h' tk', Fr h₀ L h' m → News h₀ L h' T' → Post r T' → Q r { s with heap := h', toks := tk' }) →
      wpAny (model prog w) (ktrTop dp un gd cn cs L a ccd cl outer) (call (.ref f) vs) Q E s
/-- a halt of the walk -/
def Stop (P : Prop) : Prop := P
theorem Stop.go {P : Prop} (h : Stop P) : P := h
theorem Stop.on {P : Prop} (h : P) : Stop P := h
/-- a new tuple -/
abbrev tupObj (vs : List Value) : Obj := { cls := .type "tuple", data := .seq vs.toArray }
theorem Cl.use {prog : Program} {w : World} {K : Frag} {p : Program} {loose : List Str} {mean : ExcName → Option Value} {mg mb : Str → Option Value} {f : Addr} {T N₀ : List (Addr × Obj)} {D U : Nat} {vs : List Value} {Post : Value → List (Addr × Obj) → Prop}
    {dp un : Nat} {gd : Option (List Code)} {cn : Str} {cs : Scope} {a : Addr} {ccd : Value} {cl : List (Str × Addr)} {outer : List Env} {A₀ : Around} {base h₀ : Heap} {L : Addr} {m : Str → Option Value} {s : Shared} {Q E : Value → Shared → Prop}
    (C : Cl prog w K p loose mean mg mb f T D U vs Post) (B : Below A₀ base outer h₀) (F : Fr h₀ L s.heap m) (X : K.In h₀) (N : News h₀ L s.heap N₀) (hs : ∀ q ∈ T, q ∈ N₀) (Tp : Top p loose mean mg mb h₀) (hk : cs.kind = .function)
    (hd : dp + D < recursionLimit) (hu : un + U < cLine) (ret : ∀ r T' h' tk', Fr h₀ L h' m → News h₀ L h' T' → Post r T' → Q r { s with heap := h', toks := tk' }) :
    wpAny (model prog w) (ktrTop dp un gd cn cs L a ccd cl outer) (call (.ref f) vs) Q E s := C _ _ _ _ _ _ _ _ _ _ _ _ _ _ _ _ _ B F X (fun q hq => N q (hs q hq)) Tp hk hd hu ret
/-- x, its upper part struck -/
theorem land_high (x s : Nat) : x &&& (x / 2 ^ s * 2 ^ s) = x / 2 ^ s * 2 ^ s := by
  apply Nat.eq_of_testBit_eq
  intro i
  rw [Nat.testBit_and, Nat.testBit_mul_two_pow, Nat.testBit_div_two_pow]
  by_cases h : s ≤ i
  · simp [h, Nat.sub_add_cancel h]
  · simp [h]
theorem xor_high (x : Int) (s : Nat) (hx : 0 ≤ x) : Builtin.bitXor x (x / 2 ^ s * 2 ^ s) = x % 2 ^ s := by
  obtain ⟨n, rfl⟩ := Int.eq_ofNat_of_zero_le hx
  rw [bitXor_and]
  have e : ((n : Int) / 2 ^ s * 2 ^ s) = ((n / 2 ^ s * 2 ^ s : Nat) : Int) := by simp
  have h : Builtin.bitAnd (n : Int) ((n / 2 ^ s * 2 ^ s : Nat) : Int) = ((n / 2 ^ s * 2 ^ s : Nat) : Int) := by
    have g : ∀ k : Nat, Builtin.bitAnd (n : Int) (k : Int) = ((n &&& k : Nat) : Int) := fun k => by unfold Builtin.bitAnd; simp
    rw [g, land_high]
  rw [e, h]
  have h2 := Int.emod_add_mul_ediv (n : Int) (2 ^ s)
  rw [← e, Int.mul_comm]
  omega
/-- the table of a def that makes one def: empty, or the def's code stands in it -/
def TabSt (P : Addr) (pos : Pos) (q : Str) (T : List (Addr × Obj)) : Prop :=
  T = [(P, tabObj #[])] ∨ ∃ (c' : Addr) (oc : Obj) (ocv : Array Value) (tq : Tok), T = [(c', oc), (P, tabObj (#[] ++ #[rawInt pos.line, rawInt pos.col, .ref c']))] ∧ oc.data = .fields ocv ∧ ocv[1]? = some (.str q tq)
def Off (A B : List (Addr × Obj)) : Prop := ∀ q ∈ A, ∀ q' ∈ B, @Ne Nat q.1 q'.1
/-- what a call has added lies above what was there -/
def Grown (T led T' : List (Addr × Obj)) : Prop := ∀ q ∈ T', q.1 ∈ T.map (·.1) ∨ ∀ p ∈ led, @LT.lt Nat _ p.1 q.1
theorem mem_swap {A T R : List (Addr × Obj)} {q : Addr × Obj} (h : q ∈ T ++ (A ++ R)) : q ∈ A ++ (T ++ R) := by
  simp only [List.mem_append] at h ⊢
  rcases h with h | h | h
  · exact .inr (.inl h)
  · exact .inl h
  · exact .inr (.inr h)
theorem Off.cons {p : Addr × Obj} {A B : List (Addr × Obj)} (h : ∀ q ∈ B, @Ne Nat p.1 q.1) (ho : Off A B) : Off (p :: A) B := fun q hq => by
  rcases List.mem_cons.mp hq with rfl | hq
  · exact h
  · exact ho q hq
section
variable {M : Model} {A : Around} {E : Value → Shared → Prop} {s : Shared} {h₀ : Heap} {L a c P : Addr} {m mg mb : Str → Option Value} {cn : Str} {cs : Scope} {ccd : Value} {cl : List (Str × Addr)} {T rest : List (Addr × Obj)}
  {p : Program} {loose : List Str} {mean : ExcName → Option Value} {name qual : Str} {params : Arguments} {body : List Stmt} {scope : Scope} {pos : Pos} {clos : List (Str × Addr)}
theorem nestE {Q : Value → Shared → Prop} (F : Fr h₀ L s.heap m) (N : News h₀ L s.heap (T ++ rest)) (hT : TabSt P pos qual T) (hO : Off rest T) (Tp : Top p loose mean mg mb h₀) (C : CodeHd h₀ c P) (hcd : ccd = .ref c)
    (hcl : closureFor scope (envX cn cs L a ccd cl) = pure clos)
    (h : ∀ f c' oc ocv tq ctv doc T' h' tk, T' = [(c', oc), (P, tabObj (#[] ++ #[rawInt pos.line, rawInt pos.col, .ref c']))] → oc.data = .fields ocv → ocv[1]? = some (.str qual tq) → Fr h₀ L h' m →
      News h₀ L h' ((f, fnMade name qual params body scope clos doc ((mg "__name__").getD .none) c' ctv) :: (T' ++ rest)) → Grown T (T ++ rest) T' → (∀ q ∈ T ++ rest, @LT.lt Nat _ q.1 f) → @LT.lt Nat _ c' f → (∀ q ∈ rest, @Ne Nat q.1 c') → Q (.ref f) { s with heap := h', toks := tk }) :
    wpAny M A (makeFunction name qual params (.stmts body) scope (envX cn cs L a ccd cl) [] [] [] pos pos.line) Q E s := by
  rcases hT with rfl | ⟨c', oc, ocv, tq, rfl, hd, hv⟩
  · refine nest_K (news := (P, tabObj #[]) :: rest) F N Tp C hcd (.head fun q hq => hO q hq _ (.head _)) trivial rfl hcl fun f c' oc vs t ctv doc h' tk F' N' hd hv l1 l2 => ?_
    refine h f c' oc vs t ctv doc _ h' tk rfl hd hv F' N' ?_ (fun q hq => Nat.lt_trans (l1 q hq) l2) l2 (fun q hq => Nat.ne_of_lt (l1 q (List.mem_cons_of_mem _ hq)))
    intro q hq
    rcases List.mem_cons.mp hq with rfl | hq
    · exact .inr l1
    · obtain rfl := List.mem_singleton.mp hq
      exact .inl (.head _)
  · refine nestHit_K (P := P) (ps := #[] ++ #[rawInt pos.line, rawInt pos.col, .ref c']) (c' := c') F N Tp C hcd (.tail _ (.head _)) (by simp [TriplesOk, rawInt]) (by simp [codeAmong, rawInt]) hcl fun f ctv doc h' tk F' N' l1 => ?_
    refine h f c' oc ocv tq ctv doc _ h' tk rfl hd hv F' N' ?_ l1 (l1 _ (.head _)) fun q hq => hO q hq _ (.head _)
    exact fun q hq => .inl (List.mem_map_of_mem hq)
end
def bodyOf : Stmt → List Stmt | .FunctionDef _ _ b _ _ _ _ _ _ _ => b | _ => []
def parsOf : Stmt → Arguments | .FunctionDef _ a _ _ _ _ _ _ _ _ => a | _ => default
def scopeOf : Stmt → Scope | .FunctionDef _ _ _ _ _ _ s _ _ _ => s | _ => default
def posOf : Stmt → Pos | .FunctionDef _ _ _ _ _ _ _ _ _ p => p | _ => default
def isDef (x : Str) : Stmt → Bool | .FunctionDef n _ _ _ _ _ _ _ _ _ => n == x | _ => false
def firstDef (x : Str) (l : List Stmt) : Stmt := (l.find? (isDef x)).getD (.Pass default)
def innerS (f : String) (m : Program) : Stmt := firstDef (Str.ofString "inner") (bodyOf (firstDef (Str.ofString f) m.main.body))
/-- digits, the least first -/
def val (B : Int) : List Int → Int
  | [] => 0
  | d :: r => d + B * val B r
theorem val_append (B : Int) : ∀ (a b : List Int), val B (a ++ b) = val B a + B ^ a.length * val B b
  | [], b => by simp [val]
  | d :: r, b => by
    simp only [List.cons_append, val, val_append B r b, List.length_cons, Int.mul_add, Int.pow_succ]
    rw [Int.mul_comm (B ^ r.length) B, Int.mul_assoc]
    omega
theorem val_bound {n : Nat} : ∀ {ds : List Int}, (∀ d ∈ ds, 0 ≤ d ∧ d < 2 ^ n) → 0 ≤ val (2 ^ n) ds ∧ val (2 ^ n) ds < 2 ^ (n * ds.length)
  | [], _ => ⟨Int.le_refl _, by simp [val]⟩
  | d :: r, h => by
    obtain ⟨h1, h2⟩ := val_bound (ds := r) fun x hx => h x (.tail _ hx)
    obtain ⟨h3, h4⟩ := h d (.head _)
    have pp : (0 : Int) < 2 ^ n := Int.pow_pos (by decide)
    have e : (2 : Int) ^ (n * (r.length + 1)) = 2 ^ n * 2 ^ (n * r.length) := by rw [Nat.mul_succ, Int.pow_add, Int.mul_comm]
    have h5 := Int.mul_nonneg (Int.le_of_lt pp) h1
    have h6 : (2 : Int) ^ n * (val (2 ^ n) r + 1) ≤ 2 ^ n * 2 ^ (n * r.length) := Int.mul_le_mul_of_nonneg_left (by omega) (Int.le_of_lt pp)
    rw [Int.mul_add, Int.mul_one] at h6
    simp only [val, List.length_cons]
    rw [e]
    omega
theorem val_bits {n : Nat} {ds : List Int} (h : ∀ d ∈ ds, 0 ≤ d ∧ d < 2 ^ n) : Builtin.Int.intBits (val (2 ^ n) ds) ≤ n * ds.length := by
  obtain ⟨h1, h2⟩ := val_bound h
  refine intBits_le_iff.mpr ?_
  have h3 : ((val (2 ^ n) ds).natAbs : Int) < ((2 ^ (n * ds.length) : Nat) : Int) := by
    rw [Int.natCast_pow]
    have : ((val (2 ^ n) ds).natAbs : Int) = val (2 ^ n) ds := by omega
    rw [this]
    exact h2
  exact_mod_cast h3
theorem seg_len (ns ds : List Int) (a b : Nat) (hb : b = a + ds.length) (hl : b ≤ ns.length) : (ns.take a ++ ds ++ ns.drop b).length = ns.length := by
  simp only [List.length_append, List.length_take, List.length_drop]; omega
theorem seg_two (ns ds1 ds2 : List Int) (a b c : Nat) (hb : b = a + ds1.length) (hc : c = b + ds2.length) (hl : c ≤ ns.length) :
    (ns.take a ++ ds1 ++ ns.drop b).take b ++ ds2 ++ (ns.take a ++ ds1 ++ ns.drop b).drop c = ns.take a ++ (ds1 ++ ds2) ++ ns.drop c := by
  have h1 : (ns.take a ++ ds1).length = b := by simp only [List.length_append, List.length_take]; omega
  have h2 : (ns.take a ++ ds1 ++ ns.drop b).take b = ns.take a ++ ds1 := by
    rw [List.take_append_of_le_length (Nat.le_of_eq h1.symm), List.take_of_length_le (Nat.le_of_eq h1)]
  have h3 : (ns.take a ++ ds1 ++ ns.drop b).drop c = ns.drop c := by
    rw [List.drop_append, List.drop_of_length_le (by omega), h1, List.drop_drop, List.nil_append]
    congr 1
    omega
  rw [h2, h3]
  simp only [List.append_assoc]
theorem bits_small {a : Int} (h0 : 0 ≤ a) (h1 : a < 2 ^ 30) : Builtin.Int.intBits a ≤ 30 := intBits_le_iff.mpr (by omega)
theorem bits_mid {a : Int} (h0 : 0 ≤ a) (h1 : a < 2 ^ 60) : Builtin.Int.intBits a ≤ 60 := intBits_le_iff.mpr (by omega)
theorem allLt_all {d : Addr} : ∀ {l : List (Addr × Obj)}, AllLt d l → ∀ p ∈ l, @LT.lt Nat _ p.1 d
  | [], _, _, h => nomatch h
  | _ :: _, x, p, h => by
    rcases List.mem_cons.mp h with rfl | h
    · exact x.1
    · exact allLt_all x.2 p h
/-- a frame's map, its one letter said, the other stored names as they are -/
theorem kept1 {stored : List Str} {x : Str} {v : Option Value} {m₀ : Str → Option Value} (m₁ : Str → Option Value) (hx : m₁ x = v) (h : ∀ z, z ≠ x → stored.contains z = false → m₁ z = m₀ z) :
    m₁ = fun y => if y = x then v else if stored.contains y = true then m₁ y else m₀ y := by
  funext y
  by_cases h1 : y = x
  · simp only [h1, if_true, hx]
  · simp only [if_neg h1]
    cases h2 : stored.contains y with
    | true => simp
    | false => simpa using h y h1 h2
section
variable {prog : Program} {w : World} {A : Around} {E : Value → Shared → Prop} {s : Shared} {env : Env} {h₀ : Heap} {x : Str} {body : List Stmt} {Q : Flow → Shared → Prop}
/-- a for over a reversed list, by what holds ahead of each turn -/
theorem rev_loop {I : Addr} {lp : Addr × Obj} (J : List Value → (Str → Option Value) → List (Addr × Obj) → Prop)
    (step : ∀ v rs m1 nx it h tk, it.cls = .type "list_reverseiterator" → J (v :: rs) m1 nx → Fr h₀ env.locals h (fun y => if y = x then some v else m1 y) → News h₀ env.locals h ((I, it) :: nx) →
      wpAny (model prog w) A (execs body env) (UnrPost h₀ env.locals { s with heap := h, toks := tk } I it (fun m' n' => lp ∈ n' ∧ J rs m' n') Q) E { s with heap := h, toks := tk })
    (done : ∀ m1 nx h tk, J [] m1 nx → Fr h₀ env.locals h m1 → News h₀ env.locals h nx → Q .next { s with heap := h, toks := tk }) :
    ∀ vs m nx, J vs m nx → RevRest prog w A E h₀ env x body Q s I lp vs m nx
  | [], m, nx, hj => fun h tk F N => done m nx h tk hj F N
  | v :: r, m, nx, hj => fun it h tk hit F N => by
    refine wpAny_mono (step v r m nx it h tk hit hj F N) (fun f s' hf => ?_) fun _ _ e => e
    cases f with
    | ret v => exact hf
    | brk => exact hf
    | next => obtain ⟨h', tk', m', n', e, F', N', ho, hl, hJ⟩ := hf; exact ⟨h', tk', m', n', e, F', N', ho, hl, rev_loop J step done r m' n' hJ⟩
    | cont => obtain ⟨h', tk', m', n', e, F', N', ho, hl, hJ⟩ := hf; exact ⟨h', tk', m', n', e, F', N', ho, hl, rev_loop J step done r m' n' hJ⟩
end
end Mine
end

namespace Mine
theorem rsHdN : True ∧ True := by
  w_top off
  k_with_none
  first | (walk1; fail) | exact ⟨trivial, trivial⟩
end Mine
section
open PySem PySem.W PySem.Calls PyProof.Rows
set_option Elab.async false
set_option maxRecDepth 100000
namespace Mine
theorem tidy_caller {p : Pos} : TidyIn (((⟨.builtin "claim.caller" {}, none, none, [], none⟩ : PySem.Ctx).code, p) :: (⟨.builtin "claim.caller" {}, none, none, [], none⟩ : PySem.Ctx).below) :=
  .cons (by show (!heldIds.contains "claim.caller") = true; decide +kernel) fun _ h => nomatch h
/-- a call's thread, its tree proved of tidy stacks -/
theorem thread_N {prog : Program} {w : World} {t : Sem Fin} {s : Shared} {R : Result → Shared → Prop} (hz : s.asleep)
    (h : wpN (model prog w) callerA t (fun fin s' => ∃ f, fin = .done f ∧ R (.ok f) s' ∧ AllBare s'.gens) (fun _ _ => False) s) :
    ∃ n f s' s'', runN (denote table) prog w n s ⟨t, .builtin "claim.caller" {}, default, []⟩ = .halted (.done f) s' ∧
      schedN (denote table) prog w n (.single s ⟨t, .builtin "claim.caller" {}, default, []⟩) = .halted (.done f) s' ∧ s'.forget = s''.forget ∧ R (.ok f) s'' := by
  have h₁ := h ⟨.builtin "claim.caller" {}, none, none, [], none⟩ default caller_in tidy_caller
  have h₂ := Sem.wp_mono _ _ _ (post' := Sem.finPost (model prog w) ⟨.builtin "claim.caller" {}, none, none, [], none⟩ fun r s' => (∃ f, r = .ok f ∧ R (.ok f) s') ∧ leftWithCleanup s'.gens = false)
    (exc' := fun _ _ s' => (∃ f, (Except.error (α := Flow) (default : Value)) = .ok f ∧ R (.ok f) s') ∧ leftWithCleanup s'.gens = false) (fun fin p' s' h' => by
    obtain ⟨f, rfl, hr, hb⟩ := h'
    exact ⟨⟨f, rfl, hr⟩, leftWithCleanup_false_of_bare hb⟩) (fun _ _ _ h' => h'.elim) default s h₁
  obtain ⟨n, r, s₁, s₂, hs, hn, hf, f, rfl, hR⟩ := wp_halts_full (M := model prog w) (R := fun r s' => ∃ f, r = .ok f ∧ R (.ok f) s') hz
    (Sem.wp_mono _ _ _ (fun _ _ _ x => x) (fun e _ s' x => by obtain ⟨⟨f, e', _⟩, _⟩ := x; cases e') default s h₂)
  exact ⟨n, f, s₂, s₁, hn, hs, hf, hR⟩
theorem callFrom_N {c : ClaimW} {tree : List Value → Sem Fin} {w : World} {s : Shared} {free : Addr → Prop} {gens : Prop} {kept : Heap → Prop} (hz : s.asleep) (hg : s.gens = #[])
    (hspec : ∀ args, c.pre args = true → WData.layableAll args = true → ∀ ord : List DictEntry → List DictEntry, (∀ l, (ord l).Perm l) →
      ∃ vs s₁, layAllW c.records (classAt s.heap) w.params ord args s = some (vs, s₁) ∧
        wpN (model c.prog w) callerA (tree vs) (fun fin s' => ∃ f, fin = .done f ∧ (c.Ends s args vs s₁ (.ok f) s' ∧ s'.os = s.os ∧ kept s'.heap) ∧ AllBare s'.gens) (fun _ _ => False) s₁) :
    c.CallFrom (fun vs => ⟨tree vs, .builtin "claim.caller" {}, default, []⟩) w free gens kept s := by
  intro args hpre hlay ord hord
  obtain ⟨vs, s₁, hlaid, hcode⟩ := hspec args hpre hlay ord hord
  have hal := layAllW_rest _ _ _ hlaid
  obtain ⟨k, f, s', s'', hrun, hsched, hfo, hends, hos, hkp⟩ := thread_N (prog := c.prog) (w := w) (R := fun r s' => c.Ends s args vs s₁ r s' ∧ s'.os = s.os ∧ kept s'.heap) (Shared.asleep_of_life hal.2.2.2 hz) hcode
  obtain ⟨eh, _, _, eo, _⟩ := Shared.forget_eq hfo
  have hends := hends.congr eh
  have hkp : kept s'.heap := by rw [eh]; exact hkp
  have hos' : s'.os = s.os := eo.trans hos
  refine ⟨vs, s₁, hlaid, k, _, s', hsched, ?_, (fun _ i x hx => by rw [hg] at hx; simp at hx), hkp, ?_, Shared.rest_eq hos'⟩
  · rcases hends with ⟨v, e, d1, d2, d3, d4, d5⟩ | ⟨e, ob, cls, e', _⟩
    · cases e
      exact .inl ⟨v, rfl, d1, d2, d3, fun b o y _ => d4 b o y, d5⟩
    · cases e'
  · rw [(runN_life _ _ _ hrun).trans hal.2.2.2]

abbrev WalkON (q : Program) (loose : List Str) (XP : (Str → Option Value) → Heap → Prop) (YP : World → Heap → Prop) (r : RowW) (d : DefRec) (kwd : List (Str × Expr)) : Prop :=
  ∀ (w : World) (s₀ s₁ : Shared) (mg mb : Str → Option Value), Ground q loose r.records XP w s₀ mg mb s₁.heap → YP w s₁.heap → ∀ (a : Addr) (o : Obj) (pm cd doc dV kV : Value), s₁.heap.get? a = some o →
    o.data = .func { docDef d.name d.params d.body d.scope pm cd doc with defaults := dV, kwdefaults := kV } → s₁.heap.CodeRec cd d.name → Dflts mg s₁.heap d.params kwd dV kV → mg d.name = some (.ref a) → s₁.gens = #[] →
    ∀ (args : List WData) (vals : List Value) (as : List Addr), r.claim.pre args = true → WData.layableAll args = true → ReadsAllW r.records (classAt s₀.heap) s₁.heap vals args as → WellAll w.params s₁.heap vals args → (∀ a ∈ as, (a == sysModules) = false) →
      wpN (model r.prog w) callerA (PySem.call (.ref a) vals) (fun v s' => GoodWG r.claim (classAt s₀.heap) (ExcName.means s₀.heap) args s₁ (.ok (.ret v)) s') (fun _ _ => False) s₁

theorem PySem.W.holds_open {r : OpenRow} {q : Program} {loose : List Str} {Xt : Shared → Bool} {XP : (Str → Option Value) → Heap → Prop} {α : Type} {Yf : Shared → α} {Ya : World → α} {YP : World → Heap → Prop} {d : DefRec} {kwd : List (Str × Expr)} {N : Nat}
    (left : LeftO r.prog q loose Xt Yf Ya N) (hY : ∀ w s, Yf s = Ya w → YP w s.heap) (hYk : ∀ w h h', YP w h → (∀ b o, h.get? b = some o → h'.get? b = some o) → YP w h')
    (hX : ∀ s, Xt s = true → XP (s.heap.nsMap mainGlobals) s.heap) (hXk : ∀ mg h h', XP mg h → (∀ b o, h.get? b = some o → h'.get? b = some o) → XP mg h')
    (hdef : defOf q r.name = some (d, kwd)) (hp : r.prog.theDef r.name = some (d.params, d.body, d.scope)) (hk : kwWritten? d.params.kwonlyargs d.params.kw_defaults = some kwd) (hRf : ∀ s, Xt s = true → RecFacts r.records s.heap) (hwr : (!r.writes || r.records.isEmpty) = true)
    (k1 : r.wellSaid = true) (ok : (chainsOk q && opensWell r.prog && (frees r.toRowW && r.within.isEmpty)) = true) (hb : r.prog.bare) (hw : r.toRowW.promised)
    (call : WalkON q loose XP YP r.toRowW d kwd) : r.Holds := by
  simp only [Bool.and_eq_true] at ok
  obtain ⟨⟨hch, hop⟩, k5, k6⟩ := ok
  obtain ⟨hsame, hu, ha, hap, hm⟩ := frees_parts k5
  have hwi : r.toRowW.claim.within = [] := List.isEmpty_iff.mp k6
  have hi := ident_freeW hu ha hap
  refine ⟨k1, hw, ⟨hb, hop, by show r.makers.map _ = []; rw [hm]; rfl⟩, hw.witness, fun w => ⟨(left.behind hX hch w).1, fun s' hs' => ?_⟩⟩
  obtain ⟨s₀, hf, hg0, s, hT, hz, hgz, hg, G₁, y⟩ := (left.behind (XP := fun mg h => XP mg h ∧ RecFacts r.records h) (fun s hs => ⟨hX s hs, hRf s hs⟩) hch w).2 s' hs'
  have G₀ : Ground q loose [] XP w s (s.heap.nsMap mainGlobals) (s.heap.nsMap builtinsNs) s.heap := ⟨G₁.T, G₁.B, G₁.D, G₁.TE, G₁.TD, G₁.W, G₁.X.1, G₁.cls, G₁.has, G₁.apart, G₁.once, G₁.K⟩
  have RF := G₁.X.2
  have hgens : s.gens = #[] := Array.eq_empty_of_size_eq_zero (beq_iff_eq.mp hgz)
  have G : Ground q loose r.records XP w s _ _ s.heap := RF.ground G₀
  refine ⟨s₀, hf, hg0, s, hT, fun n hn => ?_, RF.1, RF.2.1, ?_⟩
  · obtain rfl : n = r.name := by split at hn <;> simp_all
    exact pinned_of_view hg G₀ hdef hp hk
  refine callFrom_N (c := r.toRowW.claim) (tree := fun vs => do match ← nsGet mainNs r.name with
      | some f => do ret (← PySem.call f vs)
      | none => unsupported "claim.caller:no-such-global") hz hgens fun args hpre hlay ord hord => ?_
  obtain ⟨⟨vs, s₁⟩, hlaid⟩ := Option.isSome_iff_exists.mp (layAllW_isSome (P := w.params) (ord := ord) G.has args r.args s (pre_splitW hpre).1)
  have keeps := layAllW_keeps _ _ _ hlaid
  have hal := layAllW_rest _ _ _ hlaid
  obtain ⟨as, hrd, hin, hold⟩ := reads_layAllW hord _ _ _ hlaid hlay s₁.heap (fun _ _ e => e)
  have L : Laid r.records w s s₁ args vs as := ⟨⟨ord, hord, hlaid⟩, hrd, hin, hold, keeps, hal.1.trans hgens, hal.2.2.1⟩
  have G₂ := G.keeps hXk keeps
  obtain ⟨a, o, pm, cd, doc, dV, kV, h1, h2, h3, h4, h5⟩ := G₂.fn hdef
  have hn := defOf_name hdef
  refine ⟨vs, s₁, hlaid, wpN_any_bind (wpAny_nsGet G₂.T.g ?_)⟩
  rw [h1]
  refine wpN_bind (wpN_mono (call w s s₁ _ _ G₂ (hYk _ _ _ (hY w s y) keeps) a o pm cd doc dV kV h2 h3 h4 h5 (hn ▸ h1) L.gens args vs as hpre hlay L.reads L.well (L.low G.low)) (fun v s' g => wpN_pure ⟨_, rfl, ?_⟩) fun _ _ x => x)
  have z := g.laid (c := r.toRowW.claim) hsame hwi hi L
  exact ⟨⟨z.1, z.2.1, fun p => ⟨namesKept_of hT hg r.keeps keeps g.2.1.old, noTable hwr p⟩⟩, z.2.2⟩
end Mine
end

namespace Mine
theorem rsTopN02 : True ∧ True := by
  w_top off
  k_with_none
  first | (walk1; fail) | exact ⟨trivial, trivial⟩
end Mine
section
open PySem PySem.W PyProof.Rows
set_option Elab.async false
set_option maxRecDepth 100000
set_option maxHeartbeats 8000000
namespace Mine
open_top hd for PySem.Challenge.rw_gh0004_02
end Mine
end

namespace Mine
theorem rsBsL : True ∧ True := by
  w_top off
  k_with_none
  first | (walk1; fail) | exact ⟨trivial, trivial⟩
end Mine
section
open PySem PySem.W PySem.Spec PySem.Calls PyProof.Rows
namespace Mine
def revP (b : Array UInt8) : Nat → Array UInt8
  | 0 => Array.replicate b.size 0
  | i + 1 => (revP b i).setIfInBounds (b.size - 1 - i) (b.getD i 0)
theorem revP_size (b : Array UInt8) : ∀ i, (revP b i).size = b.size
  | 0 => Array.size_replicate
  | i + 1 => by rw [revP, Array.size_setIfInBounds, revP_size]
theorem revP_get (b : Array UInt8) : ∀ i, i ≤ b.size → ∀ j (hj : j < b.size), (revP b i)[j]? = some (if b.size - 1 - j < i then b[b.size - 1 - j]'(by omega) else 0)
  | 0, _, j, hj => by simp [revP, hj]
  | i + 1, hi, j, hj => by
    have ih := revP_get b i (by omega) j hj
    simp only [revP]
    rw [Array.getElem?_setIfInBounds]
    by_cases h : b.size - 1 - i = j
    · have e : b.size - 1 - j = i := by omega
      have hs := revP_size b i
      rw [if_pos h, if_pos (by omega), if_pos (by omega)]
      simp [Array.getD, e, show i < b.size by omega]
    · rw [if_neg h, ih]
      by_cases h2 : b.size - 1 - j < i
      · rw [if_pos h2, if_pos (by omega)]
      · rw [if_neg h2, if_neg (by omega)]
theorem revP_all (b : Array UInt8) : revP b b.size = b.reverse := by
  apply Array.ext_getElem?
  intro j
  by_cases hj : j < b.size
  · rw [revP_get b b.size (Nat.le_refl _) j hj, if_pos (by omega), Array.getElem?_reverse hj]
    simp [Array.getElem?_eq_getElem (show b.size - 1 - j < b.size by omega)]
  · rw [Array.getElem?_eq_none (by rw [revP_size]; omega), Array.getElem?_eq_none (by rw [Array.size_reverse]; omega)]
theorem size_step {n : Nat} (h0 : 0 < n) : Builtin.Range.rangeSize 0 n n = 1 := by
  unfold Builtin.Range.rangeSize
  rw [if_pos (by omega), if_pos (by omega)]
  rw [Int.sub_zero, Int.ediv_eq_zero_of_lt (by omega) (by omega)]
  rfl
theorem small_step {n : Nat} (h0 : 0 < n) (h1 : n ≤ 1000) : Builtin.Range.small 0 n n = true := by
  unfold Builtin.Range.small
  rw [size_step h0]
  simp only [Builtin.Range.rangeFitsLong, Bool.and_eq_true, Bool.or_eq_true, decide_eq_true_eq, beq_iff_eq]
  rw [if_pos (by omega)]
  simp only [Bool.and_eq_true, decide_eq_true_eq]
  omega
end Mine
end

namespace Mine
theorem rsPl2 : True ∧ True := by
  w_top off
  k_with_none
  first | (walk1; fail) | exact ⟨trivial, trivial⟩
end Mine
section
set_option Elab.async false
set_option maxRecDepth 100000
namespace Mine
def thenN (x y : List Nat) : List Nat := x.map (y.getD · 0)
def turnsGo (ord first : List Nat) : Nat → List Nat → Nat → Nat
  | 0, _, t => t
  | f + 1, here, t => if here != first && decide (t < 20) then turnsGo ord first f (thenN here ord) (t + 1) else t
def turnsN (ord : List Nat) : Nat := turnsGo ord (List.range ord.length) 20 ord 1
/-- one ring from a place on -/
def ringGo (ord : List Nat) : Nat → List Nat → Nat → Nat → List Nat × Nat
  | 0, seen, _, long => (seen, long)
  | f + 1, seen, here, long => if !(seen.contains here) && decide (long ≤ ord.length) then ringGo ord f (seen ++ [here]) (ord.getD here 0) (long + 1) else (seen, long)
def lengthsGo (ord : List Nat) : List Nat → List Nat → List Nat → List Nat
  | [], _, found => found
  | p :: r, seen, found => lengthsGo ord r (ringGo ord (ord.length + 2) seen p 0).1 (found ++ if 0 < (ringGo ord (ord.length + 2) seen p 0).2 then [(ringGo ord (ord.length + 2) seen p 0).2] else [])
def lengthsN (ord : List Nat) : List Nat := lengthsGo ord (List.range ord.length) [] []
/-- what the first loop asks -/
def dueOk : List Nat → Nat → Nat → Bool
  | [], due, tgt => due == tgt
  | l :: r, due, tgt => Nat.ble 1 due && Nat.ble 1 l && Nat.ble (due * l) 100000 && ((due * l) % Nat.gcd due l == 0) && dueOk r (due * l / Nat.gcd due l) tgt
def itN (d : List Nat) : Nat → List Nat → List Nat
  | 0, x => x
  | k + 1, x => thenN (itN d k x) d
def sumN : List Nat → Nat
  | [] => 0
  | a :: r => a + sumN r
def insN (a : Nat) : List Nat → List Nat
  | [] => [a]
  | b :: r => if Nat.ble a b then a :: b :: r else b :: insN a r
def sortN : List Nat → List Nat
  | [] => []
  | a :: r => insN a (sortN r)
/-- where a number first stands -/
def posN (k : Nat) : List Nat → Nat
  | [] => 0
  | a :: r => if a == k then 0 else posN k r + 1
def idxN (d : List Nat) : List Nat := (List.range d.length).map (posN · d)
def turnedN (d : List Nat) : List Nat := d.reverse.map fun k => d.length - 1 - k
def flipN (d : List Nat) : List Nat := (List.range d.length).reverse
def capN (n : Nat) : Nat := [1, 2, 3, 4, 6, 6, 12].getD (n - 1) 0
/-- all that the law asks of an order -/
def lawN (d : List Nat) : Bool :=
  d.all (Nat.blt · d.length) && ((idxN d).all (Nat.blt · d.length) && (dueOk (lengthsN d) 1 (turnsN d) && (sumN (lengthsN d) == d.length && (Nat.ble (turnsN d) (capN d.length) && (Nat.ble 1 (turnsN d) &&
  (itN d (turnsN d - 1) (List.range d.length) == idxN d && (turnsN (idxN d) == turnsN d && (turnedN d == thenN (thenN (flipN d) d) (flipN d) && (turnsN (turnedN d) == turnsN d && sortN (lengthsN (turnedN d)) == sortN (lengthsN d))))))))))
def chk : Nat → List Nat → List Nat → Bool
  | 0, _, acc => lawN acc
  | k + 1, left, acc => (List.range left.length).all fun i => chk k (left.eraseIdx i) (acc ++ [left.getD i 0])
theorem chk_step {k : Nat} {left acc : List Nat} (h : chk (k + 1) left acc = true) {i : Nat} (hi : i < left.length) : chk k (left.eraseIdx i) (acc ++ [left.getD i 0]) = true :=
  List.all_eq_true.mp h i (List.mem_range.mpr hi)
structure LawIs (d : List Nat) : Prop where
  lt : ∀ i ∈ d, i < d.length
  back : ∀ i ∈ idxN d, i < d.length
  due : dueOk (lengthsN d) 1 (turnsN d) = true
  sum : sumN (lengthsN d) = d.length
  cap : turnsN d ≤ capN d.length
  one : 1 ≤ turnsN d
  it : itN d (turnsN d - 1) (List.range d.length) = idxN d
  tback : turnsN (idxN d) = turnsN d
  turned : turnedN d = thenN (thenN (flipN d) d) (flipN d)
  tturned : turnsN (turnedN d) = turnsN d
  sort : sortN (lengthsN (turnedN d)) = sortN (lengthsN d)
theorem law_is {d : List Nat} (h : lawN d = true) : LawIs d := by
  simp only [lawN, Bool.and_eq_true, beq_iff_eq, Nat.ble_eq] at h
  obtain ⟨h1, h2, h3, h4, h5, h6, h7, h8, h9, h10, h11⟩ := h
  have f : ∀ l : List Nat, l.all (Nat.blt · d.length) = true → ∀ i ∈ l, i < d.length := fun l hl i hi => by
    have := List.all_eq_true.mp hl i hi
    simpa using this
  exact ⟨f _ h1, f _ h2, h3, h4, h5, h6, h7, h8, h9, h10, h11⟩
theorem ins_perm (a : Nat) : ∀ l : List Nat, (insN a l).Perm (a :: l)
  | [] => .refl _
  | b :: r => by
    rw [insN]
    split
    · exact .refl _
    · exact ((ins_perm a r).cons b).trans (List.Perm.swap a b r)
theorem sort_perm : ∀ l : List Nat, (sortN l).Perm l
  | [] => .refl _
  | a :: r => (ins_perm a _).trans ((sort_perm r).cons a)
theorem perm_of_sort {a b : List Nat} (h : sortN a = sortN b) : a.Perm b := (sort_perm a).symm.trans (h ▸ sort_perm b)
end Mine
end

namespace Mine
theorem rsPlF2 : True ∧ True := by
  w_top off
  k_with_none
  first | (walk1; fail) | exact ⟨trivial, trivial⟩
end Mine
section
set_option Elab.async false
set_option maxRecDepth 100000
namespace Mine
noncomputable section
/-! the same by plain recursors, for the kernel -/
def nthF (l : List Nat) : Nat → Nat := List.rec (motive := fun _ => Nat → Nat) (fun _ => 0) (fun a _ ih i => Nat.rec (motive := fun _ => Nat) a (fun j _ => ih j) i) l
def mapF (y x : List Nat) : List Nat := List.rec (motive := fun _ => List Nat) [] (fun a _ ih => nthF y a :: ih) x
def eqF (x : List Nat) : List Nat → Bool := List.rec (motive := fun _ => List Nat → Bool) (fun y => List.rec (motive := fun _ => Bool) true (fun _ _ _ => false) y) (fun a _ ih y => List.rec (motive := fun _ => Bool) false (fun b s _ => Bool.rec (motive := fun _ => Bool) false (ih s) (Nat.beq a b)) y) x
def turnsF (ord first : List Nat) (f : Nat) : List Nat → Nat → Nat := Nat.rec (motive := fun _ => List Nat → Nat → Nat) (fun _ t => t) (fun _ ih here t => Bool.rec (motive := fun _ => Nat) (Bool.rec (motive := fun _ => Nat) t (ih (mapF ord here) (Nat.succ t)) (Nat.ble (Nat.succ t) 20)) t (eqF here first)) f
def snocF (l : List Nat) (a : Nat) : List Nat := List.rec (motive := fun _ => List Nat) [a] (fun b _ ih => b :: ih) l
def memF (k m : Nat) : Bool := Nat.beq (Nat.land (Nat.shiftRight m k) 1) 1
def ringF (ord : List Nat) (n f : Nat) : Nat → Nat → Nat → (Nat → Nat → Bool) → Bool := Nat.rec (motive := fun _ => Nat → Nat → Nat → (Nat → Nat → Bool) → Bool) (fun seen _ long k => k seen long)
  (fun _ ih seen here long k => Bool.rec (motive := fun _ => Bool) (Bool.rec (motive := fun _ => Bool) (k seen long) (ih (Nat.lor seen (Nat.shiftLeft 1 here)) (nthF ord here) (Nat.succ long) k) (Nat.ble long n)) (k seen long) (memF here seen)) f
def lengthsF (ord : List Nat) (n : Nat) (places : List Nat) : Nat → List Nat → (List Nat → Bool) → Bool := List.rec (motive := fun _ => Nat → List Nat → (List Nat → Bool) → Bool) (fun _ found k => k found)
  (fun p _ ih seen found k => ringF ord n (n + 2) seen p 0 fun seen2 long => Nat.rec (motive := fun _ => Bool) (ih seen2 found k) (fun _ _ => ih seen2 (snocF found long) k) long) places
def dueF (l : List Nat) : Nat → Nat → Bool := List.rec (motive := fun _ => Nat → Nat → Bool) (fun due tgt => Nat.beq due tgt)
  (fun l _ ih due tgt => and (Nat.ble 1 due) (and (Nat.ble 1 l) (and (Nat.ble (Nat.mul due l) 100000) (and (Nat.beq (Nat.mod (Nat.mul due l) (Nat.gcd due l)) 0) (ih (Nat.div (Nat.mul due l) (Nat.gcd due l)) tgt))))) l
def sumF (l : List Nat) : Nat := List.rec (motive := fun _ => Nat) 0 (fun a _ ih => Nat.add a ih) l
def insF (a : Nat) (l : List Nat) : List Nat := List.rec (motive := fun _ => List Nat) [a] (fun b r ih => Bool.rec (motive := fun _ => List Nat) (b :: ih) (a :: b :: r) (Nat.ble a b)) l
def sortF (l : List Nat) : List Nat := List.rec (motive := fun _ => List Nat) [] (fun a _ ih => insF a ih) l
def posF (k : Nat) (l : List Nat) : Nat := List.rec (motive := fun _ => Nat) 0 (fun a _ ih => Bool.rec (motive := fun _ => Nat) (Nat.succ ih) 0 (Nat.beq a k)) l
def idxF (d ids : List Nat) : List Nat := List.rec (motive := fun _ => List Nat) [] (fun p _ ih => posF p d :: ih) ids
def revF (l : List Nat) : List Nat → List Nat := List.rec (motive := fun _ => List Nat → List Nat) (fun acc => acc) (fun a _ ih acc => ih (a :: acc)) l
def subF (n : Nat) (l : List Nat) : List Nat := List.rec (motive := fun _ => List Nat) [] (fun a _ ih => Nat.sub (Nat.sub n 1) a :: ih) l
def itF (d : List Nat) (k : Nat) (x : List Nat) : List Nat := Nat.rec (motive := fun _ => List Nat) x (fun _ ih => mapF d ih) k
def allF (n : Nat) (l : List Nat) : Bool := List.rec (motive := fun _ => Bool) true (fun a _ ih => and (Nat.ble (Nat.succ a) n) ih) l
def allTo (P : Nat → Bool) (n : Nat) : Bool := Nat.rec (motive := fun _ => Bool) true (fun k ih => and ih (P k)) n
def eraF (l : List Nat) : Nat → List Nat := List.rec (motive := fun _ => Nat → List Nat) (fun _ => []) (fun a r ih i => Nat.rec (motive := fun _ => List Nat) r (fun j _ => a :: ih j) i) l
def endF (n : Nat) (ids fl d b u l l2 : List Nat) (t : Nat) : Bool :=
  and (allF n d) (and (allF n b) (and (dueF l 1 t) (and (Nat.beq (sumF l) n) (and (Nat.ble t (nthF [1, 2, 3, 4, 6, 6, 12] (Nat.sub n 1))) (and (Nat.ble 1 t)
    (and (eqF (itF d (Nat.sub t 1) ids) b) (and (Nat.beq (turnsF b ids 20 b 1) t) (and (eqF u (mapF fl (mapF d fl))) (and (Nat.beq (turnsF u ids 20 u 1) t) (eqF (sortF l2) (sortF l)))))))))))
def lawF (n : Nat) (ids fl d : List Nat) : Bool :=
  lengthsF d n ids 0 [] fun l => lengthsF (subF n (revF d [])) n ids 0 [] fun l2 => endF n ids fl d (idxF d ids) (subF n (revF d [])) l l2 (turnsF d ids 20 d 1)
def chkF (n : Nat) (ids fl : List Nat) (k : Nat) : List Nat → List Nat → Bool := Nat.rec (motive := fun _ => List Nat → List Nat → Bool) (fun _ acc => lawF n ids fl acc) (fun k ih left acc => allTo (fun i => ih (eraF left i) (snocF acc (nthF left i))) (Nat.succ k)) k
end
theorem beq_f (a b : Nat) : Nat.beq a b = (a == b) := by
  rw [Bool.eq_iff_iff, Nat.beq_eq]
  simp
theorem all_cong {f g : Nat → Bool} : ∀ {l : List Nat}, (∀ i ∈ l, f i = g i) → l.all f = l.all g
  | [], _ => rfl
  | a :: r, h => by
    rw [List.all_cons, List.all_cons, h a (.head _), all_cong fun i hi => h i (.tail _ hi)]
theorem nth_f : ∀ (l : List Nat) (i : Nat), nthF l i = l.getD i 0
  | [], _ => rfl
  | _ :: _, 0 => rfl
  | _ :: r, i + 1 => (nth_f r i).trans (by simp)
theorem map_f (y : List Nat) : ∀ x : List Nat, mapF y x = thenN x y
  | [] => rfl
  | a :: r => by
    show nthF y a :: mapF y r = _
    rw [nth_f, map_f y r]
    rfl
theorem eq_f : ∀ x y : List Nat, eqF x y = (x == y)
  | [], [] => rfl
  | [], _ :: _ => rfl
  | _ :: _, [] => rfl
  | a :: r, b :: s => by
    show Bool.rec (motive := fun _ => Bool) false (eqF r s) (Nat.beq a b) = _
    rw [eq_f r s, beq_f, List.cons_beq_cons]
    cases (a == b) <;> rfl
theorem turns_f (ord first : List Nat) : ∀ (f : Nat) (here : List Nat) (t : Nat), turnsF ord first f here t = turnsGo ord first f here t
  | 0, _, _ => rfl
  | f + 1, here, t => by
    show Bool.rec (motive := fun _ => Nat) (Bool.rec (motive := fun _ => Nat) t (turnsF ord first f (mapF ord here) (t + 1)) (Nat.ble (t + 1) 20)) t (eqF here first) = _
    rw [turns_f ord first f, map_f, eq_f, turnsGo]
    cases h : (here == first) with
    | true => simp [bne, h]
    | false =>
      by_cases h2 : t < 20
      · have : Nat.ble (t + 1) 20 = true := Nat.ble_eq.mpr h2
        simp [bne, h, h2, this]
      · have : Nat.ble (t + 1) 20 = false := by
          cases e : Nat.ble (t + 1) 20 with
          | false => rfl
          | true => exact absurd (Nat.ble_eq.mp e) h2
        simp [bne, h, h2, this]
theorem snoc_f (a : Nat) : ∀ l : List Nat, snocF l a = l ++ [a]
  | [] => rfl
  | b :: r => congrArg (b :: ·) (snoc_f a r)
theorem mem_f (k m : Nat) : memF k m = m.testBit k := by
  unfold memF
  rw [Nat.testBit_eq_decide_div_mod_eq]
  show Nat.beq ((m >>> k) &&& 1) 1 = _
  rw [Nat.and_one_is_mod, Nat.shiftRight_eq_div_pow, beq_f, Bool.eq_iff_iff]
  simp
theorem lor_f (m k j : Nat) : (Nat.lor m (Nat.shiftLeft 1 k)).testBit j = (m.testBit j || decide (j = k)) := by
  show (m ||| (1 <<< k)).testBit j = _
  rw [Nat.testBit_or, Nat.one_shiftLeft, Nat.testBit_two_pow]
  congr 1
  rw [Bool.eq_iff_iff]
  simp [eq_comm]
theorem ring_f (ord : List Nat) (k : Nat → Nat → Bool) (k2 : List Nat → Nat → Bool) (hk : ∀ m s l, (∀ j, m.testBit j = s.contains j) → k m l = k2 s l) : ∀ (f m : Nat) (seen : List Nat) (here long : Nat), (∀ j, m.testBit j = seen.contains j) →
    ringF ord ord.length f m here long k = k2 (ringGo ord f seen here long).1 (ringGo ord f seen here long).2
  | 0, m, seen, here, long, h => hk m seen long h
  | f + 1, m, seen, here, long, h => by
    show Bool.rec (motive := fun _ => Bool) (Bool.rec (motive := fun _ => Bool) (k m long) (ringF ord ord.length f (Nat.lor m (Nat.shiftLeft 1 here)) (nthF ord here) (long + 1) k) (Nat.ble long ord.length)) (k m long) (memF here m) = _
    rw [mem_f, h, nth_f, ringGo, ring_f ord k k2 hk f _ (seen ++ [here]) _ _ (fun j => by rw [lor_f, h]; simp [List.contains_eq_mem, Bool.eq_iff_iff])]
    cases h1 : seen.contains here with
    | true => simpa using hk m seen long h
    | false =>
      by_cases h2 : long ≤ ord.length
      · have : Nat.ble long ord.length = true := Nat.ble_eq.mpr h2
        simp [this, h2]
      · have : Nat.ble long ord.length = false := by
          cases e : Nat.ble long ord.length with
          | false => rfl
          | true => exact absurd (Nat.ble_eq.mp e) h2
        simp [this, h2]
        exact hk m seen long h
theorem lengths_f (ord : List Nat) (k : List Nat → Bool) : ∀ (places : List Nat) (m : Nat) (seen found : List Nat), (∀ j, m.testBit j = seen.contains j) →
    lengthsF ord ord.length places m found k = k (lengthsGo ord places seen found)
  | [], _, _, _, _ => rfl
  | p :: r, m, seen, found, h => by
    show ringF ord ord.length (ord.length + 2) m p 0 (fun seen2 long => Nat.rec (motive := fun _ => Bool) (lengthsF ord ord.length r seen2 found k) (fun _ _ => lengthsF ord ord.length r seen2 (snocF found long) k) long) = _
    rw [ring_f ord _ (fun s l => k (lengthsGo ord r s (found ++ if 0 < l then [l] else []))) (fun m s l hm => ?_) _ m seen p 0 h, lengthsGo]
    cases l with
    | zero =>
      show lengthsF ord ord.length r m found k = _
      rw [lengths_f ord k r m s found hm]
      simp
    | succ l =>
      show lengthsF ord ord.length r m (snocF found (l + 1)) k = _
      rw [snoc_f, lengths_f ord k r m s _ hm]
      simp
theorem due_f : ∀ (l : List Nat) (due tgt : Nat), dueF l due tgt = dueOk l due tgt
  | [], due, tgt => beq_f due tgt
  | l :: r, due, tgt => by
    show and (Nat.ble 1 due) (and (Nat.ble 1 l) (and (Nat.ble (due * l) 100000) (and (Nat.beq ((due * l) % (Nat.gcd due l)) 0) (dueF r ((due * l) / (Nat.gcd due l)) tgt)))) = _
    rw [due_f r, dueOk, beq_f]
    simp only [Bool.and_assoc]
theorem sum_f : ∀ l : List Nat, sumF l = sumN l
  | [] => rfl
  | a :: r => congrArg (a + ·) (sum_f r)
theorem ins_f (a : Nat) : ∀ l : List Nat, insF a l = insN a l
  | [] => rfl
  | b :: r => by
    show Bool.rec (motive := fun _ => List Nat) (b :: insF a r) (a :: b :: r) (Nat.ble a b) = _
    rw [ins_f a r, insN]
    cases Nat.ble a b <;> simp
theorem sort_f : ∀ l : List Nat, sortF l = sortN l
  | [] => rfl
  | a :: r => by
    show insF a (sortF r) = _
    rw [sort_f r, ins_f]
    rfl
theorem pos_f (k : Nat) : ∀ l : List Nat, posF k l = posN k l
  | [] => rfl
  | a :: r => by
    show Bool.rec (motive := fun _ => Nat) (posF k r + 1) 0 (Nat.beq a k) = _
    rw [pos_f k r, posN, beq_f]
    cases (a == k) <;> simp
theorem idx_f (d : List Nat) : ∀ ids : List Nat, idxF d ids = ids.map (posN · d)
  | [] => rfl
  | p :: r => by
    show posF p d :: idxF d r = _
    rw [pos_f, idx_f d r]
    rfl
theorem rev_f : ∀ l acc : List Nat, revF l acc = l.reverse ++ acc
  | [], _ => rfl
  | a :: r, acc => by
    show revF r (a :: acc) = _
    rw [rev_f r]
    simp
theorem sub_f (n : Nat) : ∀ l : List Nat, subF n l = l.map fun k => n - 1 - k
  | [] => rfl
  | a :: r => congrArg ((n - 1 - a) :: ·) (sub_f n r)
theorem it_f (d x : List Nat) : ∀ k : Nat, itF d k x = itN d k x
  | 0 => rfl
  | k + 1 => by
    show mapF d (itF d k x) = _
    rw [it_f d x k, map_f]
    rfl
theorem all_f (n : Nat) : ∀ l : List Nat, allF n l = l.all (Nat.blt · n)
  | [] => rfl
  | a :: r => by
    show and (Nat.ble (a + 1) n) (allF n r) = _
    rw [all_f n r]
    rfl
theorem allTo_f (P : Nat → Bool) : ∀ n : Nat, allTo P n = (List.range n).all P
  | 0 => rfl
  | n + 1 => by
    show and (allTo P n) (P n) = _
    rw [allTo_f P n, List.range_succ, List.all_append]
    simp
theorem era_f : ∀ (l : List Nat) (i : Nat), eraF l i = l.eraseIdx i
  | [], _ => rfl
  | _ :: _, 0 => rfl
  | a :: r, i + 1 => congrArg (a :: ·) (era_f r i)
theorem law_f {d : List Nat} {n : Nat} (hn : d.length = n) : lawF n (List.range n) (List.range n).reverse d = lawN d := by
  subst hn
  have hu : subF d.length (revF d []) = turnedN d := by rw [sub_f, rev_f, List.append_nil]; rfl
  have hul : (turnedN d).length = d.length := by rw [turnedN, List.length_map, List.length_reverse]
  have hb : idxF d (List.range d.length) = idxN d := idx_f d _
  have hbl : (idxN d).length = d.length := by rw [idxN, List.length_map, List.length_range]
  unfold lawF
  rw [hu, hb, lengths_f d _ _ 0 [] [] (fun j => by simp)]
  have e2 := lengths_f (turnedN d) (fun l2 => endF d.length (List.range d.length) (List.range d.length).reverse d (idxN d) (turnedN d) (lengthsGo d (List.range d.length) [] []) l2 (turnsF d (List.range d.length) 20 d 1)) (List.range d.length) 0 [] [] (fun j => by simp)
  rw [hul] at e2
  rw [e2]
  have hl2 : lengthsGo (turnedN d) (List.range d.length) [] [] = lengthsN (turnedN d) := by rw [lengthsN, hul]
  have hl1 : lengthsGo d (List.range d.length) [] [] = lengthsN d := rfl
  have ht : turnsF d (List.range d.length) 20 d 1 = turnsN d := turns_f _ _ _ _ _
  have htb : turnsF (idxN d) (List.range d.length) 20 (idxN d) 1 = turnsN (idxN d) := by rw [turns_f, turnsN, hbl]
  have htu : turnsF (turnedN d) (List.range d.length) 20 (turnedN d) 1 = turnsN (turnedN d) := by rw [turns_f, turnsN, hul]
  rw [hl2, hl1, ht]
  unfold endF lawN
  rw [htb, htu, all_f, all_f, due_f, sum_f, nth_f, it_f, eq_f, eq_f, eq_f, map_f, map_f, sort_f, sort_f, beq_f, beq_f, beq_f]
  rfl
theorem chk_f (n : Nat) : ∀ (k : Nat) (left acc : List Nat), left.length = k → acc.length + k = n → chkF n (List.range n) (List.range n).reverse k left acc = chk k left acc
  | 0, left, acc, _, h => law_f (d := acc) (by omega)
  | k + 1, left, acc, hl, h => by
    show allTo (fun i => chkF n (List.range n) (List.range n).reverse k (eraF left i) (snocF acc (nthF left i))) (k + 1) = _
    rw [allTo_f, chk, hl]
    refine all_cong fun i hi => ?_
    have hi2 := List.mem_range.mp hi
    rw [era_f, snoc_f, nth_f, chk_f n k _ _ (by rw [List.length_eraseIdx_of_lt (by omega)]; omega) (by rw [List.length_append, List.length_singleton]; omega)]
end Mine
end

namespace Mine
theorem rsPlC2 : True ∧ True := by
  w_top off
  k_with_none
  first | (walk1; fail) | exact ⟨trivial, trivial⟩
end Mine
section
set_option Elab.async false
set_option maxRecDepth 100000
set_option maxHeartbeats 0
namespace Mine
theorem ch1 : chkF 1 [0] [0] 1 [0] [] = true := by decide +kernel
theorem ch2 : chkF 2 [0, 1] [1, 0] 2 [0, 1] [] = true := by decide +kernel
theorem ch3 : chkF 3 [0, 1, 2] [2, 1, 0] 3 [0, 1, 2] [] = true := by decide +kernel
theorem ch4 : chkF 4 [0, 1, 2, 3] [3, 2, 1, 0] 4 [0, 1, 2, 3] [] = true := by decide +kernel
theorem ch5 : chkF 5 [0, 1, 2, 3, 4] [4, 3, 2, 1, 0] 5 [0, 1, 2, 3, 4] [] = true := by decide +kernel
theorem ch6_0 : chkF 6 [0, 1, 2, 3, 4, 5] [5, 4, 3, 2, 1, 0] 5 [1, 2, 3, 4, 5] [0] = true := by decide +kernel
theorem ch6_1 : chkF 6 [0, 1, 2, 3, 4, 5] [5, 4, 3, 2, 1, 0] 5 [0, 2, 3, 4, 5] [1] = true := by decide +kernel
theorem ch6_2 : chkF 6 [0, 1, 2, 3, 4, 5] [5, 4, 3, 2, 1, 0] 5 [0, 1, 3, 4, 5] [2] = true := by decide +kernel
theorem ch6_3 : chkF 6 [0, 1, 2, 3, 4, 5] [5, 4, 3, 2, 1, 0] 5 [0, 1, 2, 4, 5] [3] = true := by decide +kernel
theorem ch6_4 : chkF 6 [0, 1, 2, 3, 4, 5] [5, 4, 3, 2, 1, 0] 5 [0, 1, 2, 3, 5] [4] = true := by decide +kernel
theorem ch6_5 : chkF 6 [0, 1, 2, 3, 4, 5] [5, 4, 3, 2, 1, 0] 5 [0, 1, 2, 3, 4] [5] = true := by decide +kernel
theorem ch7_00 : chkF 7 [0, 1, 2, 3, 4, 5, 6] [6, 5, 4, 3, 2, 1, 0] 5 [2, 3, 4, 5, 6] [0, 1] = true := by decide +kernel
theorem ch7_01 : chkF 7 [0, 1, 2, 3, 4, 5, 6] [6, 5, 4, 3, 2, 1, 0] 5 [1, 3, 4, 5, 6] [0, 2] = true := by decide +kernel
theorem ch7_02 : chkF 7 [0, 1, 2, 3, 4, 5, 6] [6, 5, 4, 3, 2, 1, 0] 5 [1, 2, 4, 5, 6] [0, 3] = true := by decide +kernel
theorem ch7_03 : chkF 7 [0, 1, 2, 3, 4, 5, 6] [6, 5, 4, 3, 2, 1, 0] 5 [1, 2, 3, 5, 6] [0, 4] = true := by decide +kernel
theorem ch7_04 : chkF 7 [0, 1, 2, 3, 4, 5, 6] [6, 5, 4, 3, 2, 1, 0] 5 [1, 2, 3, 4, 6] [0, 5] = true := by decide +kernel
theorem ch7_05 : chkF 7 [0, 1, 2, 3, 4, 5, 6] [6, 5, 4, 3, 2, 1, 0] 5 [1, 2, 3, 4, 5] [0, 6] = true := by decide +kernel
theorem ch7_10 : chkF 7 [0, 1, 2, 3, 4, 5, 6] [6, 5, 4, 3, 2, 1, 0] 5 [2, 3, 4, 5, 6] [1, 0] = true := by decide +kernel
theorem ch7_11 : chkF 7 [0, 1, 2, 3, 4, 5, 6] [6, 5, 4, 3, 2, 1, 0] 5 [0, 3, 4, 5, 6] [1, 2] = true := by decide +kernel
theorem ch7_12 : chkF 7 [0, 1, 2, 3, 4, 5, 6] [6, 5, 4, 3, 2, 1, 0] 5 [0, 2, 4, 5, 6] [1, 3] = true := by decide +kernel
theorem ch7_13 : chkF 7 [0, 1, 2, 3, 4, 5, 6] [6, 5, 4, 3, 2, 1, 0] 5 [0, 2, 3, 5, 6] [1, 4] = true := by decide +kernel
theorem ch7_14 : chkF 7 [0, 1, 2, 3, 4, 5, 6] [6, 5, 4, 3, 2, 1, 0] 5 [0, 2, 3, 4, 6] [1, 5] = true := by decide +kernel
theorem ch7_15 : chkF 7 [0, 1, 2, 3, 4, 5, 6] [6, 5, 4, 3, 2, 1, 0] 5 [0, 2, 3, 4, 5] [1, 6] = true := by decide +kernel
theorem ch7_20 : chkF 7 [0, 1, 2, 3, 4, 5, 6] [6, 5, 4, 3, 2, 1, 0] 5 [1, 3, 4, 5, 6] [2, 0] = true := by decide +kernel
theorem ch7_21 : chkF 7 [0, 1, 2, 3, 4, 5, 6] [6, 5, 4, 3, 2, 1, 0] 5 [0, 3, 4, 5, 6] [2, 1] = true := by decide +kernel
theorem ch7_22 : chkF 7 [0, 1, 2, 3, 4, 5, 6] [6, 5, 4, 3, 2, 1, 0] 5 [0, 1, 4, 5, 6] [2, 3] = true := by decide +kernel
theorem ch7_23 : chkF 7 [0, 1, 2, 3, 4, 5, 6] [6, 5, 4, 3, 2, 1, 0] 5 [0, 1, 3, 5, 6] [2, 4] = true := by decide +kernel
theorem ch7_24 : chkF 7 [0, 1, 2, 3, 4, 5, 6] [6, 5, 4, 3, 2, 1, 0] 5 [0, 1, 3, 4, 6] [2, 5] = true := by decide +kernel
theorem ch7_25 : chkF 7 [0, 1, 2, 3, 4, 5, 6] [6, 5, 4, 3, 2, 1, 0] 5 [0, 1, 3, 4, 5] [2, 6] = true := by decide +kernel
theorem ch7_30 : chkF 7 [0, 1, 2, 3, 4, 5, 6] [6, 5, 4, 3, 2, 1, 0] 5 [1, 2, 4, 5, 6] [3, 0] = true := by decide +kernel
theorem ch7_31 : chkF 7 [0, 1, 2, 3, 4, 5, 6] [6, 5, 4, 3, 2, 1, 0] 5 [0, 2, 4, 5, 6] [3, 1] = true := by decide +kernel
theorem ch7_32 : chkF 7 [0, 1, 2, 3, 4, 5, 6] [6, 5, 4, 3, 2, 1, 0] 5 [0, 1, 4, 5, 6] [3, 2] = true := by decide +kernel
theorem ch7_33 : chkF 7 [0, 1, 2, 3, 4, 5, 6] [6, 5, 4, 3, 2, 1, 0] 5 [0, 1, 2, 5, 6] [3, 4] = true := by decide +kernel
theorem ch7_34 : chkF 7 [0, 1, 2, 3, 4, 5, 6] [6, 5, 4, 3, 2, 1, 0] 5 [0, 1, 2, 4, 6] [3, 5] = true := by decide +kernel
theorem ch7_35 : chkF 7 [0, 1, 2, 3, 4, 5, 6] [6, 5, 4, 3, 2, 1, 0] 5 [0, 1, 2, 4, 5] [3, 6] = true := by decide +kernel
theorem ch7_40 : chkF 7 [0, 1, 2, 3, 4, 5, 6] [6, 5, 4, 3, 2, 1, 0] 5 [1, 2, 3, 5, 6] [4, 0] = true := by decide +kernel
theorem ch7_41 : chkF 7 [0, 1, 2, 3, 4, 5, 6] [6, 5, 4, 3, 2, 1, 0] 5 [0, 2, 3, 5, 6] [4, 1] = true := by decide +kernel
theorem ch7_42 : chkF 7 [0, 1, 2, 3, 4, 5, 6] [6, 5, 4, 3, 2, 1, 0] 5 [0, 1, 3, 5, 6] [4, 2] = true := by decide +kernel
theorem ch7_43 : chkF 7 [0, 1, 2, 3, 4, 5, 6] [6, 5, 4, 3, 2, 1, 0] 5 [0, 1, 2, 5, 6] [4, 3] = true := by decide +kernel
theorem ch7_44 : chkF 7 [0, 1, 2, 3, 4, 5, 6] [6, 5, 4, 3, 2, 1, 0] 5 [0, 1, 2, 3, 6] [4, 5] = true := by decide +kernel
theorem ch7_45 : chkF 7 [0, 1, 2, 3, 4, 5, 6] [6, 5, 4, 3, 2, 1, 0] 5 [0, 1, 2, 3, 5] [4, 6] = true := by decide +kernel
theorem ch7_50 : chkF 7 [0, 1, 2, 3, 4, 5, 6] [6, 5, 4, 3, 2, 1, 0] 5 [1, 2, 3, 4, 6] [5, 0] = true := by decide +kernel
theorem ch7_51 : chkF 7 [0, 1, 2, 3, 4, 5, 6] [6, 5, 4, 3, 2, 1, 0] 5 [0, 2, 3, 4, 6] [5, 1] = true := by decide +kernel
theorem ch7_52 : chkF 7 [0, 1, 2, 3, 4, 5, 6] [6, 5, 4, 3, 2, 1, 0] 5 [0, 1, 3, 4, 6] [5, 2] = true := by decide +kernel
theorem ch7_53 : chkF 7 [0, 1, 2, 3, 4, 5, 6] [6, 5, 4, 3, 2, 1, 0] 5 [0, 1, 2, 4, 6] [5, 3] = true := by decide +kernel
theorem ch7_54 : chkF 7 [0, 1, 2, 3, 4, 5, 6] [6, 5, 4, 3, 2, 1, 0] 5 [0, 1, 2, 3, 6] [5, 4] = true := by decide +kernel
theorem ch7_55 : chkF 7 [0, 1, 2, 3, 4, 5, 6] [6, 5, 4, 3, 2, 1, 0] 5 [0, 1, 2, 3, 4] [5, 6] = true := by decide +kernel
theorem ch7_60 : chkF 7 [0, 1, 2, 3, 4, 5, 6] [6, 5, 4, 3, 2, 1, 0] 5 [1, 2, 3, 4, 5] [6, 0] = true := by decide +kernel
theorem ch7_61 : chkF 7 [0, 1, 2, 3, 4, 5, 6] [6, 5, 4, 3, 2, 1, 0] 5 [0, 2, 3, 4, 5] [6, 1] = true := by decide +kernel
theorem ch7_62 : chkF 7 [0, 1, 2, 3, 4, 5, 6] [6, 5, 4, 3, 2, 1, 0] 5 [0, 1, 3, 4, 5] [6, 2] = true := by decide +kernel
theorem ch7_63 : chkF 7 [0, 1, 2, 3, 4, 5, 6] [6, 5, 4, 3, 2, 1, 0] 5 [0, 1, 2, 4, 5] [6, 3] = true := by decide +kernel
theorem ch7_64 : chkF 7 [0, 1, 2, 3, 4, 5, 6] [6, 5, 4, 3, 2, 1, 0] 5 [0, 1, 2, 3, 5] [6, 4] = true := by decide +kernel
theorem ch7_65 : chkF 7 [0, 1, 2, 3, 4, 5, 6] [6, 5, 4, 3, 2, 1, 0] 5 [0, 1, 2, 3, 4] [6, 5] = true := by decide +kernel
theorem chk_up {k : Nat} {left acc : List Nat} (h : ∀ i, i < left.length → chk k (left.eraseIdx i) (acc ++ [left.getD i 0]) = true) : chk (k + 1) left acc = true :=
  List.all_eq_true.mpr fun i hi => h i (List.mem_range.mp hi)
theorem chk7_0 : chk 6 [1, 2, 3, 4, 5, 6] [0] = true := chk_up fun i hi => match i, hi with
  | 0, _ => (chk_f 7 5 _ _ rfl rfl).symm.trans ch7_00
  | 1, _ => (chk_f 7 5 _ _ rfl rfl).symm.trans ch7_01
  | 2, _ => (chk_f 7 5 _ _ rfl rfl).symm.trans ch7_02
  | 3, _ => (chk_f 7 5 _ _ rfl rfl).symm.trans ch7_03
  | 4, _ => (chk_f 7 5 _ _ rfl rfl).symm.trans ch7_04
  | 5, _ => (chk_f 7 5 _ _ rfl rfl).symm.trans ch7_05
  | i + 6, hi => absurd hi (Nat.not_lt.mpr (Nat.le_add_left 6 i))
theorem chk7_1 : chk 6 [0, 2, 3, 4, 5, 6] [1] = true := chk_up fun i hi => match i, hi with
  | 0, _ => (chk_f 7 5 _ _ rfl rfl).symm.trans ch7_10
  | 1, _ => (chk_f 7 5 _ _ rfl rfl).symm.trans ch7_11
  | 2, _ => (chk_f 7 5 _ _ rfl rfl).symm.trans ch7_12
  | 3, _ => (chk_f 7 5 _ _ rfl rfl).symm.trans ch7_13
  | 4, _ => (chk_f 7 5 _ _ rfl rfl).symm.trans ch7_14
  | 5, _ => (chk_f 7 5 _ _ rfl rfl).symm.trans ch7_15
  | i + 6, hi => absurd hi (Nat.not_lt.mpr (Nat.le_add_left 6 i))
theorem chk7_2 : chk 6 [0, 1, 3, 4, 5, 6] [2] = true := chk_up fun i hi => match i, hi with
  | 0, _ => (chk_f 7 5 _ _ rfl rfl).symm.trans ch7_20
  | 1, _ => (chk_f 7 5 _ _ rfl rfl).symm.trans ch7_21
  | 2, _ => (chk_f 7 5 _ _ rfl rfl).symm.trans ch7_22
  | 3, _ => (chk_f 7 5 _ _ rfl rfl).symm.trans ch7_23
  | 4, _ => (chk_f 7 5 _ _ rfl rfl).symm.trans ch7_24
  | 5, _ => (chk_f 7 5 _ _ rfl rfl).symm.trans ch7_25
  | i + 6, hi => absurd hi (Nat.not_lt.mpr (Nat.le_add_left 6 i))
theorem chk7_3 : chk 6 [0, 1, 2, 4, 5, 6] [3] = true := chk_up fun i hi => match i, hi with
  | 0, _ => (chk_f 7 5 _ _ rfl rfl).symm.trans ch7_30
  | 1, _ => (chk_f 7 5 _ _ rfl rfl).symm.trans ch7_31
  | 2, _ => (chk_f 7 5 _ _ rfl rfl).symm.trans ch7_32
  | 3, _ => (chk_f 7 5 _ _ rfl rfl).symm.trans ch7_33
  | 4, _ => (chk_f 7 5 _ _ rfl rfl).symm.trans ch7_34
  | 5, _ => (chk_f 7 5 _ _ rfl rfl).symm.trans ch7_35
  | i + 6, hi => absurd hi (Nat.not_lt.mpr (Nat.le_add_left 6 i))
theorem chk7_4 : chk 6 [0, 1, 2, 3, 5, 6] [4] = true := chk_up fun i hi => match i, hi with
  | 0, _ => (chk_f 7 5 _ _ rfl rfl).symm.trans ch7_40
  | 1, _ => (chk_f 7 5 _ _ rfl rfl).symm.trans ch7_41
  | 2, _ => (chk_f 7 5 _ _ rfl rfl).symm.trans ch7_42
  | 3, _ => (chk_f 7 5 _ _ rfl rfl).symm.trans ch7_43
  | 4, _ => (chk_f 7 5 _ _ rfl rfl).symm.trans ch7_44
  | 5, _ => (chk_f 7 5 _ _ rfl rfl).symm.trans ch7_45
  | i + 6, hi => absurd hi (Nat.not_lt.mpr (Nat.le_add_left 6 i))
theorem chk7_5 : chk 6 [0, 1, 2, 3, 4, 6] [5] = true := chk_up fun i hi => match i, hi with
  | 0, _ => (chk_f 7 5 _ _ rfl rfl).symm.trans ch7_50
  | 1, _ => (chk_f 7 5 _ _ rfl rfl).symm.trans ch7_51
  | 2, _ => (chk_f 7 5 _ _ rfl rfl).symm.trans ch7_52
  | 3, _ => (chk_f 7 5 _ _ rfl rfl).symm.trans ch7_53
  | 4, _ => (chk_f 7 5 _ _ rfl rfl).symm.trans ch7_54
  | 5, _ => (chk_f 7 5 _ _ rfl rfl).symm.trans ch7_55
  | i + 6, hi => absurd hi (Nat.not_lt.mpr (Nat.le_add_left 6 i))
theorem chk7_6 : chk 6 [0, 1, 2, 3, 4, 5] [6] = true := chk_up fun i hi => match i, hi with
  | 0, _ => (chk_f 7 5 _ _ rfl rfl).symm.trans ch7_60
  | 1, _ => (chk_f 7 5 _ _ rfl rfl).symm.trans ch7_61
  | 2, _ => (chk_f 7 5 _ _ rfl rfl).symm.trans ch7_62
  | 3, _ => (chk_f 7 5 _ _ rfl rfl).symm.trans ch7_63
  | 4, _ => (chk_f 7 5 _ _ rfl rfl).symm.trans ch7_64
  | 5, _ => (chk_f 7 5 _ _ rfl rfl).symm.trans ch7_65
  | i + 6, hi => absurd hi (Nat.not_lt.mpr (Nat.le_add_left 6 i))
theorem chk7 : chk 7 (List.range 7) [] = true := chk_up fun i hi => match i, hi with
  | 0, _ => chk7_0
  | 1, _ => chk7_1
  | 2, _ => chk7_2
  | 3, _ => chk7_3
  | 4, _ => chk7_4
  | 5, _ => chk7_5
  | 6, _ => chk7_6
  | i + 7, hi => absurd hi (Nat.not_lt.mpr (Nat.le_add_left 7 i))
theorem chk6 : chk 6 (List.range 6) [] = true := chk_up fun i hi => match i, hi with
  | 0, _ => (chk_f 6 5 _ _ rfl rfl).symm.trans ch6_0
  | 1, _ => (chk_f 6 5 _ _ rfl rfl).symm.trans ch6_1
  | 2, _ => (chk_f 6 5 _ _ rfl rfl).symm.trans ch6_2
  | 3, _ => (chk_f 6 5 _ _ rfl rfl).symm.trans ch6_3
  | 4, _ => (chk_f 6 5 _ _ rfl rfl).symm.trans ch6_4
  | 5, _ => (chk_f 6 5 _ _ rfl rfl).symm.trans ch6_5
  | i + 6, hi => absurd hi (Nat.not_lt.mpr (Nat.le_add_left 6 i))
theorem chk_all : ∀ n, 1 ≤ n → n ≤ 7 → chk n (List.range n) [] = true
  | 1, _, _ => (chk_f 1 1 _ _ rfl rfl).symm.trans ch1
  | 2, _, _ => (chk_f 2 2 _ _ rfl rfl).symm.trans ch2
  | 3, _, _ => (chk_f 3 3 _ _ rfl rfl).symm.trans ch3
  | 4, _, _ => (chk_f 4 4 _ _ rfl rfl).symm.trans ch4
  | 5, _, _ => (chk_f 5 5 _ _ rfl rfl).symm.trans ch5
  | 6, _, _ => chk6
  | 7, _, _ => chk7
  | 0, h, _ => absurd h (by decide)
  | n + 8, _, h => absurd h (by omega)
end Mine
end

namespace Mine
theorem rsCM : True ∧ True := by
  w_top off
  k_with_none
  first | (walk1; fail) | exact ⟨trivial, trivial⟩
end Mine
section
open PySem PySem.W PySem.Spec PySem.Calls PyProof.Rows
set_option Elab.async false
set_option maxRecDepth 100000
namespace Mine
/-- a source of a comprehension: what its iterator gives -/
def Src (prog : Program) (w : World) (A : Around) (h₀ : Heap) (L : Addr) (xv : Value) (n : Nat) (P : Nat → Value → Prop) (S : List (Addr × Obj) → Prop) (news : List (Addr × Obj)) (s₁ : Shared) : Prop :=
  ∀ (Q : Value → Shared → Prop) (E : Value → Shared → Prop),
    (∀ I fp St s₂, (∃ h, s₂ = { s₁ with heap := h }) → Walks prog w A I fp [I] n P St → (∀ i h, St i h → ∃ o, h.get? I = some o) →
      (∀ i h h' o nw, St i h → h.get? I = some o → h'.get? I = some o → (∀ b o, h₀.get? b = some o → h'.get? b = some o) → News h₀ L h' nw → S nw → St i h') →
      St 0 s₂.heap → (∀ b ∈ fp, b < s₂.heap.objs.size) → (∀ b o, s₁.heap.get? b = some o → s₂.heap.get? b = some o) → L ≠ I → h₀.get? I = none → (∀ p ∈ news, p.1 ≠ I) → Q (.ref I) s₂) →
    wpAny (model prog w) A (pyIter xv) Q E s₁
section
variable {prog : Program} {w : World} {A : Around} {E : Value → Shared → Prop} {s : Shared} {h₀ : Heap} {L : Addr} {m : Str → Option Value} {env : Env} {news : List (Addr × Obj)}
theorem src_bytes {b : Array UInt8} {t : Tok} (hh : A.handled = none) (F : Fr h₀ L s.heap m) (N : News h₀ L s.heap news) :
    Src prog w A h₀ L (.bytes b t) b.size (fun i v => ∃ c u, b[i]? = some c ∧ v = .int (c.toNat : Int) u) (fun _ => True) news s := fun Q E hQ => by
  refine KBw.pyIter_bytes ?_
  refine hQ s.heap.objs.size [s.heap.objs.size] _ _ ⟨_, rfl⟩ (KBw.walks hh s.heap.objs.size b t) (fun i h st => by obtain ⟨o, e, _⟩ := st; exact ⟨o, e⟩) ?_ ⟨_, Heap.get?_push_size _ rfl, rfl, rfl⟩ ?_ (fun b o e => Heap.get?_push_of_some _ e) (Nat.ne_of_lt F.ns.lt) (next_is_new F) fun p hp => Nat.ne_of_lt (Heap.lt_size (N p hp).1)
  · intro i h h' o nw st e e' _ _ _
    obtain ⟨o', q, r⟩ := st
    rw [e] at q; cases q
    exact ⟨o, e', r⟩
  · intro b' hb
    rw [List.mem_singleton.mp hb]
    show s.heap.objs.size < (s.heap.push _).objs.size
    rw [Heap.size_push]; exact Nat.lt_succ_self _
theorem src_range {r : Addr} {a b : Int} {t u v : Tok} {n : Nat} (hh : A.handled = none) (F : Fr h₀ L s.heap m) (N : News h₀ L s.heap news) (hr : IsRange s.heap r a b 1 t u v) (hsm : Builtin.Range.small a b 1 = true) (hn : Builtin.Range.rangeSize a b 1 = ((n : Nat) : Int)) :
    Src prog w A h₀ L (.ref r) n (fun i v => ∃ t, v = .int (a + (i : Int)) t) (fun _ => True) news s := fun Q E hQ => by
  refine wpAny_pyIter_range hr hsm ?_
  refine hQ s.heap.objs.size [s.heap.objs.size] _ _ ⟨_, rfl⟩ (LCg.range_walks hh a n) (fun i h st => ⟨_, st⟩) LCg.range_st (by show IsRangeIter _ _ _ _ _; rw [hn]; simpa using Heap.get?_push_size _ rfl) ?_ (fun b o e => Heap.get?_push_of_some _ e) (Nat.ne_of_lt F.ns.lt) (next_is_new F) fun p hp => Nat.ne_of_lt (Heap.lt_size (N p hp).1)
  intro b' hb
  rw [List.mem_singleton.mp hb]
  show s.heap.objs.size < (s.heap.push _).objs.size
  rw [Heap.size_push]; exact Nat.lt_succ_self _
def CSrc (prog : Program) (w : World) (A : Around) (h₀ : Heap) (L : Addr) (m : Str → Option Value) (env : Env) (elt : Expr) (x : Str) (scope : Scope) (cl : List (Str × Addr)) (Fin : Shared → List Value → List (Addr × Obj) → Prop) (xv : Value) (s₁ : Shared) : Prop :=
  ∃ n P S news, Src prog w A h₀ L xv n P S news s₁ ∧ n ≤ sizeLine ∧ Fr h₀ L s₁.heap m ∧ News h₀ L s₁.heap news ∧ S news ∧
      ∀ s₂ : Shared, (∃ h, s₂ = { s₁ with heap := h }) → LCg.CompRest prog w A h₀ L m env elt x scope cl s₂ S P (Fin s₂) n 0 [] news
theorem CSrc.bytes {elt : Expr} {x : Str} {scope : Scope} {cl : List (Str × Addr)} {Fin : Shared → List Value → List (Addr × Obj) → Prop} {b : Array UInt8} {t : Tok}
    (hh : A.handled = none) (F : Fr h₀ L s.heap m) (N : News h₀ L s.heap news) (hz : b.size ≤ sizeLine)
    (h : ∀ g, LCg.CompRest prog w A h₀ L m env elt x scope cl { s with heap := g } (fun _ => True) (fun i v => ∃ c u, b[i]? = some c ∧ v = .int (c.toNat : Int) u) (Fin { s with heap := g }) b.size 0 [] news) :
    CSrc prog w A h₀ L m env elt x scope cl Fin (.bytes b t) s := ⟨_, _, _, _, src_bytes hh F N, hz, F, N, trivial, fun _ ⟨g, e⟩ => e ▸ h g⟩
theorem CSrc.range {elt : Expr} {x : Str} {scope : Scope} {cl : List (Str × Addr)} {Fin : Shared → List Value → List (Addr × Obj) → Prop} {r : Addr} {a b : Int} {t u v : Tok} {n : Nat}
    (hh : A.handled = none) (F : Fr h₀ L s.heap m) (N : News h₀ L s.heap news) (hr : IsRange s.heap r a b 1 t u v) (hsm : Builtin.Range.small a b 1 = true) (hn : Builtin.Range.rangeSize a b 1 = ((n : Nat) : Int)) (hz : n ≤ sizeLine)
    (h : ∀ g, LCg.CompRest prog w A h₀ L m env elt x scope cl { s with heap := g } (fun _ => True) (fun i v => ∃ t, v = .int (a + (i : Int)) t) (Fin { s with heap := g }) n 0 [] news) :
    CSrc prog w A h₀ L m env elt x scope cl Fin (.ref r) s := ⟨_, _, _, _, src_range hh F N hr hsm hn, hz, F, N, trivial, fun _ ⟨g, e⟩ => e ▸ h g⟩
/-- a comprehension over any such source -/
theorem ListComp_S {elt iter : Expr} {x : Str} {px : Pos} {scope : Scope} {cl : List (Str × Addr)} {pos : Pos} {Q : Value → Shared → Prop} (_F₀ : Fr h₀ L s.heap m)
    (hclos : closureFor scope env = pure cl) (hcell : ∀ y ∈ scope.names, y.2 ≠ .cell) (hkind : scope.kind = .function)
    (hnames : ∀ y ∈ scope.names, y.2 = .local → scope.names.lookup y.1 = some .local) (hx : scope.names.lookup x = some .local)
    (h : wpAny (model prog w) A (eval iter env) (CSrc prog w A h₀ L m env elt x scope cl (fun s₂ => LCg.FinE h₀ L m s₂ Q)) E s)
    (hs : ∀ x, foldedSetIterable iter env x = pure x := by intro _; rfl) :
    wpAny (model prog w) A (eval (.ListComp elt [⟨.Name x px, iter, [], 0⟩] scope pos) env) Q E s := by
  rw [eval_ListComp]
  refine wpAny_comprehension_free (use := none) rfl hs hclos hkind hnames (wpAny_mono h (fun xv s₁ h₁ => ?_) fun _ _ e => e)
  obtain ⟨n, P, S, news, src, hsz, F, N, hS, R⟩ := h₁
  refine src _ _ fun I fp St s₂ he W hIo hSt hst hfp up hIL hI₀ off => ?_
  refine LCg.block_U W hsz hIo hSt hcell hkind hx hst hfp (F.keeps up) (N.grown up) hIL hI₀ off hS (R _ he) ?_
  intro D C h tk m' ys news' F' N' o1 hn hC₀ hD₀ hCL hDL hCD offC fin
  refine ⟨m', hn, fun h'' hs'' => fin D h'' tk (F'.change hs'' hCL hC₀) (fun p hp => ?_) o1⟩
  refine ⟨hs''.extBut _ _ ?_ (N' p hp).1, (N' p hp).2⟩
  rcases List.mem_cons.mp hp with rfl | hp
  · exact Ne.symm hCD
  · exact offC p hp
/-- each element by what holds of it; the ledger stays -/
theorem comp_all {elt : Expr} {x : Str} {scope : Scope} {cl : List (Str × Addr)} {S : List (Addr × Obj) → Prop} {P : Nat → Value → Prop} {Fin : List Value → List (Addr × Obj) → Prop} {n : Nat} (Rel : Nat → Value → Prop)
    (turn : ∀ i v ys I oI C oC D m₂ h tk (E' : Value → Shared → Prop), i < n → P i v → LCg.NsObj oC m₂ → m₂ x = some v → Fr h₀ L h m → News h₀ L h ((I, oI) :: (C, oC) :: (D, LCg.lst ys) :: news) → LCg.Off3 I C D news → ((@Ne Nat I C) ∧ (@Ne Nat I D) ∧ (@Ne Nat C D)) →
      wpAny (model prog w) A (eval elt (compEnvC scope cl C env)) (LCg.CompEnd h₀ L m { s with heap := h, toks := tk } I oI C oC D (LCg.lst ys) S (fun y news' => news' = news ∧ Rel i y)) E' { s with heap := h, toks := tk })
    (fin : ∀ ys : List Value, ys.length = n → (∀ i y, ys[i]? = some y → Rel i y) → Fin ys news) : LCg.CompRest prog w A h₀ L m env elt x scope cl s S P Fin n 0 [] news := by
  have key : ∀ (j i : Nat) (ys : List Value), i + j = n → ys.length = i → (∀ i y, ys[i]? = some y → Rel i y) → LCg.CompRest prog w A h₀ L m env elt x scope cl s S P Fin j i ys news := by
    intro j
    induction j with
    | zero => exact fun i ys hi hl hy => LCg.CompRest.zero (fin ys (by omega) hy)
    | succ j ih =>
      intro i ys hi hl hy
      refine LCg.CompRest.succ ?_
      intro v I oI C oC D m₂ h tk E' hv hC hx F N off ne
      refine wpAny_mono (turn i v ys I oI C oC D m₂ h tk E' (by omega) hv hC hx F N off ne) (fun y s₂ hq => ?_) fun _ _ e => e
      obtain ⟨h', tk', nw, e, F', N', off', hS, hn, hr⟩ := hq
      rw [hn] at N' off' hS
      refine ⟨h', tk', news, e, F', N', off', hS, ih (i + 1) _ (by omega) (by rw [List.length_append, hl]; rfl) fun k z hz => ?_⟩
      rcases Nat.lt_trichotomy k ys.length with h1 | h1 | h1
      · rw [List.getElem?_append_left h1] at hz; exact hy k z hz
      · rw [h1, List.getElem?_append_right (Nat.le_refl _), Nat.sub_self] at hz
        obtain rfl : y = z := Option.some.inj hz
        rw [h1, hl]; exact hr
      · rw [List.getElem?_append_right (Nat.le_of_lt h1)] at hz
        obtain ⟨d, hd⟩ : ∃ d, k - ys.length = d + 1 := ⟨k - ys.length - 1, by omega⟩
        rw [hd] at hz
        cases hz
  exact key n 0 [] (by omega) rfl fun i y hy => by cases hy
theorem ints_of_rel {ys : List Value} {ns : List Int} (hl : ys.length = ns.length) (h : ∀ (i : Nat) (y : Value), ys[i]? = some y → ∃ t, y = Value.int (ns.getD i 0) t) : IntsAre ys ns := by
  induction ys generalizing ns with
  | nil => cases ns with
    | nil => exact .nil
    | cons _ _ => cases hl
  | cons y r ih => cases ns with
    | nil => cases hl
    | cons k q =>
      obtain ⟨t, rfl⟩ := h 0 y rfl
      exact .cons k t (ih (Nat.succ.inj hl) fun i z hz => h (i + 1) z hz)
end
end Mine
end

namespace Mine
theorem rsBtL : True ∧ True := by
  w_top off
  k_with_none
  first | (walk1; fail) | exact ⟨trivial, trivial⟩
end Mine
section
open PySem PySem.W PySem.Spec PySem.Calls PyProof.Rows
set_option Elab.async false
set_option maxRecDepth 100000
namespace Mine
/-- bytes by their numbers -/
def Bt (l : List Nat) : Array UInt8 := (l.map UInt8.ofNat).toArray
def zs (l : List Nat) : List Int := l.map fun (k : Nat) => (k : Int)
theorem Bt_size (l : List Nat) : (Bt l).size = l.length := by simp [Bt]
theorem zs_len (l : List Nat) : (zs l).length = l.length := by simp [zs]
theorem Bt_get {l : List Nat} {i : Nat} {c : UInt8} (h : (Bt l)[i]? = some c) : ∃ k, l[i]? = some k ∧ c = UInt8.ofNat k := by
  simp only [Bt, List.getElem?_toArray, List.getElem?_map, Option.map_eq_some_iff] at h
  obtain ⟨k, hk, e⟩ := h
  exact ⟨k, hk, e.symm⟩
theorem ofNat_toNat {k : Nat} (h : k < 256) : (UInt8.ofNat k).toNat = k := by
  rw [UInt8.toNat_ofNat']; omega
theorem Bt_getD {l : List Nat} {i : Nat} (h : ∀ k ∈ l, k < 256) : ((Bt l).getD i 0).toNat = l.getD i 0 := by
  simp only [Array.getD_eq_getD_getElem?, List.getD_eq_getElem?_getD, Bt, List.getElem?_toArray, List.getElem?_map]
  cases e : l[i]? with
  | none => rfl
  | some k => exact ofNat_toNat (h k (List.mem_of_getElem? e))
theorem zs_bytes (l : List Nat) : ((zs l).map fun n => n.toNat.toUInt8).toArray = Bt l := by
  simp only [zs, Bt, List.map_map]
  rfl
theorem zs_in {l : List Nat} (h : ∀ k ∈ l, k < 256) : ∀ n ∈ zs l, 0 ≤ n ∧ n < 256 := fun n hn => by
  obtain ⟨k, hk, rfl⟩ := List.mem_map.mp hn
  have := h k hk
  omega
theorem zs_getD (l : List Nat) (i : Nat) : (zs l).getD i 0 = (l.getD i 0 : Nat) := by
  simp only [zs, List.getD_eq_getElem?_getD, List.getElem?_map]
  cases l[i]? <;> rfl
theorem Bt_inj {a b : List Nat} (ha : ∀ k ∈ a, k < 256) (hb : ∀ k ∈ b, k < 256) (h : Bt a = Bt b) : a = b := by
  have h2 : a.map UInt8.ofNat = b.map UInt8.ofNat := by
    have := congrArg Array.toList h
    simpa [Bt] using this
  have inv : ∀ l : List Nat, (∀ k ∈ l, k < 256) → (l.map UInt8.ofNat).map UInt8.toNat = l := fun l hl => by
    rw [List.map_map]
    conv => rhs; rw [← List.map_id l]
    exact List.map_congr_left fun k hk => ofNat_toNat (hl k hk)
  rw [← inv a ha, ← inv b hb, h2]
theorem Bt_rev (l : List Nat) : (Bt l).reverse = Bt l.reverse := by
  simp [Bt, List.map_reverse]
section
variable {prog : Program} {w : World} {A : Around} {E : Value → Shared → Prop} {s : Shared} {h₀ : Heap} {L : Addr} {m : Str → Option Value} {news : List (Addr × Obj)}
theorem bytes_Bt {l : Addr} {vs : List Value} {ks : List Nat} {Q : Value → Shared → Prop} (F : Fr h₀ L s.heap m) (N : News h₀ L s.heap news) (hl : s.heap.IsList l vs.toArray) (hi : IntsAre vs (zs ks)) (hr : ∀ k ∈ ks, k < 256) (hz : ks.length ≤ 1000) (hh : A.handled = none)
    (h : ∀ h' t k, Fr h₀ L h' m → News h₀ L h' news → Q (.bytes (Bt ks) t) { s with heap := h', toks := k }) : wpAny (model prog w) A (call (.type "bytes") [.ref l]) Q E s := by
  refine bytes_K F N hl hi (zs_in hr) ?_ hh fun h' t k F' N' _ => ?_
  · rw [hi.length, zs_len, PySem.sizeLine_eq]; omega
  · rw [zs_bytes]; exact h h' t k F' N'
theorem len_Bt {l : List Nat} {t : Tok} {Q : Value → Shared → Prop} (hl : l.length ≤ 1000) (h : Q (.int (l.length : Nat) (s.toks + 1)) { s with toks := s.toks + 1 + 1 }) : wpAny (model prog w) A (call (.builtin "len") [.bytes (Bt l) t]) Q E s :=
  len_bytes (by rw [Bt_size]; omega) (by rw [Bt_size]; exact h)
theorem ne_Bt {a b : List Nat} {t u : Tok} {Q : Value → Shared → Prop} (ha : ∀ k ∈ a, k < 256) (hb : ∀ k ∈ b, k < 256) (h : Q (.bool (a != b)) s) : wpAny (model prog w) A (compareOp .NotEq (.bytes (Bt a) t) (.bytes (Bt b) u)) Q E s := by
  refine ne_bytes ?_
  have e : ((Bt a).toList != (Bt b).toList) = (a != b) := by
    rw [Bool.eq_iff_iff]
    simp only [bne_iff_ne, ne_eq]
    exact not_congr ⟨fun q => Bt_inj ha hb (Array.toList_inj.mp q), fun q => by rw [q]⟩
  rw [e]
  exact h
theorem eq_Bt {a b : List Nat} {t u : Tok} {Q : Value → Shared → Prop} (ha : ∀ k ∈ a, k < 256) (hb : ∀ k ∈ b, k < 256) (h : Q (.bool (a == b)) s) : wpAny (model prog w) A (compareOp .Eq (.bytes (Bt a) t) (.bytes (Bt b) u)) Q E s := by
  refine eq_bytes ?_
  have e : ((Bt a).toList == (Bt b).toList) = (a == b) := by
    rw [Bool.eq_iff_iff]
    simp only [beq_iff_eq]
    exact ⟨fun q => Bt_inj ha hb (Array.toList_inj.mp q), fun q => by rw [q]⟩
  rw [e]
  exact h
theorem item_Bt {l : List Nat} {i : Int} {t ui : Tok} {value slice : Expr} {Q : Value → Shared → Prop} (hl : ∀ k ∈ l, k < 256) (hz : l.length ≤ 1000) (h0 : 0 ≤ i) (h1 : i < (l.length : Int)) (h : Q (.int (l.getD i.toNat 0 : Nat) s.toks) { s with toks := s.toks + 1 })
    (hs : subscripted slice false (.bytes (Bt l) t) (.int i ui) = operate [.bytes (Bt l) t, .int i ui] (getItem (.bytes (Bt l) t) (.int i ui)) := by with_unfolding_all rfl)
    (ht : ∀ r, letTemporaryGo value (.bytes (Bt l) t) r = pure () := by intro _; with_unfolding_all rfl) :
    wpAny (model prog w) A (subscriptTail value slice (.bytes (Bt l) t) (.int i ui)) Q E s :=
  item_bytes (by rw [Bt_size]; omega) h0 (by rw [Bt_size]; exact h1) (by rw [Bt_getD hl]; exact h) hs ht
end
end Mine
end

namespace Mine
theorem rsBR : True ∧ True := by
  w_top off
  k_with_none
  first | (walk1; fail) | exact ⟨trivial, trivial⟩
end Mine
section
open PySem PySem.W PySem.Spec PySem.Calls PyProof.Rows
set_option Elab.async false
set_option maxRecDepth 100000
namespace Mine
theorem br_no_bytes : typeLookup (.type "range") "__bytes__" = pure none := by rw [typeLookup_type, builtinLookup_eq_fast]; kernel_rfl
theorem br_no_index : typeLookup (.type "range") "__index__" = pure none := by rw [typeLookup_type, builtinLookup_eq_fast]; kernel_rfl
theorem br_no_buffer : typeLookup (.type "range") "__buffer__" = pure none := by rw [typeLookup_type, builtinLookup_eq_fast]; kernel_rfl
theorem br_split : splitId "range.__len__" = some ("range", "__len__") := by decide +kernel
theorem br_sub : isSubtype (.type "range") (.type "range") = pure true := by rw [isSubtype_type]; kernel_rfl
section
variable {prog : Program} {w : World} {A : Around} {E : Value → Shared → Prop} {s : Shared}
theorem br_loop {R : Result → Shared → Prop} {I S : Addr} {fp : List Addr} {ns : List Int} {St : Nat → Heap → Prop} (W : Walks prog w A.in1 I fp [I] ns.length (fun i v => ∃ t, v = .int (ns.getD i 0) t) St) (hr : ∀ n ∈ ns, 0 ≤ n ∧ n < 256) (hz : ns.length ≤ sizeLine) (hIS : I ≠ S) (hS : S ∉ fp) :
    ∀ (k i : Nat) (s : Shared), ns.length - i = k → i ≤ ns.length → St i s.heap → s.heap.get? S = some { cls := .type "bytearray", data := .bytearray (byteArr (ns.take i)) } →
      (∀ h' t k', (∀ b o, b ≠ I → b ≠ S → s.heap.get? b = some o → h'.get? b = some o) → R (.ok (.ret (.bytes (byteArr ns) t))) { s with heap := h', toks := k' }) →
      codeAny (model prog w) A (.builtin "bytes.__new__.loop" ⟨[.type "bytes", .ref I, .ref S], []⟩) R s := by
  intro k
  induction k with
  | zero =>
    intro i s hk hle hst hSv hR
    have hin : i = ns.length := by omega
    subst hin
    refine codeAny_builtin PySem.F.bm_entry_loop ?_
    rw [Around.under_plainId PySem.F.bm_plain_loop _]
    show wpAny _ A.in1 (pyNext (.ref I) >>= _) _ _ s
    refine wpAny_bind (W.done _ _ _ hst fun h' tk he => ?_)
    have hS' : h'.get? S = some { cls := .type "bytearray", data := .bytearray (byteArr (ns.take ns.length)) } := he S _ (by simpa using Ne.symm hIS) hSv
    refine wpAny_bind ?_
    unfold Builtin.Bytes.payload Builtin.Bytes.payload?
    refine wpAny_bind (wpAny_bind (wpAny_load hS' ?_))
    refine wpAny_pure (wpAny_pure ?_)
    rw [List.take_length]
    refine wpAny_bind (wpAny_mkBytes ?_ (by rw [byteArr_size]; exact hz))
    show wpAny _ _ (if (Value.type "bytes" == Value.type "bytes") = true then _ else _) _ _ _
    refine bm_if_true (by decide) ?_
    first
      | exact wpAny_pure (hR h' _ _ fun b o hb _ e => he b o (by simpa using hb) e)
      | exact wpAny_bind (wpAny_pure (wpAny_pure (hR h' _ _ fun b o hb _ e => he b o (by simpa using hb) e)))
  | succ k ih =>
    intro i s hk hle hst hSv hR
    have hlt : i < ns.length := by omega
    have hmem : ns.getD i 0 ∈ ns := by
      rw [List.getD_eq_getElem?_getD, List.getElem?_eq_getElem hlt]
      exact List.getElem_mem hlt
    have hn : ns[i]? = some (ns.getD i 0) := by
      rw [List.getD_eq_getElem?_getD, List.getElem?_eq_getElem hlt]
      rfl
    obtain ⟨h0, h1⟩ := hr _ hmem
    refine codeAny_builtin PySem.F.bm_entry_loop ?_
    rw [Around.under_plainId PySem.F.bm_plain_loop _]
    show wpAny _ A.in1 (pyNext (.ref I) >>= _) _ _ s
    refine wpAny_bind (W.item i _ _ _ hlt hst fun v h' tk hv hst' hs => ?_)
    obtain ⟨t, rfl⟩ := hv
    generalize hn9 : ns.getD i 0 = n at *
    have hS' : h'.get? S = some { cls := .type "bytearray", data := .bytearray (byteArr (ns.take i)) } := hs S _ (by simpa using Ne.symm hIS) hSv
    refine wpAny_bind (wpAny_holding (wpAny_of_eq (rfl : asIndex (.int n t) = pure n) ?_))
    refine wpAny_bind (wpAny_letGo ?_)
    refine bm_if_false (by simp only [Bool.or_eq_false_iff, decide_eq_false_iff_not]; omega) ?_
    refine wpAny_bind ?_
    show wpAny _ _ (updateBytearray S (·.push n.toNat.toUInt8)) _ _ _
    unfold updateBytearray
    refine wpAny_bind (wpAny_load hS' ?_)
    show wpAny _ _ (update S (Obj.mapBytearray (·.push n.toNat.toUInt8)) >>= fun _ => lookBehind S) _ _ _
    refine wpAny_bind (wpAny_update hS' ?_)
    have hS₂ : (h'.update S (Obj.mapBytearray (·.push n.toNat.toUInt8))).get? S = some { cls := .type "bytearray", data := .bytearray (byteArr (ns.take (i + 1))) } := by
      rw [byteArr_take hn]
      exact Heap.get?_update_self (Obj.mapBytearray (·.push n.toNat.toUInt8)) hS' rfl
    refine wpAny_lookBehind hS₂ ?_ ?_
    · show (if (byteArr (ns.take (i + 1))).size > sizeLine then some "bytearray:memory" else none) = none
      rw [if_neg]
      rw [byteArr_size, List.length_take]
      omega
    · refine wpAny_pure ⟨plainId_quiet PySem.F.bm_plain_loop _, ih (i + 1) { s with heap := h'.update S (Obj.mapBytearray (·.push n.toNat.toUInt8)), toks := tk } (by omega) hlt ?_ hS₂ fun h3 t' k' hk3 => ?_⟩
      · exact W.frame _ _ _ hst' fun b hb o e => (Heap.get?_update_other _ _ (fun q => hS (by rw [q]; exact hb))).trans e
      · exact hR h3 t' k' fun b o hbI hbS e => hk3 b o hbI hbS ((Heap.get?_update_other _ _ (Ne.symm hbS)).trans (hs b o (by simpa using hbI) e))
theorem br_new {r : Addr} {n : Nat} {t u v : Tok} {Q : Value → Shared → Prop} (hh : A.handled = none) (hr : IsRange s.heap r 0 n 1 t u v) (hn : n ≤ 256)
    (hQ : ∀ h' t k, (∀ b o, s.heap.get? b = some o → h'.get? b = some o) → Q (.bytes (byteArr (zs (List.range n))) t) { s with heap := h', toks := k }) :
    codeAny (model prog w) A (.call (.builtin "bytes.__new__") ⟨[.type "bytes", .ref r], []⟩) (wants Q E) s := by
  have hsz : Builtin.Range.rangeSize 0 n 1 = (n : Int) := by rw [rangeSize_one]; split <;> omega
  refine codeAny_of_tree ?_
  show wpAny _ A.in1 (do checkBuiltinCall "bytes.__new__" ⟨[.type "bytes", .ref r], []⟩; again (.builtin "bytes.__new__" ⟨[.type "bytes", .ref r], []⟩)) _ _ s
  refine wpAny_bind (wpAny_of_eq (PySem.F.bm_newCall _) (wpAny_pure ⟨plainId_quiet PySem.F.bm_plain _, codeAny_builtin PySem.F.bm_entry ?_⟩))
  rw [Around.under_plainId PySem.F.bm_plain _]
  have hT : s.TypeIs (.ref r) "range" := ⟨_, hr, rfl⟩
  unfold Builtin.«bytes.__new__»
  refine wpAny_bind (wpAny_of_eq (a := true) rfl ?_)
  refine bm_if_false rfl ?_
  refine wpAny_bind (wpAny_of_eq PySem.F.bm_sub ?_)
  refine bm_if_false rfl ?_
  refine wpAny_bind (wpAny_of_eq (PySem.F.bm_bind _) ?_)
  refine wpAny_bind (wpAny_of_eq (a := ()) rfl ?_)
  refine wpAny_bind (wpAny_of_eq (a := ()) rfl ?_)
  refine bm_if_false rfl ?_
  refine wpAny_bind (wpAny_specialOf hT br_no_bytes ?_)
  refine wpAny_bind (wpAny_bind ?_)
  show wpAny _ _ (load r >>= _) _ _ _
  refine wpAny_bind (wpAny_load hr ?_)
  refine wpAny_pure (wpAny_pure ?_)
  refine bm_if_false rfl ?_
  refine wpAny_bind (wpAny_specialOf hT br_no_index ?_)
  refine bm_if_true rfl ?_
  first
    | show wpAny _ _ (Builtin.Bytes.buffer? "bytes.__new__" (.ref r) true >>= _) _ _ _
    | (refine wpAny_bind ?_; show wpAny _ _ (Builtin.Bytes.buffer? "bytes.__new__" (.ref r) true >>= _) _ _ _)
  refine wpAny_bind ?_
  unfold Builtin.Bytes.buffer?
  refine wpAny_bind (wpAny_specialOf hT br_no_buffer ?_)
  refine wpAny_bind (wpAny_specialOf hT br_no_buffer ?_)
  refine wpAny_pure ?_
  refine wpAny_bind (wpAny_tryCatch (wpAny_pyIter_range hr (small_one (by omega) (by omega) (by omega) (by omega)) ?_))
  have hr₁ : IsRange (s.heap.push { cls := .type "range_iterator", data := .fields #[rawInt 0, rawInt (Builtin.Range.rangeSize 0 n 1), rawInt 1] }) r 0 n 1 t u v := Heap.get?_push_of_some _ hr
  have hT₁ : ({ s with heap := s.heap.push { cls := .type "range_iterator", data := .fields #[rawInt 0, rawInt (Builtin.Range.rangeSize 0 n 1), rawInt 1] } } : Shared).TypeIs (.ref r) "range" := ⟨_, hr₁, rfl⟩
  refine wpAny_bind (wpAny_holding ?_)
  unfold Builtin.Bytes.lengthHint
  refine wpAny_bind (wpAny_specialOf hT₁ PySem.F.slot_range_len.lookup ?_)
  dsimp only
  rw [br_split]
  dsimp only
  refine wpAny_bind (wpAny_isInstance hT₁ br_sub ?_)
  refine bm_if_false rfl ?_
  refine bm_if_false (by decide +kernel) ?_
  refine bm_if_true rfl ?_
  refine wpAny_bind (wpAny_rule ?_)
  refine wpAny_bind (wpAny_attempt (call_len_range (n := n) hr₁ hsz (by omega) ?_))
  dsimp only
  refine wpAny_bind (m := asInt? _) (wpAny_pure ?_)
  refine bm_if_false (by simp [Builtin.Bytes.tooLong, sizeLine_eq]; omega) ?_
  refine wpAny_pure ?_
  refine wpAny_bind ?_
  unfold Builtin.Bytes.newBytearray
  refine wpAny_newObj_type ?_ (Nat.zero_le _)
  generalize hg : (s.heap.push { cls := .type "range_iterator", data := .fields #[rawInt 0, rawInt (Builtin.Range.rangeSize 0 n 1), rawInt 1] }) = g at *
  have hgs : g.objs.size = s.heap.objs.size + 1 := by rw [← hg]; exact Heap.size_push _ _
  have hgk : ∀ b o, s.heap.get? b = some o → g.get? b = some o := fun b o e => by rw [← hg]; exact Heap.get?_push_of_some _ e
  have hgI : g.get? s.heap.objs.size = some { cls := .type "range_iterator", data := .fields #[rawInt 0, rawInt (Builtin.Range.rangeSize 0 n 1), rawInt 1] } := by rw [← hg]; exact Heap.get?_push_size _ rfl
  have hlen : (zs (List.range n)).length = n := by rw [zs_len, List.length_range]
  have W0 := LCg.range_walks (prog := prog) (w := w) (A := A.in1) (I := s.heap.objs.size) hh 0 n
  have W : Walks prog w A.in1 s.heap.objs.size [s.heap.objs.size] [s.heap.objs.size] (zs (List.range n)).length (fun i v => ∃ t, v = .int ((zs (List.range n)).getD i 0) t) (fun i h => IsRangeIter h s.heap.objs.size (0 + (i : Nat) * 1) ((n : Int) - (i : Nat)) 1) := by
    rw [hlen]
    exact { sub := W0.sub, frame := W0.frame, done := W0.done, self := W0.self,
            item := fun i s Q E hi st hQ => W0.item i s Q E hi st fun v h' tk hP => hQ v h' tk (by
              obtain ⟨t, rfl⟩ := hP
              refine ⟨t, ?_⟩
              rw [zs_getD, List.getD_eq_getElem?_getD, List.getElem?_range hi, Int.zero_add]
              rfl) }
  have main := br_loop (R := wants Q E) (I := s.heap.objs.size) (S := g.objs.size) W (zs_in fun k hk => by have := List.mem_range.mp hk; omega) (by rw [hlen, sizeLine_eq]; omega) (by rw [hgs]; exact Nat.ne_of_lt (Nat.lt_succ_self _)) (fun hm => by rw [hgs] at hm; exact absurd (List.mem_singleton.mp hm) (Nat.succ_ne_self _))
    (zs (List.range n)).length 0 { s with heap := g.push { cls := .type "bytearray", data := .bytearray #[] }, toks := s.toks + 1 + 1 } rfl (Nat.zero_le _) (by show (g.push _).get? _ = _; rw [Heap.get?_push_of_some _ hgI, hsz]; simp) (Heap.get?_push_size _ rfl)
    fun h' t k hk => hQ h' t k fun b o e => hk b o (Nat.ne_of_lt (Heap.lt_size e)) (by rw [hgs]; exact Nat.ne_of_lt (Nat.lt_succ_of_lt (Heap.lt_size e))) (Heap.get?_push_of_some _ (hgk b o e))
  first
    | exact wpAny_pure ⟨plainId_quiet PySem.F.bm_plain_loop _, main⟩
    | exact wpAny_pure (wpAny_pure ⟨plainId_quiet PySem.F.bm_plain_loop _, main⟩)
theorem call_bytes_range {r : Addr} {n : Nat} {t u v : Tok} {Q : Value → Shared → Prop} (hr : IsRange s.heap r 0 n 1 t u v) (hn : n ≤ 256) (hh : A.handled = none)
    (hQ : ∀ h' t k, (∀ b o, s.heap.get? b = some o → h'.get? b = some o) → Q (.bytes (Bt (List.range n)) t) { s with heap := h', toks := k }) : wpAny (model prog w) A (call (.type "bytes") [.ref r]) Q E s := by
  refine callType_codes (Q₁ := fun obj s₁ => s₁.TypeIs obj "bytes" ∧ Q obj s₁) PySem.F.bm_called (PySem.F.bm_typeCall _) PySem.F.entry_object_init
    (br_new hh hr hn fun h' t k hk => ⟨PySem.W.typeIs_bytes _ _ _, by show Q (.bytes ((zs (List.range n)).map fun n => n.toNat.toUInt8).toArray t) _; rw [zs_bytes]; exact hQ h' t k hk⟩) fun obj s₁ h₁ => ?_
  exact ⟨h₁.1, PySem.F.args_object_init_2 obj _, object_init_meets PySem.F.bm_called.init.lookup PySem.F.bm_called.made (by decide) prog w A.in1 _ s₁ ⟨h₁.1, rfl, h₁.2⟩⟩
theorem bytes_range_K {h₀ : Heap} {L : Addr} {m : Str → Option Value} {news : List (Addr × Obj)} {r : Addr} {n : Nat} {t u v : Tok} {Q : Value → Shared → Prop} (F : Fr h₀ L s.heap m) (N : News h₀ L s.heap news) (hr : IsRange s.heap r 0 n 1 t u v) (hn : n ≤ 256) (hh : A.handled = none)
    (h : ∀ h' t k, Fr h₀ L h' m → News h₀ L h' news → Q (.bytes (Bt (List.range n)) t) { s with heap := h', toks := k }) : wpAny (model prog w) A (call (.type "bytes") [.ref r]) Q E s :=
  call_bytes_range hr hn hh fun h' t k hk => h h' t k (F.keeps hk) (fun q hq => ⟨hk _ _ (N q hq).1, (N q hq).2⟩)
end
end Mine
end

namespace Mine
theorem rsLp : True ∧ True := by
  w_top off
  k_with_none
  first | (walk1; fail) | exact ⟨trivial, trivial⟩
end Mine
section
open PySem PySem.W PySem.Spec PySem.Calls PyProof.Rows
set_option Elab.async false
set_option maxRecDepth 100000
namespace Mine
section
variable {prog : Program} {w : World} {A : Around} {E : Value → Shared → Prop} {s : Shared} {env : Env} {h₀ : Heap} {x : Str} {body : List Stmt} {Q : Flow → Shared → Prop}
/-- a for over a range, by what holds ahead of each turn -/
theorem range_loop {I : Addr} {a : Int} {n : Nat} (J : Nat → (Str → Option Value) → List (Addr × Obj) → Prop)
    (step : ∀ i m1 nx t h tk, i < n → J i m1 nx → Fr h₀ env.locals h (fun y => if y = x then some (.int (a + (i : Int)) t) else m1 y) →
      News h₀ env.locals h ((I, itR (a + ((i + 1 : Nat) : Int)) ((n : Int) - ((i + 1 : Nat) : Int))) :: nx) →
      wpAny (model prog w) A (execs body env) (UnrPost h₀ env.locals { s with heap := h, toks := tk } I (itR (a + ((i + 1 : Nat) : Int)) ((n : Int) - ((i + 1 : Nat) : Int))) (fun m' n' => J (i + 1) m' n') Q) E { s with heap := h, toks := tk })
    (done : ∀ m1 nx h tk, J n m1 nx → Fr h₀ env.locals h m1 → News h₀ env.locals h nx → Q .next { s with heap := h, toks := tk }) :
    ∀ k i m nx, i + k = n → J i m nx → RangeRest prog w A E h₀ env x body Q s I a n k i m nx
  | 0, i, m, nx, hi, hj => fun h tk F N => done m nx h tk (by obtain rfl : i = n := by omega
                                                              exact hj) F N
  | k + 1, i, m, nx, hi, hj => fun t h tk F N => by
    refine wpAny_mono (step i m nx t h tk (by omega) hj F N) (fun f s' hf => ?_) fun _ _ e => e
    cases f with
    | ret v => exact hf
    | brk => exact hf
    | next => obtain ⟨h', tk', m', n', e, F', N', ho, hJ⟩ := hf; exact ⟨h', tk', m', n', e, F', N', ho, range_loop J step done k (i + 1) m' n' (by omega) hJ⟩
    | cont => obtain ⟨h', tk', m', n', e, F', N', ho, hJ⟩ := hf; exact ⟨h', tk', m', n', e, F', N', ho, range_loop J step done k (i + 1) m' n' (by omega) hJ⟩
/-- the same over a list of the ledger -/
theorem list_loop {I : Addr} {lp : Addr × Obj} (J : List Value → (Str → Option Value) → List (Addr × Obj) → Prop)
    (step : ∀ v rs m1 nx it h tk, it.cls = .type "list_iterator" → J (v :: rs) m1 nx → Fr h₀ env.locals h (fun y => if y = x then some v else m1 y) → News h₀ env.locals h ((I, it) :: nx) →
      wpAny (model prog w) A (execs body env) (UnrPost h₀ env.locals { s with heap := h, toks := tk } I it (fun m' n' => lp ∈ n' ∧ J rs m' n') Q) E { s with heap := h, toks := tk })
    (done : ∀ m1 nx h tk, J [] m1 nx → Fr h₀ env.locals h m1 → News h₀ env.locals h nx → Q .next { s with heap := h, toks := tk }) :
    ∀ vs m nx, J vs m nx → ListRest prog w A E h₀ env x body Q s I lp vs m nx
  | [], m, nx, hj => fun h tk F N => done m nx h tk hj F N
  | v :: r, m, nx, hj => fun it h tk hit F N => by
    refine wpAny_mono (step v r m nx it h tk hit hj F N) (fun f s' hf => ?_) fun _ _ e => e
    cases f with
    | ret v => exact hf
    | brk => exact hf
    | next => obtain ⟨h', tk', m', n', e, F', N', ho, hl, hJ⟩ := hf; exact ⟨h', tk', m', n', e, F', N', ho, hl, list_loop J step done r m' n' hJ⟩
    | cont => obtain ⟨h', tk', m', n', e, F', N', ho, hl, hJ⟩ := hf; exact ⟨h', tk', m', n', e, F', N', ho, hl, list_loop J step done r m' n' hJ⟩
theorem range_for {r : Addr} {a b : Int} {t u v : Tok} {n : Nat} {m₀ : Str → Option Value} {news : List (Addr × Obj)} (J : Nat → (Str → Option Value) → List (Addr × Obj) → Prop)
    (hh : A.handled = none) (hr : IsRange s.heap r a b 1 t u v) (hsm : Builtin.Range.small a b 1 = true) (hn : Builtin.Range.rangeSize a b 1 = (n : Int)) (F : Fr h₀ env.locals s.heap m₀) (N : News h₀ env.locals s.heap news) (hj : J 0 m₀ news)
    (step : ∀ I, (∀ p ∈ news, @LT.lt Nat _ p.1 I) → ∀ i m1 nx t h tk, i < n → J i m1 nx → Fr h₀ env.locals h (fun y => if y = x then some (.int (a + (i : Int)) t) else m1 y) →
      News h₀ env.locals h ((I, itR (a + ((i + 1 : Nat) : Int)) ((n : Int) - ((i + 1 : Nat) : Int))) :: nx) →
      wpAny (model prog w) A (execs body env) (UnrPost h₀ env.locals { s with heap := h, toks := tk } I (itR (a + ((i + 1 : Nat) : Int)) ((n : Int) - ((i + 1 : Nat) : Int))) (fun m' n' => J (i + 1) m' n') Q) E { s with heap := h, toks := tk })
    (done : ∀ m1 nx h tk, J n m1 nx → Fr h₀ env.locals h m1 → News h₀ env.locals h nx → Q .next { s with heap := h, toks := tk }) :
    wpAny (model prog w) A (pyIter (.ref r)) (fun it s₂ => LoopAtV prog w A h₀ env x body Q E it s₂) E s :=
  iter_rangeUnr hh hr hsm hn F N fun I hI => range_loop J (step I hI) done n 0 m₀ news (by omega) hj
theorem list_for {ax : Addr} {lo : Obj} {vs : List Value} {n : Nat} {m₀ : Str → Option Value} {news : List (Addr × Obj)} (J : List Value → (Str → Option Value) → List (Addr × Obj) → Prop)
    (hh : A.handled = none) (F : Fr h₀ env.locals s.heap m₀) (N : News h₀ env.locals s.heap news) (hm : (ax, lo) ∈ news) (hc : lo.cls = .type "list") (hd : lo.data = .seq vs.toArray n) (hj : J vs m₀ news)
    (step : ∀ I, (∀ p ∈ news, @LT.lt Nat _ p.1 I) → ∀ v rs m1 nx it h tk, it.cls = .type "list_iterator" → J (v :: rs) m1 nx → Fr h₀ env.locals h (fun y => if y = x then some v else m1 y) → News h₀ env.locals h ((I, it) :: nx) →
      wpAny (model prog w) A (execs body env) (UnrPost h₀ env.locals { s with heap := h, toks := tk } I it (fun m' n' => (ax, lo) ∈ n' ∧ J rs m' n') Q) E { s with heap := h, toks := tk })
    (done : ∀ m1 nx h tk, J [] m1 nx → Fr h₀ env.locals h m1 → News h₀ env.locals h nx → Q .next { s with heap := h, toks := tk }) :
    wpAny (model prog w) A (pyIter (.ref ax)) (fun it s₂ => LoopAtV prog w A h₀ env x body Q E it s₂) E s :=
  iter_listUnr hh F N hm hc hd fun I hI => list_loop J (step I hI) done vs m₀ news hj
end
end Mine
end

namespace Mine
theorem rsEn : True ∧ True := by
  w_top off
  k_with_none
  first | (walk1; fail) | exact ⟨trivial, trivial⟩
end Mine
section
open PySem PySem.W PySem.Spec PySem.Calls PyProof.Rows
set_option Elab.async false
set_option maxRecDepth 100000
namespace Mine
/-- the law itself is entered: a def with cells, called from without -/
theorem call_cells_N {prog : Program} {w : World} {A : Around} {R : Result → Shared → Prop} {s : Shared} {name : Str} {params : Arguments} {body : List Stmt} {scope : Scope}
    {pm cd doc : Value} {a : Addr} {o : Obj} {args : List Value} {binds : List (Str × Value)}
    (hroom : A.depth < recursionLimit) (ho : s.heap.get? a = some o) (hdata : o.data = .func (Calls.docDef name params body scope pm cd doc)) (hlim : s.heap.NoLimit) (hcd : s.heap.CodeRec cd name)
    (hbind : bindArgs (Calls.docDef name params body scope pm cd doc) ⟨args, []⟩ = pure binds)
    (hkind : (binds.all fun y => scope.names.lookup y.1 == some .local || scope.names.lookup y.1 == some .cell) = true)
    (hnd : ((cellsFrom 0 scope.names []).map (·.1)).Nodup)
    (h : ∀ h₁ tk cells, Fr s.heap s.heap.objs.size h₁ (bindL (envOfC name scope s.heap.objs.size a cd).kindOf binds fun _ => none) → News s.heap s.heap.objs.size h₁ cells →
      CellsAre (bindC (envOfC name scope s.heap.objs.size a cd).kindOf binds fun _ => none) (cellsFrom (s.heap.objs.size + 1) scope.names []) cells →
      wpN (model prog w) (A.deeper (envOfC name scope s.heap.objs.size a cd)) (execs body (envOfC name scope s.heap.objs.size a cd))
        (fun f s' => R (.ok (.ret (match f with | .ret v => v | _ => .none))) s') (fun _ _ => False) { s with heap := h₁, toks := tk })
    (hco : scope.isCoroutine = false := by rfl) (hgen : scope.isGenerator = false := by rfl) (hk : scope.kind = .function := by rfl) :
    codeN (model prog w) A (.call (.ref a) ⟨args, []⟩) R s := by
  refine codeN_call_function hroom ho hdata hco hgen rfl hcd ((BindsTo.of_eq hbind) _ _ _ _ ?_)
  refine wpAny_newFunctionEnv_cells hk (kindsX hkind _) fun env' he s' x => ?_
  subst he
  refine ⟨hlim.keeps x.toInCall.keep, codeN_func ?_⟩
  obtain ⟨h₁, tk, rfl, _⟩ := x.done
  have hk₁ := x.toInCall.keep
  obtain ⟨cells, NC, Y⟩ := Cl.news (h₀ := s.heap) (Nat.le_refl _) fun n c hm => ⟨x.cell n c (lookup_of_mem_nodup (cellsFrom_names scope.names 0 (s.heap.objs.size + 1) [] [] rfl ▸ hnd) hm), x.above n c hm⟩
  exact h h₁ tk cells ⟨x.toInCall.ns, hk₁, Nat.le_refl _⟩ NC Y
/-- the end of a law whose text holds tables: what is wanted, by what the walk shows -/
theorem post_of {prog : Program} {w : World} {f : Flow} {s₁ s' : Shared} {cw : ClaimW} {cl : Str → Option Addr} {mean : ExcName → Option Value} {args : List WData} {tabs : List (Addr × Addr)} (hT : TabsAt tabs s₁.heap) (hr : ∀ a x, cw.raises a x = false)
    (h : GoodW cw cl mean args { s₁ with heap := ghostOf s₁.heap tabs } (.ok f) s' ∧ GrownAll tabs s'.heap) : GoodWG cw cl mean args s₁ (.ok f) s' := by
  have k := kn_post (M := ⟨fun _ => pure (.done f), prog, w⟩) (A := {}) (cd := .builtin "claim.caller" {}) (s := s') hT hr (codeAny_of_tree (wpAny_pure h))
  have k2 := k ⟨.builtin "claim.caller" {}, none, none, [], none⟩ default rfl ⟨rfl, Nat.zero_le _, fun l hl => (nomatch hl), fun g hg => (nomatch hg), Nat.zero_le _⟩
  rw [wpCode_iff_wp] at k2
  exact k2
end Mine
end

namespace Mine
theorem rsLi : True ∧ True := by
  w_top off
  k_with_none
  first | (walk1; fail) | exact ⟨trivial, trivial⟩
end Mine
section
open PySem PySem.W PySem.Spec PySem.Calls PyProof.Rows
set_option Elab.async false
set_option maxRecDepth 100000
namespace Mine
section
variable {prog : Program} {w : World} {A : Around} {E : Value → Shared → Prop} {s : Shared} {h₀ : Heap} {L l : Addr} {m : Str → Option Value} {news : List (Addr × Obj)} {vs : List Value} {ns : List Int} {ks : List Nat}
theorem len_ints {Q : Value → Shared → Prop} (hl : s.heap.IsList l vs.toArray) (hi : IntsAre vs ns) (hz : ns.length ≤ 1000) (h : Q (.int (ns.length : Nat) (s.toks + 1)) { s with toks := s.toks + 1 + 1 }) : wpAny (model prog w) A (call (.builtin "len") [.ref l]) Q E s := by
  have e : vs.toArray.size = ns.length := by rw [List.size_toArray, hi.length]
  exact call_len_list hl (by rw [e]; omega) (by rw [e]; exact h)
theorem len_zs {Q : Value → Shared → Prop} (hl : s.heap.IsList l vs.toArray) (hi : IntsAre vs (zs ks)) (hz : ks.length ≤ 1000) (h : Q (.int (ks.length : Nat) (s.toks + 1)) { s with toks := s.toks + 1 + 1 }) : wpAny (model prog w) A (call (.builtin "len") [.ref l]) Q E s :=
  len_ints hl hi (by rw [zs_len]; exact hz) (by rw [zs_len]; exact h)
theorem cut_ints : ∀ {vs : List Value} {ns : List Int}, IntsAre vs ns → ∀ k, k < ns.length → ∃ p q t, kl_cut vs k = some (p, Value.int (ns.getD k 0) t, q) ∧ IntsAre (p ++ q) (ns.eraseIdx k)
  | _, _, .nil, k, h => absurd h (Nat.not_lt_zero _)
  | _, _, .cons n t r, 0, _ => ⟨[], _, t, rfl, r⟩
  | _, _, .cons n t r, k + 1, h => by
    obtain ⟨p, q, u, e, hi⟩ := cut_ints r k (Nat.lt_of_succ_lt_succ h)
    refine ⟨Value.int n t :: p, q, u, ?_, ?_⟩
    · rw [kl_cut, e]
      rfl
    · exact .cons n t hi
theorem pop_ints {D : Addr} {n : Nat} {i : Int} {u : Tok} {rest : List (Addr × Obj)} {Q : Value → Shared → Prop} (F : Fr h₀ L s.heap m) (N : News h₀ L s.heap ((D, listOf vs.toArray n) :: rest)) (hne : ∀ p ∈ rest, p.1 ≠ D) (hi : IntsAre vs ns) (h0 : 0 ≤ i) (h1 : i < (ns.length : Int)) (hz : ns.length ≤ 1000)
    (h : ∀ h' vs' t, Fr h₀ L h' m → News h₀ L h' ((D, listOf (List.toArray vs') (n + 1)) :: rest) → IntsAre vs' (ns.eraseIdx i.toNat) → Q (.int (ns.getD i.toNat 0) t) { s with heap := h' }) : wpAny (model prog w) A (call (.builtin "list.pop") [.ref D, .int i u]) Q E s := by
  have hsz : vs.toArray.size = ns.length := by rw [List.size_toArray, hi.length]
  obtain ⟨p, q, t, e, hI⟩ := cut_ints hi i.toNat (by omega)
  refine kl_popAt (k := i.toNat) F N ?_ ?_ e (Upd.head hne) ?_ fun h' F' N' => h h' _ t F' N' hI
  · simp [Builtin.List.listFitsIndex]; omega
  · simp only [seqIndex?]
    rw [if_neg (by omega : ¬ i < 0), hsz]
    simp [h0, h1]
  · show vs.length ≤ sizeLine
    rw [hi.length, sizeLine_eq]
    omega
end
end Mine
end

namespace Mine
theorem rsLo : True ∧ True := by
  w_top off
  k_with_none
  first | (walk1; fail) | exact ⟨trivial, trivial⟩
end Mine
section
open PySem PySem.W PySem.Spec PySem.Calls PyProof.Rows
set_option Elab.async false
set_option maxRecDepth 100000
namespace Mine
section
variable {prog : Program} {w : World} {A : Around} {E : Value → Shared → Prop} {s : Shared} {env : Env} {h₀ : Heap} {x : Str} {body : List Stmt} {Q : Flow → Shared → Prop}
/-- a for over a list of the ledger, by what holds ahead of each turn; the iterator is none of what the turn knows -/
theorem list_forO {ax : Addr} {lo : Obj} {vs : List Value} {n : Nat} {m₀ : Str → Option Value} {news : List (Addr × Obj)} (Jc : List Value → (Str → Option Value) → List (Addr × Obj) → Prop)
    (hh : A.handled = none) (F : Fr h₀ env.locals s.heap m₀) (N : News h₀ env.locals s.heap news) (hm : (ax, lo) ∈ news) (hc : lo.cls = .type "list") (hd : lo.data = .seq vs.toArray n) (hj : Jc vs m₀ news)
    (step : ∀ I, (∀ p ∈ news, @LT.lt Nat _ p.1 I) → ∀ v rs m1 nx it h tk, it.cls = .type "list_iterator" → (ax, lo) ∈ nx → (∀ p ∈ nx, p.1 ≠ I) → Jc (v :: rs) m1 nx → Fr h₀ env.locals h (fun y => if y = x then some v else m1 y) → News h₀ env.locals h ((I, it) :: nx) →
      wpAny (model prog w) A (execs body env) (UnrPost h₀ env.locals { s with heap := h, toks := tk } I it (fun m' n' => (ax, lo) ∈ n' ∧ Jc rs m' n') Q) E { s with heap := h, toks := tk })
    (done : ∀ m1 nx h tk, (ax, lo) ∈ nx → Jc [] m1 nx → Fr h₀ env.locals h m1 → News h₀ env.locals h nx → Q .next { s with heap := h, toks := tk }) :
    wpAny (model prog w) A (pyIter (.ref ax)) (fun it s₂ => LoopAtV prog w A h₀ env x body Q E it s₂) E s := by
  have hax := N _ hm
  have hl : s.heap.IsList ax vs.toArray := ⟨lo, hax.1, hc, n, hd⟩
  have hlt : ax < s.heap.objs.size := Heap.lt_size hax.1
  have hne : ax ≠ s.heap.objs.size := Nat.ne_of_lt hlt
  refine wpAny_pyIter_list hl ?_
  have st := step s.heap.objs.size fun p hp => Heap.lt_size (N p hp).1
  have W := Walks.list (prog := prog) (w := w) hh s.heap.objs.size ax hne vs.toArray
  have hnew := next_is_new F
  have hlen : vs.toArray.size = vs.length := by simp
  rw [hlen] at W
  let J : Nat → (Str → Option Value) → List (Addr × Obj) → Prop := fun i m₁ nx => (ax, lo) ∈ nx ∧ Jc (vs.drop i) m₁ nx
  refine ⟨_, _, _, vs.length, _, _, m₀, news, J, rfl, W, ?_, ?_, ?_, ⟨⟨_, Heap.get?_push_size _ rfl, rfl, rfl⟩, hl.at fun o e => Heap.get?_push_of_some _ e⟩, F.push _, (fun p hp => ⟨Heap.get?_push_of_some _ (N p hp).1, (N p hp).2⟩), ⟨hm, by rw [List.drop_zero]; exact hj⟩, ?_, ?_⟩
  · intro hmm
    rcases List.mem_cons.mp hmm with e | hmm
    · exact absurd F.ns.lt (e ▸ Nat.lt_irrefl _)
    · exact hax.2.1 (List.mem_singleton.mp hmm).symm
  · intro b hb
    rw [List.mem_singleton.mp hb]
    exact hnew
  · intro p hp hI
    exact absurd (Heap.lt_size (N p hp).1) ((List.mem_singleton.mp hI) ▸ Nat.lt_irrefl _)
  · rintro i v m₁ nx s₁ own ⟨hh', tk', rfl⟩ hin hP ⟨hmem₁, hJ⟩ hoff hown hget hall hst F₁ N₁
    obtain ⟨it, hit, hic, hid⟩ := hst.1
    have hmemI := hall s.heap.objs.size (List.mem_cons_self ..) hnew _ hit
    have hdrop : vs.drop i = v :: vs.drop (i + 1) := by
      have hlt' : i < vs.length := hin
      have hv : vs[i]? = some v := by simpa using hP
      rw [List.drop_eq_getElem_cons hlt']
      congr 1
      exact Option.some.inj ((List.getElem?_eq_getElem hlt').symm.trans hv)
    rw [hdrop] at hJ
    have N₂ : News h₀ env.locals hh' ((s.heap.objs.size, it) :: nx) := fun p hp => by
      rcases List.mem_cons.mp hp with rfl | hp
      · exact N₁ _ (List.mem_append_left _ hmemI)
      · exact N₁ _ (List.mem_append_right _ hp)
    refine wpAny_mono (st v (vs.drop (i + 1)) m₁ nx it hh' tk' hic hmem₁ (fun p hp e => hoff p hp (List.mem_singleton.mpr e)) hJ F₁ N₂) (fun f s₂ p => ?_) fun _ _ e => e
    have fin : UnrEnd h₀ env.locals { s with heap := hh', toks := tk' } s.heap.objs.size it (fun m' n' => (ax, lo) ∈ n' ∧ Jc (vs.drop (i + 1)) m' n') s₂ →
        LoopStepU h₀ env.locals [s.heap.objs.size] own (J (i + 1)) { s with heap := hh', toks := tk' } .next s₂ := by
      rintro ⟨h', tk, m', n', e, F', N', ho, hmm, r⟩
      refine ⟨rfl, h', tk, m', n', e, F', fun p hp => ?_, fun p hp hI => ho p hp (List.mem_singleton.mp hI), hmm, r⟩
      rcases List.mem_append.mp hp with hp | hp
      · have h2 : hh'.get? p.1 = some p.2 := hget p hp
        rcases List.mem_cons.mp (hown p hp) with h1 | h1
        · have h3 : p = (s.heap.objs.size, it) := by
            rw [h1, hit] at h2
            exact Prod.ext h1 (Option.some.inj h2).symm
          rw [h3]; exact N' _ (List.mem_cons_self ..)
        · have h1' : p.1 = ax := List.mem_singleton.mp h1
          have h3 : p = (ax, lo) := by
            rw [h1', (N₁ _ (List.mem_append_right _ hmem₁)).1] at h2
            exact Prod.ext h1' (Option.some.inj h2).symm
          rw [h3]; exact N' _ (List.mem_cons_of_mem _ hmm)
      · exact N' _ (List.mem_cons_of_mem _ hp)
    cases f with
    | ret v => exact .ret p
    | brk => exact .brk p
    | next => exact .next (fin p)
    | cont => exact .cont (fin p)
  · rintro h' tk m' n' F' N' _ ⟨hm', hJ⟩
    have z : vs.drop vs.length = [] := List.drop_length
    rw [z] at hJ
    exact done m' n' h' tk hm' hJ F' N'
end
end Mine
end

namespace Mine
theorem rsBi : True ∧ True := by
  w_top off
  k_with_none
  first | (walk1; fail) | exact ⟨trivial, trivial⟩
end Mine
section
open PySem PySem.W PySem.Spec PySem.Calls PyProof.Rows
set_option Elab.async false
set_option maxRecDepth 100000
namespace Mine
theorem bx_slot : Slot "bytes" "index" "bytes.index" :=
  .of (owner := "bytes") (n := "index") (by rw [typeLookup_type, builtinLookup_eq_fast]; kernel_rfl) (by decide +kernel) (by decide +kernel) (by decide +kernel)
    (by first | exact .inl (by decide +kernel) | exact .inr (by decide +kernel)) (by rw [isSubtype_type]; kernel_rfl)
theorem bx_type : typeOf (.builtin "bytes.index") = pure (.type "method_descriptor") := by show builtinType _ = _; rw [builtinType_eq_fast]; kernel_rfl
theorem bx_entry : entryFor table "bytes.index" = some Builtin.«bytes.index» := entryFor_of_tree (by kernel_rfl)
theorem bx_args (a b : Value) : argsOk "bytes.index" ⟨[a, b], []⟩ := by unfold argsOk; kernel_rfl
theorem bx_some (a b : Value) : selfAndSome "bytes.index" "index" 1 3 ⟨[a, b], []⟩ = pure (a, [b]) := by kernel_rfl
theorem bx_no_buffer : typeLookup (.type "int") "__buffer__" = pure none := by rw [typeLookup_type, builtinLookup_eq_fast]; kernel_rfl
theorem pos_lt {k : Nat} : ∀ {l : List Nat}, k ∈ l → posN k l < l.length
  | a :: r, h => by
    rw [posN]
    by_cases e : a = k
    · simp [e]
    · have : k ∈ r := by
        rcases List.mem_cons.mp h with rfl | h
        · exact absurd rfl e
        · exact h
      have := pos_lt this
      simp [e]
      omega
theorem pos_at {k : Nat} : ∀ {l : List Nat}, k ∈ l → l[posN k l]? = some k
  | a :: r, h => by
    rw [posN]
    by_cases e : a = k
    · simp [e]
    · have : k ∈ r := by
        rcases List.mem_cons.mp h with rfl | h
        · exact absurd rfl e
        · exact h
      simp [e, pos_at this]
theorem pos_first {k : Nat} : ∀ {l : List Nat} {j : Nat}, j < posN k l → l[j]? ≠ some k
  | [], _, h => by simp [posN] at h
  | a :: r, j, h => by
    rw [posN] at h
    by_cases e : a = k
    · simp [e] at h
    · simp [e] at h
      cases j with
      | zero => simpa using e
      | succ j =>
        simp only [List.getElem?_cons_succ]
        exact pos_first (by omega)
theorem pos_mem {k : Nat} : ∀ {l : List Nat}, posN k l < l.length → k ∈ l
  | [], h => by simp [posN] at h
  | a :: r, h => by
    rw [posN] at h
    by_cases e : a = k
    · rw [e]; exact .head _
    · simp [e] at h
      exact .tail _ (pos_mem h)
theorem ext_one {l : List Nat} {i k : Nat} (hl : ∀ q ∈ l, q < 256) (hk : k < 256) (hi : i < l.length) : ((Bt l).extract i (i + 1) == #[UInt8.ofNat k]) = (l[i]? == some k) := by
  have e : (Bt l).extract i (i + 1) = Bt [l[i]] := by
    apply Array.toList_inj.mp
    simp only [Bt, Array.toList_extract, List.extract_eq_take_drop, Nat.add_sub_cancel_left]
    rw [← List.map_drop, ← List.map_take, List.drop_eq_getElem_cons hi]
    rfl
  have e2 : #[UInt8.ofNat k] = Bt [k] := rfl
  rw [e, e2, List.getElem?_eq_getElem hi, Bool.eq_iff_iff]
  simp only [beq_iff_eq, Option.some.injEq]
  constructor
  · intro h
    have := Bt_inj (fun q hq => by rw [List.mem_singleton.mp hq]; exact hl _ (List.getElem_mem hi)) (fun q hq => by rw [List.mem_singleton.mp hq]; exact hk) h
    simpa using this
  · intro h
    rw [h]
theorem find_pos {l : List Nat} {k : Nat} (hl : ∀ q ∈ l, q < 256) (hk : k ∈ l) : Builtin.Bytes.find? (Bt l) #[UInt8.ofNat k] 0 (Bt l).size = some (posN k l) := by
  unfold Builtin.Bytes.find?
  have e : (Bt l).size + 1 - (0 + (#[UInt8.ofNat k] : Array UInt8).size) = l.length := by rw [Bt_size]; simp
  rw [e]
  have e2 : (List.range l.length).map (· + 0) = List.range l.length := by simp
  rw [e2, List.find?_range_eq_some]
  have hp := pos_lt hk
  refine ⟨?_, List.mem_range.mpr hp, fun j hj => ?_⟩
  · show ((Bt l).extract _ (_ + 1) == _) = true
    rw [ext_one hl (hl k hk) hp, pos_at hk]
    simp
  · show (!((Bt l).extract j (j + 1) == #[UInt8.ofNat k])) = true
    rw [ext_one hl (hl k hk) (by omega)]
    simpa using pos_first hj
section
variable {prog : Program} {w : World} {A : Around} {E : Value → Shared → Prop} {s : Shared}
theorem index_Bt {l : List Nat} {k : Nat} {t u : Tok} {Q : Value → Shared → Prop} (hl : ∀ q ∈ l, q < 256) (hk : k ∈ l) (h : ∀ t', Q (.int (posN k l : Nat) t') { s with toks := s.toks + 1 }) :
    wpAny (model prog w) A (call (.builtin "bytes.index") [.bytes (Bt l) t, .int (k : Nat) u]) Q E s := by
  have hk2 := hl k hk
  refine wpAny_call_entry bx_slot (typeIs_bytes _ _ _) bx_entry ?_ (bx_args _ _)
  show wpAny _ _ (Builtin.Bytes.searchM .bytes "index" false true ⟨[.bytes (Bt l) t, .int (k : Nat) u], []⟩) _ _ _
  unfold Builtin.Bytes.searchM Builtin.Bytes.searchArgs
  refine wpAny_bind (wpAny_bind (wpAny_of_eq (bx_some _ _) ?_))
  dsimp only
  refine wpAny_bind (wpAny_of_eq (a := none) rfl ?_)
  refine wpAny_bind (wpAny_of_eq (a := none) rfl ?_)
  refine wpAny_bind ?_
  refine wpAny_bind ?_
  refine wpAny_specialOf (typeIs_int _ _ u) bx_no_buffer ?_
  refine wpAny_bind (wpAny_specialOf (typeIs_int _ _ u) bx_no_buffer ?_)
  refine wpAny_pure ?_
  dsimp only
  refine wpAny_bind (wpAny_specialOf (name := Str.ofString "__index__") (typeIs_int _ _ u) PySem.F.slot_int_index.lookup ?_)
  refine bm_if_false rfl ?_
  refine wpAny_bind (wpAny_of_eq (a := (k : Int)) rfl ?_)
  refine bm_if_false (by simp; omega) ?_
  refine wpAny_pure ?_
  have hp := pos_lt hk
  have hw : Builtin.Bytes.window (Bt l).size none none = (0, ((Bt l).size : Int)) := by
    unfold Builtin.Bytes.window
    simp only [Option.getD_none, Int.lt_irrefl, if_false]
    rw [if_neg (by omega), Int.min_self]
  rw [hw]
  have hf := find_pos hl hk
  have hs : ¬ (((Bt l).size : Int) - 0 < (((#[(k : Int).toNat.toUInt8] : Array UInt8)).size : Int)) := by
    rw [Bt_size]
    show ¬ ((l.length : Int) - 0 < 1)
    omega
  dsimp only
  rw [if_neg hs]
  show wpAny _ _ (match (some (0, (Bt l).size)).bind fun (x : Nat × Nat) => Builtin.Bytes.find? (Bt l) #[UInt8.ofNat k] x.1 x.2 with | some i => retInt i | none => _) _ _ _
  rw [show ((some (0, (Bt l).size)).bind fun (x : Nat × Nat) => Builtin.Bytes.find? (Bt l) #[UInt8.ofNat k] x.1 x.2) = some (posN k l) from hf]
  dsimp only
  unfold retInt
  exact wpAny_bind (wpAny_mkInt (wpAny_pure ⟨_, rfl, h _⟩))
theorem method_index {M : Model} {b : Array UInt8} {t : Tok} {pl : Sem Bool} {Q : Value × List Value → Shared → Prop} (h : Q (.builtin "bytes.index", [.bytes b t]) s) : wpAny M A (getMethod (.bytes b t) (Str.ofString "index") pl) Q E s :=
  KBd.method_of (.bytes b t) (typeIs_bytes _ _ _) bx_slot bx_type KBd.noRef h
end
end Mine
end

namespace Mine
theorem rsCN : True ∧ True := by
  w_top off
  k_with_none
  first | (walk1; fail) | exact ⟨trivial, trivial⟩
end Mine
section
open PySem PySem.W PySem.Spec PySem.Calls PyProof.Rows
set_option Elab.async false
set_option maxRecDepth 100000
namespace Mine
section
variable {prog : Program} {w : World} {A : Around} {E : Value → Shared → Prop} {s : Shared} {h₀ : Heap} {L : Addr} {m : Str → Option Value} {env : Env} {news : List (Addr × Obj)}
/-- a comprehension whose source is at hand -/
theorem comp_src {elt iter : Expr} {x : Str} {px : Pos} {scope : Scope} {cl : List (Str × Addr)} {pos p0 : Pos} {xv : Value} {Q : Value → Shared → Prop}
    (hclos : closureFor scope env = pure cl) (hcell : ∀ y ∈ scope.names, y.2 ≠ .cell) (hkind : scope.kind = .function)
    (hnames : ∀ y ∈ scope.names, y.2 = .local → scope.names.lookup y.1 = some .local) (hx : scope.names.lookup x = some .local)
    (h₁ : CSrc prog w A h₀ L m env elt x scope cl (fun s₂ => LCg.FinE h₀ L m s₂ Q) xv s)
    (hs : ∀ x, foldedSetIterable iter env x = pure x) :
    wpAny (model prog w) A (comprehension (.ListComp elt [⟨.Name x px, iter, [], 0⟩] scope pos) scope env p0 (newList []) false (pure xv)) Q E s := by
  refine wpAny_comprehension_free (use := none) rfl hs hclos hkind hnames (wpAny_pure ?_)
  obtain ⟨n, P, S, nw, src, hsz, F, N, hS, R⟩ := h₁
  refine src _ _ fun I fp St s₂ he W hIo hSt hst hfp up hIL hI₀ off => ?_
  refine LCg.block_U W hsz hIo hSt hcell hkind hx hst hfp (F.keeps up) (N.grown up) hIL hI₀ off hS (R _ he) ?_
  intro D C h tk m' ys news' F' N' o1 hn hC₀ hD₀ hCL hDL hCD offC fin
  refine ⟨m', hn, fun h'' hs'' => fin D h'' tk (F'.change hs'' hCL hC₀) (fun p hp => ?_) o1⟩
  refine ⟨hs''.extBut _ _ ?_ (N' p hp).1, (N' p hp).2⟩
  rcases List.mem_cons.mp hp with rfl | hp
  · exact Ne.symm hCD
  · exact offC p hp
/-- the same, its source reckoned in wpN -/
theorem ListComp_SN {elt iter : Expr} {x : Str} {px : Pos} {scope : Scope} {cl : List (Str × Addr)} {pos : Pos} {Q : Value → Shared → Prop} (_F₀ : Fr h₀ L s.heap m)
    (hclos : closureFor scope env = pure cl) (hcell : ∀ y ∈ scope.names, y.2 ≠ .cell) (hkind : scope.kind = .function)
    (hnames : ∀ y ∈ scope.names, y.2 = .local → scope.names.lookup y.1 = some .local) (hx : scope.names.lookup x = some .local)
    (h : wpN (model prog w) A (eval iter env) (CSrc prog w A h₀ L m env elt x scope cl (fun s₂ => LCg.FinE h₀ L m s₂ Q)) E s)
    (hs : ∀ x, foldedSetIterable iter env x = pure x := by intro _; rfl) :
    wpN (model prog w) A (eval (.ListComp elt [⟨.Name x px, iter, [], 0⟩] scope pos) env) Q E s := by
  rw [eval_ListComp]
  unfold comprehension
  refine wpN_bind (wpN_mono h (fun xv s₁ h₁ => wpN_of_any ?_) fun _ _ e => e)
  have k := comp_src (prog := prog) (w := w) (A := A) (E := E) (s := s₁) (px := px) (pos := pos) (p0 := firstIterPos [⟨.Name x px, iter, [], 0⟩] pos) hclos hcell hkind hnames hx h₁ hs
  unfold comprehension at k
  exact k
end
end Mine
end

namespace Mine
theorem rsBV : True ∧ True := by
  w_top off
  k_with_none
  first | (walk1; fail) | exact ⟨trivial, trivial⟩
end Mine
section
open PySem PySem.W PySem.Spec PySem.Calls PyProof.Rows
set_option Elab.async false
set_option maxRecDepth 100000
namespace Mine
theorem sliced_rev (b : Array UInt8) : Builtin.Bytes.sliced b ((b.size : Int) - 1) (-1) (-1) = b.reverse := by
  unfold Builtin.Bytes.sliced
  rw [krv_sliceRange, krv_range, List.filterMap_reverse, krv_all]
  apply Array.toList_inj.mp
  simp
theorem meets_rev (b : Array UInt8) (t : Tok) (a : Addr) (u : Tok) :
    Meets (Builtin.«bytes.__getitem__» ⟨[.bytes b t, .ref a], []⟩) (fun _ R s => s.heap.IsSliceOf a .none .none (.int (-1) u) ∧ b.size ≤ sizeLine ∧ ∀ t' k, R (.ok (.ret (.bytes b.reverse t'))) { s with toks := k }) := by
  refine .of_wp fun prog w A R s hS => ?_
  obtain ⟨⟨o, ho, hc, hd⟩, hsz, h⟩ := hS
  have hT : s.TypeIs (.ref a) "slice" := ⟨o, ho, hc⟩
  show wpAny _ _ (Builtin.Bytes.payload (.bytes b t) >>= fun r => _) _ _ s
  refine wpAny_bind (wpAny_of_eq (a := b) rfl ?_)
  show wpAny _ _ (Builtin.Bytes.subscript? (.ref a) >>= fun r => _) _ _ s
  refine wpAny_bind ?_
  unfold Builtin.Bytes.subscript?
  refine wpAny_bind (wpAny_specialOf hT slice_no_index (wpAny_pure ?_))
  refine wpAny_bind (wpAny_typeOf hT ?_)
  show wpAny _ _ (Builtin.Bytes.sliceParts (.ref a) >>= fun r => _) _ _ s
  refine wpAny_bind ?_
  unfold Builtin.Bytes.sliceParts
  refine wpAny_bind (wpAny_field (x := .int (-1) u) ho hd rfl ?_)
  refine wpAny_bind (wpAny_ite (KBy.ite_no (show ¬ ((Value.int (-1) u == Value.none) = true) from Bool.false_ne_true) ?_))
  refine wpAny_bind (wpAny_specialOf (T := "int") (typeIs_int _ _ _) PySem.F.slot_int_index.lookup ?_)
  refine wpAny_ite (KBy.ite_no (show ¬ (Option.isNone (some _) = true) from Bool.false_ne_true) ?_)
  refine wpAny_bind (wpAny_of_eq (a := (-1 : Int)) rfl (wpAny_pure ?_))
  refine wpAny_ite (KBy.ite_no (show ¬ ((rawInt (-1) == rawInt 0) = true) by decide) ?_)
  refine wpAny_bind (wpAny_field (x := .none) ho hd rfl ?_)
  refine wpAny_bind (wpAny_of_eq (a := Value.none) rfl ?_)
  refine wpAny_bind (wpAny_field (x := .none) ho hd rfl ?_)
  refine wpAny_bind (wpAny_of_eq (a := Value.none) rfl ?_)
  refine wpAny_pure ?_
  have go : wpAny (model prog w) A.in1 (sliceIndices (rawPart none) (rawPart none) (rawPart (some (-1))) b.size) (fun r s' => r = sliceBounds none none (some (-1)) b.size ∧ s' = s) (fun _ _ => False) s :=
    wpAny_of_eq (sliceIndices_raw none none (some (-1)) b.size (by decide)) ⟨rfl, rfl⟩
  refine wpAny_bind (wpAny_mono go (fun r s' hr => ?_) fun _ _ e => e.elim)
  obtain ⟨hr1, hr2⟩ := hr
  subst hr1 hr2
  rw [krv_bounds]
  refine wpAny_ite (KBy.ite_no (by simp) ?_)
  dsimp only
  rw [sliced_rev]
  exact wpAny_bind (wpAny_mkBytes (wpAny_pure ⟨_, rfl, h _ _⟩) (by rw [Array.size_reverse]; exact hsz))
section
variable {prog : Program} {w : World} {A : Around} {E : Value → Shared → Prop} {s : Shared} {value slice : PySem.Expr} {h₀ : Heap} {L : Addr} {m : PySem.Str → Option Value} {news : List (Addr × Obj)} {Q : Value → Shared → Prop}
theorem rev_Bt {l : List Nat} {t u : Tok} (hF : Fr h₀ L s.heap m) (hN : News h₀ L s.heap news) (hz : l.length ≤ 1000)
    (h : ∀ h' t' k, Fr h₀ L h' m → News h₀ L h' news → Q (.bytes (Bt l.reverse) t') { s with heap := h', toks := k })
    (hs : subscripted slice false (.bytes (Bt l) t) (.ref s.heap.objs.size) = operate [.ref s.heap.objs.size, .bytes (Bt l) t] (getItem (.bytes (Bt l) t) (.ref s.heap.objs.size)))
    (ht : ∀ r, letTemporaryGo value (.bytes (Bt l) t) r = pure ()) :
    wpAny (model prog w) A (subscriptTail value slice (.bytes (Bt l) t) (.ref s.heap.objs.size)) Q E { s with heap := s.heap.push { cls := .type "slice", data := .fields #[.none, .none, .int (-1) u] } } :=
  tail_of_ItemOn ⟨"bytes", _, FB.slot_bytes_getitem.lookup, typeIs_bytes _ _ _, getItem_meets (typeIs_bytes _ _ _) (by decide) FB.slot_bytes_getitem FB.entry_bytes_getitem (FB.args_bytes_getitem_2 _ _) (meets_rev (Bt l) t _ u)
    ⟨Heap.IsSliceOf.new _ _ _ _, by rw [Bt_size, sizeLine_eq]; omega, fun t' k => by rw [Bt_rev]; exact h _ _ _ (hF.push _) (News.pushKeep hN _)⟩⟩ hs ht
end
end Mine
end

namespace Mine
theorem rsBs : True ∧ True := by
  w_top off
  k_with_none
  first | (walk1; fail) | exact ⟨trivial, trivial⟩
end Mine
section
open PySem PySem.W PyProof.Rows
set_option Elab.async false
set_option maxRecDepth 100000
set_option maxHeartbeats 8000000
namespace Mine
abbrev NClaim (prog : Program) (w : World) (K : Frag) (p : Program) (loose : List Str) (mean : ExcName → Option Value) (mg mb : Str → Option Value) (f : Addr) (news : List (Addr × Obj)) (pre : Prop) (vs : List Value) (R : Tok → Value) : Prop :=
  ∀ (dp un : Nat) (gd : Option (List Code)) (cn : Str) (cs : Scope) (a : Addr) (ccd : Value) (cl : List (Str × Addr)) (outer : List Env) (A₀ : Around) (base h₀ : Heap) (L : Addr) (m : Str → Option Value) (s : Shared) (Q E : Value → Shared → Prop),
    Below A₀ base outer h₀ → Fr h₀ L s.heap m → K.In h₀ → News h₀ L s.heap news → Top p loose mean mg mb h₀ → cs.kind = .function →
    (pre → dp + 1 < recursionLimit → un + 8 < cLine → CbRet h₀ L m news s Q R →
      wpN (model prog w) (ktrTop dp un gd cn cs L a ccd cl outer) (call (.ref f) vs) Q E s)
theorem bs (w : World) (p : Program) (loose : List Str) (mean : ExcName → Option Value) (mg mb : Str → Option Value) (news : List (Addr × Obj)) (b : Array UInt8) (tb : Tok) (n : Int) (tn : Tok) (hn : n = b.size) (h0 : 0 < n) (h1 : n ≤ 1000) :
   NClaim (PySem.Challenge.rw_gh0004_02.row.prog) w (hd.heap_39 w.params) p loose mean mg mb 21 news True [.bytes b tb, .int n tn] (fun t => .bytes b.reverse t) := by
  k_fill
  dsimp only [NClaim, CbRet]; intros; rename_i hret
  refine wpN_call ?_
  k_dflt (refine' enterN ?k1 ?k2 ?k3 ?k4 ?k5 ?kA ?kF ?kK ?k6 ?k7 ?k8 ?k9 ?kB ?_ ?c2 ?c3 ?c4 ?c5; (case kA => exact rfl); (case kF => exact rfl); (case kK => assumption); (case k1 => k_asm); (case k2 => k_asm); (case k3 => k_asm); (case k4 => k_asm); (case k5 => k_asm); (case k6 => k_is); (case k7 => k_is); (case k8 => ktr_room); (case k9 => exact BindsTo.of_eq rfl); (case c5 => decide); (case kB => exact locs rfl); (case c2 => exact rfl); (case c3 => exact rfl); (case c4 => exact rfl); k_whole)
  intro g' L' h' FG' F' N' B' X' T'
  replace F' : Fr g' L' h' (fun y => [(Str.ofString "width", Value.int n tn), (Str.ofString "data", Value.bytes b tb)].lookup y) := F'
  (try dsimp only); (try k_lift B'); (try k_fold)
  subst hn
  refine wpN_execs_cons (wpN_Assign_Name (wpN_CallName ?_))
  k_steps
  refine wpN_call_type (wpN_args_cons (wpN_of_any ?_))
  k_steps
  refine wpN_args_nil ?_
  refine call_ba_K (by assumption) (by assumption) ?_ ?_ fun D' h' F' N' l1 => ?_
  omega
  omega
  k_steps
  refine wpN_of_any ?_
  k_steps
  refine iter_rangeK (n := 1) [Str.ofString "j"] (fun i nx => nx = (D', baObj (if i = 0 then Array.replicate b.size 0 else b.reverse)) :: news) rfl (by assumption) ?_ ?_ (by assumption) (by assumption) rfl ?_ ?_
  case refine_1 => exact small_step (by omega) (by omega)
  case refine_2 => exact size_step (by omega)
  case refine_3 =>
    rintro i k t u nx h tk own0 hi hk ha hoff0 rfl F₁ N₁
    obtain rfl : i = 0 := by omega
    have hk0 : k = 0 := by simpa using hk
    subst hk0
    simp only [if_true, List.cons_append] at N₁
    replace F₁ : Fr g' L' h _ := F₁
    replace N₁ : News g' L' h _ := N₁
    k_sweep
    show wpAny _ _ _ _ _ _
    k_fold
    k_steps
    refine iter_rangeK (n := b.size) [] (fun i nx => ∃ x : Array UInt8, x = revP b i ∧ nx = (D', baObj x) :: (news ++ own0)) rfl (by assumption) ?_ ?_ (by assumption) (by assumption) ⟨_, rfl, rfl⟩ ?_ ?_
    case refine_1 => exact small_one (by omega) (by omega) (by omega) (by omega)
    case refine_2 => rw [rangeSize_one]; split <;> omega
    case refine_3 =>
      rintro i k t u nx h tk own hi hk ha hoff ⟨x, hx, rfl⟩ F₁ N₁
      simp only [Int.zero_add, Int.mul_one] at hk
      subst hk
      simp only [List.cons_append] at N₁
      replace F₁ : Fr g' L' h _ := F₁
      replace N₁ : News g' L' h _ := N₁
      k_sweep
      show wpAny _ _ _ _ _ _
      k_fold
      k_steps
      refine item_bytes ?_ ?_ ?_ ?_
      case refine_1 => omega
      case refine_2 => omega
      case refine_3 => omega
      dsimp only
      k_steps
      refine setItem_ba_K F₁ N₁ ?_ ?_ ?_ ?_ ?_ ?_ fun h2 F2 N2 => ?_
      case refine_1 =>
        intro q hq
        rcases List.mem_append.mp hq with hq | hq
        · rcases List.mem_append.mp hq with hq | hq
          · exact Nat.ne_of_lt (l1 q hq)
          · exact hoff0 q hq _ (.head _)
        · exact hoff q hq _ (.head _)
      case refine_2 => omega
      case refine_3 => rw [hx, revP_size]; omega
      case refine_4 => rw [hx, revP_size]; omega
      case refine_5 => omega
      case refine_6 =>
        have := (b.getD (0 + (i:Int)).toNat 0).toNat_lt
        omega
      dsimp only
      k_steps
      refine InvEndN.intro (nx := (D', baObj (x.setIfInBounds (0 + ↑b.size - 1 - ↑i : Int).toNat ((b.getD (0 + ↑i : Int).toNat 0).toNat : Int).toNat.toUInt8)) :: (news ++ own0)) F2 N2 ⟨fun z h1 h2 => by simp [h1], _, ?_, rfl⟩ rfl (fun q hq => ?_) (fun q hq => List.mem_cons_of_mem _ (List.mem_append_right _ hq))
      · subst hx
        have e1 : (0 + (b.size : Int) - 1 - (i : Int)).toNat = b.size - 1 - i := by omega
        have e2 : (0 + (i : Int)).toNat = i := by omega
        rw [e1, e2]
        simp [revP]
      · rcases List.mem_cons.mp hq with rfl | hq
        · exact .head _
        · exact .tail _ (List.mem_append_left _ hq)
    case refine_4 =>
      rintro u nx h tk ⟨x, rfl, rfl⟩ F₁ N₁
      rw [revP_all] at N₁
      replace F₁ : Fr g' L' h _ := F₁
      replace N₁ : News g' L' h _ := N₁
      k_sweep
      k_steps
      refine InvEndN.intro F₁ N₁ ⟨fun z h1 h2 => ?_, rfl⟩ rfl (fun q hq => ?_) (fun q hq => List.mem_cons_of_mem _ (List.mem_append_right _ hq))
      · have hz : z ≠ Str.ofString "j" := fun e => by
          rw [e] at h2
          exact absurd h2 (by decide)
        show (if z = _ then _ else if _ then _ else if z = _ then _ else if _ then _ else _) = _
        rw [if_neg hz, if_neg (by simp), if_neg h1, if_neg (by rw [h2]; simp)]
      rcases List.mem_cons.mp hq with rfl | hq
      · exact .head _
      · exact .tail _ (List.mem_append_left _ hq)
  case refine_4 =>
    rintro u nx h tk rfl F₁ N₁
    simp only [Nat.one_ne_zero, if_false] at N₁
    replace F₁ : Fr g' L' h _ := F₁
    replace N₁ : News g' L' h _ := N₁
    k_sweep
    dsimp only
    k_steps
    refine call_bytes_ba (News.get N₁ (.head _)) ?_ ?_
    case refine_1 => rw [Array.size_reverse]; omega
    k_steps
    exact hret _ _ _ (by assumption) fun q hq => (by assumption : News _ _ _ (_ :: news)) q (.tail _ hq)
end Mine
end

open PySem PySem.W PySem.Spec PySem.Calls PyProof.Rows
namespace Mine
local macro_rules | `(tactic| walk_at $s:str) => `(tactic| k_extra $s)

local macro_rules | `(tactic| walk_at "eval Name") => `(tactic| (k_here; k_dflt (first
  | (refine' nameX_L ?F ?v ?_ ?a ?b; (case a => rfl); (case b => rfl); (case F => k_asm); (case v => rfl); k_whole)
  | (refine' nameX_F ?N ?c ?m ?d ?_ ?a ?b; (case a => rfl); (case b => rfl); (case N => k_asm); (case c => rfl); (case m => k_mem); (case d => k_asm); k_whole)
  | (refine' nameX_C ?N ?c ?m ?d ?_ ?a ?b; (case a => rfl); (case b => rfl); (case N => k_asm); (case c => rfl); (case m => k_mem); (case d => k_asm); k_whole))))
theorem rsDc : True ∧ True := by
  w_top off
  k_with_none
  first | (walk1; fail) | exact ⟨trivial, trivial⟩
section
open PySem PySem.W PyProof.Rows
set_option Elab.async false
set_option maxRecDepth 100000
set_option maxHeartbeats 4000000
abbrev PRG : Program := PySem.Challenge.rw_gh0004_02.row.prog
abbrev inI : Stmt := innerS "_int2digits" PRG
abbrev fnI (q : Str) (cA cI cN : Addr) (doc pm : Value) (c' : Addr) (ctv : Value) : Obj := fnMade (Str.ofString "inner") q (parsOf inI) (bodyOf inI) (scopeOf inI) [(Str.ofString "n", cN), (Str.ofString "inner", cI), (Str.ofString "a_digits", cA)] doc pm c' ctv
local macro_rules | `(tactic| k_all) => `(tactic| (intro q hq; (have hq1 := (by assumption : ∀ p ∈ _, p.1 ≠ _) q hq; exact hq1)))
theorem inn (w : World) (p : Program) (loose : List Str) (mean : ExcName → Option Value) (mg mb : Str → Option Value) (news : List (Addr × Obj)) (f c' cA cI cN D : Addr) (q : Str) (doc pm ctv : Value) (oc oA oI oN : Obj) (ocv : Array Value) (tq tn : Tok) (n : Nat) (k : Nat)
    (h1 : oc.data = .fields ocv) (h2 : ocv[1]? = some (.str q tq)) (h3 : oA.data = .cell (some (.ref D))) (h4 : oI.data = .cell (some (.ref f))) (h5 : oN.data = .cell (some (.int n tn)))
    (h6 : ∀ p ∈ news, p.1 ≠ D) (h7 : @Ne Nat cA D ∧ @Ne Nat cI D ∧ @Ne Nat cN D ∧ @Ne Nat c' D ∧ @Ne Nat f D) (hn : 1 ≤ n) (hn1 : n < 50) : ∀ (len : Nat) (x lo hi : Int) (tx tl th : Tok) (vs : List Value) (ns : List Int), 1 ≤ len → 0 ≤ lo → hi = lo + len → hi ≤ ns.length → ns.length < 100 → 0 ≤ x → x < 2 ^ (n * len) → x < 2 ^ 30 → IntsAre vs ns →
   Cl PySem.Challenge.rw_gh0004_02.row.prog w (hd.heap_39 w.params) p loose mean mg mb f ((f, fnI q cA cI cN doc pm c' ctv) :: (c', oc) :: (cI, oI) :: (cA, oA) :: (cN, oN) :: (D, listOf vs.toArray k) :: news) (len + 1) (8 * (len + 1)) [.int x tx, .int lo tl, .int hi th]
     (fun r T' => ∃ ds vs', ds.length = len ∧ (∀ d ∈ ds, 0 ≤ d ∧ d < 2 ^ n) ∧ val (2 ^ n) ds = x ∧ IntsAre vs' (ns.take lo.toNat ++ ds ++ ns.drop hi.toNat) ∧ r = .none ∧ T' = ((f, fnI q cA cI cN doc pm c' ctv) :: (c', oc) :: (cI, oI) :: (cA, oA) :: (cN, oN) :: (D, listOf vs'.toArray k) :: news)) := by
  k_fill
  unfold fnI
  obtain ⟨B, hB⟩ : ∃ B, B = bodyOf inI := ⟨_, rfl⟩
  obtain ⟨PA, hP⟩ : ∃ B, B = parsOf inI := ⟨_, rfl⟩
  obtain ⟨SC, hS⟩ : ∃ B, B = scopeOf inI := ⟨_, rfl⟩
  rw [← hB, ← hP, ← hS]
  conv at hB => rhs; whnf
  conv at hP => rhs; whnf
  conv at hS => rhs; whnf
  subst hB; subst hP; subst hS
  intro len
  induction len using Nat.strongRecOn with
  | _ len IH =>
  intro x lo hi tx tl th vs ns hl hlo hhi hle hns hx hx1 hx2 hI
  subst hhi
  dsimp only [Cl]; intros; rename_i hret
  refine wpAny_call ?_
  refine' code_nest ?k1 ?k2 ?k3 ?k4 ?k5 ?kA ?kF ?kK ?k6 ?k7 ?k8 ?k9 ?kB ?_ ?c2 ?c3 ?c4 ?c5
  case kA => exact rfl
  case kF => exact rfl
  case kK => assumption
  case k1 => k_asm
  case k2 => k_asm
  case k3 => k_asm
  case k4 => k_asm
  case k5 => k_asm
  case k6 => k_mem
  case k7 => exact codeRec_news (by k_asm) (by k_mem) (by assumption) (by assumption)
  case k8 => ktr_room
  case k9 => exact BindsTo.of_eq rfl
  case c5 => decide
  case kB => exact locs rfl
  case c2 => exact rfl
  case c3 => exact rfl
  case c4 => exact rfl
  k_whole
  intro g' L' h' FG' F' N' B' X' T'
  replace F' : Fr g' L' h' (fun y => [(Str.ofString "R", Value.int (lo + len) th), (Str.ofString "L", Value.int lo tl), (Str.ofString "x", Value.int x tx)].lookup y) := F'
  have hcd := codeHd_of_K (c := 41) (P := 37) (by assumption : (hd.heap_39 w.params).In g') (by kernel_rfl)
  (try dsimp only)
  (try k_lift B')
  (try k_fold)
  by_cases hl1 : len = 1
  · have hc : lo + 1 = lo + (len : Int) := by omega
    clear IH
    k_steps
    rotate_left
    all_goals try (exact absurd hc (by assumption))
    refine hret _ _ _ _ (by assumption) (by assumption) ⟨[x], _, by rw [hl1]; rfl, ?_, by simp [val], ?_, rfl, rfl⟩
    · intro d hd
      obtain rfl := List.mem_singleton.mp hd
      rw [hl1, Nat.mul_one] at hx1
      exact ⟨hx, hx1⟩
    · have e : ns.take lo.toNat ++ [x] ++ ns.drop (lo + (len : Int)).toNat = ns.set lo.toNat x := by
        rw [List.set_eq_take_append_cons_drop, if_pos (by omega), show (lo + (len : Int)).toNat = lo.toNat + 1 by omega, List.append_assoc]
        rfl
      rw [e]
      assumption
  · have hc : lo + 1 ≠ lo + (len : Int) := by omega
    obtain ⟨l1, el⟩ : ∃ l1, l1 = len / 2 := ⟨_, rfl⟩
    have e2 : (2 ^ Int.toNat 1 : Int) = 2 := by decide
    have eM : (lo + (lo + (len : Int))).fdiv (2 ^ Int.toNat 1) = lo + l1 := by
      rw [e2, Int.fdiv_eq_ediv_of_nonneg _ (by decide)]
      omega
    have eS : ((lo + (lo + (len : Int))).fdiv (2 ^ Int.toNat 1) - lo) * (n : Int) = ((n * l1 : Nat) : Int) := by
      rw [eM, Int.natCast_mul, Int.mul_comm]
      congr 1
      omega
    have hb : n * l1 ≤ 50 * 100 := Nat.mul_le_mul (by omega) (by omega)
    have hS0 : 0 ≤ ((lo + (lo + (len : Int))).fdiv (2 ^ Int.toNat 1) - lo) * (n : Int) := by rw [eS]; omega
    have hS1 : ((lo + (lo + (len : Int))).fdiv (2 ^ Int.toNat 1) - lo) * (n : Int) ≤ 1000000 := by rw [eS]; omega
    have pp : (0 : Int) < 2 ^ (n * l1) := Int.pow_pos (by decide)
    have eU : x.fdiv (2 ^ (((lo + (lo + (len : Int))).fdiv (2 ^ Int.toNat 1) - lo) * (n : Int)).toNat) = x / 2 ^ (n * l1) := by
      rw [eS, Int.toNat_natCast, Int.fdiv_eq_ediv_of_nonneg _ (Int.le_of_lt pp)]
    have hU0 : 0 ≤ x.fdiv (2 ^ (((lo + (lo + (len : Int))).fdiv (2 ^ Int.toNat 1) - lo) * (n : Int)).toNat) := by
      rw [eU]; exact Int.ediv_nonneg hx (Int.le_of_lt pp)
    have hUx : x / 2 ^ (n * l1) ≤ x := Int.ediv_le_self _ hx
    have hU1 : (x.fdiv (2 ^ (((lo + (lo + (len : Int))).fdiv (2 ^ Int.toNat 1) - lo) * (n : Int)).toNat)).natAbs < 2 ^ 64 := by
      rw [eU] at hU0 ⊢; omega
    k_steps
    · exact absurd (by assumption) hc
    have eX : Builtin.bitXor x (x.fdiv (2 ^ (((lo + (lo + (len : Int))).fdiv (2 ^ Int.toNat 1) - lo) * (n : Int)).toNat) * 2 ^ (((lo + (lo + (len : Int))).fdiv (2 ^ Int.toNat 1) - lo) * (n : Int)).toNat) = x % 2 ^ (n * l1) := by
      rw [eU, eS, Int.toNat_natCast]
      exact xor_high x _ hx
    have hXx : x % 2 ^ (n * l1) ≤ x := by
      have := Int.emod_add_mul_ediv x (2 ^ (n * l1))
      have := Int.mul_nonneg (Int.le_of_lt pp) (Int.ediv_nonneg hx (Int.le_of_lt pp))
      omega
    have hX0 := Int.emod_nonneg x (Int.ne_of_gt pp)
    have hX1 := Int.emod_lt_of_pos x pp
    have eP : (2 : Int) ^ (n * len) = 2 ^ (n * l1) * 2 ^ (n * (len - l1)) := by
      rw [← Int.pow_add, ← Nat.mul_add, Nat.add_sub_of_le (by omega)]
    have hU2 : x / 2 ^ (n * l1) < 2 ^ (n * (len - l1)) := by
      refine Int.ediv_lt_of_lt_mul pp ?_
      rw [Int.mul_comm, ← eP]
      exact hx1
    refine' Cl.use (IH l1 ?ylt _ _ _ _ _ _ vs ns ?yp1 ?yp2 ?yp3 ?yp4 ?yp5 ?yp6 ?yp7 ?yp8 hI) ?yB ?yF ?yX ?yN ?ysub ?yT ?yk ?yd ?yu ?_
    case ylt => omega
    case yp1 => omega
    case yp2 => exact hlo
    case yp3 => exact eM
    case yp4 => rw [eM]; omega
    case yp5 => exact hns
    case yp6 => rw [eX]; exact hX0
    case yp7 => rw [eX]; exact hX1
    case yp8 => rw [eX]; omega
    case yB => k_asm
    case yF => k_asm
    case yX => k_asm
    case yN => k_asm
    case ysub => exact fun _ h => h
    case yT => k_asm
    case yk => rfl
    case yd => (dsimp only [ktrTop]; omega)
    case yu => (dsimp only [ktrTop]; omega)
    rintro r T2 h2 tk2 F2 N2 ⟨ds1, vs1, hd1, hb1, hv1, hI1, rfl, rfl⟩
    k_sweep
    rw [eX] at hv1
    have eL : (lo + (l1 : Int)).toNat = lo.toNat + l1 := by omega
    rw [eM, eL] at hI1
    have hln := seg_len ns ds1 lo.toNat (lo.toNat + l1) (by rw [hd1]) (by omega)
    dsimp only
    k_steps
    refine' Cl.use (IH (len - l1) ?zlt _ _ _ _ _ _ vs1 _ ?zp1 ?zp2 ?zp3 ?zp4 ?zp5 ?zp6 ?zp7 ?zp8 hI1) ?zB ?zF ?zX ?zN ?zsub ?zT ?zk ?zd ?zu ?_
    case zlt => omega
    case zp1 => omega
    case zp2 => rw [eM]; omega
    case zp3 => rw [eM]; omega
    case zp4 => rw [hln]; exact hle
    case zp5 => rw [hln]; exact hns
    case zp6 => exact hU0
    case zp7 => rw [eU]; exact hU2
    case zp8 => rw [eU]; omega
    case zB => k_asm
    case zF => k_asm
    case zX => k_asm
    case zN => k_asm
    case zsub => exact fun _ h => h
    case zT => k_asm
    case zk => rfl
    case zd => (dsimp only [ktrTop]; omega)
    case zu => (dsimp only [ktrTop]; omega)
    rintro r T3 h3 tk3 F3 N3 ⟨ds2, vs2, hd2, hb2, hv2, hI2, rfl, rfl⟩
    k_sweep
    rw [eU] at hv2
    have eH : (lo + (len : Int)).toNat = lo.toNat + len := by omega
    rw [eM, eL, eH, seg_two _ _ _ _ _ _ (by rw [hd1]) (by omega) (by omega)] at hI2
    dsimp only
    k_steps
    refine hret _ _ _ _ (by assumption) (by assumption) ⟨ds1 ++ ds2, vs2, ?_, ?_, ?_, ?_, rfl, rfl⟩
    · rw [List.length_append]; omega
    · intro d hd
      exact (List.mem_append.mp hd).elim (hb1 d) (hb2 d)
    · rw [val_append, hv1, hv2, hd1, ← Int.pow_mul]
      exact Int.emod_add_mul_ediv x _
    · rw [eH]; exact hI2
end

local macro_rules | `(tactic| k_all) => `(tactic| (intro q hq; (have hq1 := (by assumption : ∀ p ∈ _, @LT.lt Nat _ p.1 _) q hq; refine neN ?_; (try dsimp only); omega)))
theorem rsDi : True ∧ True := by
  w_top off
  k_with_none
  first | (walk1; fail) | exact ⟨trivial, trivial⟩
section
open PySem PySem.W PyProof.Rows
set_option Elab.async false
set_option maxRecDepth 100000
set_option maxHeartbeats 4000000
abbrev qI : Str := qualnameIn (envX (Str.ofString "_int2digits") (scopeOf (firstDef (Str.ofString "_int2digits") PRG.main.body)) 0 0 .none []) (Str.ofString "inner") (Str.ofString "inner")
theorem cdiv {b n : Nat} (hn : 1 ≤ n) (hb : b ≤ 30) : ∃ k : Nat, ((b : Int) + n - 1).fdiv n = k ∧ k ≤ 30 ∧ b ≤ n * k ∧ (b = 0 → k = 0) ∧ (0 < b → 1 ≤ k) := by
  refine ⟨(b + n - 1) / n, ?_, ?_, ?_, ?_, ?_⟩
  · rw [Int.fdiv_eq_ediv_of_nonneg _ (by omega), show ((b : Int) + n - 1) = ((b + n - 1 : Nat) : Int) by omega]
    rfl
  · refine Nat.lt_succ_iff.mp (Nat.div_lt_of_lt_mul ?_)
    have : n * 31 ≥ n + 30 := by omega
    omega
  · have h1 := Nat.div_add_mod (b + n - 1) n
    have h2 := Nat.mod_lt (b + n - 1) hn
    omega
  · rintro rfl
    exact Nat.div_eq_of_lt (by omega)
  · intro h
    exact Nat.div_pos (by omega) hn
theorem i2d (w : World) (p : Program) (loose : List Str) (mean : ExcName → Option Value) (mg mb : Str → Option Value) (T news : List (Addr × Obj)) (a : Int) (n : Nat) (ta tn : Tok) (ha0 : 0 ≤ a) (ha1 : a < 2 ^ 30) (hn : 1 ≤ n) (hn1 : n < 50) (hT : TabSt 37 (posOf inI) qI T) (hO : Off news T) :
   Cl PySem.Challenge.rw_gh0004_02.row.prog w (hd.heap_39 w.params) p loose mean mg mb 42 (T ++ news) 40 400 [.int a ta, .int n tn] (fun r T' => ∃ D vs cnt ds T1, r = .ref D ∧ T' = (D, listOf vs.toArray cnt) :: (T1 ++ news) ∧ IntsAre vs ds ∧ (∀ d ∈ ds, 0 ≤ d ∧ d < 2 ^ n) ∧ val (2 ^ n) ds = a ∧ ds.length ≤ 30 ∧ TabSt 37 (posOf inI) qI T1 ∧ Grown T (T ++ news) T1 ∧ (∀ q ∈ T ++ news, @LT.lt Nat _ q.1 D) ∧ (∀ q ∈ T1 ++ news, @Ne Nat q.1 D)) := by
  k_fill
  have hbits := bits_small ha0 ha1
  obtain ⟨k, ek, hk1, hk2, hk3, hk4⟩ := cdiv hn hbits
  dsimp only [Cl]
  intro dp un gd cn cs a0 ccd cl outer A₀ base h₀ L m s Q E hB hF hX hN hTp hkd hdp hun hret
  refine wpAny_call ?_
  refine' code_defC ?k1 ?k2 ?k3 ?k4 ?k5 ?kA ?kF ?kK ?k6 ?k7 ?k8 ?k9 ?kB ?kD ?_ ?c2 ?c3 ?c4
  case kA => exact rfl
  case kF => exact rfl
  case kK => assumption
  case k1 => k_asm
  case k2 => k_asm
  case k3 => k_asm
  case k4 => k_asm
  case k5 => k_asm
  case k6 => k_dflt k_is
  case k7 => k_dflt k_is
  case k8 => ktr_room
  case k9 => exact BindsTo.of_eq rfl
  case kB => exact rfl
  case kD => decide +kernel
  case c2 => exact rfl
  case c3 => exact rfl
  case c4 => exact rfl
  k_whole
  intro g' L' h' tk' cells' FG' F' N' Y' B' X' T' lT
  obtain ⟨o1, o2, o3, hE, d1, d2, d3⟩ := CellsAre.three Y'
  subst hE
  clear Y'
  simp only [List.cons_append, List.nil_append] at N'
  replace lT : ∀ q ∈ T ++ news, @LT.lt Nat _ q.1 L' := lT
  replace F' : Fr g' L' h' (fun y => if y = Str.ofString "a" then some (Value.int a ta) else none) := F'
  replace d1 : o1.data = .cell none := d1
  replace d2 : o2.data = .cell none := d2
  replace d3 : o3.data = .cell (some (.int n tn)) := d3
  have hcd := codeHd_of_K (c := 41) (P := 37) (by assumption : (hd.heap_39 w.params).In g') (by kernel_rfl)
  (try dsimp only)
  (try k_lift B')
  (try k_fold)
  have hf0 : 0 ≤ (((Builtin.Int.intBits a : Nat) : Int) + n - 1).fdiv n := by rw [ek]; omega
  have hf1 : (((Builtin.Int.intBits a : Nat) : Int) + n - 1).fdiv n ≤ 30 := by rw [ek]; omega
  k_steps
  rename_i l2 hh1 lL D' hh2 i1 n1 s1 e1 e2 e3 lD hx oA F1 N1 dA
  have lt1 : ∀ q ∈ T, @LT.lt Nat _ q.1 L' := fun q hq => lT q (List.mem_append_left _ hq)
  have ln1 : ∀ q ∈ news, @LT.lt Nat _ q.1 L' := fun q hq => lT q (List.mem_append_right _ hq)
  refine' nestDef_K ?wd ?wk ?wa ?_
  case wd => exact rfl
  case wk => exact rfl
  case wa => exact rfl
  refine nestE (T := T) (rest := [_, _, _, _, _] ++ news) F1 (fun q hq => N1 q (mem_swap hq)) hT ?_ (by assumption) hcd rfl rfl ?_
  · refine Off.cons ?_ (Off.cons ?_ (Off.cons ?_ (Off.cons ?_ (Off.cons ?_ hO)))) <;> (intro q hq; have h9 := lt1 q hq; refine neN ?_; dsimp only; omega)
  intro f c' oc ocv tq ctv doc T1 h2 tk2 eT hoc hocv F2 N2 hG hf hcf hRc
  subst eT
  simp only [List.cons_append, List.nil_append] at N2
  have f1 := hf _ (List.mem_append_right _ (.head _))
  have r1 := hRc _ (.head _)
  have r2 := hRc _ (.tail _ (.head _))
  have r3 := hRc _ (.tail _ (.tail _ (.head _)))
  have r4 := hRc _ (.tail _ (.tail _ (.tail _ (.head _))))
  have r5 := hRc _ (.tail _ (.tail _ (.tail _ (.tail _ (.head _)))))
  have p37 : @LT.lt Nat _ 37 L' := by
    rcases hT with rfl | ⟨c2, oc2, ocv2, tq2, rfl, _, _⟩
    · exact lt1 _ (.head _)
    · exact lt1 _ (.tail _ (.head _))
  dsimp only at f1 r1 r2 r3 r4 r5
  clear hf
  have fin : ∀ (vs : List Value) (ds : List Int) (h : Heap) (tk : Nat), Fr h₀ L h m → News h₀ L h ((D', listOf vs.toArray 0) :: ([(c', oc), (37, tabObj (#[] ++ #[rawInt (posOf inI).line, rawInt (posOf inI).col, .ref c']))] ++ news)) → IntsAre vs ds → (∀ d ∈ ds, 0 ≤ d ∧ d < 2 ^ n) → val (2 ^ n) ds = a → ds.length ≤ 30 → Q (.ref D') { s with heap := h, toks := tk } := fun vs ds h tk F N h1 h2 h3 h4 =>
    hret _ _ _ _ F N ⟨D', vs, 0, ds, _, rfl, rfl, h1, h2, h3, h4, .inr ⟨c', oc, ocv, tq, rfl, hoc, hocv⟩, fun q hq => (hG q hq).imp id fun k p hp => k p (by
        rcases List.mem_append.mp hp with hp | hp
        · exact List.mem_append_left _ hp
        · exact List.mem_append_right _ (List.mem_append_right _ hp)), fun q hq => by have := lT q hq; omega, fun q hq => by
        rcases List.mem_append.mp hq with hq | hq
        · rcases List.mem_cons.mp hq with rfl | hq
          · exact r1.symm
          · obtain rfl := List.mem_singleton.mp hq
            refine neN ?_
            dsimp only
            omega
        · have := ln1 q hq
          refine neN ?_
          omega⟩
  k_steps
  · rename (Obj.data _ = Data.cell (some (Value.ref f))) => dI
    refine' Cl.use (inn w p loose mean mg mb ((37, tabObj (#[] ++ #[rawInt (posOf inI).line, rawInt (posOf inI).col, .ref c'])) :: news) f c' (L' + 1 + 1) (L' + 1 + 1 + 1) (L' + 1) D' qI doc ((mg "__name__").getD .none) ctv oc oA _ o3 ocv tq tn n 0 hoc hocv dA dI d3 ?yO ?yD hn hn1 k _ _ _ _ _ _ _ _ ?p1 ?p2 ?p3 ?p4 ?p5 ?p6 ?p7 ?p8 i1) ?yB ?yF ?yX ?yN ?ysub ?yT ?yk ?yd ?yu ?_
    case yO => exact List.forall_mem_cons.mpr ⟨by refine neN ?_; dsimp only; omega, fun q hq => by have := ln1 q hq; refine neN ?_; omega⟩
    case yD => refine ⟨?_, ?_, ?_, r1.symm, ?_⟩ <;> (refine neN ?_; omega)
    case p1 =>
      refine hk4 ?_
      rcases Nat.eq_zero_or_pos (Builtin.Int.intBits a) with h | h
      · have := intBits_le_iff.mp (Nat.le_of_eq h)
        have h3 : a ≠ 0 := by assumption
        omega
      · exact h
    case p2 => exact Int.le_refl _
    case p3 => have := e3 hf0; omega
    case p4 => rw [e1]; exact Int.le_refl _
    case p5 => rw [e1]; have := e3 hf0; omega
    case p6 => exact ha0
    case p7 =>
      have h3 := intBits_le_iff.mp hk2
      have h4 : ((a.natAbs : Nat) : Int) < ((2 ^ (n * k) : Nat) : Int) := by exact_mod_cast h3
      rw [Int.natCast_pow] at h4
      have h5 : ((a.natAbs : Nat) : Int) = a := by omega
      rw [h5] at h4
      exact h4
    case p8 => exact ha1
    case yB => k_asm
    case yF => k_asm
    case yX => k_asm
    case yN => k_asm
    case ysub => repeat' (first | (refine List.forall_mem_cons.mpr ⟨?_, ?_⟩) | (k_dflt k_mem) | exact fun q hq => by (repeat (first | exact hq | refine List.Mem.tail _ ?_)))
    case yT => k_asm
    case yk => rfl
    case yd => (dsimp only [ktrTop]; omega)
    case yu => (dsimp only [ktrTop]; omega)
    rintro r T2 h3 tk3 F3 N3 ⟨ds, vs, hds, hdb, hdv, hI, rfl, rfl⟩
    k_sweep
    dsimp only
    k_steps
    refine fin vs ds _ _ (by assumption) (fun q hq => (by assumption : News h₀ L _ _) q ?_) ?_ hdb hdv (by omega)
    · revert q hq
      repeat' (first | (refine List.forall_mem_cons.mpr ⟨?_, ?_⟩) | (k_dflt k_mem) | exact fun q hq => by (repeat (first | exact hq | refine List.Mem.tail _ ?_)))
    · rw [List.drop_of_length_le (by rw [e1]; exact Nat.le_refl _), List.append_nil] at hI
      exact hI
  · have ha : a = 0 := by assumption
    have hk0 : k = 0 := hk3 (by rw [ha]; rfl)
    have hn0 := e3 hf0
    have hns := List.eq_nil_of_length_eq_zero (e1.trans (show n1 = 0 by omega))
    rw [hns] at i1
    refine fin _ [] _ _ (by assumption) (fun q hq => (by assumption : News h₀ L _ _) q ?_) i1 (fun _ h => nomatch h) ha.symm (by decide)
    revert q hq
    repeat' (first | (refine List.forall_mem_cons.mpr ⟨?_, ?_⟩) | (k_dflt k_mem) | exact fun q hq => by (repeat (first | exact hq | refine List.Mem.tail _ ?_)))
end

theorem rsDd : True ∧ True := by
  w_top off
  k_with_none
  first | (walk1; fail) | exact ⟨trivial, trivial⟩
section
open PySem PySem.W PyProof.Rows
set_option Elab.async false
set_option maxRecDepth 100000
set_option maxHeartbeats 4000000
local macro_rules | `(tactic| walk_at "binaryOp LShift int int") => `(tactic| (k_here; refine lshift_int (by with_reducible assumption) (by with_reducible assumption) ?_))
abbrev inD : Stmt := innerS "_digits2int" PRG
abbrev fnD (q : Str) (cG cI cN : Addr) (doc pm : Value) (c' : Addr) (ctv : Value) : Obj := fnMade (Str.ofString "inner") q (parsOf inD) (bodyOf inD) (scopeOf inD) [(Str.ofString "n", cN), (Str.ofString "inner", cI), (Str.ofString "digits", cG)] doc pm c' ctv
theorem ind (w : World) (p : Program) (loose : List Str) (mean : ExcName → Option Value) (mg mb : Str → Option Value) (news : List (Addr × Obj)) (f c' cG cI cN D : Addr) (q : Str) (doc pm ctv : Value) (oc oG oI oN : Obj) (ocv : Array Value) (tq tn : Tok) (n : Nat) (k : Nat)
    (h1 : oc.data = .fields ocv) (h2 : ocv[1]? = some (.str q tq)) (h3 : oG.data = .cell (some (.ref D))) (h4 : oI.data = .cell (some (.ref f))) (h5 : oN.data = .cell (some (.int n tn)))
    (vs : List Value) (ns : List Int) (hI : IntsAre vs ns) (hds : ∀ d ∈ ns, 0 ≤ d ∧ d < 2 ^ n) (hns : ns.length < 100) (hn : 1 ≤ n) (hn1 : n < 50) : ∀ (len : Nat) (lo hi : Int) (tl th : Tok), 1 ≤ len → 0 ≤ lo → hi = lo + len → hi ≤ ns.length →
   Cl PySem.Challenge.rw_gh0004_02.row.prog w (hd.heap_39 w.params) p loose mean mg mb f ((f, fnD q cG cI cN doc pm c' ctv) :: (c', oc) :: (cI, oI) :: (cG, oG) :: (cN, oN) :: (D, listOf vs.toArray k) :: news) (len + 1) (8 * (len + 1)) [.int lo tl, .int hi th]
     (fun r T' => ∃ t, r = .int (val (2 ^ n) ((ns.drop lo.toNat).take len)) t ∧ T' = ((f, fnD q cG cI cN doc pm c' ctv) :: (c', oc) :: (cI, oI) :: (cG, oG) :: (cN, oN) :: (D, listOf vs.toArray k) :: news)) := by
  k_fill
  unfold fnD
  obtain ⟨B, hB⟩ : ∃ B, B = bodyOf inD := ⟨_, rfl⟩
  obtain ⟨PA, hP⟩ : ∃ B, B = parsOf inD := ⟨_, rfl⟩
  obtain ⟨SC, hS⟩ : ∃ B, B = scopeOf inD := ⟨_, rfl⟩
  rw [← hB, ← hP, ← hS]
  conv at hB => rhs; whnf
  conv at hP => rhs; whnf
  conv at hS => rhs; whnf
  subst hB; subst hP; subst hS
  intro len
  induction len using Nat.strongRecOn with
  | _ len IH =>
  intro lo hi tl th hl hlo hhi hle
  subst hhi
  dsimp only [Cl]
  intro dp un gd cn cs a0 ccd cl outer A₀ base h₀ L m s Q E hB hF hX hN hTp hkd hdp hun hret
  refine wpAny_call ?_
  refine' code_nest ?k1 ?k2 ?k3 ?k4 ?k5 ?kA ?kF ?kK ?k6 ?k7 ?k8 ?k9 ?kB ?_ ?c2 ?c3 ?c4 ?c5
  case kA => exact rfl
  case kF => exact rfl
  case kK => assumption
  case k1 => k_asm
  case k2 => k_asm
  case k3 => k_asm
  case k4 => k_asm
  case k5 => k_asm
  case k6 => k_mem
  case k7 => exact codeRec_news (by k_asm) (by k_mem) (by assumption) (by assumption)
  case k8 => ktr_room
  case k9 => exact BindsTo.of_eq rfl
  case c5 => decide
  case kB => exact locs rfl
  case c2 => exact rfl
  case c3 => exact rfl
  case c4 => exact rfl
  k_whole
  intro g' L' h' FG' F' N' B' X' T'
  replace F' : Fr g' L' h' (fun y => [(Str.ofString "R", Value.int (lo + len) th), (Str.ofString "L", Value.int lo tl)].lookup y) := F'
  have hcd := codeHd_of_K (c := 48) (P := 44) (by assumption : (hd.heap_39 w.params).In g') (by kernel_rfl)
  (try dsimp only)
  (try k_lift B')
  (try k_fold)
  by_cases hl1 : len = 1
  · have hc : lo + 1 = lo + (len : Int) := by omega
    have hlt : lo < ns.length := by omega
    clear IH
    k_steps
    rotate_left
    all_goals try (exact absurd hc (by assumption))
    have e1 : (ns.drop lo.toNat).take 1 = [ns.getD lo.toNat 0] := by
      have hj : lo.toNat < ns.length := by omega
      rw [List.take_one, List.head?_drop, List.getElem?_eq_getElem hj]
      simp [List.getD_eq_getElem?_getD, List.getElem?_eq_getElem hj]
    have e3 : ns.getD lo.toNat 0 = val (2 ^ n) ((ns.drop lo.toNat).take len) := by
      rw [hl1, e1]
      simp [val]
    exact hret _ _ _ _ (by assumption) (by assumption) ⟨_, congrArg (fun z => Value.int z _) e3, rfl⟩
  · have hc : lo + 1 ≠ lo + (len : Int) := by omega
    obtain ⟨l1, el⟩ : ∃ l1, l1 = len / 2 := ⟨_, rfl⟩
    have e2 : (2 ^ Int.toNat 1 : Int) = 2 := by decide
    have eM : (lo + (lo + (len : Int))).fdiv (2 ^ Int.toNat 1) = lo + l1 := by
      rw [e2, Int.fdiv_eq_ediv_of_nonneg _ (by decide)]
      omega
    have eS : ((lo + (lo + (len : Int))).fdiv (2 ^ Int.toNat 1) - lo) * (n : Int) = ((n * l1 : Nat) : Int) := by
      rw [eM, Int.natCast_mul, Int.mul_comm]
      congr 1
      omega
    have hb : n * l1 ≤ 50 * 100 := Nat.mul_le_mul (by omega) (by omega)
    have hS0 : 0 ≤ ((lo + (lo + (len : Int))).fdiv (2 ^ Int.toNat 1) - lo) * (n : Int) := by rw [eS]; omega
    have hS1 : ((lo + (lo + (len : Int))).fdiv (2 ^ Int.toNat 1) - lo) * (n : Int) ≤ 1000000 := by rw [eS]; omega
    k_steps
    · exact absurd (by assumption) hc
    (first | refine Stop.on ?_ | skip)
    refine' Cl.use (IH (len - l1) ?lt _ _ _ _ ?p1 ?p2 ?p3 ?p4) ?yB ?yF ?yX ?yN ?ysub ?yT ?yk ?yd ?yu ?_
    case yB => k_asm
    case yF => k_asm
    case yX => k_asm
    case yN => k_asm
    case yT => k_asm
    case yk => first | exact rfl | assumption
    case yd => first | (dsimp only [ktrTop]; omega) | decide | decide +kernel
    case yu => first | (dsimp only [ktrTop]; omega) | decide | decide +kernel
    case lt => omega
    case p1 => omega
    case p2 => rw [eM]; omega
    case p3 => rw [eM]; omega
    case p4 => omega
    case ysub => exact fun _ h => h
    rintro r T2 h2 tk2 F2 N2 ⟨t2, rfl, rfl⟩
    k_sweep
    have eL : (lo + (l1 : Int)).toNat = lo.toNat + l1 := by omega
    rw [eM, eL]
    have hseg : ∀ d ∈ (ns.drop (lo.toNat + l1)).take (len - l1), 0 ≤ d ∧ d < 2 ^ n := fun d hd => hds d (List.mem_of_mem_drop (List.mem_of_mem_take hd))
    have hbv := val_bits hseg
    have hsl : ((ns.drop (lo.toNat + l1)).take (len - l1)).length ≤ 100 := by rw [List.length_take]; omega
    have hb2 : n * ((ns.drop (lo.toNat + l1)).take (len - l1)).length ≤ 50 * 100 := Nat.mul_le_mul (by omega) hsl
    have hV : (Builtin.Int.intBits (val (2 ^ n) ((ns.drop (lo.toNat + l1)).take (len - l1))) : Int) + ((lo + (lo + (len : Int))).fdiv (2 ^ Int.toNat 1) - lo) * (n : Int) ≤ 2 ^ 27 := by rw [eS]; omega
    dsimp only
    k_steps
    (first | refine Stop.on ?_ | skip)
    refine' Cl.use (IH l1 ?qt _ _ _ _ ?q1 ?q2 ?q3 ?q4) ?zB ?zF ?zX ?zN ?zsub ?zT ?zk ?zd ?zu ?_
    case zB => k_asm
    case zF => k_asm
    case zX => k_asm
    case zN => k_asm
    case zT => k_asm
    case zk => first | exact rfl | assumption
    case zd => first | (dsimp only [ktrTop]; omega) | decide | decide +kernel
    case zu => first | (dsimp only [ktrTop]; omega) | decide | decide +kernel
    case qt => omega
    case q1 => omega
    case q2 => exact hlo
    case q3 => exact eM
    case q4 => rw [eM]; omega
    case zsub => exact fun _ h => h
    rintro r T3 h3 tk3 F3 N3 ⟨t3, rfl, rfl⟩
    k_sweep
    dsimp only
    k_steps
    have e5 : (ns.drop lo.toNat).take len = (ns.drop lo.toNat).take l1 ++ (ns.drop (lo.toNat + l1)).take (len - l1) := by
      rw [← List.drop_drop, ← List.take_add, Nat.add_sub_of_le (by omega)]
    have e6 : ((ns.drop lo.toNat).take l1).length = l1 := by rw [List.length_take, List.length_drop]; omega
    refine hret _ _ _ _ (by assumption) (by assumption) ⟨_, congrArg (fun z => Value.int z _) ?_, rfl⟩
    rw [e5, val_append, e6, ← Int.pow_mul, eS, Int.toNat_natCast, Int.mul_comm, Int.add_comm]
end

theorem rsDe : True ∧ True := by
  w_top off
  k_with_none
  first | (walk1; fail) | exact ⟨trivial, trivial⟩
section
open PySem PySem.W PyProof.Rows
set_option Elab.async false
set_option maxRecDepth 100000
set_option maxHeartbeats 4000000
abbrev qD : Str := qualnameIn (envX (Str.ofString "_digits2int") (scopeOf (firstDef (Str.ofString "_digits2int") PRG.main.body)) 0 0 .none []) (Str.ofString "inner") (Str.ofString "inner")
theorem d2i (w : World) (p : Program) (loose : List Str) (mean : ExcName → Option Value) (mg mb : Str → Option Value) (T news : List (Addr × Obj)) (Dq : Addr) (vs : List Value) (cnt : Nat) (ns : List Int) (n : Nat) (tn : Tok) (hI0 : IntsAre vs ns) (hds : ∀ d ∈ ns, 0 ≤ d ∧ d < 2 ^ n) (hns : ns.length < 50) (hn : 1 ≤ n) (hn1 : n < 50) (hT : TabSt 44 (posOf inD) qD T) (hO : Off ((Dq, listOf vs.toArray cnt) :: news) T) :
   Cl PySem.Challenge.rw_gh0004_02.row.prog w (hd.heap_39 w.params) p loose mean mg mb 49 (T ++ (Dq, listOf vs.toArray cnt) :: news) 60 600 [.ref Dq, .int n tn] (fun r T' => ∃ t T1, r = .int (val (2 ^ n) ns) t ∧ T' = T1 ++ (Dq, listOf vs.toArray cnt) :: news ∧ TabSt 44 (posOf inD) qD T1 ∧ Grown T (T ++ (Dq, listOf vs.toArray cnt) :: news) T1) := by
  k_fill
  dsimp only [Cl]
  intro dp un gd cn cs a0 ccd cl outer A₀ base h₀ L m s Q E hB hF hX hN hTp hkd hdp hun hret
  refine wpAny_call ?_
  refine' code_defC ?k1 ?k2 ?k3 ?k4 ?k5 ?kA ?kF ?kK ?k6 ?k7 ?k8 ?k9 ?kB ?kD ?_ ?c2 ?c3 ?c4
  case kA => exact rfl
  case kF => exact rfl
  case kK => assumption
  case k1 => k_asm
  case k2 => k_asm
  case k3 => k_asm
  case k4 => k_asm
  case k5 => k_asm
  case k6 => k_dflt k_is
  case k7 => k_dflt k_is
  case k8 => ktr_room
  case k9 => exact BindsTo.of_eq rfl
  case kB => exact rfl
  case kD => decide +kernel
  case c2 => exact rfl
  case c3 => exact rfl
  case c4 => exact rfl
  k_whole
  intro g' L' h' tk' cells' FG' F' N' Y' B' X' T' lT
  obtain ⟨o1, o2, o3, hE, d1, d2, d3⟩ := CellsAre.three Y'
  subst hE
  clear Y'
  simp only [List.cons_append, List.nil_append] at N'
  replace lT : ∀ q ∈ T ++ (Dq, listOf vs.toArray cnt) :: news, @LT.lt Nat _ q.1 L' := lT
  replace F' : Fr g' L' h' (fun y => none) := F'
  replace d1 : o1.data = .cell none := d1
  replace d2 : o2.data = .cell (some (.int n tn)) := d2
  replace d3 : o3.data = .cell (some (.ref Dq)) := d3
  have hcd := codeHd_of_K (c := 48) (P := 44) (by assumption : (hd.heap_39 w.params).In g') (by kernel_rfl)
  have lt1 : ∀ q ∈ T, @LT.lt Nat _ q.1 L' := fun q hq => lT q (List.mem_append_left _ hq)
  have ln1 : ∀ q ∈ (Dq, listOf vs.toArray cnt) :: news, @LT.lt Nat _ q.1 L' := fun q hq => lT q (List.mem_append_right _ hq)
  have ln2 : ∀ q ∈ news, @LT.lt Nat _ q.1 L' := fun q hq => ln1 q (.tail _ hq)
  have lq : @LT.lt Nat _ Dq L' := ln1 _ (.head _)
  have hI := hI0
  (try dsimp only)
  (try k_lift B')
  (try k_fold)
  k_steps
  refine' nestDef_K ?wd ?wk ?wa ?_
  case wd => exact rfl
  case wk => exact rfl
  case wa => exact rfl
  refine nestE (T := T) (rest := [_, _, _] ++ ((Dq, listOf vs.toArray cnt) :: news)) (by assumption) (fun q hq => (by assumption : News g' L' _ _) q (mem_swap hq)) hT ?_ (by assumption) hcd rfl rfl ?_
  · refine Off.cons ?_ (Off.cons ?_ (Off.cons ?_ hO)) <;> (intro q hq; have h9 := lt1 q hq; refine neN ?_; dsimp only; omega)
  intro f c' oc ocv tq ctv doc T1 h2 tk2 eT hoc hocv F2 N2 hG hf hcf hRc
  subst eT
  simp only [List.cons_append, List.nil_append] at N2
  have f1 := hf _ (List.mem_append_right _ (.head _))
  have r1 := hRc _ (.head _)
  have r2 := hRc _ (.tail _ (.head _))
  have r3 := hRc _ (.tail _ (.tail _ (.head _)))
  have r4 := hRc _ (.tail _ (.tail _ (.tail _ (.head _))))
  have p44 : @LT.lt Nat _ 44 L' := by
    rcases hT with rfl | ⟨c2, oc2, ocv2, tq2, rfl, _, _⟩
    · exact lt1 _ (.head _)
    · exact lt1 _ (.tail _ (.head _))
  dsimp only at f1 r1 r2 r3 r4
  clear hf
  have fin : ∀ (z : Int) (t : Tok) (h : Heap) (tk : Nat), Fr h₀ L h m → News h₀ L h (([(c', oc), (44, tabObj (#[] ++ #[rawInt (posOf inD).line, rawInt (posOf inD).col, .ref c']))] ++ (Dq, listOf vs.toArray cnt) :: news)) → z = val (2 ^ n) ns → Q (.int z t) { s with heap := h, toks := tk } := fun z t h tk F N ez =>
    hret _ _ _ _ F N ⟨t, _, by rw [ez], rfl, .inr ⟨c', oc, ocv, tq, rfl, hoc, hocv⟩, fun q hq => (hG q hq).imp id fun k p hp => k p (by
        rcases List.mem_append.mp hp with hp | hp
        · exact List.mem_append_left _ hp
        · exact List.mem_append_right _ (List.mem_append_right _ hp))⟩
  k_steps
  · rename (Obj.data _ = Data.cell (some (Value.ref f))) => dI
    have hnz : ns.length ≠ 0 := by first | assumption | (simp_all; done) | omega
    (first | refine Stop.on ?_ | skip)
    refine' Cl.use (ind w p loose mean mg mb ((44, tabObj (#[] ++ #[rawInt (posOf inD).line, rawInt (posOf inD).col, .ref c'])) :: news) f c' (L' + 1) (L' + 1 + 1 + 1) (L' + 1 + 1) Dq qD doc ((mg "__name__").getD .none) ctv oc o3 _ o2 ocv tq tn n cnt hoc hocv d3 dI d2 vs ns hI0 hds (by omega) hn hn1 ns.length 0 ns.length _ _ ?p1 ?p2 ?p3 ?p4) ?yB ?yF ?yX ?yN ?ysub ?yT ?yk ?yd ?yu ?_
    case yB => k_asm
    case yF => k_asm
    case yX => k_asm
    case yN => k_asm
    case yT => k_asm
    case yk => first | exact rfl | assumption
    case yd => first | (dsimp only [ktrTop]; omega) | decide | decide +kernel
    case yu => first | (dsimp only [ktrTop]; omega) | decide | decide +kernel
    case p1 => omega
    case p2 => exact Int.le_refl _
    case p3 => omega
    case p4 => exact Int.le_refl _
    case ysub =>
      repeat' (first | (refine List.forall_mem_cons.mpr ⟨?_, ?_⟩) | (k_dflt k_mem) | exact fun q hq => by (repeat (first | exact hq | refine List.Mem.tail _ ?_)))
    rintro r T2 h3 tk3 F3 N3 ⟨t3, rfl, rfl⟩
    k_sweep
    dsimp only
    k_steps
    refine fin _ _ _ _ (by assumption) (fun q hq => (by assumption : News h₀ L _ _) q ?_) (by simp)
    revert q hq
    repeat' (first | (refine List.forall_mem_cons.mpr ⟨?_, ?_⟩) | (k_dflt k_mem) | exact fun q hq => by (repeat (first | exact hq | refine List.Mem.tail _ ?_)))
  · have hz : ns.length = 0 := by first | assumption | (simp_all; done) | omega
    have hn0 := List.eq_nil_of_length_eq_zero hz
    refine fin _ _ _ _ (by assumption) (fun q hq => (by assumption : News h₀ L _ _) q ?_) (by rw [hn0]; rfl)
    revert q hq
    repeat' (first | (refine List.forall_mem_cons.mpr ⟨?_, ?_⟩) | (k_dflt k_mem) | exact fun q hq => by (repeat (first | exact hq | refine List.Mem.tail _ ?_)))
end

theorem rsDm : True ∧ True := by
  w_top off
  k_with_none
  first | (walk1; fail) | exact ⟨trivial, trivial⟩
section
open PySem PySem.W PyProof.Rows
set_option Elab.async false
set_option maxRecDepth 100000
set_option maxHeartbeats 8000000
theorem d2 (w : World) (p : Program) (loose : List Str) (mean : ExcName → Option Value) (mg mb : Str → Option Value) (news : List (Addr × Obj)) (a b n : Int) (ta tb tn : Tok) (ha0 : 0 ≤ a) (ha1 : a < 2 ^ 60) (hb : 0 < b) (hb1 : b < 2 ^ 30) (hn : 0 ≤ n) (hn1 : n < 100) :
   Cl PySem.Challenge.rw_gh0004_02.row.prog w (hd.heap_39 w.params) p loose mean mg mb 28 news 1 8 [.int a ta, .int b tb, .int n tn] (fun r T' => ∃ D t1 t2, r = .ref D ∧ T' = (D, tupObj [.int (a / b) t1, .int (a % b) t2]) :: news ∧ ∀ p ∈ news, @LT.lt Nat _ p.1 D) := by
  k_fill
  have hbits : (Builtin.Int.intBits a : Int) - n ≤ 4000 := by have := bits_mid ha0 ha1; omega
  rw [← Int.fdiv_eq_ediv_of_nonneg a (Int.le_of_lt hb), ← Int.fmod_eq_emod_of_nonneg a (Int.le_of_lt hb)]
  dsimp only [Cl]; intros; rename_i hret
  refine wpAny_call ?_
  k_dflt cell_enter
  k_steps
  exact hret _ _ _ _ (by assumption) (by assumption) ⟨_, _, _, rfl, rfl, fun q hq => Heap.lt_size ((by assumption : News _ _ _ news) q hq).1⟩
end

theorem rsDf : True ∧ True := by
  w_top off
  k_with_none
  first | (walk1; fail) | exact ⟨trivial, trivial⟩
section
open PySem PySem.W PyProof.Rows
set_option Elab.async false
set_option maxRecDepth 100000
set_option maxHeartbeats 4000000
local macro_rules | `(tactic| size_fits) => `(tactic| ((simp only [List.size_toArray, List.length_append, List.length_cons, List.length_nil, PySem.sizeLine_eq]); omega))
local macro_rules | `(tactic| walk_at "binaryOp LShift int int") => `(tactic| (k_here; refine lshift_int (by with_reducible assumption) (by with_reducible assumption) ?_))
/-- the two tables of int_divmod -/
def Tabs (T : List (Addr × Obj)) : Prop := ∃ TA TB, T = TA ++ TB ∧ TabSt 37 (posOf inI) qI TA ∧ TabSt 44 (posOf inD) qD TB ∧ Off TB TA
theorem dmp (w : World) (p : Program) (loose : List Str) (mean : ExcName → Option Value) (mg mb : Str → Option Value) (T news : List (Addr × Obj)) (a b : Int) (ta tb : Tok) (ha0 : 0 ≤ a) (ha1 : a < 2 ^ 30) (hb0 : 0 < b) (hb1 : b < 2 ^ 30) (hT : Tabs T) (hO : Off news T) :
   Cl PySem.Challenge.rw_gh0004_02.row.prog w (hd.heap_39 w.params) p loose mean mg mb 56 (T ++ news) 100 1000 [.int a ta, .int b tb] (fun r T' => ∃ D t1 t2 T1, r = .ref D ∧ T' = (D, tupObj [.int (a / b) t1, .int (a % b) t2]) :: (T1 ++ news) ∧ Tabs T1 ∧ Grown T (T ++ news) T1 ∧ (∀ q ∈ T1 ++ news, @LT.lt Nat _ q.1 D)) := by
  k_fill
  obtain ⟨TA, TB, rfl, hTA, hTB, hAB⟩ := hT
  obtain ⟨n, en⟩ : ∃ n, n = Builtin.Int.intBits b := ⟨_, rfl⟩
  have hn1 : n ≤ 30 := by rw [en]; exact bits_small (Int.le_of_lt hb0) hb1
  have hbn : b < 2 ^ n := by
    have h3 := intBits_le_iff.mp (Nat.le_of_eq en.symm)
    have h4 : ((b.natAbs : Nat) : Int) < ((2 ^ n : Nat) : Int) := by exact_mod_cast h3
    rw [Int.natCast_pow] at h4
    have h5 : ((b.natAbs : Nat) : Int) = b := by omega
    rw [h5] at h4
    exact h4
  have hn0 : 1 ≤ n := by
    rcases Nat.eq_zero_or_pos n with h | h
    · rw [h] at hbn; simp at hbn; omega
    · exact h
  subst en
  dsimp only [Cl]
  intro dp un gd cn cs a0 ccd cl outer A₀ base h₀ L m s Q E hB hF hX hN hTp hkd hdp hun hret
  refine wpAny_call ?_
  refine' code_def ?k1 ?k2 ?k3 ?k4 ?k5 ?kA ?kF ?kK ?k6 ?k7 ?k8 ?k9 ?kB ?_ ?c2 ?c3 ?c4 ?c5
  case kA => exact rfl
  case kF => exact rfl
  case kK => assumption
  case k1 => k_asm
  case k2 => k_asm
  case k3 => k_asm
  case k4 => k_asm
  case k5 => k_asm
  case k6 => k_dflt k_is
  case k7 => k_dflt k_is
  case k8 => ktr_room
  case k9 => exact BindsTo.of_eq rfl
  case c5 => decide
  case kB => exact locs rfl
  case c2 => exact rfl
  case c3 => exact rfl
  case c4 => exact rfl
  k_whole
  intro g' L' h' FG' F' N' B' X' T'
  (try dsimp only)
  (try k_lift B')
  (try k_fold)
  have X0 : (hd.heap_39 w.params).In g' := by assumption
  replace F' : Fr g' L' h' (fun y => [(Str.ofString "b", Value.int b tb), (Str.ofString "a", Value.int a ta)].lookup y) := F'
  k_steps
  (first | refine Stop.on ?_ | skip)
  refine' Cl.use (i2d w p loose mean mg mb TA (TB ++ news) a (Builtin.Int.intBits b) _ _ ha0 ha1 hn0 (by omega) hTA ?yO) ?yB ?yF ?yX ?yN ?ysub ?yT ?yk ?yd ?yu ?_
  case yB => k_asm
  case yF => k_asm
  case yX => k_asm
  case yN => k_asm
  case yT => k_asm
  case yk => first | exact rfl | assumption
  case yd => first | (dsimp only [ktrTop]; omega) | decide | decide +kernel
  case yu => first | (dsimp only [ktrTop]; omega) | decide | decide +kernel
  case yO =>
    intro q hq q' hq'
    rcases List.mem_append.mp hq with hq | hq
    · exact hAB q hq q' hq'
    · exact hO q hq q' (List.mem_append_left _ hq')
  case ysub => intro q hq; rw [List.append_assoc]; exact hq
  rintro r T2 h2 tk2 F2 N2 ⟨D, vs, cnt, ds, TA1, rfl, rfl, hI, hdb, hdv, hdl, hTA1, hG1, hlt1, hne1⟩
  k_sweep
  dsimp only
  k_steps
  rename_i _ _ Dq _ lq _ I hI0 F1 N1 lI
  obtain ⟨t0, t1, F0⟩ : ∃ t0 t1, Fr g' L' hI0 (fun y => if y = Str.ofString "q_digits" then some (.ref Dq) else if y = Str.ofString "r" then some (.int 0 t0) else if y = Str.ofString "a_digits" then some (.ref D) else if y = Str.ofString "n" then some (.int (Builtin.Int.intBits b) t1) else [(Str.ofString "b", Value.int b tb), (Str.ofString "a", Value.int a ta)].lookup y) := ⟨_, _, F1⟩
  clear F1
  have lqa := allLt_all lq.2
  have pp : (0 : Int) < 2 ^ Builtin.Int.intBits b := Int.pow_pos (by decide)
  refine iter_revUnr (ax := D) (lo := listOf vs.toArray cnt) (vs := vs) (n := cnt) rfl F0 N1 ?hof (.tail _ (.head _)) rfl rfl ?_
  case hof =>
    refine ⟨.inl (neN ?_), .inl (neN ?_), ?_⟩
    · dsimp only; omega
    · dsimp only; omega
    · generalize hR : TA1 ++ (TB ++ news) = R at lI ⊢
      have lIa := allLt_all lI.2.2
      clear hR lI
      induction R with
      | nil => trivial
      | cons q R ih => exact ⟨.inl (Nat.ne_of_lt (lIa q (.head _))), ih fun p hp => lIa p (.tail _ hp)⟩
  refine rev_loop (fun rs m1 nx => ∃ (xs dn qs : List Int) (vq : List Value) (cq : Nat) (r : Int) (tr : Tok) (u : Str → Option Value), IntsAre rs xs ∧ ds = xs.reverse ++ dn ∧ IntsAre vq qs ∧ (∀ q ∈ qs, 0 ≤ q ∧ q < 2 ^ Builtin.Int.intBits b) ∧ qs.length = dn.length ∧ 0 ≤ r ∧ r < b ∧ val (2 ^ Builtin.Int.intBits b) dn = val (2 ^ Builtin.Int.intBits b) qs.reverse * b + r ∧
      m1 = (fun y => if y = Str.ofString "r" then some (.int r tr) else if [Str.ofString "a_digit", Str.ofString "q_digit"].contains y = true then u y else (if y = Str.ofString "q_digits" then some (.ref Dq) else if y = Str.ofString "r" then some (.int 0 t0) else if y = Str.ofString "a_digits" then some (.ref D) else if y = Str.ofString "n" then some (.int (Builtin.Int.intBits b) t1) else [(Str.ofString "b", Value.int b tb), (Str.ofString "a", Value.int a ta)].lookup y)) ∧
      nx = (Dq, listOf vq.toArray cq) :: (D, listOf vs.toArray cnt) :: (TA1 ++ (TB ++ news))) ?step ?done _ _ _ ?init
  case init =>
    refine ⟨ds.reverse, [], [], [], 0, 0, t0, _, IntsAre.reverse hI, by simp, .nil, fun _ h => (nomatch h), rfl, Int.le_refl _, hb0, by simp [val], kept1 _ rfl fun _ _ _ => rfl, rfl⟩
  case step =>
    rintro v rs m1 nx it h tk hit ⟨xs, dn, qs, vq, cq, r, tr, u, hxs, hsp, hvq, hqb, hql, hr0, hr1, hval, rfl, rfl⟩ F1 N1
    cases hxs with
    | cons x tx hxs =>
    rename_i xs
    replace F1 : Fr g' L' h _ := F1
    replace N1 : News g' L' h _ := N1
    have hxd := hdb x (by rw [hsp]; simp)
    have hn2 : (0 : Int) ≤ (Builtin.Int.intBits b : Int) := Int.natCast_nonneg _
    have hV : (Builtin.Int.intBits r : Int) + (Builtin.Int.intBits b : Int) ≤ 2 ^ 27 := by
      have := bits_small hr0 (by omega)
      omega
    have eN : ((Builtin.Int.intBits b : Nat) : Int).toNat = Builtin.Int.intBits b := Int.toNat_natCast _
    have hP30 : (2 : Int) ^ Builtin.Int.intBits b ≤ 2 ^ 30 := by
      have h9 : 2 ^ Builtin.Int.intBits b ≤ 2 ^ 30 := Nat.pow_le_pow_right (by decide) hn1
      exact_mod_cast h9
    have hr2 : 0 ≤ r * 2 ^ Builtin.Int.intBits b := Int.mul_nonneg hr0 (Int.le_of_lt pp)
    have hr3 : (r + 1) * 2 ^ Builtin.Int.intBits b ≤ b * 2 ^ Builtin.Int.intBits b := Int.mul_le_mul_of_nonneg_right (by omega) (Int.le_of_lt pp)
    have hr4 : b * 2 ^ Builtin.Int.intBits b ≤ 2 ^ 30 * 2 ^ 30 := Int.mul_le_mul (by omega) hP30 (Int.le_of_lt pp) (by decide)
    rw [Int.add_mul, Int.one_mul] at hr3
    show wpAny _ _ _ _ _ _
    k_fold
    k_steps
    (first | refine Stop.on ?_ | skip)
    refine' Cl.use (d2 w p loose mean mg mb ((I, it) :: (Dq, listOf vq.toArray cq) :: (D, listOf vs.toArray cnt) :: (TA1 ++ (TB ++ news))) _ b _ _ _ _ ?a0 ?a1 hb0 hb1 hn2 ?n1) ?zB ?zF ?zX ?zN ?zsub ?zT ?zk ?zd ?zu ?_
    case zB => k_asm
    case zF => k_asm
    case zX => k_asm
    case zN => k_asm
    case zT => k_asm
    case zk => first | exact rfl | assumption
    case zd => first | (dsimp only [ktrTop]; omega) | decide | decide +kernel
    case zu => first | (dsimp only [ktrTop]; omega) | decide | decide +kernel
    case a0 => rw [eN]; omega
    case a1 => rw [eN]; omega
    case n1 => omega
    case zsub => exact fun _ h => h
    rintro r9 T3 h3 tk3 F3 N3 ⟨D2, t2, t3, rfl, rfl, hlt3⟩
    k_sweep
    rw [eN] at N3
    have z1 := hlt3 _ (.tail _ (.head _))
    have z2 := hlt3 _ (.head _)
    dsimp only at z1 z2
    have hvl : vq.length ≤ 30 := by
      rw [hvq.length, hql]
      have := congrArg List.length hsp
      simp only [List.length_append] at this
      omega
    dsimp only
    k_steps
    rename Fr _ _ _ _ => F5
    rename News _ _ _ _ => N5
    rw [List.push_toArray] at N5
    obtain ⟨qd, eqd⟩ : ∃ qd, qd = (r * 2 ^ Builtin.Int.intBits b + x) / b := ⟨_, rfl⟩
    obtain ⟨rd, erd⟩ : ∃ rd, rd = (r * 2 ^ Builtin.Int.intBits b + x) % b := ⟨_, rfl⟩
    have em := Int.emod_add_mul_ediv (r * 2 ^ Builtin.Int.intBits b + x) b
    have hrd0 := Int.emod_nonneg (r * 2 ^ Builtin.Int.intBits b + x) (Int.ne_of_gt hb0)
    have hrd1 := Int.emod_lt_of_pos (r * 2 ^ Builtin.Int.intBits b + x) hb0
    have hqd0 : 0 ≤ (r * 2 ^ Builtin.Int.intBits b + x) / b := Int.ediv_nonneg (by omega) (Int.le_of_lt hb0)
    have hqd1 : (r * 2 ^ Builtin.Int.intBits b + x) / b < 2 ^ Builtin.Int.intBits b := Int.ediv_lt_of_lt_mul hb0 (by rw [Int.mul_comm (2 ^ Builtin.Int.intBits b) b]; omega)
    rw [← eqd] at em hqd0 hqd1 N5
    rw [← erd] at em hrd0 hrd1 N5
    rw [← eqd, ← erd] at F5
    refine UnrEnd.intro F5 N5 ((Dq, listOf (vq ++ [Value.int qd t2]).toArray (cq + 1)) :: (D, listOf vs.toArray cnt) :: (TA1 ++ (TB ++ news))) (fun q hq => .tail _ hq) ?off ⟨.tail _ (.head _), xs, x :: dn, qs ++ [qd], vq ++ [Value.int qd t2], cq + 1, rd, t3, _, hxs, ?e1, IntsAre.append hvq (.cons qd t2 .nil), ?e2, ?e3, hrd0, hrd1, ?e4, kept1 _ rfl ?e5, rfl⟩
    case off =>
      intro q hq
      have hI := allLt_all lI.2.2
      rcases List.mem_cons.mp hq with rfl | hq
      · exact Nat.ne_of_lt lI.1
      · rcases List.mem_cons.mp hq with rfl | hq
        · exact Nat.ne_of_lt lI.2.1
        · exact Nat.ne_of_lt (hI q hq)
    case e1 => rw [hsp]; simp
    case e2 =>
      intro q hq
      rcases List.mem_append.mp hq with hq | hq
      · exact hqb q hq
      · obtain rfl := List.mem_singleton.mp hq
        exact ⟨hqd0, hqd1⟩
    case e3 => simp [hql]
    case e4 =>
      rw [List.reverse_append]
      simp only [List.reverse_cons, List.reverse_nil, List.nil_append, List.cons_append, val, hval]
      generalize val (2 ^ Builtin.Int.intBits b) qs.reverse = V at *
      generalize (2 : Int) ^ Builtin.Int.intBits b = P at *
      have e6 : P * (V * b + r) = P * V * b + r * P := by rw [Int.mul_add, Int.mul_assoc, Int.mul_comm P r]
      rw [e6, Int.add_mul, Int.mul_comm qd b]
      omega
    case e5 =>
      intro z h1 h2
      have h3 : z ≠ Str.ofString "q_digit" := fun e => by rw [e] at h2; exact absurd h2 (by decide)
      have h4 : z ≠ Str.ofString "a_digit" := fun e => by rw [e] at h2; exact absurd h2 (by decide)
      simp only [if_neg h1, if_neg h3, if_neg h4, h2, Bool.false_eq_true, if_false]
  case done =>
    rintro m1 nx h tk ⟨xs, dn, qs, vq, cq, r, tr, u, hxs, hsp, hvq, hqb, hql, hr0, hr1, hval, rfl, rfl⟩ F1 N1
    cases hxs
    obtain rfl : ds = dn := by rw [hsp]; rfl
    replace F1 : Fr g' L' h _ := F1
    replace N1 : News g' L' h _ := N1
    have eQ : val (2 ^ Builtin.Int.intBits b) qs.reverse = a / b := by
      rw [← hdv, hval, Int.add_comm, Int.add_mul_ediv_right _ _ (Int.ne_of_gt hb0), Int.ediv_eq_zero_of_lt hr0 hr1, Int.zero_add]
    have eR : r = a % b := by
      rw [← hdv, hval, Int.add_comm, Int.add_mul_emod_self_right, Int.emod_eq_of_lt hr0 hr1]
    k_sweep
    dsimp only
    k_steps
    refine kl_reverse (l := vq.reverse) F1 N1 (by simp) (Upd.head (List.forall_mem_cons.mpr ⟨by k_dflt k_ne, fun q hq => by have hq1 := lqa q hq; refine neN ?_; omega⟩)) (by simp; have := hvq.length; have := PySem.sizeLine_eq; omega) fun h2 F2 N2 => ?_
    dsimp only
    k_steps
    have hTA2 := hTA1
    (first | refine Stop.on ?_ | skip)
    refine' Cl.use (d2i w p loose mean mg mb TB ((D, listOf vs.toArray cnt) :: (TA1 ++ news)) Dq vq.reverse cq qs.reverse (Builtin.Int.intBits b) _ (IntsAre.reverse hvq) ?hds (by rw [List.length_reverse]; omega) hn0 (by omega) hTB ?hO) ?yB ?yF ?yX ?yN ?ysub ?yT ?yk ?yd ?yu ?_
    case yB => k_asm
    case yF => k_asm
    case yX => k_asm
    case yN => k_asm
    case yT => k_asm
    case yk => first | exact rfl | assumption
    case yd => first | (dsimp only [ktrTop]; omega) | decide | decide +kernel
    case yu => first | (dsimp only [ktrTop]; omega) | decide | decide +kernel
    case hds => exact fun d hd => hqb d (List.mem_reverse.mp hd)
    case hO =>
      intro q hq q' hq'
      have l0 := hlt1 q' (List.mem_append_right _ (List.mem_append_left _ hq'))
      have l1 := lqa q' (List.mem_append_right _ (List.mem_append_left _ hq'))
      rcases List.mem_cons.mp hq with rfl | hq
      · exact (Nat.ne_of_lt l1).symm
      rcases List.mem_cons.mp hq with rfl | hq
      · exact (Nat.ne_of_lt l0).symm
      rcases List.mem_append.mp hq with hq | hq
      · rcases hG1 q hq with hg | hg
        · obtain ⟨q0, hq0, e0⟩ := List.mem_map.mp hg
          rw [← e0]
          exact (hAB q' hq' q0 hq0).symm
        · exact (Nat.ne_of_lt (hg q' (List.mem_append_right _ (List.mem_append_left _ hq')))).symm
      · exact hO q hq q' (List.mem_append_right _ hq')
    case ysub =>
      intro q hq
      rcases List.mem_append.mp hq with hq | hq
      · exact .tail _ (.tail _ (List.mem_append_right _ (List.mem_append_left _ hq)))
      rcases List.mem_cons.mp hq with rfl | hq
      · exact .head _
      rcases List.mem_cons.mp hq with rfl | hq
      · exact .tail _ (.head _)
      rcases List.mem_append.mp hq with hq | hq
      · exact .tail _ (.tail _ (List.mem_append_left _ hq))
      · exact .tail _ (.tail _ (List.mem_append_right _ (List.mem_append_right _ hq)))
    rintro r9 T3 h3 tk3 F3 N3 ⟨t3, TB1, rfl, rfl, hTB1, hG2⟩
    k_sweep
    dsimp only
    k_steps
    rename_i Dt ht Ft Nt lt kF kN _ _
    rw [eQ, eR] at kN
    have hsub : ∀ q ∈ (TA1 ++ TB1) ++ news, q ∈ TB1 ++ (Dq, listOf vq.reverse.toArray cq) :: (D, listOf vs.toArray cnt) :: (TA1 ++ news) := fun q hq => by
      rcases List.mem_append.mp hq with hq | hq
      · rcases List.mem_append.mp hq with hq | hq
        · exact List.mem_append_right _ (.tail _ (.tail _ (List.mem_append_left _ hq)))
        · exact List.mem_append_left _ hq
      · exact List.mem_append_right _ (.tail _ (.tail _ (List.mem_append_right _ hq)))
    refine hret _ ((Dt, tupObj [.int (a / b) t3, .int (a % b) tr]) :: ((TA1 ++ TB1) ++ news)) _ _ kF (fun q hq => ?_) ⟨Dt, t3, tr, TA1 ++ TB1, rfl, rfl, ⟨TA1, TB1, rfl, hTA1, hTB1, ?_⟩, ?_, fun q hq => lt q (hsub q hq)⟩
    · rcases List.mem_cons.mp hq with rfl | hq
      · exact kN _ (.head _)
      · exact kN _ (.tail _ (hsub q hq))
    · intro q hq q' hq'
      rcases hG2 q hq with hg | hg
      · obtain ⟨q0, hq0, e0⟩ := List.mem_map.mp hg
        rw [← e0]
        rcases hG1 q' hq' with hg1 | hg1
        · obtain ⟨q1, hq1, e1⟩ := List.mem_map.mp hg1
          rw [← e1]
          exact hAB q0 hq0 q1 hq1
        · exact Nat.ne_of_lt (hg1 q0 (List.mem_append_right _ (List.mem_append_left _ hq0)))
      · exact (Nat.ne_of_lt (hg q' (List.mem_append_right _ (.tail _ (.tail _ (List.mem_append_left _ hq')))))).symm
    · intro q hq
      rcases List.mem_append.mp hq with hq | hq
      · rcases hG1 q hq with hg | hg
        · exact .inl (by rw [List.map_append]; exact List.mem_append_left _ hg)
        · exact .inr fun p hp => hg p (by rw [← List.append_assoc]; exact hp)
      · rcases hG2 q hq with hg | hg
        · exact .inl (by rw [List.map_append]; exact List.mem_append_right _ hg)
        · have hD := hg _ (List.mem_append_right _ (.tail _ (.head _)))
          dsimp only at hD
          refine .inr fun p hp => Nat.lt_trans (hlt1 p ?_) hD
          rw [← List.append_assoc]
          exact hp
end

theorem rsDg : True ∧ True := by
  w_top off
  k_with_none
  first | (walk1; fail) | exact ⟨trivial, trivial⟩
section
open PySem PySem.W PyProof.Rows
set_option Elab.async false
set_option maxRecDepth 100000
set_option maxHeartbeats 4000000
theorem idm (w : World) (p : Program) (loose : List Str) (mean : ExcName → Option Value) (mg mb : Str → Option Value) (T news : List (Addr × Obj)) (a b : Int) (ta tb : Tok) (ha0 : 0 ≤ a) (ha1 : a < 2 ^ 30) (hb0 : 0 < b) (hb1 : b < 2 ^ 30) (hT : Tabs T) (hO : Off news T) :
   Cl PySem.Challenge.rw_gh0004_02.row.prog w (hd.heap_39 w.params) p loose mean mg mb 63 (T ++ news) 110 1100 [.int a ta, .int b tb] (fun r T' => ∃ D t1 t2 T1, r = .ref D ∧ T' = (D, tupObj [.int (a / b) t1, .int (a % b) t2]) :: (T1 ++ news) ∧ Tabs T1 ∧ Grown T (T ++ news) T1 ∧ (∀ q ∈ T1 ++ news, @LT.lt Nat _ q.1 D)) := by
  k_fill
  dsimp only [Cl]
  intro dp un gd cn cs a0 ccd cl outer A₀ base h₀ L m s Q E hB hF hX hN hTp hkd hdp hun hret
  refine wpAny_call ?_
  refine' code_def ?k1 ?k2 ?k3 ?k4 ?k5 ?kA ?kF ?kK ?k6 ?k7 ?k8 ?k9 ?kB ?_ ?c2 ?c3 ?c4 ?c5
  case kA => exact rfl
  case kF => exact rfl
  case kK => assumption
  case k1 => k_asm
  case k2 => k_asm
  case k3 => k_asm
  case k4 => k_asm
  case k5 => k_asm
  case k6 => k_dflt k_is
  case k7 => k_dflt k_is
  case k8 => ktr_room
  case k9 => exact BindsTo.of_eq rfl
  case c5 => decide
  case kB => exact locs rfl
  case c2 => exact rfl
  case c3 => exact rfl
  case c4 => exact rfl
  k_whole
  intro g' L' h' FG' F' N' B' X' T'
  (try dsimp only)
  (try k_lift B')
  (try k_fold)
  replace F' : Fr g' L' h' (fun y => [(Str.ofString "b", Value.int b tb), (Str.ofString "a", Value.int a ta)].lookup y) := F'
  have hb2 : b ≠ 0 := by omega
  have hb3 : ¬ b < 0 := by omega
  have ha3 : ¬ a < 0 := by omega
  k_steps
  all_goals (try (exfalso; first | exact hb2 (by assumption) | exact hb3 (by assumption) | exact ha3 (by assumption)))
  (first | refine Stop.on ?_ | skip)
  refine' Cl.use (dmp w p loose mean mg mb T news a b _ _ ha0 ha1 hb0 hb1 hT hO) ?yB ?yF ?yX ?yN ?ysub ?yT ?yk ?yd ?yu ?_
  case yB => k_asm
  case yF => k_asm
  case yX => k_asm
  case yN => k_asm
  case yT => k_asm
  case yk => first | exact rfl | assumption
  case yd => first | (dsimp only [ktrTop]; omega) | decide | decide +kernel
  case yu => first | (dsimp only [ktrTop]; omega) | decide | decide +kernel
  case ysub => exact fun _ h => h
  rintro r9 T3 h3 tk3 F3 N3 ⟨D, t1, t2, T1, rfl, rfl, hT1, hG, hlt⟩
  dsimp only
  k_steps
  rename_i kF kN _ _
  exact hret _ _ _ _ kF kN ⟨D, t1, t2, T1, rfl, rfl, hT1, hG, hlt⟩
end

theorem rsLa : True ∧ True := by
  w_top off
  k_with_none
  first | (walk1; fail) | exact ⟨trivial, trivial⟩
section
open PySem PySem.W PyProof.Rows
set_option Elab.async false
set_option maxRecDepth 100000
set_option maxHeartbeats 4000000
theorem getD_lt {y : List Nat} {b : Nat} (hb : 0 < b) (hy : ∀ i ∈ y, i < b) (i : Nat) : y.getD i 0 < b := by
  rw [List.getD_eq_getElem?_getD]
  cases e : y[i]? with
  | none => exact hb
  | some k => exact hy k (List.mem_of_getElem? e)
theorem thenN_lt {x y : List Nat} {b : Nat} (hb : 0 < b) (hy : ∀ i ∈ y, i < b) : ∀ i ∈ thenN x y, i < b := fun i hi => by
  obtain ⟨k, _, rfl⟩ := List.mem_map.mp hi
  exact getD_lt hb hy k
local macro_rules | `(tactic| walk_at "eval ListComp") => `(tactic| (k_here; k_dflt (refine ListComp_S (by k_asm) (by with_unfolding_all rfl) (by decide) (by rfl) (by decide) (by rfl) ?_)))
theorem lth (w : World) (p : Program) (loose : List Str) (mean : ExcName → Option Value) (mg mb : Str → Option Value) (news : List (Addr × Obj)) (x y : List Nat) (tx ty : Tok) (hx : ∀ i ∈ x, i < y.length) (hy : ∀ i ∈ y, i < 8) (hl : x.length ≤ 8) (hl2 : y.length ≤ 8) :
   Cl PySem.Challenge.rw_gh0004_02.row.prog w (hd.heap_39 w.params) p loose mean mg mb 68 news 2 16 [.bytes (Bt x) tx, .bytes (Bt y) ty] (fun r T' => ∃ t, r = .bytes (Bt (thenN x y)) t ∧ T' = news) := by
  k_fill
  have hy2 : ∀ k ∈ y, k < 256 := fun k hk => Nat.lt_trans (hy k hk) (by decide)
  have hx2 : ∀ k ∈ x, k < 256 := fun k hk => by have := hx k hk; omega
  dsimp only [Cl]
  intro dp un gd cn cs a0 ccd cl outer A₀ base h₀ L m s Q E hB hF hX hN hTp hkd hdp hun hret
  refine wpAny_call ?_
  refine' code_defC ?k1 ?k2 ?k3 ?k4 ?k5 ?kA ?kF ?kK ?k6 ?k7 ?k8 ?k9 ?kB ?kD ?_ ?c2 ?c3 ?c4
  case kA => exact rfl
  case kF => exact rfl
  case kK => assumption
  case k1 => k_asm
  case k2 => k_asm
  case k3 => k_asm
  case k4 => k_asm
  case k5 => k_asm
  case k6 => k_dflt k_is
  case k7 => k_dflt k_is
  case k8 => ktr_room
  case k9 => exact BindsTo.of_eq rfl
  case kB => exact rfl
  case kD => decide +kernel
  case c2 => exact rfl
  case c3 => exact rfl
  case c4 => exact rfl
  k_whole
  intro g' L' h' tk' cells' FG' F' N' Y' B' X' T' lT
  (try dsimp only)
  (try k_lift B')
  (try k_fold)
  obtain ⟨o1, hE, d1⟩ := CellsAre.one Y'
  subst hE
  clear Y'
  simp only [List.cons_append, List.nil_append] at N'
  replace d1 : o1.data = .cell (some (.bytes (Bt y) ty)) := d1
  replace F' : Fr g' L' h' (fun z => if z = Str.ofString "one" then some (.bytes (Bt x) tx) else none) := F'
  k_steps
  refine CSrc.bytes rfl F' N' (by rw [Bt_size, PySem.sizeLine_eq]; omega) fun h1 => ?_
  refine comp_all (fun i z => ∃ t, z = Value.int ((zs (thenN x y)).getD i 0) t) ?_ ?_
  · rintro i v ys I oI C oC D m₂ h tk E' hi ⟨c, u, hc, rfl⟩ hC hx1 F1 N1 off ne
    obtain ⟨k, hk, rfl⟩ := Bt_get hc
    have hkm := List.mem_of_getElem? hk
    have hk1 := hx k hkm
    have hk2 := ofNat_toNat (hx2 k hkm)
    rw [hk2] at hx1
    k_sweep
    k_steps
    have e1 : ((y.map UInt8.ofNat).getD (k : Int).toNat 0).toNat = y.getD k 0 := by
      have := Bt_getD (i := k) hy2
      simpa [Bt, Array.getD_eq_getD_getElem?, List.getD_eq_getElem?_getD] using this
    have e2 : (thenN x y).getD i 0 = y.getD k 0 := by
      simp [thenN, List.getD_eq_getElem?_getD, hk]
    refine LCg.CompEnd.intro F1 N1 _ (fun _ h => h) off trivial ⟨rfl, ?_⟩
    rw [zs_getD, e2, ← e1]
    exact ⟨_, rfl⟩
  · intro ys hys hrel
    have hI : IntsAre ys (zs (thenN x y)) := ints_of_rel (by rw [hys, Bt_size, zs_len, thenN, List.length_map]) hrel
    k_steps
    refine bytes_Bt (by assumption) (by assumption) (by is_list) hI (thenN_lt (by decide) hy2) (by rw [thenN, List.length_map]; omega) rfl fun h2 t2 k2 F2 N2 => ?_
    k_steps
    rename_i kF kN _ _
    exact hret _ _ _ _ kF (fun q hq => kN q (.tail _ (.tail _ hq))) ⟨_, rfl, rfl⟩
end

local macro_rules | `(tactic| walk_at "call builtin:len") => `(tactic| (k_here; (with_reducible show wpAny _ _ (call (Value.builtin "len") [Value.bytes (Bt _) _]) _ _ _); (refine len_Bt (by omega) ?_)))
local macro_rules | `(tactic| walk_at "subscriptTail") => `(tactic| (k_here; (with_reducible show wpAny _ _ (subscriptTail _ _ (Value.bytes (Bt _) _) (Value.int _ _)) _ _ _); k_dflt (refine' item_Bt ?a ?z ?i ?j ?_ ?hs ?ht; (case a => assumption); (case z => omega); (case i => omega); (case j => omega); (case hs => with_unfolding_all rfl); (case ht => (intro _; with_unfolding_all rfl)))))
local macro_rules | `(tactic| walk_at "compareOp NotEq bytes bytes") => `(tactic| (k_here; (refine' ne_Bt ?a ?b ?_; (case a => assumption); (case b => assumption))))
local macro_rules | `(tactic| walk_at "compareOp Eq bytes bytes") => `(tactic| (k_here; (refine' eq_Bt ?a ?b ?_; (case a => assumption); (case b => assumption))))
local macro_rules | `(tactic| walk_at "call type:bytes") => `(tactic| (k_here; (with_reducible show wpAny _ _ (call (Value.type "bytes") [Value.ref _]) _ _ _); k_dflt (refine' bytes_range_K ?F ?N ?r ?n ?h ?_; (case F => k_asm); (case N => k_asm); (case r => assumption); (case n => omega); (case h => rfl)); intro h' t' k' F' N'; (try k_sweep)))
theorem rsLb : True ∧ True := by
  w_top off
  k_with_none
  k_with "exec While" => (k_here; refine Stop.go ?_)
  k_with "exec While Compare cons nil" => (k_here; refine Stop.go ?_)
  k_with "exec While BoolOp cons nil" => (k_here; refine Stop.go ?_)
  k_with "KswEnd" => (refine Stop.go ?_)
  first | (walk1; fail) | exact ⟨trivial, trivial⟩
section
open PySem PySem.W PyProof.Rows
set_option Elab.async false
set_option maxRecDepth 100000
set_option maxHeartbeats 4000000
theorem ltu (w : World) (p : Program) (loose : List Str) (mean : ExcName → Option Value) (mg mb : Str → Option Value) (news : List (Addr × Obj)) (x : List Nat) (tx : Tok) (hx : ∀ i ∈ x, i < x.length) (hl : x.length ≤ 8) (hl0 : 0 < x.length) :
   Cl PySem.Challenge.rw_gh0004_02.row.prog w (hd.heap_39 w.params) p loose mean mg mb 89 news 4 40 [.bytes (Bt x) tx] (fun r T' => ∃ t, r = .int (turnsN x : Nat) t ∧ T' = news) := by
  k_fill
  have hx8 : ∀ k ∈ x, k < 8 := fun k hk => by have := hx k hk; omega
  have hx2 : ∀ k ∈ x, k < 256 := fun k hk => by have := hx k hk; omega
  dsimp only [Cl]
  intro dp un gd cn cs a0 ccd cl outer A₀ base h₀ L m s Q E hB hF hX hN hTp hkd hdp hun hret
  refine wpAny_call ?_
  refine' code_def ?k1 ?k2 ?k3 ?k4 ?k5 ?kA ?kF ?kK ?k6 ?k7 ?k8 ?k9 ?kB ?_ ?c2 ?c3 ?c4 ?c5
  case kA => exact rfl
  case kF => exact rfl
  case kK => assumption
  case k1 => k_asm
  case k2 => k_asm
  case k3 => k_asm
  case k4 => k_asm
  case k5 => k_asm
  case k6 => k_dflt k_is
  case k7 => k_dflt k_is
  case k8 => ktr_room
  case k9 => exact BindsTo.of_eq rfl
  case c5 => decide
  case kB => exact locs rfl
  case c2 => exact rfl
  case c3 => exact rfl
  case c4 => exact rfl
  k_whole
  intro g' L' h' FG' F' N' B' X' T'
  (try dsimp only)
  (try k_lift B')
  (try k_fold)
  replace F' : Fr g' L' h' (fun y => [(Str.ofString "order", Value.bytes (Bt x) tx)].lookup y) := F'
  have hx3 : ∀ k ∈ List.range x.length, k < 256 := fun k hk => by have := List.mem_range.mp hk; omega
  k_steps
  refine Stop.on ?_
  rename Fr _ _ _ _ => F1
  rename News _ _ _ _ => N1
  obtain ⟨tf, tn, F0⟩ : ∃ tf tn : Tok, Fr g' L' _ (fun y => if y = Str.ofString "first" then some (.bytes (Bt (List.range x.length)) tf) else if y = Str.ofString "here" then some (.bytes (Bt x) tx) else if y = Str.ofString "turns" then some (.int 1 tn) else [(Str.ofString "order", Value.bytes (Bt x) tx)].lookup y) := ⟨_, _, F1⟩
  clear F1
  refine ksw_while (σ := List Nat × Nat × Tok × Tok) (fun _ => news) (fun c => [(Str.ofString "here", .bytes (Bt c.1) c.2.2.1), (Str.ofString "turns", .int (c.2.1 : Nat) c.2.2.2)]) (fun _ => True) [] (fun c => turnsGo x (List.range x.length) (21 - c.2.1) c.1 c.2.1 = turnsN x ∧ 1 ≤ c.2.1 ∧ c.2.1 ≤ 20 ∧ c.1.length ≤ 8 ∧ (∀ i ∈ c.1, i < x.length)) (fun c => 20 - c.2.1) (x, 1, tx, tn) F0 (fun q hq => N1 q (.tail _ hq)) trivial ?kk ?kp ?turn
  case kk =>
    intro q hq
    rcases List.mem_cons.mp hq with rfl | hq
    · rfl
    · obtain rfl := List.mem_singleton.mp hq
      rfl
  case kp => exact ⟨rfl, Nat.le_refl _, (by decide : 1 ≤ 20), hl, hx⟩
  case turn =>
    clear F0 N1
    rintro ⟨here, turns, t1, t2⟩ u h tk - ⟨hg, h1, h2, hz, hb⟩ F2 N2
    simp only [kstB, List.contains_nil, Bool.false_eq_true, if_false] at F2
    dsimp only at hg h1 h2 hz hb
    have hb2 : ∀ k ∈ here, k < 256 := fun k hk => by have := hb k hk; omega
    k_sweep
    k_steps
    · have hlt : turns < 20 := by omega
      have hc : (here != List.range x.length) = true := by assumption
      (first | refine Stop.on ?_ | skip)
      refine' Cl.use (lth w p loose mean mg mb news here x _ _ hb hx8 hz hl) ?yB ?yF ?yX ?yN ?ysub ?yT ?yk ?yd ?yu ?_
      case yB => k_asm
      case yF => k_asm
      case yX => k_asm
      case yN => k_asm
      case yT => k_asm
      case yk => first | exact rfl | assumption
      case yd => first | (dsimp only [ktrTop]; omega) | decide | decide +kernel
      case yu => first | (dsimp only [ktrTop]; omega) | decide | decide +kernel
      case ysub => exact fun _ h => h
      rintro r T3 h3 tk3 F3 N3 ⟨t3, rfl, rfl⟩
      k_sweep
      dsimp only
      k_steps
      rename Fr _ _ _ _ => F5
      rename News _ _ _ _ => N5
      refine Stop.on ?_
      refine ksw_end (thenN here x, turns + 1, t3, tk3 + 1) F5 N5 (fun q hq => .tail _ hq) trivial ?e1 ?e2 ⟨?e3, by dsimp only; omega, by dsimp only; omega, ?e4, ?e5⟩ ?e6
      case e1 =>
        intro q hq
        rcases List.mem_cons.mp hq with rfl | hq
        · rfl
        · obtain rfl := List.mem_singleton.mp hq
          rfl
      case e2 => ksw_same
      case e3 =>
        rw [← hg, show 21 - turns = (20 - turns) + 1 by omega, turnsGo, hc, show 21 - (turns + 1) = 20 - turns by omega]
        simp [hlt]
      case e4 => dsimp only; rw [thenN, List.length_map]; exact hz
      case e5 => exact thenN_lt hl0 hx
      case e6 => dsimp only; omega
    · have hge : turns = 20 := by omega
      rename_i kF kN _ _
      subst hge
      refine hret _ _ _ _ kF kN ⟨t2, congrArg (fun z : Nat => Value.int z t2) ?_, rfl⟩
      rw [← hg]
      simp [turnsGo]
    · have hc : (here != List.range x.length) = false := by assumption
      rename_i kF kN _ _
      refine hret _ _ _ _ kF kN ⟨t2, congrArg (fun z : Nat => Value.int z t2) ?_, rfl⟩
      rw [← hg, show 21 - turns = (20 - turns) + 1 by omega, turnsGo, hc]
      simp
end

theorem rsLg : True ∧ True := by
  w_top off
  k_with_none
  k_with "exec While" => (k_here; refine Stop.go ?_)
  k_with "exec While Compare cons nil" => (k_here; refine Stop.go ?_)
  k_with "exec While BoolOp cons nil" => (k_here; refine Stop.go ?_)
  k_with "KswEnd" => (refine Stop.go ?_)
  first | (walk1; fail) | exact ⟨trivial, trivial⟩
section
open PySem PySem.W PyProof.Rows
set_option Elab.async false
set_option maxRecDepth 100000
set_option maxHeartbeats 4000000
theorem off_grown {T news T1 : List (Addr × Obj)} (hO : Off news T) (hG : Grown T (T ++ news) T1) : Off news T1 := fun p hp q hq => by
  rcases hG q hq with h | h
  · obtain ⟨q0, h0, e⟩ := List.mem_map.mp h
    rw [← e]
    exact hO p hp q0 h0
  · exact Nat.ne_of_lt (h p (List.mem_append_right _ hp))
theorem idn (w : World) (p : Program) (loose : List Str) (mean : ExcName → Option Value) (mg mb : Str → Option Value) (T news : List (Addr × Obj)) (a b : Nat) (ta tb : Tok) (ha1 : a < 2 ^ 30) (hb0 : 0 < b) (hb1 : b < 2 ^ 30) (hT : Tabs T) (hO : Off news T) :
   Cl PySem.Challenge.rw_gh0004_02.row.prog w (hd.heap_39 w.params) p loose mean mg mb 63 (T ++ news) 110 1100 [.int a ta, .int b tb] (fun r T' => ∃ D t1 t2 T1, r = .ref D ∧ T' = (D, tupObj [.int (a / b : Nat) t1, .int (a % b : Nat) t2]) :: (T1 ++ news) ∧ Tabs T1 ∧ Off news T1 ∧ (∀ q ∈ T1 ++ news, @LT.lt Nat _ q.1 D)) := by
  have h := idm w p loose mean mg mb T news a b ta tb (Int.natCast_nonneg _) (by omega) (by omega) (by omega) hT hO
  intro dp un gd cn cs a0 ccd cl outer A₀ base h₀ L m s Q E hB hF hX hN hTp hkd hdp hun hret
  refine h dp un gd cn cs a0 ccd cl outer A₀ base h₀ L m s Q E hB hF hX hN hTp hkd hdp hun fun r T' h' tk' F' N' hp => hret r T' h' tk' F' N' ?_
  obtain ⟨D, t1, t2, T1, e1, e2, h1, h2, h3⟩ := hp
  exact ⟨D, t1, t2, T1, e1, by rw [e2, Int.natCast_ediv, Int.natCast_emod], h1, off_grown hO h2, h3⟩
theorem lsh (w : World) (p : Program) (loose : List Str) (mean : ExcName → Option Value) (mg mb : Str → Option Value) (T news : List (Addr × Obj)) (a b : Nat) (ta tb : Tok) (ha1 : a < 2 ^ 30) (hb1 : b < 2 ^ 30) (hT : Tabs T) (hO : Off news T) :
   Cl PySem.Challenge.rw_gh0004_02.row.prog w (hd.heap_39 w.params) p loose mean mg mb 82 (T ++ news) 120 1200 [.int a ta, .int b tb] (fun r T' => ∃ t T1, r = .int (Nat.gcd a b : Nat) t ∧ T' = T1 ++ news ∧ Tabs T1 ∧ Off news T1) := by
  k_fill
  dsimp only [Cl]
  intro dp un gd cn cs a0 ccd cl outer A₀ base h₀ L m s Q E hB hF hX hN hTp hkd hdp hun hret
  refine wpAny_call ?_
  refine' code_def ?k1 ?k2 ?k3 ?k4 ?k5 ?kA ?kF ?kK ?k6 ?k7 ?k8 ?k9 ?kB ?_ ?c2 ?c3 ?c4 ?c5
  case kA => exact rfl
  case kF => exact rfl
  case kK => assumption
  case k1 => k_asm
  case k2 => k_asm
  case k3 => k_asm
  case k4 => k_asm
  case k5 => k_asm
  case k6 => k_dflt k_is
  case k7 => k_dflt k_is
  case k8 => ktr_room
  case k9 => exact BindsTo.of_eq rfl
  case c5 => decide
  case kB => exact locs rfl
  case c2 => exact rfl
  case c3 => exact rfl
  case c4 => exact rfl
  k_whole
  intro g' L' h' FG' F' N' B' X' T'
  (try dsimp only)
  (try k_lift B')
  (try k_fold)
  replace F' : Fr g' L' h' (fun y => [(Str.ofString "other", Value.int b tb), (Str.ofString "one", Value.int a ta)].lookup y) := F'
  k_steps
  refine Stop.on ?_
  refine ksw_while (σ := Nat × Nat × Tok × Tok × List (Addr × Obj)) (fun c => c.2.2.2.2 ++ news) (fun c => [(Str.ofString "one", .int (c.1 : Nat) c.2.2.1), (Str.ofString "other", .int (c.2.1 : Nat) c.2.2.2.1)]) (fun c => Tabs c.2.2.2.2 ∧ Off news c.2.2.2.2) [Str.ofString "rest"] (fun c => Nat.gcd c.1 c.2.1 = Nat.gcd a b ∧ c.1 < 2 ^ 30 ∧ c.2.1 < 2 ^ 30) (fun c => c.2.1) (a, b, ta, tb, T) F' N' ⟨hT, hO⟩ ?kk ?kp ?turn
  case kk =>
    intro q hq
    rcases List.mem_cons.mp hq with rfl | hq
    · rfl
    · obtain rfl := List.mem_singleton.mp hq
      rfl
  case kp => exact ⟨rfl, ha1, hb1⟩
  case turn =>
    clear F' N'
    rintro ⟨one, other, t1, t2, T0⟩ u h tk ⟨hT0, hO0⟩ ⟨hg, h1, h2⟩ F2 N2
    simp only [kstB] at F2
    dsimp only at hg h1 h2 N2 hT0 hO0
    k_sweep
    k_steps
    · have ho : 0 < other := by omega
      have hm : one % other < other := Nat.mod_lt _ ho
      have hm2 : ¬ ((one % other : Nat) : Int) ≥ (other : Int) := by omega
      (first | refine Stop.on ?_ | skip)
      refine' Cl.use (idn w p loose mean mg mb T0 news one other _ _ h1 ho h2 hT0 hO0) ?yB ?yF ?yX ?yN ?ysub ?yT ?yk ?yd ?yu ?_
      case yB => k_asm
      case yF => k_asm
      case yX => k_asm
      case yN => k_asm
      case yT => k_asm
      case yk => first | exact rfl | assumption
      case yd => first | (dsimp only [ktrTop]; omega) | decide | decide +kernel
      case yu => first | (dsimp only [ktrTop]; omega) | decide | decide +kernel
      case ysub => exact fun _ h => h
      rintro r T3 h3 tk3 F3 N3 ⟨D, t3, t4, T1, rfl, rfl, hT1, hO1, hlt⟩
      k_sweep
      dsimp only
      have er : Nat.gcd other (one % other) = Nat.gcd a b := by rw [← hg, Nat.gcd_comm one other, Nat.gcd_rec other one, Nat.gcd_comm]
      generalize one % other = rs at *
      generalize one / other = dv at *
      clear hg
      k_steps
      rename Fr _ _ _ _ => F5
      rename News _ _ _ _ => N5
      refine Stop.on ?_
      refine ksw_end (other, rs, t2, t4, T1) F5 N5 (fun q hq => .tail _ (.tail _ hq)) ⟨hT1, hO1⟩ ?e1 ?e2 ⟨er, h2, by dsimp only; omega⟩ hm
      case e1 =>
        intro q hq
        rcases List.mem_cons.mp hq with rfl | hq
        · rfl
        · obtain rfl := List.mem_singleton.mp hq
          rfl
      case e2 => ksw_same
    · have ho : other = 0 := by omega
      rename_i kF kN _ _
      subst ho
      rw [Nat.gcd_zero_right] at hg
      exact hret _ _ _ _ kF kN ⟨t1, T0, by rw [hg], rfl, hT0, hO0⟩
end

local macro_rules | `(tactic| walk_at "exec For") => `(tactic| (k_here; (rename Fr _ _ _ _ => lF'); (with_unfolding_all refine' For_invVF lF' ?k1 ?k2 ?_; (case k1 => exact rfl); (case k2 => exact rfl); k_whole)))
local macro_rules | `(tactic| walk_at "pyIter ref") => `(tactic| ((with_reducible show wpAny _ _ (pyIter (Value.ref _)) (fun it s₂ => LoopAtV _ _ _ _ _ _ _ _ _ it s₂) _ _); refine Stop.go ?_))
theorem rsLl : True ∧ True := by
  w_top off
  k_with_none
  k_with "exec While" => (k_here; refine Stop.go ?_)
  k_with "exec While Compare cons nil" => (k_here; refine Stop.go ?_)
  k_with "exec While BoolOp cons nil" => (k_here; refine Stop.go ?_)
  k_with "KswEnd" => (refine Stop.go ?_)
  k_with "UnrEnd" => (refine Stop.go ?_)
  k_with "call builtin:list.append" => (refine Stop.go ?_)
  first | (walk1; fail) | exact ⟨trivial, trivial⟩
section
open PySem PySem.W PyProof.Rows
set_option Elab.async false
set_option maxRecDepth 100000
set_option maxHeartbeats 4000000
theorem ring_len (ord : List Nat) : ∀ f seen here long, (ringGo ord f seen here long).1.length ≤ seen.length + f
  | 0, seen, here, long => by simp [ringGo]
  | f + 1, seen, here, long => by
    rw [ringGo]
    split
    · have := ring_len ord f (seen ++ [here]) (ord.getD here 0) (long + 1)
      rw [List.length_append, List.length_singleton] at this
      omega
    · simp
theorem lmap (a b : Value) (r : Str → Option Value) : (fun y => if y = Str.ofString "seen" then some a else if y = Str.ofString "found" then some b else r y) = (fun y => if y = Str.ofString "found" then some b else if [Str.ofString "place", Str.ofString "here", Str.ofString "long"].contains y = true then (if y = Str.ofString "seen" then some a else r y) else if y = Str.ofString "seen" then some a else r y) := by
  funext y
  by_cases h1 : y = Str.ofString "found"
  · have h2 : y ≠ Str.ofString "seen" := by rw [h1]; decide
    simp only [h1, if_true]
    rw [← h1, if_neg h2]
  · simp only [if_neg h1]
    split <;> exact (ite_self _).symm
theorem zs_any (l : List Nat) (k : Nat) : ((zs l).any fun n => n == (k : Int)) = l.contains k := by
  induction l with
  | nil => rfl
  | cons a r ih =>
    show (((a : Int) == (k : Int)) || (zs r).any _) = _
    rw [ih, List.contains_cons]
    congr 1
    rw [Bool.eq_iff_iff]
    simp only [beq_iff_eq]
    omega
local macro_rules | `(tactic| walk_at "compareOp NotIn int ref") => `(tactic| (k_here; k_dflt (refine' notin_list_ints ?l ?i ?_; (case l => is_list); (case i => assumption))))
theorem lle (w : World) (p : Program) (loose : List Str) (mean : ExcName → Option Value) (mg mb : Str → Option Value) (news : List (Addr × Obj)) (x : List Nat) (tx : Tok) (hx : ∀ i ∈ x, i < x.length) (hl : x.length ≤ 50) (hl0 : 0 < x.length) :
   Cl PySem.Challenge.rw_gh0004_02.row.prog w (hd.heap_39 w.params) p loose mean mg mb 75 news 4 40 [.bytes (Bt x) tx] (fun r T' => ∃ D vs c, r = .ref D ∧ T' = (D, listOf vs.toArray c) :: news ∧ IntsAre vs (zs (lengthsN x)) ∧ (lengthsN x).length ≤ x.length ∧ (∀ p ∈ news, @LT.lt Nat _ p.1 D)) := by
  k_fill
  have hx2 : ∀ k ∈ x, k < 256 := fun k hk => by have := hx k hk; omega
  dsimp only [Cl]
  intro dp un gd cn cs a0 ccd cl outer A₀ base h₀ L m s Q E hB hF hX hN hTp hkd hdp hun hret
  refine wpAny_call ?_
  refine' code_def ?k1 ?k2 ?k3 ?k4 ?k5 ?kA ?kF ?kK ?k6 ?k7 ?k8 ?k9 ?kB ?_ ?c2 ?c3 ?c4 ?c5
  case kA => exact rfl
  case kF => exact rfl
  case kK => assumption
  case k1 => k_asm
  case k2 => k_asm
  case k3 => k_asm
  case k4 => k_asm
  case k5 => k_asm
  case k6 => k_dflt k_is
  case k7 => k_dflt k_is
  case k8 => ktr_room
  case k9 => exact BindsTo.of_eq rfl
  case c5 => decide
  case kB => exact locs rfl
  case c2 => exact rfl
  case c3 => exact rfl
  case c4 => exact rfl
  k_whole
  intro g' L' h' FG' F' N' B' X' T'
  (try dsimp only)
  (try k_lift B')
  (try k_fold)
  replace F' : Fr g' L' h' (fun y => [(Str.ofString "order", Value.bytes (Bt x) tx)].lookup y) := F'
  k_steps
  refine Stop.on ?_
  rename IsRange _ _ _ _ _ _ _ _ => hR
  rename Fr _ _ _ _ => F1
  rename News _ _ _ _ => N1
  rename (@LT.lt Nat _ _ _ ∧ AllLt _ news) => l2
  rename (∀ p : Addr × Obj, p ∈ news → _) => l1
  obtain ⟨S, D0, lS, lD, F0, N0⟩ : ∃ S D0 : Addr, (∀ p ∈ news, @LT.lt Nat _ p.1 S) ∧ @LT.lt Nat _ S D0 ∧ Fr g' L' _ (fun y => if y = Str.ofString "seen" then some (.ref S) else if y = Str.ofString "found" then some (.ref D0) else [(Str.ofString "order", Value.bytes (Bt x) tx)].lookup y) ∧ News g' L' _ ((D0, listOf #[] 0) :: (S, listOf #[] 0) :: news) := ⟨_, _, l1, l2.1, F1, fun q hq => N1 q (.tail _ hq)⟩
  clear F1 N1 l1 l2
  refine range_for (n := x.length) (fun i m1 nx => ∃ (Dn : Addr) (seen found : List Nat) (vs ws : List Value) (c d : Nat) (u : Str → Option Value), m1 = (fun y => if y = Str.ofString "found" then some (.ref Dn) else if [Str.ofString "place", Str.ofString "here", Str.ofString "long"].contains y = true then u y else if y = Str.ofString "seen" then some (.ref S) else [(Str.ofString "order", Value.bytes (Bt x) tx)].lookup y) ∧ nx = (Dn, listOf ws.toArray d) :: (S, listOf vs.toArray c) :: news ∧ IntsAre vs (zs seen) ∧ IntsAre ws (zs found) ∧ @LT.lt Nat _ S Dn ∧ seen.length ≤ i * 60 ∧ found.length ≤ i ∧ lengthsGo x ((List.range x.length).drop i) seen found = lengthsN x) rfl hR ?sm ?sz F0 N0 ?init ?step ?done
  case sm => exact small_one (by omega) (by omega) (by omega) (by omega)
  case sz => rw [rangeSize_one]; split <;> omega
  case init =>
    refine ⟨D0, [], [], [], [], 0, 0, (fun y => if y = Str.ofString "seen" then some (.ref S) else [(Str.ofString "order", Value.bytes (Bt x) tx)].lookup y), ?_, rfl, .nil, .nil, lD, Nat.le_refl _, Nat.le_refl _, rfl⟩
    exact lmap _ _ _
  case done =>
    rintro m1 nx h tk ⟨Dn, seen, found, vs, ws, c, d, u, rfl, rfl, hvs, hws, hSD, hsl, hfl, hgo⟩ F1 N1
    replace F1 : Fr g' L' h _ := F1
    replace N1 : News g' L' h _ := N1
    k_sweep
    dsimp only
    k_steps
    rename_i kF kN _ _
    rw [List.drop_of_length_le (by rw [List.length_range]; exact Nat.le_refl _), lengthsGo] at hgo
    rw [hgo] at hws hfl
    exact hret _ ((Dn, listOf ws.toArray d) :: news) _ _ kF (fun q hq => by
      rcases List.mem_cons.mp hq with rfl | hq
      · exact kN _ (.head _)
      · exact kN _ (.tail _ (.tail _ hq))) ⟨Dn, ws, d, rfl, rfl, hws, hfl, fun p hp => Nat.lt_trans (lS p hp) hSD⟩
  case step =>
    rintro I hI i m1 nx t h tk hi ⟨Dn, seen, found, vs, ws, c, d, u, rfl, rfl, hvs, hws, hSD, hsl, hfl, hgo⟩ F1 N1
    have hSI : @LT.lt Nat _ S I := hI (S, listOf #[] 0) (.tail _ (.head _))
    replace F1 : Fr g' L' h _ := F1
    replace N1 : News g' L' h _ := N1
    k_sweep
    show wpAny _ _ _ _ _ _
    k_fold
    k_steps
    refine Stop.on ?_
    rename Fr _ _ _ _ => F2
    rename News _ _ _ _ => N2
    rename (@LT.lt Nat _ I _ ∧ _) => l3
    obtain ⟨tl, F3, N3⟩ : ∃ (tl : Tok), Fr g' L' _ (fun y => if y = Str.ofString "here" then some (.int (0 + (i : Int)) t) else if y = Str.ofString "long" then some (.int 0 tl) else if y = Str.ofString "place" then some (.int (0 + (i : Int)) t) else if y = Str.ofString "found" then some (.ref Dn) else if [Str.ofString "place", Str.ofString "here", Str.ofString "long"].contains y = true then u y else if y = Str.ofString "seen" then some (.ref S) else [(Str.ofString "order", Value.bytes (Bt x) tx)].lookup y) ∧ News g' L' _ ((S, listOf vs.toArray c) :: (Dn, listOf ws.toArray d) :: (I, itR (0 + ((i + 1 : Nat) : Int)) ((x.length : Int) - ((i + 1 : Nat) : Int))) :: news) := ⟨_, F2, fun q hq => N2 q (by
        rcases List.mem_cons.mp hq with rfl | hq
        · exact .tail _ (.tail _ (.tail _ (.head _)))
        · rcases List.mem_cons.mp hq with rfl | hq
          · exact .tail _ (.tail _ (.head _))
          · rcases List.mem_cons.mp hq with rfl | hq
            · exact .tail _ (.head _)
            · exact .tail _ (.tail _ (.tail _ (.tail _ hq))))⟩
    clear F2 N2
    have hDnI : @Ne Nat Dn I := fun e => by
      have z1 := (N3 _ (.tail _ (.tail _ (.head _)))).1
      have z2 := (N3 _ (.tail _ (.head _))).1
      rw [e, z1] at z2
      exact absurd (Value.type.inj (show Value.type "range_iterator" = Value.type "list" from congrArg Obj.cls (Option.some.inj z2))) (by decide)
    refine wpAny_mono (Q := fun f s' => Stop (f = Flow.next ∧ ∃ (sn : List Nat) (vs2 : List Value) (c2 here long : Nat) (t1 t2 : Tok) (h2 : Heap) (tk2 : Nat), s' = { s with heap := h2, toks := tk2 } ∧ Fr g' L' h2 (fun y => if y = Str.ofString "here" then some (.int (here : Nat) t1) else if y = Str.ofString "long" then some (.int (long : Nat) t2) else if y = Str.ofString "place" then some (.int (0 + (i : Int)) t) else if y = Str.ofString "found" then some (.ref Dn) else if [Str.ofString "place", Str.ofString "here", Str.ofString "long"].contains y = true then u y else if y = Str.ofString "seen" then some (.ref S) else [(Str.ofString "order", Value.bytes (Bt x) tx)].lookup y) ∧
      News g' L' h2 ((S, listOf vs2.toArray c2) :: (Dn, listOf ws.toArray d) :: (I, itR (0 + ((i + 1 : Nat) : Int)) ((x.length : Int) - ((i + 1 : Nat) : Int))) :: news) ∧ IntsAre vs2 (zs sn) ∧ ringGo x (x.length + 2) seen i 0 = (sn, long) ∧ sn.length ≤ i * 60 + 60)) ?wh ?rest fun _ _ e => e
    case wh =>
      refine ksw_while (σ := List Nat × List Value × Nat × Nat × Nat × Tok × Tok) (fun c => (S, listOf c.2.1.toArray c.2.2.1) :: (Dn, listOf ws.toArray d) :: (I, itR (0 + ((i + 1 : Nat) : Int)) ((x.length : Int) - ((i + 1 : Nat) : Int))) :: news)
        (fun c => [(Str.ofString "here", .int (c.2.2.2.1 : Nat) c.2.2.2.2.2.1), (Str.ofString "long", .int (c.2.2.2.2.1 : Nat) c.2.2.2.2.2.2)]) (fun c => IntsAre c.2.1 (zs c.1)) []
        (fun c => ringGo x (x.length + 2 - c.2.2.2.2.1) c.1 c.2.2.2.1 c.2.2.2.2.1 = ringGo x (x.length + 2) seen i 0 ∧ c.2.2.2.2.1 ≤ x.length + 1 ∧ c.2.2.2.1 < x.length ∧ c.1.length ≤ i * 60 + c.2.2.2.2.1) (fun c => x.length + 2 - c.2.2.2.2.1) (seen, vs, c, i, 0, t, tl) F3 N3 hvs ?kk ?kp ?turn
      case kk =>
        intro q hq
        rcases List.mem_cons.mp hq with rfl | hq
        · show some _ = some _
          rw [Int.zero_add]
        · obtain rfl := List.mem_singleton.mp hq
          rfl
      case kp => exact ⟨rfl, Nat.zero_le _, hi, hsl⟩
      case turn =>
        clear F3 N3
        rintro ⟨sn, vs2, c2, here, long, t1, t2⟩ u2 h2 tk2 hv2 ⟨hg, h1, h3, h4⟩ F2 N2
        simp only [kstB, List.contains_nil, Bool.false_eq_true, if_false] at F2
        dsimp only at hg h1 h3 h4 hv2 N2
        have FF : Fr g' L' h2 (fun y => if y = Str.ofString "here" then some (.int (here : Nat) t1) else if y = Str.ofString "long" then some (.int (long : Nat) t2) else if y = Str.ofString "place" then some (.int (0 + (i : Int)) t) else if y = Str.ofString "found" then some (.ref Dn) else if [Str.ofString "place", Str.ofString "here", Str.ofString "long"].contains y = true then u y else if y = Str.ofString "seen" then some (.ref S) else [(Str.ofString "order", Value.bytes (Bt x) tx)].lookup y) := by
          refine cast (congrArg (Fr g' L' h2) ?_) F2
          funext y
          by_cases h1 : y = Str.ofString "here"
          · simp only [if_pos h1]
          by_cases h2 : y = Str.ofString "long"
          · simp only [if_neg h1, if_pos h2]
          simp only [if_neg h1, if_neg h2]
        clear F2
        k_sweep
        k_steps
        · have hc : sn.contains here = true := by
            rw [← zs_any]
            assumption
          refine ⟨by trivial, sn, vs2, c2, here, long, t1, t2, _, _, rfl, FF, N2, hv2, ?_, by omega⟩
          rw [← hg, show x.length + 2 - long = (x.length + 1 - long) + 1 by omega, ringGo, hc]
          simp
        · have hc : sn.contains here = false := by
            rw [← zs_any]
            assumption
          have hll : long ≤ x.length := by omega
          refine Stop.on ?_
          refine append_K (its := vs2.toArray) (n := c2) (by assumption) N2 (Upd.head ?au) ?an ?az
          case au =>
            refine List.forall_mem_cons.mpr ⟨(Nat.ne_of_lt hSD).symm, List.forall_mem_cons.mpr ⟨(Nat.ne_of_lt hSI).symm, fun q hq => Nat.ne_of_lt (lS q hq)⟩⟩
          case az =>
            rw [List.size_toArray, hv2.length, zs_len, sizeLine_eq]
            omega
          case an =>
            intro h5 F5 N5
            rw [List.push_toArray] at N5
            k_sweep
            k_steps
            refine Stop.on ?_
            rename Fr _ _ _ _ => F6
            rename News _ _ _ _ => N6
            refine' ksw_end (sn ++ [here], vs2 ++ [Value.int (here : Nat) t1], c2 + 1, x.getD here 0, long + 1, _, _) F6 N6 ?n1 ?f1 ?e1 ?e2 ⟨?p1, ?p2, ?p3, ?p4⟩ ?m1
            case e1 =>
              intro q hq
              rcases List.mem_cons.mp hq with rfl | hq
              · exact rfl
              · obtain rfl := List.mem_singleton.mp hq
                exact rfl
            case n1 => exact fun q hq => .tail _ hq
            case f1 =>
              dsimp only
              rw [zs, List.map_append]
              exact IntsAre.append hv2 (.cons _ _ .nil)
            case e2 => ksw_same
            case p1 =>
              rw [← hg, show x.length + 2 - long = (x.length + 1 - long) + 1 by omega, ringGo, hc]
              simp [hll]
            case p2 => dsimp only; omega
            case p3 =>
              dsimp only
              rw [List.getD_eq_getElem?_getD, List.getElem?_eq_getElem h3]
              exact hx _ (List.getElem_mem h3)
            case p4 =>
              dsimp only
              rw [List.length_append, List.length_singleton]
              omega
            case m1 => dsimp only; omega
        · have hc : sn.contains here = false := by
            rw [← zs_any]
            assumption
          refine ⟨by trivial, sn, vs2, c2, here, long, t1, t2, _, _, rfl, FF, N2, hv2, ?_, by omega⟩
          rw [← hg, show x.length + 2 - long = (x.length + 1 - long) + 1 by omega, ringGo, hc]
          have : ¬ long ≤ x.length := by omega
          simp [this]
    case rest =>
      rintro f s' hs
      obtain ⟨rfl, sn, vs2, c2, here, long, t1, t2, h2, tk2, rfl, F2, N2, hv2, hrg, hsn⟩ := hs
      have hlg : lengthsGo x ((List.range x.length).drop (i + 1)) sn (found ++ if 0 < long then [long] else []) = lengthsN x := by
        have e : (List.range x.length).drop i = i :: (List.range x.length).drop (i + 1) := by rw [List.drop_eq_getElem_cons (by simpa using hi), List.getElem_range]
        rw [← hgo, e, lengthsGo, hrg]
      clear F3 N3
      k_sweep
      dsimp only
      k_steps
      · have hlp : 0 < long := by omega
        rename Fr _ _ _ _ => F3
        rename News _ _ _ _ => N3
        refine kmk_add_ints F3 N3 (News.isList N3 (.tail _ (.tail _ (.head _)))) (News.isList N3 (.head _)) hws (ms := [(long : Int)]) (.cons _ _ .nil) (fun D us h4 F4 N4 l4 hI4 => ?_) ?_
        · dsimp only
          k_steps
          refine Stop.on ?_
          rename Fr _ _ _ _ => F5
          rename News _ _ _ _ => N5
          have hDS := l4 _ (.tail _ (.head _))
          have hDI := l4 _ (.tail _ (.tail _ (.tail _ (.head _))))
          dsimp only at hDS hDI
          refine UnrEnd.intro F5 N5 ((D, listOf us.toArray 0) :: (S, listOf vs2.toArray c2) :: news) ?sub ?off ⟨D, sn, found ++ (if 0 < long then [long] else []), vs2, us, c2, 0, _, kept1 _ rfl ?e5, rfl, hv2, ?e6, hDS, by omega, ?e8, hlg⟩
          case sub =>
            intro q hq
            rcases List.mem_cons.mp hq with rfl | hq
            · exact .tail _ (.tail _ (.tail _ (.tail _ (.head _))))
            rcases List.mem_cons.mp hq with rfl | hq
            · exact .head _
            rcases List.mem_cons.mp hq with rfl | hq
            · exact .tail _ (.tail _ (.head _))
            · exact .tail _ (.tail _ (.tail _ (.tail _ (.tail _ hq))))
          case off =>
            intro q hq
            rcases List.mem_cons.mp hq with rfl | hq
            · exact (Nat.ne_of_lt hDI).symm
            rcases List.mem_cons.mp hq with rfl | hq
            · exact Nat.ne_of_lt hSI
            · exact Nat.ne_of_lt (hI _ (.tail _ (.tail _ hq)))
          case e5 =>
            intro z z1 z2
            have z3 : z ≠ Str.ofString "here" := fun e => by rw [e] at z2; exact absurd z2 (by decide)
            have z4 : z ≠ Str.ofString "long" := fun e => by rw [e] at z2; exact absurd z2 (by decide)
            have z5 : z ≠ Str.ofString "place" := fun e => by rw [e] at z2; exact absurd z2 (by decide)
            simp only [if_neg z1, if_neg z3, if_neg z4, if_neg z5, z2, Bool.false_eq_true, if_false]
          case e6 =>
            rw [if_pos hlp]
            rw [zs, List.map_append]
            exact hI4
          case e8 =>
            rw [List.length_append]
            split <;> simp <;> omega
        · rw [zs_len, sizeLine_eq]
          simp
          omega
      · have hlp : long = 0 := by omega
        rename Fr _ _ _ _ => F3
        rename News _ _ _ _ => N3
        refine kmk_add_ints F3 N3 (News.isList N3 (.tail _ (.tail _ (.head _)))) (News.isList N3 (.head _)) hws (ms := []) .nil (fun D us h4 F4 N4 l4 hI4 => ?_) ?_
        · dsimp only
          k_steps
          refine Stop.on ?_
          rename Fr _ _ _ _ => F5
          rename News _ _ _ _ => N5
          have hDS := l4 _ (.tail _ (.head _))
          have hDI := l4 _ (.tail _ (.tail _ (.tail _ (.head _))))
          dsimp only at hDS hDI
          refine UnrEnd.intro F5 N5 ((D, listOf us.toArray 0) :: (S, listOf vs2.toArray c2) :: news) ?sub ?off ⟨D, sn, found ++ (if 0 < long then [long] else []), vs2, us, c2, 0, _, kept1 _ rfl ?e5, rfl, hv2, ?e6, hDS, by omega, ?e8, hlg⟩
          case sub =>
            intro q hq
            rcases List.mem_cons.mp hq with rfl | hq
            · exact .tail _ (.tail _ (.tail _ (.tail _ (.head _))))
            rcases List.mem_cons.mp hq with rfl | hq
            · exact .head _
            rcases List.mem_cons.mp hq with rfl | hq
            · exact .tail _ (.tail _ (.head _))
            · exact .tail _ (.tail _ (.tail _ (.tail _ (.tail _ hq))))
          case off =>
            intro q hq
            rcases List.mem_cons.mp hq with rfl | hq
            · exact (Nat.ne_of_lt hDI).symm
            rcases List.mem_cons.mp hq with rfl | hq
            · exact Nat.ne_of_lt hSI
            · exact Nat.ne_of_lt (hI _ (.tail _ (.tail _ hq)))
          case e5 =>
            intro z z1 z2
            have z3 : z ≠ Str.ofString "here" := fun e => by rw [e] at z2; exact absurd z2 (by decide)
            have z4 : z ≠ Str.ofString "long" := fun e => by rw [e] at z2; exact absurd z2 (by decide)
            have z5 : z ≠ Str.ofString "place" := fun e => by rw [e] at z2; exact absurd z2 (by decide)
            simp only [if_neg z1, if_neg z3, if_neg z4, if_neg z5, z2, Bool.false_eq_true, if_false]
          case e6 =>
            rw [if_neg (by omega), List.append_nil]
            rw [List.append_nil] at hI4
            exact hI4
          case e8 =>
            rw [List.length_append]
            split <;> simp <;> omega
        · rw [zs_len, sizeLine_eq]
          simp
          omega
end

theorem rsMa : True ∧ True := by
  w_top off
  k_with_none
  first | (walk1; fail) | exact ⟨trivial, trivial⟩
section
open PySem PySem.W PyProof.Rows
set_option Elab.async false
set_option maxRecDepth 100000
set_option maxHeartbeats 4000000
abbrev lawD : Stmt := firstDef (Str.ofString "law") PRG.main.body
def RS (k : Nat) : List Stmt := (bodyOf lawD).drop k
def LEnv (L a : Addr) (cdv : Value) : Env := envOfC (Str.ofString "law") (scopeOf lawD) L a cdv
theorem rangeKs_zs (n : Nat) : rangeKs 0 n = zs (List.range n) := by
  simp [rangeKs, zs]
theorem cap_le (n : Nat) : capN n ≤ 12 := by
  unfold capN
  refine Nat.lt_succ_iff.mp (?_ : _ < 13)
  rw [List.getD_eq_getElem?_getD]
  cases e : ([1, 2, 3, 4, 6, 6, 12] : List Nat)[n - 1]? with
  | none => decide
  | some v =>
    have := List.mem_of_getElem? e
    simp only [List.mem_cons, List.not_mem_nil, or_false] at this
    rcases this with h | h | h | h | h | h | h <;> (rw [h]; decide)
end

theorem rsMb : True ∧ True := by
  w_top off
  k_with_none
  k_with "exec While" => (k_here; refine Stop.go ?_)
  k_with "exec While Compare cons nil" => (k_here; refine Stop.go ?_)
  k_with "exec While BoolOp cons nil" => (k_here; refine Stop.go ?_)
  k_with "KswEnd" => (refine Stop.go ?_)
  k_with "UnrEnd" => (refine Stop.go ?_)
  k_with "call builtin:list.append" => (refine Stop.go ?_)
  k_with "call builtin:list.pop" => (refine Stop.go ?_)
  first | (walk1; fail) | exact ⟨trivial, trivial⟩
section
open PySem PySem.W PyProof.Rows
set_option Elab.async false
set_option maxRecDepth 100000
set_option maxHeartbeats 4000000
theorem zs_erase : ∀ (l : List Nat) (k : Nat), zs (l.eraseIdx k) = (zs l).eraseIdx k
  | [], _ => rfl
  | _ :: _, 0 => rfl
  | a :: r, k + 1 => congrArg ((a : Int) :: ·) (zs_erase r k)
/-- the order is drawn -/
theorem seg_a (w : World) (p : Program) (loose : List Str) (mean : ExcName → Option Value) (mg mb : Str → Option Value) (g : Heap) (L a : Addr) (cdv : Value) (s₁ : Shared) (R : Flow → Shared → Prop) (X : (hd.heap_39 w.params).In g) (T : Top p loose mean mg mb g) (B : Below callerA g [] g) (l0 : @LT.lt Nat _ 44 L ∧ @LT.lt Nat _ 37 L) (h₁ : Heap) (tk : Nat) (oC : Obj) (la : Addr) (vs : List Value) (ns : List Int)
    (F : Fr g L h₁ (fun y => if y = Str.ofString "script" then some (.ref la) else none)) (N : News g L h₁ [(L + 1, oC), (44, tabObj #[]), (37, tabObj #[])]) (dC : oC.data = .cell none)
    (hl : g.IsList la vs.toArray) (hi : IntsAre vs ns) (hn : ns.length ≤ 63) (hchk : ∀ n, 1 ≤ n → n ≤ 7 → chk n (List.range n) [] = true)
    (k : ∀ d t oD m' h' tk', LawIs d → 1 ≤ d.length → d.length ≤ 7 → oD.data = .cell (some (.bytes (Bt d) t)) → Fr g L h' m' → News g L h' [(L + 1, oD), (44, tabObj #[]), (37, tabObj #[])] →
      wpN (model PySem.Challenge.rw_gh0004_02.row.prog w) (callerA.deeper (LEnv L a cdv)) (execs (RS 3) (LEnv L a cdv)) R (fun _ _ => False) { s₁ with heap := h', toks := tk' }) :
    wpN (model PySem.Challenge.rw_gh0004_02.row.prog w) (callerA.deeper (LEnv L a cdv)) (execs (RS 0) (LEnv L a cdv)) R (fun _ _ => False) { s₁ with heap := h₁, toks := tk } := by
  revert X
  k_fill
  intro X
  obtain ⟨B1, hB1⟩ : ∃ B, B = RS 0 := ⟨_, rfl⟩
  obtain ⟨SC, hS⟩ : ∃ B, B = scopeOf lawD := ⟨_, rfl⟩
  unfold LEnv
  rw [← hB1, ← hS]
  conv at hB1 => rhs; whnf
  conv at hS => rhs; whnf
  subst hB1; subst hS
  refine wpN_execs_cons (wpN_of_any ?_)
  k_steps
  rename IntsAre _ (rangeKs _ _) => hIL
  rename Fr _ _ _ _ => F1
  rename News _ _ _ _ => N1
  rename (@LT.lt Nat _ _ _ ∧ @LT.lt Nat _ (L + 1) _ ∧ _ ∧ _) => l2
  rename (@LT.lt Nat _ (L + 1) _ ∧ _) => l1
  obtain ⟨n, en⟩ : ∃ n : Nat, n = ((if (if (ns.length : Int) < 7 then (ns.length : Int) else 7) > 1 then (if (ns.length : Int) < 7 then (ns.length : Int) else 7) else 1) - 0).toNat := ⟨_, rfl⟩
  rw [← en, rangeKs_zs] at hIL
  have hn1 : 1 ≤ n ∧ n ≤ 7 ∧ n ≤ ns.length + 1 := by
    rw [en]
    split <;> split <;> omega
  clear en
  obtain ⟨DL, AD, vsL, cL, hIL, lDL, lAD, F1, N1⟩ : ∃ (DL AD : Addr) (vsL : List Value) (cL : Nat), IntsAre vsL (zs (List.range n)) ∧ @LT.lt Nat _ (L + 1) DL ∧ @LT.lt Nat _ DL AD ∧ Fr g L _ (fun y => if y = Str.ofString "left" then some (Value.ref DL) else if y = Str.ofString "drawn" then some (Value.ref AD) else if y = Str.ofString "script" then some (Value.ref la) else none) ∧
    News g L _ ((AD, listOf #[] 0) :: (DL, listOf vsL.toArray cL) :: (L + 1, oC) :: (44, tabObj #[]) :: (37, tabObj #[]) :: []) := ⟨_, _, _, _, hIL, l1.1, l2.1, F1, fun q hq => N1 q (.tail _ hq)⟩
  k_sweep
  refine wpN_execs_cons (wpN_of_any ?_)
  k_steps
  refine len_zs (ks := List.range n) (News.isList (by assumption) (by k_mem)) hIL (by rw [List.length_range]; omega) ?_
  rw [List.length_range]
  k_steps
  refine Stop.on ?_
  rename IntsAre _ (List.take _ _) => hIS
  rename Fr _ _ _ _ => F2
  rename News _ _ _ _ => N2
  rename (@LT.lt Nat _ _ _ ∧ @LT.lt Nat _ _ _ ∧ @LT.lt Nat _ AD _ ∧ @LT.lt Nat _ DL _ ∧ _) => l3
  rename Addr => DS
  obtain ⟨vsS, cS, ts, hts, hIS, lDS, F2, N2⟩ : ∃ (vsS : List Value) (cS : Nat) (ts : List Int), ts.length = n ∧ IntsAre vsS ts ∧ @LT.lt Nat _ AD DS ∧ Fr g L _ (fun y => if y = Str.ofString "left" then some (Value.ref DL) else if y = Str.ofString "drawn" then some (Value.ref AD) else if y = Str.ofString "script" then some (Value.ref la) else none) ∧
    News g L _ ((AD, listOf #[] 0) :: (DL, listOf vsL.toArray cL) :: (DS, listOf vsS.toArray cS) :: (L + 1, oC) :: (44, tabObj #[]) :: (37, tabObj #[]) :: []) := ⟨_, _, _, by rw [List.length_take, List.length_append, List.length_singleton]; omega, hIS, l3.2.2.1, F2, fun q hq => N2 q (by
      rcases List.mem_cons.mp hq with rfl | hq
      · exact .tail _ (.tail _ (.tail _ (.head _)))
      rcases List.mem_cons.mp hq with rfl | hq
      · exact .tail _ (.tail _ (.tail _ (.tail _ (.head _))))
      rcases List.mem_cons.mp hq with rfl | hq
      · exact .head _
      · exact .tail _ (.tail _ (.tail _ (.tail _ (.tail _ hq)))))⟩
  k_sweep
  refine' list_for (ax := DS) (lo := listOf vsS.toArray cS) (n := cS) (vs := vsS) (fun rs m1 nx => ∃ (j : Nat) (left drawn : List Nat) (vl vd : List Value) (cl cd : Nat) (u : Str → Option Value), IntsAre rs (ts.drop j) ∧ j ≤ n ∧ IntsAre vl (zs left) ∧ IntsAre vd (zs drawn) ∧ left.length = n - j ∧ drawn.length = j ∧ chk (n - j) left drawn = true ∧
      m1 = (fun y => if y = Str.ofString "number" then u y else if y = Str.ofString "left" then some (Value.ref DL) else if y = Str.ofString "drawn" then some (Value.ref AD) else if y = Str.ofString "script" then some (Value.ref la) else none) ∧
      nx = [(AD, listOf vd.toArray cd), (DL, listOf vl.toArray cl), (DS, listOf vsS.toArray cS), (L + 1, oC), (44, tabObj #[]), (37, tabObj #[])]) ?hh ?hF ?hN ?hm ?hc ?hd ?init ?step ?done
  case hh => rfl
  case hF => exact F2
  case hN => exact N2
  case hm => exact .tail _ (.tail _ (.head _))
  case hc => rfl
  case hd => rfl
  case init =>
    refine ⟨0, List.range n, [], vsL, [], cL, 0, fun _ => none, by simpa using hIS, Nat.zero_le _, hIL, .nil, by simp, rfl, hchk n hn1.1 hn1.2.1, ?_, rfl⟩
    funext y
    by_cases h1 : y = Str.ofString "number"
    · subst h1; rfl
    · rw [if_neg h1]
  case done =>
    rintro m1 nx h tk ⟨j, left, drawn, vl, vd, cl, cd, u, hrs, hj, hvl, hvd, hll, hdl, hch, rfl, rfl⟩ F1 N1
    replace F1 : Fr g L h _ := F1
    replace N1 : News g L h _ := N1
    have hjn : j = n := by
      have := hrs.length
      rw [List.length_drop, hts] at this
      simp at this
      omega
    subst hjn
    rw [Nat.sub_self] at hch
    have hlaw := law_is hch
    k_sweep
    dsimp only
    refine wpN_execs_cons (wpN_of_any ?_)
    k_steps
    refine bytes_Bt (by assumption) N1 (News.isList N1 (.head _)) hvd (fun q hq => by have := hlaw.lt q hq; omega) (by omega) rfl fun h5 t5 k5 F5 N5 => ?_
    k_steps
    rename (Obj.data _ = Data.cell (some _)) => dD
    rename Fr _ _ _ _ => F6
    rename News _ _ _ _ => N6
    exact k drawn t5 _ _ _ _ hlaw (by omega) (by omega) dD F6 fun q hq => N6 q (.tail _ (.tail _ (.tail _ hq)))
  case step =>
    rintro I hI v rs m1 nx it h tk hit ⟨j, left, drawn, vl, vd, cl, cd, u, hrs, hj, hvl, hvd, hll, hdl, hch, rfl, rfl⟩ F1 N1
    replace F1 : Fr g L h _ := F1
    replace N1 : News g L h _ := N1
    have hjn : j < n := by
      have := hrs.length
      rw [List.length_drop, hts] at this
      simp at this
      omega
    obtain ⟨z, tz, rs', rfl, hrs'⟩ : ∃ z tz rs', v = Value.int z tz ∧ IntsAre rs (ts.drop (j + 1)) := by
      have e : ts.drop j = ts[j]'(by omega) :: ts.drop (j + 1) := List.drop_eq_getElem_cons (by omega)
      rw [e] at hrs
      cases hrs with
      | cons _ t r => exact ⟨_, t, r, rfl, r⟩
    have hII : ∀ q ∈ [(AD, listOf vd.toArray cd), (DL, listOf vl.toArray cl), (DS, listOf vsS.toArray cS), (L + 1, oC), (44, tabObj #[]), (37, tabObj #[])], @LT.lt Nat _ q.1 I := by
      intro q hq
      have h1 := hI (AD, listOf #[] 0) (.head _)
      have h2 := hI (DL, listOf vsL.toArray cL) (.tail _ (.head _))
      have h3 := hI (DS, listOf vsS.toArray cS) (.tail _ (.tail _ (.head _)))
      have h4 := hI (L + 1, oC) (.tail _ (.tail _ (.tail _ (.head _))))
      have h5 := hI (44, tabObj #[]) (.tail _ (.tail _ (.tail _ (.tail _ (.head _)))))
      have h6 := hI (37, tabObj #[]) (.tail _ (.tail _ (.tail _ (.tail _ (.tail _ (.head _))))))
      simp only [List.mem_cons, List.not_mem_nil, or_false] at hq
      rcases hq with rfl | rfl | rfl | rfl | rfl | rfl
      · exact h1
      · exact h2
      · exact h3
      · exact h4
      · exact h5
      · exact h6
    k_sweep
    show wpAny _ _ _ _ _ _
    k_fold
    k_steps
    have hlp : 0 < left.length := by omega
    have hlp2 : (0 : Int) < (left.length : Int) := by omega
    refine len_zs (ks := left) (News.isList N1 (.tail _ (.tail _ (.head _)))) hvl (by omega) ?_
    k_steps
    have hm0 : 0 ≤ Int.fmod z (left.length : Int) := Int.fmod_nonneg_of_pos _ hlp2
    have hm1 : Int.fmod z (left.length : Int) < (left.length : Int) := Int.fmod_lt_of_pos _ hlp2
    refine Stop.on ?_
    have hne : ∀ q ∈ [(I, it), (AD, listOf vd.toArray cd), (DS, listOf vsS.toArray cS), (L + 1, oC), (44, tabObj #[]), (37, tabObj #[])], q.1 ≠ DL := by
      intro q hq
      have h2 := hII (DL, listOf vl.toArray cl) (.tail _ (.head _))
      dsimp only at h2
      simp only [List.mem_cons, List.not_mem_nil, or_false] at hq
      rcases hq with rfl | rfl | rfl | rfl | rfl | rfl <;> (refine neN ?_; dsimp only; omega)
    refine pop_ints (rest := [(I, it), (AD, listOf vd.toArray cd), (DS, listOf vsS.toArray cS), (L + 1, oC), (44, tabObj #[]), (37, tabObj #[])]) F1 (fun q hq => N1 q (by
      rcases List.mem_cons.mp hq with rfl | hq
      · exact .tail _ (.tail _ (.head _))
      rcases List.mem_cons.mp hq with rfl | hq
      · exact .head _
      rcases List.mem_cons.mp hq with rfl | hq
      · exact .tail _ (.head _)
      · exact .tail _ (.tail _ (.tail _ hq)))) hne hvl hm0 (by rw [zs_len]; exact hm1) (by rw [zs_len]; omega) fun h5 vl5 t5 F5 N5 hvl5 => ?_
    k_sweep
    dsimp only
    k_steps
    refine Stop.on ?_
    refine append_K (its := vd.toArray) (n := cd) F5 N5 (Upd.tail ?u1 (Upd.tail ?u2 (Upd.head ?u3))) ?_ ?z5
    case u1 => refine neN ?_; dsimp only; omega
    case u2 =>
      have h2 := hII (AD, listOf vd.toArray cd) (.head _)
      refine neN ?_; dsimp only at h2 ⊢; omega
    case u3 =>
      intro q hq
      simp only [List.mem_cons, List.not_mem_nil, or_false] at hq
      rcases hq with rfl | rfl | rfl | rfl <;> (refine neN ?_; dsimp only; omega)
    case z5 => rw [List.size_toArray, hvd.length, zs_len, sizeLine_eq]; omega
    intro h6 F6 N6
    rw [List.push_toArray] at N6
    k_sweep
    k_steps
    refine Stop.on ?_
    rw [zs_getD] at N6
    have hix : (Int.fmod z (left.length : Int)).toNat < left.length := by omega
    have hch2 := chk_step (k := n - (j + 1)) (left := left) (acc := drawn) (by rw [show n - (j + 1) + 1 = n - j by omega]; exact hch) hix
    refine UnrEnd.intro F6 N6 [(AD, listOf (vd ++ [Value.int (left.getD (Int.fmod z (left.length : Int)).toNat 0 : Nat) t5]).toArray (cd + 1)), (DL, listOf vl5.toArray (cl + 1)), (DS, listOf vsS.toArray cS), (L + 1, oC), (44, tabObj #[]), (37, tabObj #[])] ?sub ?off
      ⟨.tail _ (.tail _ (.head _)), j + 1, left.eraseIdx (Int.fmod z (left.length : Int)).toNat, drawn ++ [left.getD (Int.fmod z (left.length : Int)).toNat 0], vl5, _, cl + 1, cd + 1, fun y => if y = Str.ofString "number" then some (Value.int z tz) else u y, hrs', by omega, ?e1, ?e2, ?e3, by rw [List.length_append, List.length_singleton]; omega, hch2, ?e4, rfl⟩
    case sub =>
      intro q hq
      simp only [List.mem_cons, List.not_mem_nil, or_false] at hq ⊢
      rcases hq with h | h | h | h | h | h | h <;> simp [h]
    case off =>
      intro q hq
      have h1 := hII (AD, listOf vd.toArray cd) (.head _)
      have h2 := hII (DL, listOf vl.toArray cl) (.tail _ (.head _))
      have h3 := hII (DS, listOf vsS.toArray cS) (.tail _ (.tail _ (.head _)))
      have h4 := hII (L + 1, oC) (.tail _ (.tail _ (.tail _ (.head _))))
      dsimp only at h1 h2 h3 h4
      simp only [List.mem_cons, List.not_mem_nil, or_false] at hq
      rcases hq with rfl | rfl | rfl | rfl | rfl | rfl <;> (refine neN ?_; dsimp only; omega)
    case e1 =>
      rw [zs_erase]
      exact hvl5
    case e2 =>
      rw [zs, List.map_append]
      exact IntsAre.append hvd (.cons _ _ .nil)
    case e3 =>
      rw [List.length_eraseIdx_of_lt hix]
      omega
    case e4 =>
      funext y
      by_cases hy : y = Str.ofString "number"
      · simp only [if_pos hy]
      · simp only [if_neg hy]
end

theorem rsMc : True ∧ True := by
  w_top off
  k_with_none
  k_with "exec While" => (k_here; refine Stop.go ?_)
  k_with "exec While Compare cons nil" => (k_here; refine Stop.go ?_)
  k_with "exec While BoolOp cons nil" => (k_here; refine Stop.go ?_)
  k_with "KswEnd" => (refine Stop.go ?_)
  k_with "UnrEnd" => (refine Stop.go ?_)
  k_with "call ref" => (k_here; refine Stop.go ?_)
  first | (walk1; fail) | exact ⟨trivial, trivial⟩
section
open PySem PySem.W PyProof.Rows
set_option Elab.async false
set_option maxRecDepth 100000
set_option maxHeartbeats 4000000
/-- the rings' lengths are joined -/
theorem seg_b (w : World) (p : Program) (loose : List Str) (mean : ExcName → Option Value) (mg mb : Str → Option Value) (g : Heap) (L a : Addr) (cdv : Value) (s₁ : Shared) (R : Flow → Shared → Prop) (X : (hd.heap_39 w.params).In g) (T : Top p loose mean mg mb g) (B : Below callerA g [] g) (l0 : @LT.lt Nat _ 44 L ∧ @LT.lt Nat _ 37 L) (h₁ : Heap) (tk : Nat) (oD : Obj) (d : List Nat) (td : Tok) (m' : Str → Option Value)
    (F : Fr g L h₁ m') (N : News g L h₁ [(L + 1, oD), (44, tabObj #[]), (37, tabObj #[])]) (dD : oD.data = .cell (some (.bytes (Bt d) td)))
    (hd : LawIs d) (hd1 : 1 ≤ d.length) (hd7 : d.length ≤ 7)
    (k : ∀ (T : List (Addr × Obj)) (t : Tok) (m'' : Str → Option Value) (h' : Heap) (tk' : Nat), Tabs T → Off [(L + 1, oD)] T → Fr g L h' (fun y => if y = Str.ofString "due" then some (.int (turnsN d : Nat) t) else m'' y) → News g L h' ((L + 1, oD) :: T) →
      wpN (model PySem.Challenge.rw_gh0004_02.row.prog w) (callerA.deeper (LEnv L a cdv)) (execs (RS 5) (LEnv L a cdv)) R (fun _ _ => False) { s₁ with heap := h', toks := tk' }) :
    wpN (model PySem.Challenge.rw_gh0004_02.row.prog w) (callerA.deeper (LEnv L a cdv)) (execs (RS 3) (LEnv L a cdv)) R (fun _ _ => False) { s₁ with heap := h₁, toks := tk } := by
  revert X
  k_fill
  intro X
  obtain ⟨B1, hB1⟩ : ∃ B, B = RS 3 := ⟨_, rfl⟩
  obtain ⟨SC, hS⟩ : ∃ B, B = scopeOf lawD := ⟨_, rfl⟩
  unfold LEnv
  rw [← hB1, ← hS]
  conv at hB1 => rhs; whnf
  conv at hS => rhs; whnf
  subst hB1; subst hS
  refine wpN_execs_cons (wpN_of_any ?_)
  k_steps
  rename Fr _ _ _ _ => F1
  rename News _ _ _ _ => N1
  obtain ⟨t0, F1⟩ : ∃ t0, Fr g L _ (fun y => if y = Str.ofString "due" then some (.int (1 : Nat) t0) else m' y) := ⟨_, F1⟩
  obtain ⟨T0, hT0, hO0, N1⟩ : ∃ T0, Tabs T0 ∧ Off [(L + 1, oD)] T0 ∧ News g L _ ((L + 1, oD) :: T0) := ⟨[(37, tabObj #[])] ++ [(44, tabObj #[])], ⟨_, _, rfl, .inl rfl, .inl rfl, by
      intro q hq q' hq'
      obtain rfl := List.mem_singleton.mp hq
      obtain rfl := List.mem_singleton.mp hq'
      decide⟩, by
      intro q hq q' hq'
      obtain rfl := List.mem_singleton.mp hq
      simp only [List.mem_append, List.mem_singleton] at hq'
      rcases hq' with rfl | rfl <;> (refine neN ?_; dsimp only; omega), fun q hq => N1 q (by
      rcases List.mem_cons.mp hq with rfl | hq
      · exact .head _
      · simp only [List.mem_append, List.mem_singleton] at hq
        rcases hq with rfl | rfl
        · exact .tail _ (.tail _ (.head _))
        · exact .tail _ (.head _))⟩
  k_sweep
  dsimp only
  refine wpN_execs_cons (wpN_of_any ?_)
  k_steps
  (first | refine Stop.on ?_ | skip)
  refine' Cl.use (lle w p loose mean mg mb ((L + 1, oD) :: T0) d _ hd.lt (by omega) (by omega)) ?yB ?yF ?yX ?yN ?ysub ?yT ?yk ?yd ?yu ?_
  case yB => k_asm
  case yF => k_asm
  case yX => k_asm
  case yN => k_asm
  case yT => k_asm
  case yk => first | exact rfl | assumption
  case yd => first | (dsimp only [ktrTop]; omega) | decide | decide +kernel
  case yu => first | (dsimp only [ktrTop]; omega) | decide | decide +kernel
  case ysub => exact fun _ h => h
  rintro r T2 h2 tk2 F2 N2 ⟨D, vs, c, rfl, rfl, hI, hln, hlt⟩
  k_sweep
  dsimp only
  k_steps
  refine Stop.on ?_
  refine' list_forO (ax := D) (lo := listOf vs.toArray c) (n := c) (vs := vs) (fun rs m1 nx => ∃ (ls : List Nat) (due : Nat) (td2 : Tok) (T2 : List (Addr × Obj)) (u : Str → Option Value), IntsAre rs (zs ls) ∧ dueOk ls due (turnsN d) = true ∧ Tabs T2 ∧ Off [(D, listOf vs.toArray c), (L + 1, oD)] T2 ∧
      m1 = (fun y => if y = Str.ofString "due" then some (.int (due : Nat) td2) else if [Str.ofString "long", Str.ofString "shared", Str.ofString "rest"].contains y = true then u y else m' y) ∧
      nx = (D, listOf vs.toArray c) :: (L + 1, oD) :: T2) ?hh ?hF ?hN ?hm ?hc ?hd ?init ?step ?done
  case hh => rfl
  case hF => exact F2
  case hN => exact N2
  case hm => exact .head _
  case hc => rfl
  case hd => rfl
  case init =>
    refine ⟨lengthsN d, 1, t0, T0, m', hI, hd.due, hT0, ?_, ?_, rfl⟩
    · intro q hq q' hq'
      rcases List.mem_cons.mp hq with rfl | hq
      · exact (Nat.ne_of_lt (hlt q' (.tail _ hq'))).symm
      · exact hO0 q hq q' hq'
    · funext y
      split
      · rfl
      · exact (ite_self _).symm
  case done =>
    rintro m1 nx h tk - ⟨ls, due, td2, T2, u, hrs, hdu, hT2, hO2, rfl, rfl⟩ F3 N3
    replace F3 : Fr g L h _ := F3
    replace N3 : News g L h _ := N3
    have hls : ls = [] := by
      have := hrs.length
      rw [zs_len] at this
      exact List.eq_nil_of_length_eq_zero this.symm
    subst hls
    have hdt : due = turnsN d := by simpa [dueOk] using hdu
    subst hdt
    exact k T2 td2 _ h tk hT2 (fun q hq => hO2 q (.tail _ hq)) F3 fun q hq => N3 q (.tail _ hq)
  case step =>
    rintro I hlI v rs m1 nx it h tk hit - hof ⟨ls, due, td2, T2, u, hrs, hdu, hT2, hO2, rfl, rfl⟩ F3 N3
    replace F3 : Fr g L h _ := F3
    replace N3 : News g L h _ := N3
    obtain ⟨l, ls2, tl, rfl, rfl, hrs2⟩ : ∃ l ls2 tl, ls = l :: ls2 ∧ v = Value.int (l : Nat) tl ∧ IntsAre rs (zs ls2) := by
      cases ls with
      | nil => cases hrs
      | cons l ls2 =>
        cases hrs with
        | cons _ t r => exact ⟨l, ls2, t, rfl, rfl, r⟩
    simp only [dueOk, Bool.and_eq_true, Nat.ble_eq, beq_iff_eq] at hdu
    obtain ⟨⟨⟨⟨hd1a, hl1a⟩, hdl⟩, hmod⟩, hnext⟩ := hdu
    have hgp : 0 < Nat.gcd due l := Nat.gcd_pos_of_pos_left _ hd1a
    have hdle : due ≤ due * l := Nat.le_mul_of_pos_right _ hl1a
    have hlle : l ≤ due * l := Nat.le_mul_of_pos_left _ hd1a
    have hgle : Nat.gcd due l ≤ due := Nat.gcd_le_left _ hd1a
    have hO3 : Off [(I, it), (D, listOf vs.toArray c), (L + 1, oD)] T2 := by
      intro q hq q' hq'
      rcases List.mem_cons.mp hq with rfl | hq
      · exact (hof q' (.tail _ (.tail _ hq'))).symm
      · exact hO2 q hq q' hq'
    k_sweep
    show wpAny _ _ _ _ _ _
    k_fold
    k_steps
    (first | refine Stop.on ?_ | skip)
    refine' Cl.use (lsh w p loose mean mg mb T2 [(I, it), (D, listOf vs.toArray c), (L + 1, oD)] due l _ _ (by omega) (by omega) hT2 hO3) ?zB ?zF ?zX ?zN ?zsub ?zT ?zk ?zd ?zu ?_
    case zB => k_asm
    case zF => k_asm
    case zX => k_asm
    case zN => k_asm
    case zT => k_asm
    case zk => first | exact rfl | assumption
    case zd => first | (dsimp only [ktrTop]; omega) | decide | decide +kernel
    case zu => first | (dsimp only [ktrTop]; omega) | decide | decide +kernel
    case zsub =>
      intro q hq
      rcases List.mem_append.mp hq with hq | hq
      · exact .tail _ (.tail _ (.tail _ hq))
      · rcases List.mem_cons.mp hq with rfl | hq
        · exact .head _
        rcases List.mem_cons.mp hq with rfl | hq
        · exact .tail _ (.head _)
        obtain rfl := List.mem_singleton.mp hq
        exact .tail _ (.tail _ (.head _))
    rintro r T3 h3 tk3 F4 N4 ⟨t3, T4, rfl, rfl, hT4, hO4⟩
    k_sweep
    dsimp only
    generalize hgg : Nat.gcd due l = gg at *
    k_steps
    rw [← Int.natCast_mul]
    have hO5 : Off [(I, it), (D, listOf vs.toArray c), (L + 1, oD)] T4 := hO4
    (first | refine Stop.on ?_ | skip)
    refine' Cl.use (idn w p loose mean mg mb T4 [(I, it), (D, listOf vs.toArray c), (L + 1, oD)] (due * l) gg _ _ (by omega) hgp (by omega) hT4 hO5) ?xB ?xF ?xX ?xN ?xsub ?xT ?xk ?xd ?xu ?_
    case xB => k_asm
    case xF => k_asm
    case xX => k_asm
    case xN => k_asm
    case xT => k_asm
    case xk => first | exact rfl | assumption
    case xd => first | (dsimp only [ktrTop]; omega) | decide | decide +kernel
    case xu => first | (dsimp only [ktrTop]; omega) | decide | decide +kernel
    case xsub => exact fun _ h => h
    rintro r T5 h5 tk5 F5 N5 ⟨D5, t5, t6, T6, rfl, rfl, hT6, hO6, hlt6⟩
    k_sweep
    rw [hmod] at N5
    generalize hdd : due * l / gg = dd at *
    dsimp only
    k_steps
    refine Stop.on ?_
    rename Fr _ _ _ _ => F6
    rename News _ _ _ _ => N6
    refine UnrEnd.intro F6 N6 ((D, listOf vs.toArray c) :: (L + 1, oD) :: T6) ?sub ?off ⟨.head _, ls2, dd, t5, T6, _, hrs2, hnext, hT6, fun q hq => hO6 q (.tail _ hq), kept1 _ rfl ?e5, rfl⟩
    case sub =>
      intro q hq
      rcases List.mem_cons.mp hq with rfl | hq
      · exact .tail _ (List.mem_append_right _ (.head _))
      rcases List.mem_cons.mp hq with rfl | hq
      · exact .tail _ (List.mem_append_right _ (.tail _ (.head _)))
      rcases List.mem_cons.mp hq with rfl | hq
      · exact .tail _ (List.mem_append_right _ (.tail _ (.tail _ (.head _))))
      · exact .tail _ (List.mem_append_left _ hq)
    case off =>
      intro q hq
      rcases List.mem_cons.mp hq with rfl | hq
      · exact hof _ (.head _)
      rcases List.mem_cons.mp hq with rfl | hq
      · exact hof (L + 1, oD) (.tail _ (.head _))
      · exact (hO6 _ (.head _) q hq).symm
    case e5 =>
      intro z z1 z2
      have z3 : z ≠ Str.ofString "rest" := fun e => by rw [e] at z2; exact absurd z2 (by decide)
      have z4 : z ≠ Str.ofString "shared" := fun e => by rw [e] at z2; exact absurd z2 (by decide)
      have z5 : z ≠ Str.ofString "long" := fun e => by rw [e] at z2; exact absurd z2 (by decide)
      simp only [if_neg z1, if_neg z3, if_neg z4, if_neg z5, z2, Bool.false_eq_true, if_false]
end

theorem rsMd : True ∧ True := by
  w_top off
  k_with_none
  k_with "exec While" => (k_here; refine Stop.go ?_)
  k_with "exec While Compare cons nil" => (k_here; refine Stop.go ?_)
  k_with "exec While BoolOp cons nil" => (k_here; refine Stop.go ?_)
  k_with "KswEnd" => (refine Stop.go ?_)
  k_with "UnrEnd" => (refine Stop.go ?_)
  k_with "call ref" => (k_here; refine Stop.go ?_)
  first | (walk1; fail) | exact ⟨trivial, trivial⟩
section
open PySem PySem.W PyProof.Rows
set_option Elab.async false
set_option maxRecDepth 100000
set_option maxHeartbeats 4000000
theorem zs_sum : ∀ l : List Nat, (zs l).sum = (sumN l : Nat)
  | [] => rfl
  | a :: r => by
    show (a : Int) + (zs r).sum = _
    rw [zs_sum r, sumN, Int.natCast_add]
theorem cap_int (n : Nat) : ([1, 2, 3, 4, 6, 6, 12] : List Int).getD ((n : Int) - 1).toNat 0 = (capN n : Nat) := by
  have e : ((n : Int) - 1).toNat = n - 1 := by omega
  rw [e]
  exact zs_getD [1, 2, 3, 4, 6, 6, 12] (n - 1)
/-- the turns are counted -/
theorem seg_c (w : World) (p : Program) (loose : List Str) (mean : ExcName → Option Value) (mg mb : Str → Option Value) (g : Heap) (L a : Addr) (cdv : Value) (s₁ : Shared) (R : Flow → Shared → Prop) (X : (hd.heap_39 w.params).In g) (T : Top p loose mean mg mb g) (B : Below callerA g [] g) (l0 : @LT.lt Nat _ 44 L ∧ @LT.lt Nat _ 37 L) (h₁ : Heap) (tk : Nat) (oD : Obj) (d : List Nat) (td : Tok) (m' : Str → Option Value) (T0 : List (Addr × Obj)) (t0 : Tok)
    (hT0 : Tabs T0) (hO0 : Off [(L + 1, oD)] T0)
    (F : Fr g L h₁ (fun y => if y = Str.ofString "due" then some (.int (turnsN d : Nat) t0) else m' y)) (N : News g L h₁ ((L + 1, oD) :: T0)) (dD : oD.data = .cell (some (.bytes (Bt d) td)))
    (hd : LawIs d) (hd1 : 1 ≤ d.length) (hd7 : d.length ≤ 7)
    (k : ∀ (t : Tok) (m'' : Str → Option Value) (h' : Heap) (tk' : Nat), Fr g L h' (fun y => if y = Str.ofString "turns" then some (.int (turnsN d : Nat) t) else m'' y) → News g L h' ((L + 1, oD) :: T0) →
      wpN (model PySem.Challenge.rw_gh0004_02.row.prog w) (callerA.deeper (LEnv L a cdv)) (execs (RS 7) (LEnv L a cdv)) R (fun _ _ => False) { s₁ with heap := h', toks := tk' }) :
    wpN (model PySem.Challenge.rw_gh0004_02.row.prog w) (callerA.deeper (LEnv L a cdv)) (execs (RS 5) (LEnv L a cdv)) R (fun _ _ => False) { s₁ with heap := h₁, toks := tk } := by
  have hcap := hd.cap
  have hcap12 : turnsN d ≤ 12 := by
    refine Nat.le_trans hcap ?_
    exact cap_le _
  revert X
  k_fill
  intro X
  obtain ⟨B1, hB1⟩ : ∃ B, B = RS 5 := ⟨_, rfl⟩
  obtain ⟨SC, hS⟩ : ∃ B, B = scopeOf lawD := ⟨_, rfl⟩
  unfold LEnv
  rw [← hB1, ← hS]
  conv at hB1 => rhs; whnf
  conv at hS => rhs; whnf
  subst hB1; subst hS
  refine wpN_execs_cons (wpN_of_any ?_)
  k_steps
  (first | refine Stop.on ?_ | skip)
  refine' Cl.use (ltu w p loose mean mg mb ((L + 1, oD) :: T0) d _ hd.lt (by omega) (by omega)) ?yB ?yF ?yX ?yN ?ysub ?yT ?yk ?yd ?yu ?_
  case yB => k_asm
  case yF => k_asm
  case yX => k_asm
  case yN => k_asm
  case yT => k_asm
  case yk => first | exact rfl | assumption
  case yd => first | (dsimp only [ktrTop]; omega) | decide | decide +kernel
  case yu => first | (dsimp only [ktrTop]; omega) | decide | decide +kernel
  case ysub => exact fun _ h => h
  rintro r T2 h2 tk2 F2 N2 ⟨t2, rfl, rfl⟩
  k_sweep
  dsimp only
  generalize htt : turnsN d = tt at *
  k_steps
  refine wpN_execs_cons (wpN_of_any ?_)
  k_steps
  · exact absurd rfl (by assumption)
  (first | refine Stop.on ?_ | skip)
  refine' Cl.use (lle w p loose mean mg mb ((L + 1, oD) :: T0) d _ hd.lt (by omega) (by omega)) ?zB ?zF ?zX ?zN ?zsub ?zT ?zk ?zd ?zu ?_
  case zB => k_asm
  case zF => k_asm
  case zX => k_asm
  case zN => k_asm
  case zT => k_asm
  case zk => first | exact rfl | assumption
  case zd => first | (dsimp only [ktrTop]; omega) | decide | decide +kernel
  case zu => first | (dsimp only [ktrTop]; omega) | decide | decide +kernel
  case zsub => exact fun _ h => h
  rintro r T3 h3 tk3 F3 N3 ⟨D, vs, c, rfl, rfl, hI, hln, hlt⟩
  k_sweep
  dsimp only
  k_steps
  · exact absurd (by rw [zs_sum, hd.sum]) (by assumption : (zs (lengthsN d)).sum ≠ _)
  · have hc : ([1, 2, 3, 4, 6, 6, 12] : List Int).getD ((d.length : Int) - 1).toNat 0 < (tt : Int) := by assumption
    rw [cap_int] at hc
    exact absurd hc (by omega)
  · rename Fr _ _ _ _ => F6
    rename News _ _ _ _ => N6
    exact k _ _ _ _ F6 fun q hq => N6 q (.tail _ (.tail _ hq))
end

theorem rsMe : True ∧ True := by
  w_top off
  k_with_none
  k_with "exec While" => (k_here; refine Stop.go ?_)
  k_with "exec While Compare cons nil" => (k_here; refine Stop.go ?_)
  k_with "exec While BoolOp cons nil" => (k_here; refine Stop.go ?_)
  k_with "KswEnd" => (refine Stop.go ?_)
  k_with "UnrEnd" => (refine Stop.go ?_)
  k_with "call ref" => (k_here; refine Stop.go ?_)
  first | (walk1; fail) | exact ⟨trivial, trivial⟩
section
open PySem PySem.W PyProof.Rows
set_option Elab.async false
set_option maxRecDepth 100000
set_option maxHeartbeats 4000000
local macro_rules | `(tactic| walk_at "eval ListComp") => `(tactic| (k_here; k_dflt (refine ListComp_S (by k_asm) (by with_unfolding_all rfl) (by decide) (by rfl) (by decide) (by rfl) ?_)))
local macro_rules | `(tactic| walk_at "getMethod bytes") => `(tactic| (k_here; (with_reducible show wpAny _ _ (getMethod (Value.bytes (Bt _) _) _ _) _ _ _); refine method_index ?_))
theorem it_lt {d x : List Nat} {b : Nat} (hb : 0 < b) (hx : ∀ i ∈ x, i < b) (hd : ∀ i ∈ d, i < b) : ∀ k, ∀ i ∈ itN d k x, i < b
  | 0 => hx
  | _ + 1 => thenN_lt hb hd
theorem it_len {d x : List Nat} : ∀ k, (itN d k x).length = x.length
  | 0 => rfl
  | k + 1 => by rw [itN, thenN, List.length_map, it_len k]
/-- the way back -/
theorem seg_d (w : World) (p : Program) (loose : List Str) (mean : ExcName → Option Value) (mg mb : Str → Option Value) (g : Heap) (L a : Addr) (cdv : Value) (s₁ : Shared) (R : Flow → Shared → Prop) (X : (hd.heap_39 w.params).In g) (T : Top p loose mean mg mb g) (B : Below callerA g [] g) (l0 : @LT.lt Nat _ 44 L ∧ @LT.lt Nat _ 37 L) (h₁ : Heap) (tk : Nat) (oD : Obj) (d : List Nat) (td : Tok) (m' : Str → Option Value) (T0 : List (Addr × Obj)) (t0 : Tok)
    (hT0 : Tabs T0) (hO0 : Off [(L + 1, oD)] T0)
    (F : Fr g L h₁ (fun y => if y = Str.ofString "turns" then some (.int (turnsN d : Nat) t0) else m' y)) (N : News g L h₁ ((L + 1, oD) :: T0)) (dD : oD.data = .cell (some (.bytes (Bt d) td)))
    (hd : LawIs d) (hd1 : 1 ≤ d.length) (hd7 : d.length ≤ 7)
    (k : ∀ (m'' : Str → Option Value) (h' : Heap) (tk' : Nat), m'' (Str.ofString "turns") = some (.int (turnsN d : Nat) t0) → Fr g L h' m'' → News g L h' ((L + 1, oD) :: T0) →
      wpN (model PySem.Challenge.rw_gh0004_02.row.prog w) (callerA.deeper (LEnv L a cdv)) (execs (RS 11) (LEnv L a cdv)) R (fun _ _ => False) { s₁ with heap := h', toks := tk' }) :
    wpN (model PySem.Challenge.rw_gh0004_02.row.prog w) (callerA.deeper (LEnv L a cdv)) (execs (RS 7) (LEnv L a cdv)) R (fun _ _ => False) { s₁ with heap := h₁, toks := tk } := by
  have hd2 : ∀ q ∈ d, q < 256 := fun q hq => by have := hd.lt q hq; omega
  have hbk2 : ∀ q ∈ idxN d, q < 256 := fun q hq => by have := hd.back q hq; omega
  have hlen9 : d.length ≤ 50 := by omega
  have hd8 : ∀ q ∈ d, q < 8 := fun q hq => by have := hd.lt q hq; omega
  have hlen8 : d.length ≤ 8 := by omega
  obtain ⟨hid⟩ : Nonempty (d.length ≤ 7) := ⟨hd7⟩
  clear hid
  revert X
  k_fill
  intro X
  obtain ⟨B1, hB1⟩ : ∃ B, B = RS 7 := ⟨_, rfl⟩
  obtain ⟨SC, hS⟩ : ∃ B, B = scopeOf lawD := ⟨_, rfl⟩
  unfold LEnv
  rw [← hB1, ← hS]
  conv at hB1 => rhs; whnf
  conv at hS => rhs; whnf
  subst hB1; subst hS
  refine wpN_execs_cons (wpN_of_any ?_)
  k_steps
  rename IsRange _ _ _ _ _ _ _ _ => hR
  rename Fr _ _ _ _ => F1
  rename News _ _ _ _ => N1
  refine CSrc.range rfl F1 N1 hR (small_one (by omega) (by omega) (by omega) (by omega)) (n := d.length) ?sz (by rw [PySem.sizeLine_eq]; omega) fun h2 => ?_
  case sz => rw [rangeSize_one]; split <;> omega
  refine comp_all (fun i z => ∃ t, z = Value.int ((zs (idxN d)).getD i 0) t) ?_ ?_
  · rintro i v ys I oI C oC D m₂ h tk2 E' hi ⟨t2, rfl⟩ hC hx1 F2 N2 off ne
    rw [Int.zero_add] at hx1
    have hib := hd.back (posN i d) (List.mem_map_of_mem (List.mem_range.mpr hi))
    have him := pos_mem hib
    have e2 : (zs (idxN d)).getD i 0 = (posN i d : Nat) := by
      rw [zs_getD]
      simp [idxN, List.getD_eq_getElem?_getD, hi]
    k_sweep
    k_steps
    refine index_Bt hd2 him fun t9 => ?_
    refine LCg.CompEnd.intro F2 N2 _ (fun _ h => h) off trivial ⟨rfl, ?_⟩
    rw [e2]
    exact ⟨_, rfl⟩
  · intro ys hys hrel
    have hI : IntsAre ys (zs (idxN d)) := ints_of_rel (by rw [hys, zs_len, idxN, List.length_map, List.length_range]) hrel
    k_steps
    refine bytes_Bt (by assumption) (by assumption) (by is_list) hI hbk2 (by rw [idxN, List.length_map, List.length_range]; omega) rfl fun h3 t3 k3 F3 N3 => ?_
    k_steps
    rename Fr _ _ _ _ => F4
    rename News _ _ _ _ => N4
    replace N4 : News g L _ ((L + 1, oD) :: T0) := fun q hq => N4 q (.tail _ hq)
    refine wpN_execs_cons (wpN_of_any ?_)
    k_steps
    rename Fr _ _ _ _ => F5
    rename News _ _ _ _ => N5
    refine wpN_execs_cons (wpN_of_any ?_)
    k_steps
    refine Stop.on ?_
    rename IsRange _ _ _ _ _ _ _ _ => hR2
    rename Fr _ _ _ _ => F6
    rename News _ _ _ _ => N6
    obtain ⟨th, F6⟩ : ∃ th, Fr g L _ (fun y => if y = Str.ofString "here" then some (.bytes (Bt (List.range d.length)) th) else if y = Str.ofString "back" then some (.bytes (Bt (idxN d)) t3) else if y = Str.ofString "turns" then some (.int (turnsN d : Nat) t0) else m' y) := ⟨_, F6⟩
    have hcap12 : turnsN d ≤ 12 := Nat.le_trans hd.cap (cap_le _)
    have hone := hd.one
    refine' range_for (n := turnsN d - 1) (fun i m1 nx => ∃ (th : Tok) (u : Str → Option Value), m1 = (fun y => if y = Str.ofString "here" then some (.bytes (Bt (itN d i (List.range d.length))) th) else if [Str.ofString "turn"].contains y = true then u y else if y = Str.ofString "back" then some (.bytes (Bt (idxN d)) t3) else if y = Str.ofString "turns" then some (.int (turnsN d : Nat) t0) else m' y) ∧ nx = (L + 1, oD) :: T0) ?hh hR2 ?sm ?sz2 F6 ?hN ?init ?step ?done
    case hh => rfl
    case sm => exact small_one (by omega) (by omega) (by omega) (by omega)
    case sz2 => rw [rangeSize_one]; split <;> omega
    case hN => exact fun q hq => N6 q (by first | exact hq | exact .tail _ hq)
    case init =>
      refine ⟨th, fun y => if y = Str.ofString "back" then some (.bytes (Bt (idxN d)) t3) else if y = Str.ofString "turns" then some (.int (turnsN d : Nat) t0) else m' y, ?_, rfl⟩
      funext y
      split
      · rfl
      · exact (ite_self _).symm
    case done =>
      rintro m1 nx h tk9 ⟨th2, u, rfl, rfl⟩ F7 N7
      replace F7 : Fr g L h _ := F7
      replace N7 : News g L h _ := N7
      rw [hd.it] at F7
      k_sweep
      dsimp only
      refine wpN_execs_cons (wpN_of_any ?_)
      k_steps
      · exact absurd (by assumption : (idxN d != idxN d) = true) (by simp)
      · have hil : (idxN d).length = d.length := by rw [idxN, List.length_map, List.length_range]
        (first | refine Stop.on ?_ | skip)
        refine' Cl.use (ltu w p loose mean mg mb ((L + 1, oD) :: T0) (idxN d) _ (by rw [hil]; exact hd.back) (by omega) (by omega)) ?yB ?yF ?yX ?yN ?ysub ?yT ?yk ?yd ?yu ?_
        case yB => k_asm
        case yF => k_asm
        case yX => k_asm
        case yN => k_asm
        case yT => k_asm
        case yk => first | exact rfl | assumption
        case yd => first | (dsimp only [ktrTop]; omega) | decide | decide +kernel
        case yu => first | (dsimp only [ktrTop]; omega) | decide | decide +kernel
        case ysub => exact fun _ h => h
        rintro r T2 h2 tk2 F2 N2 ⟨t2, rfl, rfl⟩
        k_sweep
        dsimp only
        rw [hd.tback]
        generalize htt : turnsN d = tt at *
        k_steps
        · exact absurd rfl (by assumption)
        · rename Fr _ _ _ _ => F9
          rename News _ _ _ _ => N9
          exact k _ _ _ rfl F9 N9
    case step =>
      rintro I hI9 i m1 nx t9 h tk9 hi9 ⟨th2, u, rfl, rfl⟩ F7 N7
      replace F7 : Fr g L h _ := F7
      replace N7 : News g L h _ := N7
      k_sweep
      show wpAny _ _ _ _ _ _
      k_fold
      k_steps
      (first | refine Stop.on ?_ | skip)
      refine' Cl.use (lth w p loose mean mg mb ((I, itR (0 + ((i + 1 : Nat) : Int)) (((turnsN d - 1 : Nat) : Int) - ((i + 1 : Nat) : Int))) :: (L + 1, oD) :: T0) (itN d i (List.range d.length)) d _ _ ?x1 hd8 ?x2 (by omega)) ?zB ?zF ?zX ?zN ?zsub ?zT ?zk ?zd ?zu ?_
      case zB => k_asm
      case zF => k_asm
      case zX => k_asm
      case zN => k_asm
      case zT => k_asm
      case zk => first | exact rfl | assumption
      case zd => first | (dsimp only [ktrTop]; omega) | decide | decide +kernel
      case zu => first | (dsimp only [ktrTop]; omega) | decide | decide +kernel
      case zsub => exact fun _ h => h
      case x1 => exact it_lt (by omega) (fun q hq => List.mem_range.mp hq) hd.lt i
      case x2 => rw [it_len, List.length_range]; omega
      rintro r T3 h3 tk3 F8 N8 ⟨t8, rfl, rfl⟩
      k_sweep
      dsimp only
      k_steps
      refine Stop.on ?_
      rename Fr _ _ _ _ => F9
      rename News _ _ _ _ => N9
      refine UnrEnd.intro F9 N9 ((L + 1, oD) :: T0) (fun _ h => h) (fun q hq => Nat.ne_of_lt (hI9 q hq)) ⟨t8, _, kept1 _ rfl ?e5, rfl⟩
      intro z z1 z2
      have z5 : z ≠ Str.ofString "turn" := fun e => by rw [e] at z2; exact absurd z2 (by decide)
      simp only [if_neg z1, if_neg z5, z2, Bool.false_eq_true, if_false]
end

theorem rsMf : True ∧ True := by
  w_top off
  k_with_none
  k_with "exec While" => (k_here; refine Stop.go ?_)
  k_with "exec While Compare cons nil" => (k_here; refine Stop.go ?_)
  k_with "exec While BoolOp cons nil" => (k_here; refine Stop.go ?_)
  k_with "KswEnd" => (refine Stop.go ?_)
  k_with "UnrEnd" => (refine Stop.go ?_)
  k_with "call ref" => (k_here; refine Stop.go ?_)
  first | (walk1; fail) | exact ⟨trivial, trivial⟩
section
open PySem PySem.W PyProof.Rows
set_option Elab.async false
set_option maxRecDepth 100000
set_option maxHeartbeats 4000000
/-- the order told from the other end, by _byteswap -/
theorem seg_e (w : World) (p : Program) (loose : List Str) (mean : ExcName → Option Value) (mg mb : Str → Option Value) (g : Heap) (L a : Addr) (cdv : Value) (s₁ : Shared) (R : Flow → Shared → Prop) (X : (hd.heap_39 w.params).In g) (T : Top p loose mean mg mb g) (B : Below callerA g [] g) (l0 : @LT.lt Nat _ 44 L ∧ @LT.lt Nat _ 37 L) (h₁ : Heap) (tk : Nat) (oD : Obj) (d : List Nat) (td : Tok) (m' : Str → Option Value) (T0 : List (Addr × Obj))
    (F : Fr g L h₁ m') (N : News g L h₁ ((L + 1, oD) :: T0)) (dD : oD.data = .cell (some (.bytes (Bt d) td)))
    (hd : LawIs d) (hd1 : 1 ≤ d.length) (hd7 : d.length ≤ 7)
    (k : ∀ (t : Tok) (h' : Heap) (tk' : Nat), Fr g L h' (fun y => if y = Str.ofString "turned" then some (.bytes (Bt (turnedN d)) t) else m' y) → News g L h' ((L + 1, oD) :: T0) →
      wpN (model PySem.Challenge.rw_gh0004_02.row.prog w) (callerA.deeper (LEnv L a cdv)) (execs (RS 12) (LEnv L a cdv)) R (fun _ _ => False) { s₁ with heap := h', toks := tk' }) :
    wpN (model PySem.Challenge.rw_gh0004_02.row.prog w) (callerA.deeper (LEnv L a cdv)) (execs (RS 11) (LEnv L a cdv)) R (fun _ _ => False) { s₁ with heap := h₁, toks := tk } := by
  have hd2 : ∀ q ∈ d, q < 256 := fun q hq => by have := hd.lt q hq; omega
  have hdr : ∀ q ∈ d.reverse, q < d.length := fun q hq => hd.lt q (List.mem_reverse.mp hq)
  have htn : ∀ q ∈ turnedN d, q < 256 := fun q hq => by
    obtain ⟨z, _, rfl⟩ := List.mem_map.mp hq
    omega
  revert X
  k_fill
  intro X
  obtain ⟨B1, hB1⟩ : ∃ B, B = RS 11 := ⟨_, rfl⟩
  obtain ⟨SC, hS⟩ : ∃ B, B = scopeOf lawD := ⟨_, rfl⟩
  unfold LEnv
  rw [← hB1, ← hS]
  conv at hB1 => rhs; whnf
  conv at hS => rhs; whnf
  subst hB1; subst hS
  refine wpN_execs_cons (wpN_Assign_Name (wpN_CallName ?_))
  k_steps
  refine wpN_call_type (wpN_args_cons (ListComp_SN F (by with_unfolding_all rfl) (by decide) (by rfl) (by decide) (by rfl) (wpN_CallName ?_)))
  k_steps
  refine wpN_call_fn (hlen := by show ¬ (2 + 2 * 0 > 30); decide) (wpN_args_cons (wpN_of_any ?_))
  k_steps
  refine wpN_args_cons (wpN_of_any ?_)
  k_steps
  refine wpN_args_nil ⟨⟨_, _, F.keep _ _ (X _ _ (by k_dflt k_is)), rfl⟩, ?_⟩
  refine' bs w p loose mean mg mb ((L + 1, oD) :: T0) (Bt d) _ (d.length : Nat) _ (by rw [Bt_size]) (by omega) (by omega) _ _ _ _ _ _ _ _ _ _ _ _ _ _ _ _ _ ?bB ?bF ?bX ?bN ?bT ?bk trivial ?bd ?bu ?bR
  case bB => k_asm
  case bF => k_asm
  case bX => k_asm
  case bN => k_asm
  case bT => k_asm
  case bk => rfl
  case bd => first | (dsimp only [ktrTop]; omega) | decide | decide +kernel
  case bu => first | (dsimp only [ktrTop]; omega) | decide | decide +kernel
  case bR =>
    dsimp only [CbRet]
    intro t5 h5 tk5 F5 N5
    rw [Bt_rev]
    refine CSrc.bytes rfl F5 N5 (by rw [Bt_size, PySem.sizeLine_eq, List.length_reverse]; omega) fun h6 => ?_
    refine comp_all (fun i z => ∃ t, z = Value.int ((zs (turnedN d)).getD i 0) t) ?_ ?_
    · rintro i v ys I oI C oC D m₂ h tk2 E' hi ⟨c, u, hc, rfl⟩ hC hx1 F2 N2 off ne
      obtain ⟨q, hq, rfl⟩ := Bt_get hc
      have hqm := hdr q (List.mem_of_getElem? hq)
      rw [ofNat_toNat (by omega)] at hx1
      have e2 : (zs (turnedN d)).getD i 0 = (d.length : Int) - 1 - q := by
        rw [zs_getD]
        have : (turnedN d).getD i 0 = d.length - 1 - q := by
          rw [turnedN, List.getD_eq_getElem?_getD, List.getElem?_map, hq]
          rfl
        rw [this]
        omega
      k_sweep
      k_steps
      refine LCg.CompEnd.intro (by assumption) (by assumption) _ (fun _ h => h) off trivial ⟨rfl, ?_⟩
      rw [e2]
      exact ⟨_, rfl⟩
    · intro ys hys hrel
      have hI : IntsAre ys (zs (turnedN d)) := ints_of_rel (by rw [hys, Bt_size, zs_len, turnedN, List.length_map]) hrel
      k_steps
      refine wpN_args_nil (wpN_of_any ?_)
      refine bytes_Bt (by assumption) (by assumption) (by is_list) hI htn (by rw [turnedN, List.length_map, List.length_reverse]; omega) rfl fun h3 t3 k3 F3 N3 => ?_
      k_steps
      rename Fr _ _ _ _ => F9
      rename News _ _ _ _ => N9
      exact k _ _ _ F9 fun q hq => N9 q (.tail _ hq)
end

theorem rsMg : True ∧ True := by
  w_top off
  k_with_none
  k_with "exec While" => (k_here; refine Stop.go ?_)
  k_with "exec While Compare cons nil" => (k_here; refine Stop.go ?_)
  k_with "exec While BoolOp cons nil" => (k_here; refine Stop.go ?_)
  k_with "KswEnd" => (refine Stop.go ?_)
  k_with "UnrEnd" => (refine Stop.go ?_)
  k_with "call ref" => (k_here; refine Stop.go ?_)
  first | (walk1; fail) | exact ⟨trivial, trivial⟩
section
open PySem PySem.W PyProof.Rows
set_option Elab.async false
set_option maxRecDepth 100000
set_option maxHeartbeats 4000000
/-- the end of the law -/
theorem seg_f (w : World) (p : Program) (loose : List Str) (mean : ExcName → Option Value) (mg mb : Str → Option Value) (g : Heap) (L a : Addr) (cdv : Value) (s₁ : Shared) (R : Flow → Shared → Prop) (X : (hd.heap_39 w.params).In g) (T : Top p loose mean mg mb g) (B : Below callerA g [] g) (l0 : @LT.lt Nat _ 44 L ∧ @LT.lt Nat _ 37 L) (h₁ : Heap) (tk : Nat) (oD : Obj) (d : List Nat) (td : Tok) (m' : Str → Option Value) (T0 : List (Addr × Obj)) (t0 t1 : Tok)
    (hT0 : Tabs T0) (hO0 : Off [(L + 1, oD)] T0)
    (F : Fr g L h₁ (fun y => if y = Str.ofString "turned" then some (.bytes (Bt (turnedN d)) t1) else if y = Str.ofString "turns" then some (.int (turnsN d : Nat) t0) else m' y)) (N : News g L h₁ ((L + 1, oD) :: T0)) (dD : oD.data = .cell (some (.bytes (Bt d) td)))
    (hd : LawIs d) (hd1 : 1 ≤ d.length) (hd7 : d.length ≤ 7)
    (fin : ∀ (m'' : Str → Option Value) (h' : Heap) (tk' : Nat), Fr g L h' m'' → News g L h' ((L + 1, oD) :: T0) → R (.ret (.bool true)) { s₁ with heap := h', toks := tk' }) :
    wpN (model PySem.Challenge.rw_gh0004_02.row.prog w) (callerA.deeper (LEnv L a cdv)) (execs (RS 12) (LEnv L a cdv)) R (fun _ _ => False) { s₁ with heap := h₁, toks := tk } := by
  have hd2 : ∀ q ∈ d, q < 256 := fun q hq => by have := hd.lt q hq; omega
  have hd8 : ∀ q ∈ d, q < 8 := fun q hq => by have := hd.lt q hq; omega
  have htn : ∀ q ∈ turnedN d, q < d.length := fun q hq => by
    obtain ⟨z, _, rfl⟩ := List.mem_map.mp hq
    omega
  have htn2 : ∀ q ∈ turnedN d, q < 256 := fun q hq => by have := htn q hq; omega
  have hfl : ∀ q ∈ flipN d, q < d.length := fun q hq => List.mem_range.mp (List.mem_reverse.mp hq)
  have hfl2 : ∀ q ∈ flipN d, q < 256 := fun q hq => by have := hfl q hq; omega
  revert X
  k_fill
  intro X
  obtain ⟨B1, hB1⟩ : ∃ B, B = RS 12 := ⟨_, rfl⟩
  obtain ⟨SC, hS⟩ : ∃ B, B = scopeOf lawD := ⟨_, rfl⟩
  unfold LEnv
  rw [← hB1, ← hS]
  conv at hB1 => rhs; whnf
  conv at hS => rhs; whnf
  subst hB1; subst hS
  refine wpN_execs_cons (wpN_of_any ?_)
  k_steps
  refine' rev_Bt ?F ?N ?z ?_ ?hs ?ht
  case F => k_asm
  case N => k_asm
  case z => rw [List.length_range]; omega
  case hs => with_unfolding_all rfl
  case ht => intro _; with_unfolding_all rfl
  intro h5 t5 k5 F5 N5
  have efl : (List.range d.length).reverse = flipN d := rfl
  rw [efl]
  k_sweep
  k_steps
  refine wpN_execs_cons (wpN_of_any ?_)
  k_steps
  have hfll : (flipN d).length = d.length := by rw [flipN, List.length_reverse, List.length_range]
  have htul : (turnedN d).length = d.length := by rw [turnedN, List.length_map, List.length_reverse]
  (first | refine Stop.on ?_ | skip)
  refine' Cl.use (lth w p loose mean mg mb ((L + 1, oD) :: T0) (flipN d) d _ _ hfl hd8 (by omega) (by omega)) ?xB ?xF ?xX ?xN ?xsub ?xT ?xk ?xd ?xu ?_
  case xB => k_asm
  case xF => k_asm
  case xX => k_asm
  case xN => k_asm
  case xT => k_asm
  case xk => first | exact rfl | assumption
  case xd => first | (dsimp only [ktrTop]; omega) | decide | decide +kernel
  case xu => first | (dsimp only [ktrTop]; omega) | decide | decide +kernel
  case xsub => exact fun _ h => h
  rintro r T2 h2 tk2 F2 N2 ⟨t2, rfl, rfl⟩
  k_sweep
  dsimp only
  k_steps
  (first | refine Stop.on ?_ | skip)
  refine' Cl.use (lth w p loose mean mg mb ((L + 1, oD) :: T0) (thenN (flipN d) d) (flipN d) _ _ (by rw [hfll]; exact thenN_lt (by omega) hd.lt) (fun q hq => by have := hfl q hq; omega) (by rw [thenN, List.length_map]; omega) (by omega)) ?yB ?yF ?yX ?yN ?ysub ?yT ?yk ?yd ?yu ?_
  case yB => k_asm
  case yF => k_asm
  case yX => k_asm
  case yN => k_asm
  case yT => k_asm
  case yk => first | exact rfl | assumption
  case yd => first | (dsimp only [ktrTop]; omega) | decide | decide +kernel
  case yu => first | (dsimp only [ktrTop]; omega) | decide | decide +kernel
  case ysub => exact fun _ h => h
  rintro r T3 h3 tk3 F3 N3 ⟨t3, rfl, rfl⟩
  k_sweep
  dsimp only
  rw [← hd.turned]
  k_steps
  · exact absurd (by assumption : (turnedN d != turnedN d) = true) (by simp)
  (first | refine Stop.on ?_ | skip)
  refine' Cl.use (ltu w p loose mean mg mb ((L + 1, oD) :: T0) (turnedN d) _ (by rw [htul]; exact htn) (by omega) (by omega)) ?zB ?zF ?zX ?zN ?zsub ?zT ?zk ?zd ?zu ?_
  case zB => k_asm
  case zF => k_asm
  case zX => k_asm
  case zN => k_asm
  case zT => k_asm
  case zk => first | exact rfl | assumption
  case zd => first | (dsimp only [ktrTop]; omega) | decide | decide +kernel
  case zu => first | (dsimp only [ktrTop]; omega) | decide | decide +kernel
  case zsub => exact fun _ h => h
  rintro r T4 h4 tk4 F4 N4 ⟨t4, rfl, rfl⟩
  k_sweep
  dsimp only
  rw [hd.tturned]
  generalize htt : turnsN d = tt at *
  k_steps
  · exact absurd rfl (by assumption)
  refine wpN_execs_cons (wpN_of_any ?_)
  k_steps
  (first | refine Stop.on ?_ | skip)
  refine' Cl.use (lle w p loose mean mg mb ((L + 1, oD) :: T0) (turnedN d) _ (by rw [htul]; exact htn) (by omega) (by omega)) ?uB ?uF ?uX ?uN ?usub ?uT ?uk ?ud ?uu ?_
  case uB => k_asm
  case uF => k_asm
  case uX => k_asm
  case uN => k_asm
  case uT => k_asm
  case uk => first | exact rfl | assumption
  case ud => first | (dsimp only [ktrTop]; omega) | decide | decide +kernel
  case uu => first | (dsimp only [ktrTop]; omega) | decide | decide +kernel
  case usub => exact fun _ h => h
  rintro r T5 h5 tk5 F5 N5 ⟨D1, vs1, c1, rfl, rfl, hI1, hln1, hlt1⟩
  k_sweep
  dsimp only
  k_steps
  refine kso_sorted (by assumption) (by assumption) (News.isList (by assumption) (.head _)) hI1 (by rw [zs_len]; omega) fun DS1 vs2 ns2 c2 h6 F6 N6 l6 hI2 hL2 hP2 hO2 _ => ?_
  k_sweep
  k_steps
  (first | refine Stop.on ?_ | skip)
  refine' Cl.use (lle w p loose mean mg mb ((DS1, listOf vs2.toArray c2) :: (L + 1, oD) :: T0) d _ hd.lt (by omega) (by omega)) ?vB ?vF ?vX ?vN ?vsub ?vT ?vk ?vd ?vu ?_
  case vB => k_asm
  case vF => k_asm
  case vX => k_asm
  case vN => k_asm
  case vT => k_asm
  case vk => first | exact rfl | assumption
  case vd => first | (dsimp only [ktrTop]; omega) | decide | decide +kernel
  case vu => first | (dsimp only [ktrTop]; omega) | decide | decide +kernel
  case vsub =>
    intro q hq
    rcases List.mem_cons.mp hq with rfl | hq
    · exact .head _
    · exact .tail _ (.tail _ hq)
  rintro r T7 h7 tk7 F7 N7 ⟨D3, vs3, c3, rfl, rfl, hI3, hln3, hlt3⟩
  k_sweep
  dsimp only
  k_steps
  refine kso_sorted (by assumption) (by assumption) (News.isList (by assumption) (.head _)) hI3 (by rw [zs_len]; omega) fun DS2 vs4 ns4 c4 h8 F8 N8 l8 hI4 hL4 hP4 hO4 _ => ?_
  k_sweep
  k_steps
  have hpp : ns2.Perm ns4 := hP2.trans (((perm_of_sort hd.sort).map _).trans hP4.symm)
  have heq : ns2 = ns4 := List.Perm.eq_of_pairwise (fun x y _ _ h1 h2 => Int.le_antisymm h1 h2) hO2 hO4 hpp
  rw [decide_eq_true heq]
  exact fin _ _ _ F8 fun q hq => N8 q (.tail _ (.tail _ (.tail _ hq)))
end

theorem rsMh : True ∧ True := by
  w_top off
  k_with_none
  first | (walk1; fail) | exact ⟨trivial, trivial⟩
section
open PySem PySem.W PyProof.Rows
set_option Elab.async false
set_option maxRecDepth 100000
set_option maxHeartbeats 4000000
theorem law_body (w : World) (p : Program) (loose : List Str) (mean : ExcName → Option Value) (mg mb : Str → Option Value) (g : Heap) (L a : Addr) (cdv : Value) (s₁ : Shared) (R : Flow → Shared → Prop) (X : (hd.heap_39 w.params).In g) (T : Top p loose mean mg mb g) (B : Below callerA g [] g) (l0 : @LT.lt Nat _ 44 L ∧ @LT.lt Nat _ 37 L) (h₁ : Heap) (tk : Nat) (oC : Obj) (la : Addr) (vs : List Value) (ns : List Int)
    (F : Fr g L h₁ (fun y => if y = Str.ofString "script" then some (.ref la) else none)) (N : News g L h₁ [(L + 1, oC), (44, tabObj #[]), (37, tabObj #[])]) (dC : oC.data = .cell none)
    (hl : g.IsList la vs.toArray) (hi : IntsAre vs ns) (hn : ns.length ≤ 63)
    (fin : ∀ (m'' : Str → Option Value) (h' : Heap) (tk' : Nat) (T0 : List (Addr × Obj)), Tabs T0 → Fr g L h' m'' → News g L h' T0 → R (.ret (.bool true)) { s₁ with heap := h', toks := tk' }) :
    wpN (model PySem.Challenge.rw_gh0004_02.row.prog w) (callerA.deeper (LEnv L a cdv)) (execs (RS 0) (LEnv L a cdv)) R (fun _ _ => False) { s₁ with heap := h₁, toks := tk } := by
  refine seg_a w p loose mean mg mb g L a cdv s₁ R X T B l0 h₁ tk oC la vs ns F N dC hl hi hn chk_all ?_
  intro d td oD m1 h1 tk1 hd hd1 hd7 dD F1 N1
  refine seg_b w p loose mean mg mb g L a cdv s₁ R X T B l0 h1 tk1 oD d td m1 F1 N1 dD hd hd1 hd7 ?_
  intro T0 t0 m2 h2 tk2 hT0 hO0 F2 N2
  refine seg_c w p loose mean mg mb g L a cdv s₁ R X T B l0 h2 tk2 oD d td m2 T0 t0 hT0 hO0 F2 N2 dD hd hd1 hd7 ?_
  intro t1 m3 h3 tk3 F3 N3
  refine seg_d w p loose mean mg mb g L a cdv s₁ R X T B l0 h3 tk3 oD d td m3 T0 t1 hT0 hO0 F3 N3 dD hd hd1 hd7 ?_
  intro m4 h4 tk4 hm4 F4 N4
  refine seg_e w p loose mean mg mb g L a cdv s₁ R X T B l0 h4 tk4 oD d td m4 T0 F4 N4 dD hd hd1 hd7 ?_
  intro t5 h5 tk5 F5 N5
  refine seg_f w p loose mean mg mb g L a cdv s₁ R X T B l0 h5 tk5 oD d td m4 T0 t1 t5 hT0 hO0 ?_ N5 dD hd hd1 hd7 fun m6 h6 tk6 F6 N6 => fin m6 h6 tk6 T0 hT0 F6 fun q hq => N6 q (.tail _ hq)
  refine cast (congrArg (Fr g L h5) ?_) F5
  funext y
  split
  · rfl
  · split
    · rename_i h; rw [h, hm4]
    · rfl
end

theorem rsM2 : True ∧ True := by
  w_top off
  k_with_none
  first | (walk1; fail) | exact ⟨trivial, trivial⟩
section
open PySem PySem.W PyProof.Rows
set_option Elab.async false
set_option maxRecDepth 100000
set_option maxHeartbeats 4000000
theorem tab_in {P : Addr} {pos : Pos} {q : Str} {T : List (Addr × Obj)} (h : TabSt P pos q T) : ∃ ps, (P, tabObj ps) ∈ T := by
  rcases h with rfl | ⟨c', oc, ocv, tq, rfl, _, _⟩
  · exact ⟨_, .head _⟩
  · exact ⟨_, .tail _ (.head _)⟩
theorem grown_of {g h : Heap} {L : Addr} {T : List (Addr × Obj)} (hT : Tabs T) (N : News g L h T) : GrownAll [(48, 44), (41, 37)] h := by
  obtain ⟨TA, TB, rfl, hA, hB, _⟩ := hT
  obtain ⟨p1, m1⟩ := tab_in hA
  obtain ⟨p2, m2⟩ := tab_in hB
  exact ⟨⟨p2, (N _ (List.mem_append_right _ m2)).1⟩, ⟨p1, (N _ (List.mem_append_left _ m1)).1⟩, trivial⟩
theorem law_walk : PySem.Challenge.rw_gh0004_02.Holds := hd (by
  k_fill
  intro w s₀ s₁ mg mb G Y fa o pm cd doc dV kV ho hd hcd hD hmg hg args vals as hpre hlay hrd hwl hlo
  have KX := km_in_of Y
  km_tabs Y
  have X := (Ground.X G).1
  have V := (Ground.X G).2
  refine Ground.open G ?_
  intro T B D TE TW
  try (refine guard_noD D (by decide +kernel) ?_; clear D)
  km_lay T hmg ho hd cd
  clear hmg
  wrow_args hpre hlay hrd hwl hlo
  refine wpN_call ?_
  w_top on
  have K0 := below_caller (Top.heap T)
  have he := Dflts.none hD rfl; subst he; have he := Dflts.noKw hD; subst he
  refine call_cells_N (by decide) ho (fd_plain hd) (Top.nolimit T) hcd rfl rfl (by decide) fun h₁ tk₁ cells F N0 X0 => ?_
  refine wpN_mono ?_ (fun f s' h => post_of (prog := PRG) (w := w) hT9 (fun _ _ => rfl) h) fun _ _ h => h
  cells_open X0
  clear hd
  kn_ghosts F T
  k_drop
  rename Fr _ _ _ _ => F1
  rename News _ _ _ _ => N1
  rename (Obj.data _ = Data.cell _) => dC1
  rename Heap.IsList (ghostOf _ _) _ _ => hL1
  rename IntsAre _ _ => hI1
  rename (@LT.lt Nat _ 44 _ ∧ _) => l0
  refine law_body w _ _ _ mg mb (ghostOf s₁.heap [(48, 44), (41, 37)]) s₁.heap.objs.size fa _ s₁ _ (by assumption) (by assumption) (by assumption) l0 h₁ tk₁ _ _ _ _ F1 N1 dC1 hL1 hI1 (by omega) ?_
  clear F1 N1
  intro m'' h' tk' T0 hT0 F9 N9
  dsimp only
  refine ⟨?_, ?_⟩
  · k_steps
  · exact grown_of hT0 N9)
end

end Mine

theorem PySem.Challenge.cw_gh0004_02_holds : PySem.Challenge.rw_gh0004_02.Holds :=
  Mine.law_walk
