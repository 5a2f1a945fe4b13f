import PyProof.Rows.All
import PyProof.EvalArms
import KE.BitLaws
import KE.KBits
import KE.KxMul
import KE.KLam
import KE.KSliceW
import KE.KRevSl
import KE.KSuperObj
import Wide.FinOn
import OpenK.AllK
import Wide.All
import PySem.Challenge.RW_lq0010_07
set_option Elab.async false
set_option maxRecDepth 100000
set_option genInjectivity false
set_option genSizeOf false
set_option genSizeOfSpec false
set_option genCtorIdx false
set_option linter.all false
section
open PySem PySem.W PySem.Calls PyProof.Rows
namespace Mine.Internal
inductive LIt where
  | int (i : Int) | fn (k : Nat)
theorem pre_get {ρ ρ' : List Addr} (p : ρ <+: ρ') {i : Nat} {a : Addr} (h : ρ[i]? = some a) : ρ'[i]? = some a := by
  obtain ⟨t, rfl⟩ := p
  rw [List.getElem?_append_left (List.getElem?_eq_some_iff.mp h).1]; exact h
theorem isStr_str {s n : Str} {t : Tok} : (Value.str s t).isStr n = decide (s = n) := rfl
end Mine.Internal
end
section
open PySem PySem.W PySem.Calls PyProof.Rows
namespace Mine.Internal
noncomputable def NsD (h : Heap) (a : Addr) (m : Str → Option Value) : Prop :=
  ∃ es n, h.get? a = some { cls := .type "dict", data := .dict es n } ∧ StrKeys es ∧ UniqKeys es ∧ ∀ x, nsFind es x = m x
theorem NsD.ns1 {h : Heap} {a : Addr} {m} (x : NsD h a m) : h.Ns1 a m := let ⟨es, n, e, k, u, f⟩ := x; ⟨_, es, n, e, rfl, k, u, f⟩
theorem NsD.at {h h' : Heap} {a : Addr} {m} (x : NsD h a m) (k : ∀ o, h.get? a = some o → h'.get? a = some o) : NsD h' a m := let ⟨es, n, e, r⟩ := x; ⟨es, n, k _ e, r⟩
section
variable {M : Model} {A : Around} {E : Value → Shared → Prop} {s : Shared}
theorem nsSet_D {a : Addr} {m : Str → Option Value} {name : Str} {v : Value} {Q : Unit → Shared → Prop} (hn : NsD s.heap a m)
    (hQ : ∀ h', NsD h' a (fun x => if x = name then some v else m x) → Heap.SameBut a s.heap h' → Q () { s with heap := h', toks := s.toks + 1 }) : wpAny M A (nsSet a name v) Q E s := by
  obtain ⟨es, n, ho, hk, hu, hm⟩ := id hn
  have hany : es.any (·.refKey) = false := by
    rw [Array.any_eq_false']; intro e he; obtain ⟨n, t, h⟩ := hk e he; simp [DictEntry.refKey, h]
  unfold nsSet strHash
  refine wpAny_bind (wpAny_bind (wpAny_askSetting (wpAny_pure (wpAny_bind (wpAny_mkText (wpAny_bind (wpAny_loadPart (s := { s with toks := s.toks + 1 }) ho ?_)))))))
  dsimp only
  rw [aRefKeyMayBeTheName_eq]
  unfold aRefKeyMayBeTheNameByArray
  rw [hany, Bool.and_false]
  simp only [Bool.false_eq_true, if_false]
  refine wpAny_updatePart (s := { s with toks := s.toks + 1 }) ho (hQ _ ?_ (Heap.SameBut.update ..))
  cases hi : es.findIdx? (·.key.isStr name) with
  | some i =>
    refine ⟨_, n, (Heap.get?_update_self _ ho (by simp only [Obj.putName_eq, Obj.putNameByArray, hi]; rfl)).trans (by simp only [Obj.putName_eq, Obj.putNameByArray, hi]), hk.modify i v, hu.modify i v, fun x => ?_⟩
    show _ = if x = name then some v else m x
    rw [← hm]; exact findBy_modify (fun n v => v.isStr n) Value.isStr_inj es name x v i hi
  | none =>
    refine ⟨_, n + 1, (Heap.get?_update_self _ ho (by simp only [Obj.putName_eq, Obj.putNameByArray, hi]; rfl)).trans (by simp only [Obj.putName_eq, Obj.putNameByArray, hi]; rfl), hk.push _ _ _ _, hu.push _ _ _ _ hi, fun x => ?_⟩
    show _ = if x = name then some v else m x
    rw [← hm]
    exact findBy_push (fun n v => v.isStr n) es name x _ _ v (fun y => by
      show (name == y) = decide (y = name)
      by_cases h : y = name
      · subst h; simp
      · have : ¬ name = y := fun e => h e.symm
        simp [h, this]) hi
noncomputable abbrev clsEnv (sc : Scope) (nsA : Addr) (q : Str) (c fr : Addr) : Env := { scope := sc, locals := nsA, globals := mainGlobals, cells := [], qual := q, code := .ref c, frame := some fr, builtins := builtinsNs }
variable {sc : Scope} {nsA c fr : Addr} {q : Str} {mc : Str → Option Value}
theorem clsSet {x : Str} {v : Value} {Q : Unit → Shared → Prop} (hn : NsD s.heap nsA mc)
    (hQ : ∀ h', NsD h' nsA (fun y => if y = x then some v else mc y) → Heap.SameBut nsA s.heap h' → Q () { s with heap := h', toks := s.toks + 1 }) : wpAny M A (localSet (clsEnv sc nsA q c fr) x v) Q E s := by
  obtain ⟨es, n, ho, r⟩ := id hn
  unfold localSet
  refine wpAny_bind (wpAny_load ho ?_)
  simp only [beq_self_eq_true, if_true]
  exact nsSet_D hn hQ
theorem clsStore {x : Str} {v : Value} {Q : Unit → Shared → Prop} (hk : sc.kind = .class) (hl : sc.names.lookup x = some .local ∨ (sc.names.lookup x = none ∧ compilersOwnNames.contains x = true)) (hn : NsD s.heap nsA mc)
    (hQ : ∀ h', NsD h' nsA (fun y => if y = x then some v else mc y) → Heap.SameBut nsA s.heap h' → Q () { s with heap := h', toks := s.toks + 1 }) : wpAny M A (storeName (clsEnv sc nsA q c fr) x v) Q E s := by
  unfold storeName Env.kindOf Env.blockKind
  rcases hl with hl | ⟨hl, hc⟩
  · simp only [hl, hk]
    exact clsSet hn hQ
  · simp only [hl, hk, hc]
    exact clsSet hn hQ
theorem clsLoad {x : Str} {v : Value} {Q : Value → Shared → Prop} (hk : sc.kind = .class) (hl : sc.names.lookup x = some .local) (hn : NsD s.heap nsA mc) (e : mc x = some v) (h : Q v s) : wpAny M A (loadName (clsEnv sc nsA q c fr) x) Q E s := by
  obtain ⟨es, n, ho, r⟩ := id hn
  have key : wpAny M A (localGet (clsEnv sc nsA q c fr) x) (fun r s' => r = some v ∧ s' = s) E s := by
    unfold localGet
    refine wpAny_bind (wpAny_load ho ?_)
    simp only [beq_self_eq_true, if_true]
    exact wpAny_nsGet hn.ns1.ns ⟨e, rfl⟩
  unfold loadName Env.kindOf Env.blockKind
  simp only [hk, hl, ScopeKind.isAnnotationScope, Bool.false_and, Bool.false_eq_true, if_false]
  refine wpAny_bind (wpAny_mono key (fun r s' z => ?_) fun _ _ z => z)
  obtain ⟨rfl, rfl⟩ := z
  exact wpAny_pure h
structure CS (h : Heap) (mg : Str → Option Value) (nsA c Pl : Addr) (ps : Array Value) (mc : Str → Option Value) : Prop where
  g : h.Ns mainGlobals mg
  code : h.IsCode c Pl ps
  bmod : h.BuiltinsAt mg Pl
  ns : NsD h nsA mc
  gP : mainGlobals ≠ Pl
  gN : mainGlobals ≠ nsA
  nP : nsA ≠ Pl
theorem CS.cN {h : Heap} {mg} {nsA c Pl : Addr} {ps mc} (x : CS h mg nsA c Pl ps mc) : c ≠ nsA := by
  obtain ⟨o, vs, _, _, _, _, _, _, _, _, ho, hd, _⟩ := x.code
  obtain ⟨es, n, he, _⟩ := x.ns
  rintro rfl
  rw [ho] at he; cases he; cases hd
noncomputable def Keep (Pl nsA : Addr) (h h' : Heap) : Prop := ∀ b o, b ≠ Pl → b ≠ nsA → h.get? b = some o → h'.get? b = some o
theorem Keep.trans {Pl nsA : Addr} {a b c : Heap} (x : Keep Pl nsA a b) (y : Keep Pl nsA b c) : Keep Pl nsA a c := fun d o h1 h2 e => y d o h1 h2 (x d o h1 h2 e)
theorem Keep.refl {Pl nsA : Addr} {a : Heap} : Keep Pl nsA a a := fun _ _ _ _ e => e
theorem CS.ext {h h' : Heap} {mg} {nsA c Pl : Addr} {ps ps' mc} (x : CS h mg nsA c Pl ps mc) (hx : Heap.ExtBut Pl h h') (hok : h'.IsCode c Pl ps') : CS h' mg nsA c Pl ps' mc := by
  obtain ⟨bm, o, hbm, hne0, hneG, hneP, hbo, hr⟩ := x.bmod
  exact ⟨x.g.extBut hx x.gP, hok, ⟨bm, o, hbm, hne0, hneG, hneP, hx _ _ hneP hbo, hr⟩, x.ns.at fun o e => hx _ _ x.nP e, x.gP, x.gN, x.nP⟩
theorem CS.keeps {h h' : Heap} {mg} {nsA c Pl : Addr} {ps mc} (x : CS h mg nsA c Pl ps mc) (hk : ∀ b o, h.get? b = some o → h'.get? b = some o) : CS h' mg nsA c Pl ps mc :=
  ⟨x.g.keeps hk, x.code.keeps hk, x.bmod.keeps hk, x.ns.at fun _ e => hk _ _ e, x.gP, x.gN, x.nP⟩
theorem CS.set {h h' : Heap} {mg} {nsA c Pl : Addr} {ps mc mc'} (x : CS h mg nsA c Pl ps mc) (hn : NsD h' nsA mc') (hs : Heap.SameBut nsA h h') : CS h' mg nsA c Pl ps mc' := by
  have cn := x.cN
  obtain ⟨bm, o, hbm, hne0, hneG, hneP, hbo, hc, hr⟩ := x.bmod
  have hbN : bm ≠ nsA := by
    obtain ⟨es, n, he, _⟩ := x.ns
    rintro rfl; rw [hbo] at he; cases he; exact absurd (show Value.type "dict" = Value.type "module" from hc) (by decide)
  exact ⟨x.g.sameBut hs x.gN, x.code.sameBut hs cn (Ne.symm x.nP), ⟨bm, o, hbm, hne0, hneG, hneP, (hs.2 _ hbN).trans hbo, hc, hr⟩, hn, x.gP, x.gN, x.nP⟩
theorem isCode_at {h h' : Heap} {c Pl : Addr} {ps : Array Value} (M : h.IsCode c Pl ps) (k1 : ∀ o, h.get? c = some o → h'.get? c = some o) (k2 : ∀ o, h.get? Pl = some o → h'.get? Pl = some o) : h'.IsCode c Pl ps := by
  obtain ⟨o, vs, file, tf, flags, tg, inF, text, tt, op, a, r1, r2, r3, r4, r5, r6, b, r⟩ := M
  exact ⟨o, vs, file, tf, flags, tg, inF, text, tt, op, k1 _ a, r1, r2, r3, r4, r5, r6, k2 _ b, r⟩
theorem tableAt_at {h h' : Heap} {c Pl : Addr} {ps : Array Value} (M : h.TableAt c Pl ps) (k1 : ∀ o, h.get? c = some o → h'.get? c = some o) (k2 : ∀ o, h.get? Pl = some o → h'.get? Pl = some o) : h'.TableAt c Pl ps := by
  obtain ⟨⟨o, vs, a, r⟩, b⟩ := M
  exact ⟨⟨o, vs, k1 _ a, r⟩, k2 _ b⟩
noncomputable def FnAt (B : Nat) (h : Heap) (a : Addr) (name qual : Str) (params : Arguments) (body : List Stmt) (scope : Scope) (dV : Value) : Prop :=
  ∃ pm c' doc, B ≤ a ∧ B ≤ c' ∧ h.get? a = some { cls := .type "function", data := .func (defFd name qual params body scope mainGlobals dV .none none pm (.ref c') doc) } ∧ h.CodeRec (.ref c') qual ∧ ∃ P', B ≤ P' ∧ h.IsCode c' P' #[] ∧ h.TableAt c' P' #[]
theorem FnAt.keep {B : Nat} {h h' : Heap} {a : Addr} {name qual : Str} {params body scope dV} (x : FnAt B h a name qual params body scope dV) (hk : ∀ b o, B ≤ b → h.get? b = some o → h'.get? b = some o) : FnAt B h' a name qual params body scope dV :=
  let ⟨pm, c', doc, b1, b2, e, r, P', b3, i, t⟩ := x; ⟨pm, c', doc, b1, b2, hk _ _ b1 e, r.at fun _ e => hk _ _ b2 e, P', b3, isCode_at i (fun _ e => hk _ _ b2 e) (fun _ e => hk _ _ b3 e), tableAt_at t (fun _ e => hk _ _ b2 e) (fun _ e => hk _ _ b3 e)⟩
theorem clsDef {name : Str} {params : Arguments} {body : List Stmt} {scope : Scope} {pos : Pos} {mg : Str → Option Value} {Pl : Addr} {ps : Array Value} {Q : Flow → Shared → Prop}
    (hk : sc.kind = .class) (hkw : params.kwonlyargs = []) (hkd : params.kw_defaults = []) (hconst : ∀ e ∈ params.defaults, e.isPlainConst = true) (hann : annTrees params none (clsEnv sc nsA q c fr) = [])
    (hfree : ∀ x ∈ scope.names, x.2 ≠ .free) (hloc : sc.names.lookup name = some .local) (hm : CS s.heap mg nsA c Pl ps mc) (hnf : codeAmong pos ps.toList = none)
    (h : ∀ a c' dV vs h' tk, CS h' mg nsA c Pl (ps ++ #[rawInt pos.line, rawInt pos.col, .ref c']) (fun x => if x = name then some (.ref a) else mc x) → Keep Pl nsA s.heap h' → s.heap.objs.size ≤ a →
      FnAt s.heap.objs.size h' a name (q ++ name) params body scope dV → ConstVals params.defaults vs → h'.DefaultsAt s.heap.objs.size vs dV → Q .next { s with heap := h', toks := tk }) :
    wpAny M A (exec (.FunctionDef name params body [] none [] scope none name pos) (clsEnv sc nsA q c fr)) Q E s := by
  have hq' : qualnameIn (clsEnv sc nsA q c fr) name name = q ++ name := by
    unfold qualnameIn Env.kindOf
    rw [hloc]; rfl
  rw [exec_def, hq', defaultsOf_eq, hkd, hann]
  refine wpAny_bind (wpAny_standAt (wpAny_bind (wpAny_holding ?_)))
  refine wpAny_bind (wpAny_evalAll_consts _ _ _ hconst fun vs tk₁ hvs => ?_)
  refine wpAny_bind (wpAny_holding (wpAny_pure ?_))
  refine wpAny_holding ?_
  refine wpAny_bind (wpAny_pure ?_)
  refine wpAny_makeFunction_d0N (s := { s with toks := tk₁ }) (env := clsEnv sc nsA q c fr) (c := c) (Pl := Pl) hkw hfree hm.g rfl hm.code hnf hm.gP hm.bmod
    fun dV c' doc h₂ tk₃ hdef hx hge hlt hok hrec htb => wpAny_bind (wpAny_standAt (wpAny_bind (wpAny_bindName (clsStore hk (.inl hloc) (mc := mc) ?_ (fun h' hn' hs' => wpAny_pure ?_)))))
  · exact (((hm.ext hx hok).keeps fun b o e => Heap.get?_push_of_some _ e).ns)
  dsimp only at hn' hs' hdef hge hx htb ⊢
  have hsz : s.heap.objs.size ≤ h₂.objs.size := Nat.le_trans hge (Nat.le_of_lt hlt)
  have nlt : nsA < s.heap.objs.size := by obtain ⟨es, n, he, _⟩ := hm.ns; exact Heap.lt_size he
  have X2 := (hm.ext hx hok).keeps fun b o e => Heap.get?_push_of_some { cls := .type "function", data := .func (defFd name (q ++ name) params body scope mainGlobals dV .none none ((mg "__name__").getD .none) (.ref c') doc) } e
  refine h h₂.objs.size c' dV vs h' _ (X2.set hn' hs') (fun b o h1 h2 e => (hs'.2 _ h2).trans (Heap.get?_push_of_some _ (hx _ _ h1 e))) hsz ⟨_, c', doc, hsz, hge, (hs'.2 _ (Nat.ne_of_gt (Nat.lt_of_lt_of_le nlt hsz))).trans (Heap.get?_push_size _ rfl), ?_, ?_⟩ hvs ?_
  · obtain ⟨c₂, o₂, vs₂, t₂, e₂, g₂, r₂⟩ := hrec
    exact ⟨c₂, o₂, vs₂, t₂, e₂, (hs'.2 _ (by cases e₂; exact Nat.ne_of_gt (Nat.lt_of_lt_of_le nlt hge))).trans (Heap.get?_push_of_some _ g₂), r₂⟩
  · obtain ⟨P', hP, hi, ht⟩ := htb
    have k : ∀ b, s.heap.objs.size ≤ b → ∀ o, h₂.get? b = some o → h'.get? b = some o := fun b hb o e => (hs'.2 _ (Nat.ne_of_gt (Nat.lt_of_lt_of_le nlt hb))).trans (Heap.get?_push_of_some _ e)
    exact ⟨P', hP, isCode_at hi (k _ hge) (k _ hP), tableAt_at ht (k _ hge) (k _ hP)⟩
  · rcases hdef with hd | ⟨hne, T, e, hT, hg⟩
    · exact Or.inl hd
    · exact Or.inr ⟨hne, T, e, hT, (hs'.2 _ (Nat.ne_of_gt (Nat.lt_of_lt_of_le nlt hT))).trans (Heap.get?_push_of_some _ hg)⟩
end
end Mine.Internal
end
section
open PySem PySem.W PySem.Calls PyProof.Rows
namespace Mine.Internal
set_option genCtorIdx true in
inductive CV where
  | int (i : Int) | str (s : Str) | fn (k : Nat) | lst (k : Nat)
structure FnI where
  name : Str
  params : Arguments
  body : List Stmt
  scope : Scope
structure CSt where
  tab : List (Str × CV)
  fns : List FnI
  lsts : List (List LIt)
  top : Nat
set_option genCtorIdx true in
inductive EV where
  | int (i : Int) | str (s : Str) | name (x : Str) | list (es : List Expr) | other
noncomputable def viewE : Expr → EV
  | .Constant c _ _ => (match c with
    | .int i => .int i
    | .str s => .str s
    | _ => .other)
  | .Name x _ => .name x
  | .List es _ => .list es
  | _ => .other
noncomputable def IsE (e : Expr) : EV → Prop
  | .int i => ∃ k p, e = .Constant (.int i) k p
  | .str s => ∃ k p, e = .Constant (.str s) k p
  | .name x => ∃ p, e = .Name x p
  | .list es => ∃ p, e = .List es p
  | .other => True
theorem viewE_ok (e : Expr) : IsE e (viewE e) := by
  cases e with
  | Constant c k p =>
    cases c with
    | int i => exact ⟨k, p, rfl⟩
    | str s => exact ⟨k, p, rfl⟩
    | _ => exact trivial
  | Name x p => exact ⟨p, rfl⟩
  | List es p => exact ⟨p, rfl⟩
  | _ => exact trivial
theorem viewE_of {e : Expr} {v : EV} (h : viewE e = v) : IsE e v := h ▸ viewE_ok e
set_option genCtorIdx true in
inductive SV where
  | fn (name : Str) (params : Arguments) (body : List Stmt) (plain : Bool) (scope : Scope) (bind : Str) (pos : Pos) | asg (t v : Expr) | other
noncomputable def viewS : Stmt → SV
  | .FunctionDef name params body decs ret tps scope ts bind pos => .fn name params body (decs.isEmpty && ret.isNone && tps.isEmpty && ts.isNone) scope bind pos
  | .Assign ts v _ => (match ts with
    | [] => .other
    | t :: r => (match r with
      | [] => .asg t v
      | _ :: _ => .other))
  | _ => .other
noncomputable def IsS (s : Stmt) : SV → Prop
  | .fn name params body plain scope bind pos => plain = true → s = .FunctionDef name params body [] none [] scope none bind pos
  | .asg t v => ∃ p, s = .Assign [t] v p
  | .other => True
theorem viewS_ok (s : Stmt) : IsS s (viewS s) := by
  cases s with
  | FunctionDef name params body decs ret tps scope ts bind pos =>
    intro h
    simp only [Bool.and_eq_true, List.isEmpty_iff, Option.isNone_iff_eq_none] at h
    obtain ⟨⟨⟨rfl, rfl⟩, rfl⟩, rfl⟩ := h
    rfl
  | Assign ts v p =>
    cases ts with
    | nil => exact trivial
    | cons t r =>
      cases r with
      | nil => exact ⟨p, rfl⟩
      | cons _ _ => exact trivial
  | _ => exact trivial
theorem viewS_of {s : Stmt} {v : SV} (h : viewS s = v) : IsS s v := h ▸ viewS_ok s
noncomputable def qlk {β : Type} (x : Str) (l : List (Str × β)) : Option β :=
  @List.rec (Str × β) (fun _ => Option β) none (fun p _ ih => @Bool.rec (fun _ => Option β) ih (some p.2) (PySem.W.Fast.sEq x p.1)) l
theorem beq_q {x y : Str} : (x == y) = PySem.W.Fast.sEq x y := by
  rw [Bool.eq_iff_iff, beq_iff_eq, PySem.W.Fast.sEq_iff]
theorem lookup_q {β : Type} {x : Str} : ∀ (l : List (Str × β)), l.lookup x = qlk x l
  | [] => rfl
  | p :: r => by
    rw [List.lookup_cons, beq_q, lookup_q r]
    show _ = @Bool.rec (fun _ => Option β) (qlk x r) (some p.2) (PySem.W.Fast.sEq x p.1)
    cases PySem.W.Fast.sEq x p.1 <;> rfl
noncomputable def noAnn (p : Arguments) : Bool := p.posonlyargs.isEmpty && p.vararg.isNone && p.kwonlyargs.isEmpty && p.kw_defaults.isEmpty && p.kwarg.isNone && p.args.all (·.annotation.isNone)
noncomputable def fnOfCV : CV → Option Nat
  | .fn k => some k
  | _ => none
noncomputable def itemsG (sc : Scope) (tab : List (Str × CV)) : List Expr → Option (List LIt)
  | [] => some []
  | e :: r => (match viewE e with
    | .int i => (itemsG sc tab r).map (.int i :: ·)
    | .name x => (match (qlk x sc.names) == some .local && !(PySem.W.Fast.sEq x "__debug__"), (qlk x tab).bind fnOfCV with
      | true, some k => (itemsG sc tab r).map (.fn k :: ·)
      | _, _ => none)
    | _ => none)
noncomputable def stepG (sc : Scope) (s : Stmt) (k nl top : Nat) (tab : List (Str × CV)) : Option CSt := match viewS s with
  | .fn name params body plain scope bind pos =>
    (match plain && (PySem.W.Fast.sEq bind name && noAnn params && params.defaults.all (·.isPlainConst) && scope.names.all (fun x => x.2 != .free) && (qlk name sc.names == some .local) && Nat.blt top pos.line) with
    | true => some ⟨[(name, .fn k)], [⟨name, params, body, scope⟩], [], pos.line⟩
    | false => none)
  | .asg t v => (match viewE t with
    | .name x => (match qlk x sc.names == some .local with
      | true => (match viewE v with
        | .int i => some ⟨[(x, .int i)], [], [], top⟩
        | .str t => some ⟨[(x, .str t)], [], [], top⟩
        | .list elts => (match itemsG sc tab elts with
          | some its => (match Nat.ble its.length 1000 with
            | true => some ⟨[(x, .lst nl)], [], [its], top⟩
            | false => none)
          | none => none)
        | _ => none)
      | false => none)
    | _ => none)
  | _ => none
noncomputable def runG (sc : Scope) : List Stmt → Nat → Nat → Nat → List (Str × CV) → Option CSt
  | [], _, _, top, tab => some ⟨tab, [], [], top⟩
  | s :: r, k, nl, top, tab => match stepG sc s k nl top tab with
    | some d => (runG sc r (k + d.fns.length) (nl + d.lsts.length) d.top (d.tab ++ tab)).map fun z => ⟨z.tab, d.fns ++ z.fns, d.lsts ++ z.lsts, z.top⟩
    | none => none
noncomputable def clsRun (sc : Scope) (ss : List Stmt) (st : CSt) : Option CSt := runG sc ss 0 0 st.top st.tab
noncomputable def CSt.plus (st d : CSt) : CSt := ⟨d.tab ++ st.tab, st.fns ++ d.fns, st.lsts ++ d.lsts, d.top⟩
noncomputable def RepCV (φ ψ : List Addr) (v : Value) : CV → Prop
  | .int i => ∃ t, v = .int i t
  | .str s => ∃ t, v = .str s t
  | .fn k => ∃ a, φ[k]? = some a ∧ v = .ref a
  | .lst k => ∃ a, ψ[k]? = some a ∧ v = .ref a
theorem RepCV.mono {φ ψ φ' ψ' : List Addr} (p : φ <+: φ') (q : ψ <+: ψ') {v : Value} {x : CV} (h : RepCV φ ψ v x) : RepCV φ' ψ' v x := by
  cases x with
  | int i => exact h
  | str s => exact h
  | fn k => exact (let ⟨a, e, r⟩ := h; ⟨a, pre_get p e, r⟩)
  | lst k => exact (let ⟨a, e, r⟩ := h; ⟨a, pre_get q e, r⟩)
noncomputable def RepI (φ : List Addr) (v : Value) : LIt → Prop
  | .int i => ∃ t, v = .int i t
  | .fn k => ∃ a, φ[k]? = some a ∧ v = .ref a
noncomputable def RepIL (φ : List Addr) : List Value → List LIt → Prop
  | [], [] => True
  | v :: vs, x :: xs => RepI φ v x ∧ RepIL φ vs xs
  | _, _ => False
theorem RepI.mono {φ φ' : List Addr} (p : φ <+: φ') {v : Value} {x : LIt} (h : RepI φ v x) : RepI φ' v x := by
  cases x with
  | int i => exact h
  | fn k => exact (let ⟨a, e, r⟩ := h; ⟨a, pre_get p e, r⟩)
theorem RepIL.mono {φ φ' : List Addr} (p : φ <+: φ') : ∀ {vs : List Value} {xs : List LIt}, RepIL φ vs xs → RepIL φ' vs xs
  | [], [], h => h
  | _ :: _, _ :: _, h => ⟨h.1.mono p, h.2.mono p⟩
  | [], _ :: _, h => h.elim
  | _ :: _, [], h => h.elim
theorem RepIL.length {φ : List Addr} : ∀ {vs : List Value} {xs : List LIt}, RepIL φ vs xs → vs.length = xs.length
  | [], [], _ => rfl
  | _ :: _, _ :: _, h => congrArg (· + 1) h.2.length
  | [], _ :: _, h => h.elim
  | _ :: _, [], h => h.elim
noncomputable def Places : List Value → List (Nat × Nat) → Prop
  | [], [] => True
  | .int a _ :: .int b _ :: _ :: r, p :: ps => a = (p.1 : Int) ∧ b = (p.2 : Int) ∧ Places r ps
  | _, _ => False
theorem Places.none {pos : Pos} : ∀ {l : List Value} {ps : List (Nat × Nat)}, Places l ps → (pos.line, pos.col) ∉ ps → codeAmong pos l = none
  | [], [], _, _ => rfl
  | .int a t :: .int b u :: v :: r, p :: ps, h, n => by
    obtain ⟨rfl, rfl, h⟩ := h
    have n1 : ¬ (((p.1 : Int) == (pos.line : Int) && (p.2 : Int) == (pos.col : Int)) = true) := by
      intro e
      simp only [Bool.and_eq_true, beq_iff_eq] at e
      refine n (List.mem_cons.mpr (.inl ?_))
      obtain ⟨x, y⟩ := p
      simp only at e
      have e1 : x = pos.line := by lia
      have e2 : y = pos.col := by lia
      rw [e1, e2]
    unfold codeAmong
    rw [if_neg n1]
    exact h.none fun q => n (List.mem_cons_of_mem _ q)
theorem Places.snoc {v : Value} {q : Nat × Nat} : ∀ {l : List Value} {ps : List (Nat × Nat)}, Places l ps → Places (l ++ [rawInt q.1, rawInt q.2, v]) (ps ++ [q])
  | [], [], _ => ⟨rfl, rfl, trivial⟩
  | .int a t :: .int b u :: w :: r, p :: ps, h => by
    obtain ⟨h1, h2, h⟩ := h
    exact ⟨h1, h2, h.snoc⟩
structure Sm (B : Nat) (q : Str) (h : Heap) (st : CSt) (φ ψ : List Addr) (mc : Str → Option Value) (ps : Array Value) : Prop where
  tab : ∀ x, match st.tab.lookup x with | some cv => ∃ v, mc x = some v ∧ RepCV φ ψ v cv | none => mc x = none
  flen : φ.length = st.fns.length
  fn : ∀ (k : Nat) (a : Addr) (fi : FnI), φ[k]? = some a → st.fns[k]? = some fi → ∃ dV vs, FnAt B h a fi.name (q ++ fi.name) fi.params fi.body fi.scope dV ∧ ConstVals fi.params.defaults vs ∧ h.DefaultsAt B vs dV
  llen : ψ.length = st.lsts.length
  lst : ∀ (k : Nat) (a : Addr) (its : List LIt), ψ[k]? = some a → st.lsts[k]? = some its → ∃ vs, B ≤ a ∧ h.get? a = some { cls := .type "list", data := .seq (List.toArray vs) } ∧ RepIL φ vs its
  pl : ∃ pp, Places ps.toList pp ∧ ∀ x ∈ pp, x.1 ≤ st.top
theorem lookup_cons_cv {x : Str} {f : Str × CV} {fs : List (Str × CV)} : (f :: fs).lookup x = if f.1 = x then some f.2 else fs.lookup x := by
  rw [List.lookup_cons]
  by_cases h : f.1 = x
  · subst h; simp
  · have : (x == f.1) = false := beq_eq_false_iff_ne.mpr (Ne.symm h)
    simp [this, h]
theorem tab_set {φ ψ φ' ψ' : List Addr} {tab : List (Str × CV)} {mc : Str → Option Value} {x : Str} {v : Value} {cv : CV} (p : φ <+: φ') (q : ψ <+: ψ') (r : RepCV φ' ψ' v cv)
    (h : ∀ x, match tab.lookup x with | some cv => ∃ v, mc x = some v ∧ RepCV φ ψ v cv | none => mc x = none) :
    ∀ y, match ((x, cv) :: tab).lookup y with | some cv => ∃ u, (if y = x then some v else mc y) = some u ∧ RepCV φ' ψ' u cv | none => (if y = x then some v else mc y) = none := by
  intro y
  rw [lookup_cons_cv]
  by_cases e : x = y
  · subst e; simp only [if_true]; exact ⟨v, rfl, r⟩
  · simp only [e, if_false, Ne.symm e]
    have := h y
    cases hy : tab.lookup y with
    | none => rw [hy] at this; exact this
    | some cv' => rw [hy] at this; obtain ⟨u, e1, e2⟩ := this; exact ⟨u, e1, e2.mono p q⟩
theorem Sm.keep {B : Nat} {q : Str} {h h' : Heap} {st : CSt} {φ ψ : List Addr} {mc : Str → Option Value} {ps : Array Value} (S : Sm B q h st φ ψ mc ps) (hk : ∀ b o, B ≤ b → h.get? b = some o → h'.get? b = some o) : Sm B q h' st φ ψ mc ps :=
  ⟨S.tab, S.flen, fun k a fi e1 e2 => let ⟨dV, vs, x, y, z⟩ := S.fn k a fi e1 e2; ⟨dV, vs, x.keep hk, y, z.imp id fun ⟨n, T, e, b, g⟩ => ⟨n, T, e, b, hk _ _ b g⟩⟩, S.llen,
    fun k a its e1 e2 => let ⟨vs, b, g, r⟩ := S.lst k a its e1 e2; ⟨vs, b, hk _ _ b g, r⟩, S.pl⟩
section
variable {M : Model} {A : Around} {E : Value → Shared → Prop} {s : Shared} {sc : Scope} {nsA c fr Pl : Addr} {q : Str} {mc mg : Str → Option Value} {ps : Array Value} {B : Nat} {st st' : CSt} {φ ψ : List Addr}
theorem items_ok {pos : Pos} (hk : sc.kind = .class) : ∀ {elts : List Expr} {its : List LIt} {s : Shared} {Q : List Value → Shared → Prop}, itemsG sc st.tab elts = some its → NsD s.heap nsA mc →
    (∀ x, match st.tab.lookup x with | some cv => ∃ v, mc x = some v ∧ RepCV φ ψ v cv | none => mc x = none) → (∀ vs tk, RepIL φ vs its → Q vs { s with toks := tk }) →
    wpAny M A (spliced (backTo pos (starEach elts (clsEnv sc nsA q c fr)))) Q E s
  | [], its, s, Q, e, _, _, h => by cases e; exact args_nil (h [] s.toks trivial)
  | e :: r, its, s, Q, he, hn, ht, h => by
    unfold itemsG at he
    split at he
    · rename_i i hv
      obtain ⟨k, p, rfl⟩ := viewE_of hv
      obtain ⟨its', e1, rfl⟩ := Option.map_eq_some_iff.mp he
      refine args_cons (wpAny_Constant_int ?_)
      exact items_ok hk e1 hn ht fun vs tk rp => h _ tk ⟨⟨_, rfl⟩, rp⟩
    · rename_i x hv
      obtain ⟨p, rfl⟩ := viewE_of hv
      split at he
      · rename_i k hc hx
        obtain ⟨cv, hx, hcv⟩ := Option.bind_eq_some_iff.mp hx
        cases cv with
        | fn k' =>
          cases hcv
          obtain ⟨its', e1, rfl⟩ := Option.map_eq_some_iff.mp he
          rw [Bool.and_eq_true, ← lookup_q] at hc
          rw [← lookup_q] at hx
          have hl := beq_iff_eq.mp hc.1
          have hd : (x == ("__debug__" : Str)) = false := beq_q.trans (Bool.not_eq_true' _ ▸ hc.2)
          have := ht x
          rw [hx] at this
          obtain ⟨v, e2, a, ea, rfl⟩ := this
          refine args_cons (wpAny_Name (clsLoad hk hl hn e2 ?_) hd)
          exact items_ok hk e1 hn ht fun vs tk rp => h _ tk ⟨⟨a, ea, rfl⟩, rp⟩
        | _ => cases hcv
      · cases he
    · cases he
theorem noAnn_of {p : Arguments} {env : Env} (h : noAnn p = true) : p.kwonlyargs = [] ∧ p.kw_defaults = [] ∧ annTrees p none env = [] := by
  obtain ⟨po, as, va, ko, kd, kw, df⟩ := p
  unfold noAnn at h
  simp only [Bool.and_eq_true, List.isEmpty_iff, Option.isNone_iff_eq_none] at h
  obtain ⟨⟨⟨⟨⟨rfl, rfl⟩, rfl⟩, rfl⟩, rfl⟩, has⟩ := h
  refine ⟨rfl, rfl, ?_⟩
  have : ∀ l : List Arg, l.all (·.annotation.isNone) = true → annotationsOf l env = [] := by
    intro l
    induction l with
    | nil => intro _; rfl
    | cons a l ih =>
      intro h
      rw [List.all_cons, Bool.and_eq_true] at h
      obtain ⟨nm, an, ps⟩ := a
      obtain ⟨h1, h2⟩ := h
      cases an with
      | none => exact ih h2
      | some _ => cases h1
  unfold annTrees
  simp only [List.append_nil, Option.toList]
  rw [this as has]
  rfl
theorem step_ok {stm : Stmt} {d : CSt} {Q : Flow → Shared → Prop} (hk : sc.kind = .class) (hc : stepG sc stm st.fns.length st.lsts.length st.top st.tab = some d) (hm : CS s.heap mg nsA c Pl ps mc) (S : Sm B q s.heap st φ ψ mc ps) (hB : B ≤ s.heap.objs.size) (hP : Pl < B) (hN : nsA < B)
    (h : ∀ φ' ψ' mc' ps' h' tk, CS h' mg nsA c Pl ps' mc' → Sm B q h' (st.plus d) φ' ψ' mc' ps' → Keep Pl nsA s.heap h' → B ≤ h'.objs.size → Q .next { s with heap := h', toks := tk }) :
    wpAny M A (exec stm (clsEnv sc nsA q c fr)) Q E s := by
  have up : ∀ {h' : Heap}, Keep Pl nsA s.heap h' → ∀ b o, B ≤ b → s.heap.get? b = some o → h'.get? b = some o := fun k b o hb e => k b o (Nat.ne_of_gt (Nat.lt_of_lt_of_le hP hb)) (Nat.ne_of_gt (Nat.lt_of_lt_of_le hN hb)) e
  unfold stepG at hc
  split at hc
  · rename_i name params body plain scope bind pos hv
    split at hc
    · rename_i hb
      cases hc
      rw [Bool.and_eq_true] at hb
      obtain ⟨hpl, hb⟩ := hb
      obtain rfl := viewS_of hv hpl
      rw [← lookup_q, ← beq_q] at hb
      simp only [Bool.and_eq_true, beq_iff_eq] at hb
      obtain ⟨⟨⟨⟨⟨rfl, hb1⟩, hb2⟩, hb3⟩, hb4⟩, hb5⟩ := hb
      have hb5 := Nat.le_of_ble_eq_true hb5
      obtain ⟨n1, n2, n3⟩ := noAnn_of (env := clsEnv sc nsA q c fr) hb1
      obtain ⟨pp, hpp, hin⟩ := S.pl
      have hnot : (pos.line, pos.col) ∉ pp := fun z => Nat.lt_irrefl _ (Nat.lt_of_lt_of_le hb5 (hin _ z))
      refine clsDef hk n1 n2 (fun e he => List.all_eq_true.mp hb2 e he) n3 (fun x hx => by simpa using List.all_eq_true.mp hb3 x hx) hb4 hm (hpp.none hnot) fun a c' dV vs h' tk hm' hkp hsa hfn hcv hdef => ?_
      have S' := S.keep (up hkp)
      refine h (φ ++ [a]) ψ _ _ h' tk hm' ⟨?_, by show _ = (st.fns ++ [_]).length; simp [S.flen], fun k b fi e1 e2 => ?_, by show _ = (st.lsts ++ []).length; rw [List.append_nil]; exact S'.llen, fun k b its e1 e2 => ?_, pp ++ [(pos.line, pos.col)], ?_, fun x hx => ?_⟩ hkp ?_
      · refine tab_set (List.prefix_append _ _) (List.prefix_refl _) ⟨a, ?_, rfl⟩ S.tab
        rw [← S.flen, List.getElem?_append_right (Nat.le_refl _)]; simp
      · replace e2 : (st.fns ++ [⟨bind, params, body, scope⟩])[k]? = some fi := e2
        by_cases hkl : k < φ.length
        · rw [List.getElem?_append_left hkl] at e1
          rw [List.getElem?_append_left (S.flen ▸ hkl)] at e2
          exact S'.fn k b fi e1 e2
        · have hk' : k = φ.length := by
            have := (List.getElem?_eq_some_iff.mp e1).1
            simp at this; lia
          subst hk'
          rw [List.getElem?_append_right (Nat.le_refl _)] at e1
          rw [S.flen, List.getElem?_append_right (Nat.le_refl _)] at e2
          simp at e1 e2
          subst e1; subst e2
          obtain ⟨pm, c2, doc, b1, b2, g1, g2⟩ := hfn
          exact ⟨dV, vs, ⟨pm, c2, doc, Nat.le_trans hB b1, Nat.le_trans hB b2, g1, g2.1, g2.2.imp fun _ z => ⟨Nat.le_trans hB z.1, z.2⟩⟩, hcv, hdef.imp id fun ⟨n, T, e, b, g⟩ => ⟨n, T, e, Nat.le_trans hB b, g⟩⟩
      · replace e2 : (st.lsts ++ [])[k]? = some its := e2
        rw [List.append_nil] at e2
        obtain ⟨vs', b1, b2, b3⟩ := S'.lst k b its e1 e2
        exact ⟨vs', b1, b2, b3.mono (List.prefix_append _ _)⟩
      · have := hpp.snoc (v := .ref c') (q := (pos.line, pos.col))
        simpa using this
      · rcases List.mem_append.mp hx with z | z
        · exact Nat.le_trans (hin x z) (Nat.le_of_lt hb5)
        · obtain rfl := List.mem_singleton.mp z
          exact Nat.le_refl _
      · obtain ⟨pm, c2, doc, b1, b2, g1, g2⟩ := hfn
        exact Nat.le_trans hB (Nat.le_trans b1 (Nat.le_of_lt (Heap.lt_size g1)))
    · cases hc
  · rename_i t v hv
    obtain ⟨pos, rfl⟩ := viewS_of hv
    split at hc
    · rename_i x hx
      obtain ⟨xp, rfl⟩ := viewE_of hx
      split at hc
      · rename_i hl
        rw [← lookup_q] at hl
        have hl := beq_iff_eq.mp hl
        have store : ∀ {s' : Shared} {u : Value} {cv : CV} {ψ' : List Addr}, CS s'.heap mg nsA c Pl ps mc → Sm B q s'.heap st φ ψ mc ps → Keep Pl nsA s.heap s'.heap → B ≤ s'.heap.objs.size → ψ <+: ψ' → RepCV φ ψ' u cv →
            d.tab = [(x, cv)] → d.fns = [] → d.top = st.top → ψ'.length = (st.lsts ++ d.lsts).length →
            (∀ (k : Nat) (a : Addr) (its : List LIt), ψ'[k]? = some a → (st.lsts ++ d.lsts)[k]? = some its → ∃ vs, B ≤ a ∧ s'.heap.get? a = some { cls := .type "list", data := .seq (List.toArray vs) } ∧ RepIL φ vs its) → s'.gens = s.gens → s'.drawn = s.drawn → s'.os = s.os →
            wpAny M A (storeName (clsEnv sc nsA q c fr) x u) (fun _ => Q .next) E s' := by
          intro s' u cv ψ' hm' S' hkp hB' hpre rcv e1 e2 e3 hlen hls g1 g2 g3
          obtain ⟨hh, gg, dd, tt, oo⟩ := s'
          dsimp only at hm' S' hkp hB' hls g1 g2 g3
          subst g1; subst g2; subst g3
          refine clsStore hk (.inl hl) hm'.ns fun h' hn' hs' => ?_
          have k2 : Keep Pl nsA hh h' := fun b o _ h2 e => (hs'.2 b h2).trans e
          have up2 : ∀ b o, B ≤ b → hh.get? b = some o → h'.get? b = some o := fun b o hb e => k2 b o (Nat.ne_of_gt (Nat.lt_of_lt_of_le hP hb)) (Nat.ne_of_gt (Nat.lt_of_lt_of_le hN hb)) e
          have S2 := S'.keep up2
          refine h φ ψ' _ ps h' _ (hm'.set hn' hs') ⟨?_, by unfold CSt.plus; rw [e2, List.append_nil]; exact S2.flen, fun k b fi q1 q2 => S2.fn k b fi q1 (by unfold CSt.plus at q2; rw [e2, List.append_nil] at q2; exact q2), hlen, fun k a its q1 q2 => ?_, by unfold CSt.plus; rw [e3]; exact S2.pl⟩ (hkp.trans k2) (by show B ≤ h'.objs.size; rw [hs'.1]; exact hB')
          · unfold CSt.plus; rw [e1]; exact tab_set (List.prefix_refl _) hpre rcv S'.tab
          · obtain ⟨vs, b1, b2, b3⟩ := hls k a its q1 q2
            exact ⟨vs, b1, up2 _ _ b1 b2, b3⟩
        have l0 : ψ.length = (st.lsts ++ []).length := by rw [List.append_nil]; exact S.llen
        have l1 : ∀ (k : Nat) (a : Addr) (its : List LIt), ψ[k]? = some a → (st.lsts ++ [])[k]? = some its → ∃ vs, B ≤ a ∧ s.heap.get? a = some { cls := .type "list", data := .seq (List.toArray vs) } ∧ RepIL φ vs its := by rw [List.append_nil]; exact S.lst
        split at hc
        · rename_i i hv
          obtain ⟨_, _, rfl⟩ := viewE_of hv
          cases hc
          exact wpAny_Assign_Name (wpAny_Constant_int (store (s' := { s with toks := s.toks + 1 }) (cv := .int i) hm S Keep.refl hB (List.prefix_refl _) ⟨_, rfl⟩ rfl rfl rfl l0 l1 rfl rfl rfl))
        · rename_i t hv
          obtain ⟨_, _, rfl⟩ := viewE_of hv
          cases hc
          exact wpAny_Assign_Name (Calls.Constant_str (store (s' := { s with toks := s.toks + 1 }) (cv := .str t) hm S Keep.refl hB (List.prefix_refl _) ⟨_, rfl⟩ rfl rfl rfl l0 l1 rfl rfl rfl))
        · rename_i elts hv
          obtain ⟨_, rfl⟩ := viewE_of hv
          split at hc
          · rename_i its hits
            split at hc
            · rename_i hz
              cases hc
              refine wpAny_Assign_Name (List_ (items_ok hk hits hm.ns S.tab fun vs tk rp => ?_))
              unfold newList
              have hz := Nat.le_of_ble_eq_true hz
              refine wpAny_newObj_type ?_ (by show vs.toArray.size ≤ sizeLine; rw [List.size_toArray, rp.length]; exact Nat.le_trans hz (by decide))
              have k1 : ∀ b o, s.heap.get? b = some o → (s.heap.push { cls := .type "list", data := .seq vs.toArray }).get? b = some o := fun b o e => Heap.get?_push_of_some _ e
              have S1 := S.keep (h' := s.heap.push { cls := .type "list", data := .seq vs.toArray }) fun b o _ e => k1 b o e
              refine store (s' := { s with heap := s.heap.push { cls := .type "list", data := .seq vs.toArray }, toks := tk }) (ψ' := ψ ++ [s.heap.objs.size]) (cv := .lst st.lsts.length) (hm.keeps k1) S1 (fun b o _ _ e => k1 b o e)
                (by show B ≤ (s.heap.push _).objs.size; rw [Heap.size_push]; lia) (List.prefix_append _ _) ⟨s.heap.objs.size, by rw [← S.llen, List.getElem?_append_right (Nat.le_refl _)]; simp, rfl⟩ rfl rfl rfl (by simp [S.llen]) (fun k a its' q1 q2 => ?_) rfl rfl rfl
              by_cases hkl : k < ψ.length
              · rw [List.getElem?_append_left hkl] at q1
                rw [List.getElem?_append_left (S.llen ▸ hkl)] at q2
                exact S1.lst k a its' q1 q2
              · have hk' : k = ψ.length := by
                  have := (List.getElem?_eq_some_iff.mp q1).1
                  simp at this; lia
                subst hk'
                rw [List.getElem?_append_right (Nat.le_refl _)] at q1
                rw [S.llen, List.getElem?_append_right (Nat.le_refl _)] at q2
                simp at q1 q2
                subst q1; subst q2
                exact ⟨vs, hB, Heap.get?_push_size _ rfl, rp⟩
            · cases hc
          · cases hc
        · cases hc
      · cases hc
    · cases hc
  · cases hc
theorem run_ok (hk : sc.kind = .class) : ∀ {ss : List Stmt} {st z : CSt} {s : Shared} {φ ψ : List Addr} {mc : Str → Option Value} {ps : Array Value} {Q : Flow → Shared → Prop}, runG sc ss st.fns.length st.lsts.length st.top st.tab = some z → CS s.heap mg nsA c Pl ps mc → Sm B q s.heap st φ ψ mc ps → B ≤ s.heap.objs.size → Pl < B → nsA < B →
    (∀ φ' ψ' mc' ps' h' tk, CS h' mg nsA c Pl ps' mc' → Sm B q h' ⟨z.tab, st.fns ++ z.fns, st.lsts ++ z.lsts, z.top⟩ φ' ψ' mc' ps' → Keep Pl nsA s.heap h' → B ≤ h'.objs.size → Q .next { s with heap := h', toks := tk }) →
    wpAny M A (execs ss (clsEnv sc nsA q c fr)) Q E s
  | [], st, z, s, φ, ψ, mc, ps, Q, e, hm, S, hB, hP, hN, h => by
    cases e
    exact wpAny_execs_nil (h φ ψ mc ps s.heap s.toks hm (by rw [List.append_nil, List.append_nil]; exact S) Keep.refl hB)
  | stm :: r, st, z, s, φ, ψ, mc, ps, Q, e, hm, S, hB, hP, hN, h => by
    unfold runG at e
    cases e2 : stepG sc stm st.fns.length st.lsts.length st.top st.tab with
    | none => rw [e2] at e; cases e
    | some d =>
      rw [e2] at e
      obtain ⟨z', e3, rfl⟩ := Option.map_eq_some_iff.mp e
      refine wpAny_execs_cons (step_ok hk e2 hm S hB hP hN fun φ' ψ' mc' ps' h' tk hm' S' hkp hB' => ?_)
      refine run_ok (st := st.plus d) (z := z') hk (by unfold CSt.plus; rw [List.length_append, List.length_append]; exact e3) hm' S' hB' hP hN fun φ2 ψ2 mc2 ps2 h2 tk2 hm2 S2 hkp2 hB2 => h φ2 ψ2 mc2 ps2 h2 tk2 hm2 ?_ (hkp.trans hkp2) hB2
      unfold CSt.plus at S2
      rw [List.append_assoc, List.append_assoc] at S2
      exact S2
end
end Mine.Internal
end
section
open PySem PySem.W PySem.Calls PyProof.Rows PySem.Builtin
namespace Mine.Internal
theorem tn_ext : extendedBase [.type "object"] = pure (.type "object") := by kernel_rfl
theorem tn_best : Slots.bestBase [.type "object"] = pure (.type "object") := by kernel_rfl
theorem tn_dict : Slots.givesDict (.type "object") = pure false := by kernel_rfl
theorem tn_weak : Slots.givesWeak (.type "object") = pure false := by kernel_rfl
theorem tn_var : Slots.varSize (.type "object") = pure false := by kernel_rfl
theorem tn_hook : mroHook? (.type "type") = pure none := by kernel_rfl
theorem tn_lin : linearize [.type "object"] mroOf = pure [.type "object"] := by kernel_rfl
theorem tn_made : Bind.madeBy (.type "object") = pure (some "object.__new__") := by kernel_rfl
theorem tn_turn : notOverATurnedClass [.type "object"] = pure () := by kernel_rfl
theorem tn_subTu : isSubtype (.type "tuple") (.type "tuple") = pure true := by kernel_rfl
theorem tn_subD : isSubtype (.type "dict") (.type "dict") = pure true := by kernel_rfl
theorem tn_iter : typeLookup (.type "dict") "__iter__" = pure (some (.builtin "dict.__iter__")) := by kernel_rfl
theorem tn_note (a : Addr) : noteSubclassOfBuiltin "object" a = pure () := by kernel_rfl
theorem wp_neg {α : Type} {M : Model} {A : Around} {c : Prop} [Decidable c] {a b : Sem α} {Q : α → Shared → Prop} {E : Value → Shared → Prop} {s : Shared} (h : ¬ c) (k : wpAny M A b Q E s) : wpAny M A (if c then a else b) Q E s := by rw [if_neg h]; exact k
theorem wp_pos {α : Type} {M : Model} {A : Around} {c : Prop} [Decidable c] {a b : Sem α} {Q : α → Shared → Prop} {E : Value → Shared → Prop} {s : Shared} (h : c) (k : wpAny M A a Q E s) : wpAny M A (if c then a else b) Q E s := by rw [if_pos h]; exact k
section
variable {M : Model} {A : Around} {E : Value → Shared → Prop} {s : Shared}
theorem nsDel_D {a : Addr} {m : Str → Option Value} {name : Str} {Q : Bool → Shared → Prop} (hn : NsD s.heap a m)
    (hQ : ∀ h' b, NsD h' a (fun x => if x = name then none else m x) → Heap.SameBut a s.heap h' → Q b { s with heap := h' }) : wpAny M A (nsDel a name) Q E s := by
  obtain ⟨es, ep, ho, hk, hu, hm⟩ := id hn
  have hany : es.any (·.refKey) = false := by
    rw [Array.any_eq_false']; intro e he; obtain ⟨n, t, h⟩ := hk e he; simp [DictEntry.refKey, h]
  have hhas : nsHas name ({ cls := .type "dict", data := .dict es ep } : Obj) = pure (es.any (·.key.isStr name)) := by
    rw [nsHas_eq]; unfold nsHasByArray
    show (if (es.any fun x => x.key.isStr name) = true then _ else _) = _
    generalize (es.any fun x => x.key.isStr name) = b
    cases b <;> simp [hany]
  unfold nsDel
  refine wpAny_bind (wpAny_loadPart ho ?_)
  rw [hhas]
  refine wpAny_bind (wpAny_pure ?_)
  cases hi : es.findIdx? (·.key.isStr name) with
  | some i =>
    have hx : es.any (·.key.isStr name) = true := by
      obtain ⟨hlt, hp, _⟩ := Array.findIdx?_eq_some_iff_getElem.mp hi
      exact Array.any_eq_true.mpr ⟨i, hlt, hp⟩
    refine wp_pos hx (wpAny_bind (wpAny_updatePart ho (wpAny_pure ?_)))
    refine hQ _ true ⟨_, ep + 1, (Heap.get?_update_self _ ho (by simp only [Obj.dropName_eq, Obj.dropNameByArray, hi] <;> rfl)).trans (by simp only [Obj.dropName_eq, Obj.dropNameByArray, hi] <;> rfl), hk.erase i, hu.erase i, fun x => by rw [nsFind_erase hu hi x, hm]⟩ (Heap.SameBut.update ..)
  | none =>
    have hx : es.any (·.key.isStr name) = false := by
      rw [Array.any_eq_false']
      intro e he
      have := (Array.findIdx?_eq_none_iff.mp hi) e he
      simpa using this
    refine wp_neg (by rw [hx]; simp) (wpAny_pure ?_)
    have hnone : m name = none := by
      rw [← hm name, nsFind, findBy, Option.map_eq_none_iff, Array.find?_eq_none]
      intro e he
      have := (Array.findIdx?_eq_none_iff.mp hi) e he
      simpa using this
    refine hQ s.heap false ⟨es, ep, ho, hk, hu, fun x => ?_⟩ (.refl ..)
    rw [hm]
    show m x = if x = name then none else m x
    by_cases hx : x = name
    · subst hx; rw [if_pos rfl, hnone]
    · rw [if_neg hx]
theorem setSlot_any {a : Addr} {i : Nat} {v : Option Value} {o : Obj} {Q : Unit → Shared → Prop} (ho : s.heap.get? a = some o) (hi : i < 10)
    (hf : o.isFreed = false)
    (hQ : ∀ h', h'.get? a = some { o with slots := (o.slots ++ Array.replicate (i + 1 - o.slots.size) none).setIfInBounds i v } → Heap.SameBut a s.heap h' → Q () { s with heap := h' }) : wpAny M A (setSlotAt a i v) Q E s := by
  unfold setSlotAt
  refine wp_neg (fun q => absurd (Nat.lt_of_lt_of_le hi (by decide)) (Nat.not_lt.mpr q)) (wpAny_updatePart ho (hQ _ (Heap.get?_update_self _ ho ?_) (Heap.SameBut.update ..)))
  obtain ⟨c, d, dt, sl⟩ := o
  cases dt <;> first | rfl | cases hf
theorem updateCls_any {a : Addr} {f : ClassData → ClassData} {o : Obj} {cd : ClassData} {Q : Unit → Shared → Prop} (ho : s.heap.get? a = some o) (hd : o.data = .cls cd) (hp : (Data.cls (f cd)).pastItsLine = none)
    (hQ : ∀ h', h'.get? a = some { o with data := .cls (f cd) } → Heap.SameBut a s.heap h' → Q () { s with heap := h' }) : wpAny M A (updateCls a f) Q E s := by
  obtain ⟨c, d, dt, sl⟩ := o
  subst hd
  unfold updateCls
  refine wpAny_bind (wpAny_load ho ?_)
  refine wpAny_bind (wpAny_update ho ?_)
  unfold lookBehind
  have e : (s.heap.update a (Obj.mapCls f)).get? a = some { cls := c, dict := d, data := .cls (f cd), slots := sl } := Heap.get?_update_self _ ho rfl
  refine wpAny_bind (wpAny_loadPart (s := { s with heap := s.heap.update a (Obj.mapCls f) }) e ?_)
  rw [hp]
  exact wpAny_pure (hQ _ e (Heap.SameBut.update ..))
end
end Mine.Internal
end
section
open PySem PySem.W PySem.Calls PyProof.Rows PySem.Builtin
namespace Mine.Internal
noncomputable def fragOf (h : Heap) : Frag := (List.range h.objs.size).filterMap fun a => (h.get? a).map (a, ·)
theorem lookup_fm {f : Nat → Option Obj} {a : Nat} : ∀ {l : List Nat}, ((l.filterMap fun b => (f b).map (b, ·)) : Frag).lookup a = if a ∈ l then f a else none
  | [] => by simp
  | b :: l => by
    rw [List.filterMap_cons]
    cases hb : f b with
    | none =>
      simp only [Option.map_none]
      rw [lookup_fm]
      by_cases h : a = b
      · subst h; simp [hb]
      · simp [h]
    | some o =>
      simp only [Option.map_some, List.lookup_cons]
      by_cases h : a = b
      · subst h; simp [hb]
      · have : (a == b) = false := beq_eq_false_iff_ne.mpr h
        rw [this, lookup_fm]
        simp [h]
theorem frag_lookup (h : Heap) (a : Addr) : (fragOf h).lookup a = h.get? a := by
  unfold fragOf
  rw [lookup_fm]
  by_cases q : a < h.objs.size
  · simp [q]
  · simp only [List.mem_range, q, if_false]
    cases e : h.get? a with
    | none => rfl
    | some o => exact absurd (Heap.lt_size e) q
theorem frag_in (h : Heap) : (fragOf h).In h := fun a o e => by rw [frag_lookup] at e; exact e
theorem find_nsFind {es : Array DictEntry} {x : Str} : (es.toList.find? (·.key.isStr x)).map (·.val) = nsFind es x := by
  rw [nsFind, findBy, Array.find?_toList]
theorem frag_ns {h : Heap} {ns : Addr} {m : Str → Option Value} (hn : NsD h ns m) (x : Str) : nsIn (fragOf h) ns x = some (m x) := by
  obtain ⟨es, n, ho, hk, hu, hm⟩ := hn
  unfold nsIn
  rw [frag_lookup, ho]
  dsimp only
  rw [← hm x, ← find_nsFind]
  cases hf : es.toList.find? (·.key.isStr x) with
  | some e => rfl
  | none =>
    have hany : es.toList.any (·.refKey) = false := by
      rw [List.any_eq_false]; intro e he; obtain ⟨n, t, h⟩ := hk e (Array.mem_toList_iff.mp he); simp [DictEntry.refKey, h]
    rw [hany]; rfl
structure ClsAt (h : Heap) (C ns : Addr) (m : Str → Option Value) : Prop where
  cls : ∃ o cd, h.get? C = some o ∧ o.cls = .type "type" ∧ o.data = .cls cd ∧ cd.mro = [.ref C, .type "object"] ∧ cd.ns = ns
  ns : NsD h ns m
theorem ClsAt.keeps {h h' : Heap} {C ns : Addr} {m} (x : ClsAt h C ns m) (k : ∀ b o, h.get? b = some o → h'.get? b = some o) : ClsAt h' C ns m := by
  obtain ⟨⟨o, cd, e, r⟩, n⟩ := x
  exact ⟨⟨o, cd, k _ _ e, r⟩, n.at fun _ e => k _ _ e⟩
theorem ClsAt.own {h : Heap} {C ns : Addr} {m} (x : ClsAt h C ns m) (n : Str) : ownIn (fragOf h) n (.ref C) = some (m n) := by
  obtain ⟨⟨⟨c, d, dt, sl⟩, cd, e, e1, e2, e3, rfl⟩, hn⟩ := x
  dsimp only at e1 e2
  subst e1; subst e2
  unfold ownIn
  dsimp only
  rw [frag_lookup, e]
  exact frag_ns hn n
theorem ClsAt.find {h : Heap} {C ns : Addr} {m} (x : ClsAt h C ns m) (n : Str) : findIn (fragOf h) (.ref C) n = some (match m n with | some v => some v | none => fastBuiltinOwn "object" n) := by
  have ow := x.own n
  obtain ⟨⟨⟨c, d, dt, sl⟩, cd, e, e1, e2, e3, rfl⟩, hn⟩ := x
  dsimp only at e1 e2
  subst e1; subst e2
  unfold findIn
  dsimp only
  rw [frag_lookup, e]
  dsimp only
  rw [e3]
  unfold alongIn
  rw [ow]
  cases m n with
  | some v => rfl
  | none =>
    unfold alongIn ownIn
    dsimp only
    cases fastBuiltinOwn "object" n <;> rfl
theorem ClsAt.lookup {M : Model} {h : Heap} {C ns : Addr} {m} (x : ClsAt h C ns m) (n : Str) : Looks M h (typeLookup (.ref C) n) (match m n with | some v => some v | none => fastBuiltinOwn "object" n) :=
  looks_findIn (frag_in h) (x.find n)
end Mine.Internal
end
section
open PySem PySem.W PySem.Calls PyProof.Rows PySem.Builtin
namespace Mine.Internal
theorem fresh_size {h : Heap} {a : Addr} (e : h.objs.size ≤ a) : h.get? a = none := by
  cases q : h.get? a with
  | none => rfl
  | some o => exact absurd (Heap.lt_size q) (Nat.not_lt.mpr e)
structure Mk (hh h : Heap) (C ns : Addr) (oC : Obj) (m : Str → Option Value) : Prop where
  cls : h.get? C = some oC
  nd : NsD h ns m
  old : ∀ b o, hh.get? b = some o → h.get? b = some o
  fC : hh.get? C = none
  fN : hh.get? ns = none
  ne : C ≠ ns
theorem Mk.setC {hh h h' : Heap} {C ns : Addr} {oC o' : Obj} {m} (x : Mk hh h C ns oC m) (e : h'.get? C = some o') (hs : Heap.SameBut C h h') : Mk hh h' C ns o' m :=
  ⟨e, x.nd.at fun o q => (hs.2 _ (Ne.symm x.ne)).trans q, fun b o q => (hs.2 b (fun z => by subst z; rw [x.fC] at q; cases q)).trans (x.old b o q), x.fC, x.fN, x.ne⟩
theorem Mk.setN {hh h h' : Heap} {C ns : Addr} {oC : Obj} {m m'} (x : Mk hh h C ns oC m) (e : NsD h' ns m') (hs : Heap.SameBut ns h h') : Mk hh h' C ns oC m' :=
  ⟨(hs.2 _ x.ne).trans x.cls, e, fun b o q => (hs.2 b (fun z => by subst z; rw [x.fN] at q; cases q)).trans (x.old b o q), x.fC, x.fN, x.ne⟩
theorem Mk.keeps {hh h h' : Heap} {C ns : Addr} {oC : Obj} {m} (x : Mk hh h C ns oC m) (k : ∀ b o, h.get? b = some o → h'.get? b = some o) : Mk hh h' C ns oC m :=
  ⟨k _ _ x.cls, x.nd.at fun _ e => k _ _ e, fun b o q => k _ _ (x.old b o q), x.fC, x.fN, x.ne⟩
theorem Mk.ltN {hh h : Heap} {C ns : Addr} {oC : Obj} {m} (x : Mk hh h C ns oC m) : ns < h.objs.size := by obtain ⟨_, _, e, _⟩ := x.nd; exact Heap.lt_size e
section
variable {prog : Program} {w : World} {A : Around} {E : Value → Shared → Prop} {hh : Heap} {g : Array GenState} {d : Drawn} {t : Nat} {os : OsState}
theorem slots_read {cls : Str} {es : Array DictEntry} {Q : Slots.Plan → Shared → Prop} {s : Shared} (hs : es.find? (·.key.isStr "__slots__") = none) (h : Q { inherited := [], dict := true, weak := true } s) : wpAny (model prog w) A (Slots.read cls [.type "object"] es) Q E s := by
  unfold Slots.read
  refine wpAny_bind (wpAny_of_eq tn_best ?_)
  refine wpAny_bind (wpAny_of_eq (a := ([] : List Str)) (by kernel_rfl) ?_)
  refine wpAny_bind (wpAny_of_eq tn_dict ?_)
  refine wpAny_bind (wpAny_of_eq tn_weak ?_)
  refine wpAny_bind (wpAny_of_eq tn_var ?_)
  rw [hs]
  exact wpAny_pure h
theorem nsGet_v {M : Model} {s : Shared} {a : Addr} {m : Str → Option Value} {name : Str} {r : Option Value} {Q : Option Value → Shared → Prop} (hn : NsD s.heap a m) (e : m name = r) (h : Q r s) : wpAny M A (nsGet a name) Q E s :=
  wpAny_nsGet hn.ns1.ns (e ▸ h)
theorem if_other {x y : Str} {α : Type} {a b : α} (h : (x == y) = false) : (if x = y then a else b) = b := if_neg (beq_eq_false_iff_ne.mp h)
theorem wpAny_of_eq' {α : Type} {M : Model} {t t' : Sem α} {Q : α → Shared → Prop} {s : Shared} (e : t = t') (h : wpAny M A t' Q E s) : wpAny M A t Q E s := e ▸ h
theorem install_ok {s : Shared} {C ns : Addr} {o : Obj} {cd : ClassData} {Q : Unit → Shared → Prop} (ho : s.heap.get? C = some o) (hd : o.data = .cls cd) (hsc : cd.subclasses = [])
    (hQ : ∀ h', h'.get? C = some { o with data := .cls { cd with hasDict := true, slotNames := [] } } → Heap.SameBut C s.heap h' → Q () { s with heap := h' }) :
    wpAny (model prog w) A (Slots.install (.ref C) ns [.type "object"] { inherited := [], dict := true, weak := true }) Q E s := by
  unfold Slots.install
  refine wpAny_bind (wpAny_of_eq (List.forIn_nil ..) ?_)
  refine wpAny_bind (wpAny_of_eq' (List.forIn_cons ..) (wpAny_bind (wpAny_bind (wpAny_of_eq tn_dict (wp_neg (by decide) (wpAny_pure (wpAny_of_eq (List.forIn_nil ..) ?_)))))))
  refine wp_neg (by decide) ?_
  exact updateCls_any ho hd (by simp [Data.pastItsLine, hsc]) hQ
noncomputable abbrev clsO (name qn : Str) (tn tq : Tok) (C ns : Addr) : Obj := ⟨.type "type", none, .cls { name := name, bases := [.type "object"], mro := [.ref C, .type "object"], ns := ns, qualname := qn, hasDel := false, hasDict := true, slotNames := [] }, #[none, none, some (.str name tn), some (.str qn tq), some (.builtin "object.__new__"), some (.bool true)]⟩
noncomputable abbrev gsO (name : Str) (t : Tok) (C : Addr) (g s : Value) : Obj := { cls := .type "getset_descriptor", data := .fields #[.str name t, .ref C, g, s] }
theorem anyDel (C : Addr) : ((Value.ref C :: [.type "object"]).filter (· != .ref C)).anyM (m := Sem) (fun
    | .ref b => do
      if ← classHasDel b then return true
      return (← nsGet (← classData b).ns "__del__").isSome
    | .type n => pure ((Manifest.find? n).elim false fun ty => ty.attrs.any (·.1 == "__del__"))
    | _ => pure false) = pure false := by
  have : (Value.ref C :: [.type "object"]).filter (· != .ref C) = [.type "object"] := by
    rw [List.filter_cons_of_neg (by simp), List.filter_cons_of_pos (by rfl)]; rfl
  rw [this]
  kernel_rfl
theorem Mk.clsAt {hh h : Heap} {C ns : Addr} {oC : Obj} {m} {cd : ClassData} (x : Mk hh h C ns oC m) (e1 : oC.cls = .type "type") (e2 : oC.data = .cls cd) (e3 : cd.mro = [.ref C, .type "object"]) (e4 : cd.ns = ns := by rfl) : ClsAt h C ns m :=
  ⟨⟨oC, cd, x.cls, e1, e2, e3, e4⟩, x.nd⟩
theorem refresh_ok {s : Shared} {C ns : Addr} {o : Obj} {m : Str → Option Value} {Q : Unit → Shared → Prop} (ho : s.heap.get? C = some o) (K : ClsAt s.heap C ns m) (hnew : m "__new__" = none) (hQ : Q () s) : wpAny (model prog w) A (Bind.refreshMaker C) Q E s := by
  have L := K.lookup (M := model prog w) "__new__"
  rw [hnew] at L
  obtain ⟨hp, g, d, tk, os⟩ := s
  unfold Bind.refreshMaker
  refine wpAny_bind (wpAny_bind (wpAny_loadPart ho (wpAny_pure ?_)))
  by_cases hsl : (o.slots[4]?).join.isNone = true
  · exact wp_pos hsl (wpAny_pure hQ)
  · refine wp_neg hsl (wpAny_bind (L.at ?_))
    exact wp_neg (by decide +kernel) (wpAny_pure hQ)
end
end Mine.Internal
end
section
open PySem PySem.W PySem.Calls PyProof.Rows PySem.Builtin
namespace Mine.Internal
section
variable {prog : Program} {w : World} {A : Around} {E : Value → Shared → Prop} {h : Heap} {g : Array GenState} {d : Drawn} {t : Nat} {os : OsState} {C ns : Addr} {m : Str → Option Value}
theorem ClsAt.mro {M : Model} (x : ClsAt h C ns m) : Looks M h (mroOf (.ref C)) [.ref C, .type "object"] := by
  obtain ⟨⟨⟨c, dd, dt, sl⟩, cd, e, e1, e2, e3, rfl⟩, hn⟩ := x
  dsimp only at e1 e2
  subst e1; subst e2
  rw [← e3]
  exact ((Looks.ld (part := none) e).andThen Looks.now).andThen Looks.now
theorem ClsAt.sub {M : Model} (x : ClsAt h C ns m) : Looks M h (isSubtype (.ref C) (.ref C)) true := by
  have L := x.mro (M := M)
  refine L.andThen ?_
  exact Looks.of_pure (by show (pure (List.contains [Value.ref C, .type "object"] (.ref C)) : Sem Bool) = _; simp)
theorem ClsAt.subO {M : Model} (x : ClsAt h C ns m) : Looks M h (isSubtype (.ref C) (.type "object")) true := by
  have L := x.mro (M := M)
  refine L.andThen ?_
  exact Looks.of_pure (by show (pure (List.contains [Value.ref C, .type "object"] (.type "object")) : Sem Bool) = _; simp)
theorem ClsAt.isType {M : Model} (x : ClsAt h C ns m) : Looks M h (isType (.ref C)) true := by
  obtain ⟨⟨⟨c, dd, dt, sl⟩, cd, e, e1, e2, e3, rfl⟩, hn⟩ := x
  dsimp only at e1 e2
  subst e1; subst e2
  exact (Looks.ld e).andThen Looks.now
theorem super_cls {Q : Value → Shared → Prop} (K : ClsAt h C ns m)
    (hq : ∀ h', h'.get? h.objs.size = some { cls := .type "super", dict := none, data := .fields #[.ref C, .ref C, .ref C], slots := #[] } → (∀ y o, h.get? y = some o → h'.get? y = some o) → Q (.ref h.objs.size) ⟨h', g, d, t, os⟩) :
    wpAny (model prog w) A (call (.type "super") [.ref C, .ref C]) Q E ⟨h, g, d, t, os⟩ := by
  obtain ⟨oD, cdD, hD, hc, hDt, hmro, hns⟩ := K.cls
  refine ks_callType_codesW (Q₁ := fun obj s₁ => obj = .ref h.objs.size ∧ s₁ = ⟨h.push { cls := .type "super", data := .fields #[.none, .none, .none] }, g, d, t, os⟩) F.ks_called_super (ks_wpAny_checkTypeCall_super hD hDt) F.ks_entry_super_init
    (ks_code_super_new _ _ ⟨rfl, rfl⟩) fun obj s₁ h₁ => ?_
  obtain ⟨rfl, rfl⟩ := h₁
  have up : ∀ y o, h.get? y = some o → (h.push { cls := .type "super", data := .fields #[.none, .none, .none] }).get? y = some o := fun y o e => Heap.get?_push_of_some _ e
  have hso : (h.push { cls := .type "super", data := .fields #[.none, .none, .none] }).get? h.objs.size = some { cls := .type "super", dict := none, data := .fields #[.none, .none, .none], slots := #[] } := Heap.get?_push_at rfl rfl
  have K' := K.keeps up
  refine ⟨⟨_, hso, rfl⟩, F.ks_initArgs_super _ _ _, ?_⟩
  unfold Builtin.«super.__init__» noKeywords
  have T1 := K'.isType (M := model prog w)
  have T2 := K'.sub (M := model prog w)
  repeat (first | (with_reducible refine Looks.at T1 ?_) | (with_reducible refine Looks.at T2 ?_) | (with_reducible refine ks_wpAny_super_set3 hso ?_) | wp_step)
  all_goals (intro h' e k; exact ⟨rfl, hq h' e fun y o ey => k y o (Nat.ne_of_lt (Heap.lt_size ey)) (up y o ey)⟩)
theorem cmd_slot : Slot "classmethod_descriptor" "__get__" "classmethod_descriptor.__get__" := .of (owner := "classmethod_descriptor") (n := "__get__") (by rw [typeLookup_type, builtinLookup_eq_fast]; kernel_rfl) (by decide +kernel) (by decide +kernel) (by decide +kernel)
  (by first | exact .inl (by decide +kernel) | exact .inr (by decide +kernel)) (by rw [isSubtype_type]; kernel_rfl)
theorem cmd_entry : entryFor table "classmethod_descriptor.__get__" = some Builtin.«classmethod_descriptor.__get__» := entryFor_of_tree (by kernel_rfl)
theorem cmd_args (a b c : Value) : argsOk "classmethod_descriptor.__get__" ⟨[a, b, c], []⟩ := by unfold argsOk; kernel_rfl
theorem isub_own : fastBuiltinOwn "object" "__init_subclass__" = some (.builtin "object.__init_subclass__") := by kernel_rfl
theorem isub_type : typeOf (.builtin "object.__init_subclass__") = pure (.type "classmethod_descriptor") := by show builtinType _ = _; rw [builtinType_eq_fast]; kernel_rfl
theorem cmd_get {Q : Fin → Shared → Prop} (K : ClsAt h C ns m)
    (hq : Q (.done (.ret (.ref h.objs.size))) ⟨h.push { cls := .type "builtin_function_or_method", data := .fields #[.builtin "object.__init_subclass__", .ref C] }, g, d, t, os⟩) :
    wpAny (model prog w) A (Builtin.«classmethod_descriptor.__get__» ⟨[.builtin "object.__init_subclass__", .none, .ref C], []⟩) Q E ⟨h, g, d, t, os⟩ := by
  have T1 := K.isType (M := model prog w)
  have T2 := K.subO (M := model prog w)
  unfold Builtin.«classmethod_descriptor.__get__»
  refine wpAny_bind (wpAny_of_eq (a := (Value.builtin "object.__init_subclass__", none, some (.ref C))) rfl ?_)
  refine wpAny_bind (wpAny_pure ?_)
  refine wpAny_bind (Looks.at T1 ?_)
  refine wp_neg (by decide) ?_
  refine wpAny_bind (Looks.at (t := isSubtype (.ref C) (.type (".".intercalate ("object.__init_subclass__".cutAt '.').dropLast))) (by rw [show ".".intercalate ("object.__init_subclass__".cutAt '.').dropLast = "object" by decide +kernel]; exact T2) ?_)
  refine wp_neg (by decide) ?_
  refine wpAny_bind (wpAny_newObj_type (wpAny_pure hq) ?_)
  show 2 ≤ sizeLine + 2
  lia
theorem super_ga {so : Addr} {tk : Tok} {name : Str} {v : Value} {Q : Fin → Shared → Prop} (K : ClsAt h C ns m) (hno : Looks (model prog w) h (opaqueClassAbove (.ref C)) none)
    (hso : h.get? so = some { cls := .type "super", dict := none, data := .fields #[.ref C, .ref C, .ref C], slots := #[] })
    (hn : (name == ("__class__" : Str)) = false) (hf : alongIn (fragOf h) name [.type "object"] = some (some v)) (hTf : (⟨h, g, d, t, os⟩ : Shared).TypeIs v "classmethod_descriptor")
    (hq : wpAny (model prog w) A.in1 (Builtin.«classmethod_descriptor.__get__» ⟨[v, .none, .ref C], []⟩) (fun fin s' => ∃ v, fin = .done (.ret v) ∧ Q (.done (.ret v)) s') E ⟨h, g, d, t, os⟩) :
    wpAny (model prog w) A (Builtin.«super.__getattribute__» ⟨[.ref so, .str name tk], []⟩) Q E ⟨h, g, d, t, os⟩ := by
  have hM := K.mro (M := model prog w)
  have hl : ([Value.ref C, .type "object"].dropWhile (· != .ref C)).drop 1 = [.type "object"] := by simp [List.dropWhile]
  have hlk := cmd_slot.lookup
  have hdt : ({ cls := .type "super", dict := none, data := .fields #[.ref C, .ref C, .ref C], slots := #[] } : Obj).data = .fields #[.ref C, .ref C, .ref C] := rfl
  have f0 : (#[.ref C, .ref C, .ref C] : Array Value)[0]? = some (.ref C) := rfl
  have f1 : (#[.ref C, .ref C, .ref C] : Array Value)[1]? = some (.ref C) := rfl
  have f2 : (#[.ref C, .ref C, .ref C] : Array Value)[2]? = some (.ref C) := rfl
  have hne : (Value.ref C == Value.ref C) = true := by simp
  unfold Builtin.«super.__getattribute__»
  repeat (first
    | (with_reducible refine wpAny_field hso hdt f0 ?_) | (with_reducible refine wpAny_field hso hdt f1 ?_) | (with_reducible refine wpAny_field hso hdt f2 ?_)
    | (with_reducible refine ks_wpAny_notOpaque hno ?_)
    | (with_reducible refine Looks.at hM ?_; rw [hl])
    | (refine ks_forIn_along (frag_in h) (fun _ _ => rfl) rfl ?_ hf)
    | (with_reducible refine wpAny_typeOf hTf ?_)
    | (with_reducible refine wpAny_call_entry cmd_slot hTf cmd_entry (wpAny_mono hq (fun fin s' z => ?_) fun _ _ z => z) (cmd_args _ _ _); obtain ⟨v, rfl, hv⟩ := z)
    | (with_reducible refine ⟨_, rfl, ?_⟩)
    | (simp only [hn, hne, Bool.or_false, Bool.false_eq_true, if_false, if_true])
    | wp_step
    | dsimp only)
  all_goals exact hv
theorem super_get {so : Addr} {Q : Value → Shared → Prop} (K : ClsAt h C ns m) (hno : Looks (model prog w) h (opaqueClassAbove (.ref C)) none)
    (hso : h.get? so = some { cls := .type "super", dict := none, data := .fields #[.ref C, .ref C, .ref C], slots := #[] })
    (hq : Q (.ref h.objs.size) ⟨h.push { cls := .type "builtin_function_or_method", data := .fields #[.builtin "object.__init_subclass__", .ref C] }, g, d, t + 1, os⟩) :
    wpAny (model prog w) A (getAttr (.ref so) "__init_subclass__") Q E ⟨h, g, d, t, os⟩ := by
  have hlk := F.ks_slot_super_ga.lookup
  have hT : ∀ t', (⟨h, g, d, t', os⟩ : Shared).TypeIs (.ref so) "super" := fun _ => ⟨_, hso, rfl⟩
  have hf : alongIn (fragOf h) "__init_subclass__" [.type "object"] = some (some (.builtin "object.__init_subclass__")) := by
    unfold alongIn ownIn; dsimp only; rw [isub_own]
  have hn : (("__init_subclass__" : Str) == ("__class__" : Str)) = false := by decide +kernel
  generalize ("__init_subclass__" : Str) = name at hf hn ⊢
  unfold getAttr getAttrBy
  refine wpAny_bind (wpAny_mkText (wpAny_holding (wpAny_bind (wpAny_typeOf (hT _) (wpAny_bind (wpAny_of_eq hlk ?_))))))
  show wpAny _ _ (getAttrByItsOwn (.ref so) (.str name t) (.type "super") (.builtin "super.__getattribute__") true false) _ _ _
  unfold getAttrByItsOwn hookBefore callGetattribute boundAndCalled
  refine wpAny_bind (wpAny_of_eq (show (if onTheHeap (.type "super") then typeLookup (.type "super") "__getattr__" else pure none) = pure none from rfl) ?_)
  refine wpAny_bind (wpAny_attempt (wpAny_holding ?_))
  show wpAny _ _ (bindSpecial (.builtin "super.__getattribute__") (.ref so) >>= _) _ _ _
  refine wpAny_bind (wpAny_of_eq (F.ks_slot_super_ga.bind _) ?_)
  refine wpAny_mono (Q := fun v s' => v = .ref h.objs.size ∧ s' = ⟨h.push { cls := .type "builtin_function_or_method", data := .fields #[.builtin "object.__init_subclass__", .ref C] }, g, d, t + 1, os⟩) (E := fun _ _ => False)
    (wpAny_call_entry F.ks_slot_super_ga (hT _) F.ks_entry_super_ga (super_ga K hno hso hn hf isub_type (cmd_get K ⟨_, rfl, _, rfl, rfl, rfl⟩)) (F.ks_gaArgs_super _ _)) (fun v s' hv => ?_) fun _ _ z => z.elim
  obtain ⟨rfl, rfl⟩ := hv
  exact wpAny_pure hq
theorem isub_entry : entryFor table "object.__init_subclass__" = some Builtin.«object.__init_subclass__» := entryFor_of_tree (by kernel_rfl)
theorem isub_plain : plainId "object.__init_subclass__" = true := by decide +kernel
theorem opaque_none {ms : Str → Option Value} (hs : h.Ns cStatics ms) (e : ms "thirdparty.any" = none) : Looks (model prog w) h (opaqueClassAbove (.ref C)) none := by
  intro A Q E s k q
  unfold opaqueClassAbove anyOpaqueLoaded
  refine wpAny_bind (wpAny_bind (wpAny_nsGet (hs.keeps k) ?_))
  rw [e]
  exact wpAny_pure (wp_pos (by decide) (wpAny_pure q))
theorem isub_sig : Manifest.signature? "object.__init_subclass__" = some ⟨.noArgs, "object.__init_subclass__", "__init_subclass__", .cls, []⟩ := by kernel_rfl
theorem isub_kind : builtinKind "object.__init_subclass__" = some .classMethod := by kernel_rfl
theorem isub_mod : isSubtype (.type "type") (.type "module") = pure false := by rw [isSubtype_type]; kernel_rfl
theorem isub_args (C : Addr) (n : String) (h : n = "__init_subclass__") : Bind.checkArgs "object.__init_subclass__" ⟨.noArgs, toString (Str.toString ("MPU" : Str)) ++ toString "." ++ toString n, "__init_subclass__", .cls, []⟩ ⟨[.ref C], []⟩ = pure () := by
  subst h; kernel_rfl
theorem isub_last : Bind.lastOf "object.__init_subclass__" = "__init_subclass__" := by decide +kernel
theorem isub_check {Q : Unit → Shared → Prop} {tn tq : Tok} (K : ClsAt h C ns m) (hD : h.get? C = some (clsO "MPU" "MPU" tn tq C ns)) (hq : Q () ⟨h, g, d, t, os⟩) : wpAny (model prog w) A (checkBoundCall "object.__init_subclass__" ⟨[.ref C], []⟩) Q E ⟨h, g, d, t, os⟩ := by
  have T1 := K.isType (M := model prog w)
  have TI : (⟨h, g, d, t, os⟩ : Shared).TypeIs (.ref C) "type" := ⟨_, hD, rfl⟩
  unfold checkBoundCall
  rw [isub_sig, isub_kind]
  refine wp_neg (by decide) ?_
  refine wpAny_bind (wpAny_isInstance TI isub_mod ?_)
  refine wp_neg (by decide +kernel) ?_
  refine wpAny_bind (T1.at ?_)
  refine wp_pos rfl ?_
  refine wpAny_bind (wpAny_pure ?_)
  refine wpAny_bind (wpAny_bind (wpAny_load hD (wpAny_pure ?_)))
  refine wpAny_bind (wpAny_typeOf TI ?_)
  refine wp_pos (by decide) ?_
  exact wpAny_of_eq (isub_args C _ isub_last) hq
theorem isub_call {f : Addr} {Q : Value → Shared → Prop} {tn tq : Tok} (K : ClsAt h C ns m) (hD : h.get? C = some (clsO "MPU" "MPU" tn tq C ns)) (hf : h.get? f = some { cls := .type "builtin_function_or_method", data := .fields #[.builtin "object.__init_subclass__", .ref C] })
    (hq : Q .none ⟨h, g, d, t, os⟩) : wpAny (model prog w) A (call (.ref f) []) Q E ⟨h, g, d, t, os⟩ := by
  refine wpAny_call (codeAny_of_tree ?_)
  show wpAny _ A.in1 (callAny (.ref f) _) _ _ _
  unfold callAny
  refine wpAny_bind (wpAny_load hf ?_)
  refine wp_pos (by rfl) ?_
  refine wp_pos (by rfl) ?_
  refine wpAny_bind (isub_check K hD ?_)
  refine wpAny_pure ⟨plainId_quiet isub_plain _, codeAny_builtin isub_entry ?_⟩
  rw [Around.under_plainId isub_plain _]
  unfold Builtin.«object.__init_subclass__»
  refine wp_pos (by rfl) ?_
  exact wpAny_pure hq
end
end Mine.Internal
end
section
open PySem PySem.W PySem.Calls PyProof.Rows PySem.Builtin
namespace Mine.Internal
section
variable {prog : Program} {w : World} {A : Around} {E : Value → Shared → Prop} {hh : Heap} {g : Array GenState} {d : Drawn} {t : Nat} {os : OsState}
theorem fresh_old {hh h : Heap} (k : ∀ b o, hh.get? b = some o → h.get? b = some o) : hh.get? h.objs.size = none := by
  cases e : hh.get? h.objs.size with
  | none => rfl
  | some o => exact absurd (Heap.lt_size (k _ _ e)) (Nat.lt_irrefl _)
theorem NsD.elim {h : Heap} {a : Addr} {m : Str → Option Value} {P : Prop} (x : NsD h a m) (f : ∀ es n, h.get? a = some { cls := .type "dict", data := .dict es n } → StrKeys es → UniqKeys es → (∀ x, nsFind es x = m x) → P) : P :=
  let ⟨es, n, a, b, c, d⟩ := x; f es n a b c d
theorem dictEntries_D {M : Model} {s : Shared} {a : Addr} {es : Array DictEntry} {n : Nat} {Q : Array DictEntry → Shared → Prop} (e : s.heap.get? a = some { cls := .type "dict", data := .dict es n }) (h : Q es s) : wpAny M A (dictEntries a) Q E s := by
  unfold dictEntries
  exact wpAny_bind (wpAny_loadPart e (wpAny_pure h))
noncomputable def Dull (h : Heap) (v : Value) : Prop := (∀ k, laidUnderItsOwnName k v = false) ∧ ∃ T, (match v with | .ref a => ∃ o, h.get? a = some o ∧ o.cls = .type T | v => typeOf v = pure (.type T)) ∧ typeLookup (.type T) "__set_name__" = pure none
theorem Dull.keeps {h h' : Heap} {v : Value} (x : Dull h v) (k : ∀ b o, h.get? b = some o → h'.get? b = some o) : Dull h' v := by
  obtain ⟨a, T, b, c⟩ := x
  refine ⟨a, T, ?_, c⟩
  cases v <;> first | exact b | exact (let ⟨o, e, r⟩ := b; ⟨o, k _ _ e, r⟩)
theorem special_dull {M : Model} {s : Shared} {v : Value} {Q : Option Value → Shared → Prop} (hd : Dull s.heap v) (h : Q none s) : wpAny M A (specialOf v "__set_name__") Q E s := by
  obtain ⟨_, T, b, c⟩ := hd
  refine wpAny_specialOf (T := T) ?_ c h
  cases v <;> exact b
theorem asStr_some {M : Model} {s : Shared} {es : Array DictEntry} {e : DictEntry} {Q : Option Str → Shared → Prop} (hk : StrKeys es) (he : e ∈ es) (h : ∀ x, Q (some x) s) : wpAny M A (asStr? e.key) Q E s := by
  obtain ⟨x, t, ex⟩ := hk e he
  rw [ex]
  exact wpAny_of_eq (a := some x) rfl (h x)
theorem entry_val {es : Array DictEntry} {e : DictEntry} (hk : StrKeys es) (hu : UniqKeys es) (he : e ∈ es) : ∃ x, nsFind es x = some e.val := by
  obtain ⟨x, t, ex⟩ := hk e he
  refine ⟨x, ?_⟩
  rw [← find_nsFind]
  obtain ⟨l⟩ := es
  unfold UniqKeys at hu
  replace he : e ∈ l := by simpa using he
  dsimp only at hu ⊢
  clear hk
  induction l with
  | nil => cases he
  | cons f l ih =>
    obtain ⟨h1, h2⟩ := List.pairwise_cons.mp hu
    have px : e.key.isStr x = true := by rw [ex]; simp [isStr_str]
    rw [List.find?_cons]
    rcases List.mem_cons.mp he with rfl | hm
    · rw [px]; rfl
    · have : f.key.isStr x = false := by
        cases q : f.key.isStr x with
        | false => rfl
        | true => exact (h1 e hm x q px).elim
      rw [this]
      exact ih h2 hm
theorem dull_none {h : Heap} : Dull h .none := ⟨fun k => by cases k <;> rfl, "NoneType", rfl, by rw [typeLookup_type, builtinLookup_eq_fast]; kernel_rfl⟩
theorem dull_gs {h : Heap} {a : Addr} {n : Str} {t : Tok} {C : Addr} {x y : Value} (e : h.get? a = some (gsO n t C x y)) : Dull h (.ref a) := ⟨fun k => by cases k <;> rfl, "getset_descriptor", ⟨_, e, rfl⟩, by rw [typeLookup_type, builtinLookup_eq_fast]; kernel_rfl⟩
noncomputable abbrev mcEnd (mc : Str → Option Value) (a1 a2 : Addr) : Str → Option Value := fun (x : Str) => if x = ("__doc__" : Str) then some .none else if x = ("__weakref__" : Str) then some (.ref a2) else if x = ("__dict__" : Str) then some (.ref a1) else if x = ("__qualname__" : Str) then none else mc x
theorem dull_end {h : Heap} {mc : Str → Option Value} {a1 a2 : Addr} (h0 : ∀ x v, mc x = some v → Dull h v) (d1 : Dull h (.ref a1)) (d2 : Dull h (.ref a2)) {x : Str} {v : Value} (e : mcEnd mc a1 a2 x = some v) : Dull h v := by
  unfold mcEnd at e
  split at e
  · cases e; exact dull_none
  · split at e
    · cases e; exact d2
    · split at e
      · cases e; exact d1
      · split at e
        · cases e
        · exact h0 x v e
theorem wp_loopL {M : Model} {α β : Type} {f : α → β → Sem (ForInStep β)} {b : β} {Q : β → Shared → Prop} {s : Shared} : ∀ {l : List α}, (∀ e ∈ l, ∀ Q' : ForInStep β → Shared → Prop, Q' (.yield b) s → wpAny M A (f e b) Q' E s) → Q b s → wpAny M A (forIn l b f) Q E s
  | [], _, q => by rw [List.forIn_nil]; exact wpAny_pure q
  | e :: l, h, q => by
    rw [List.forIn_cons]
    exact wpAny_bind (h e List.mem_cons_self _ (wp_loopL (fun e' he => h e' (List.mem_cons_of_mem _ he)) q))
theorem wp_loopA {M : Model} {α β : Type} {f : α → β → Sem (ForInStep β)} {b : β} {Q : β → Shared → Prop} {s : Shared} {l : Array α} (h : ∀ e ∈ l, ∀ Q' : ForInStep β → Shared → Prop, Q' (.yield b) s → wpAny M A (f e b) Q' E s) (q : Q b s) : wpAny M A (forIn l b f) Q E s := by
  rw [← Array.forIn_toList]
  exact wp_loopL (fun e he => h e (Array.mem_toList_iff.mp he)) q
set_option maxHeartbeats 0 in
theorem type_new {name qn : Str} {tn : Tok} {bT nsA : Addr} {mc : Str → Option Value} {tq : Tok} {Q : Fin → Shared → Prop}
    (hb : hh.get? bT = some { cls := .type "tuple", data := .seq #[] }) (hn : NsD hh nsA mc) (hsz : ∀ es n, hh.get? nsA = some { cls := .type "dict", data := .dict es n } → es.size ≤ 1000) (hm : (nsA == sysModules) = false)
    (hs : mc "__slots__" = none) (hmod : (mc "__module__").isSome = true) (hdel : mc "__del__" = none) (hqn : mc "__qualname__" = some (.str qn tq)) (hdoc : mc "__doc__" = none) (hname : name = "MPU") (hqual : qn = "MPU") (hsur : (name.cps.any fun c => decide (55296 ≤ c) && decide (c ≤ 57343)) = false) (hz : name.cps.contains 0 = false) 
    (hnew : mc "__new__" = none) (his : mc "__init_subclass__" = none) (hcg : mc "__class_getitem__" = none) (hcc : mc "__classcell__" = none) (hcd : mc "__classdictcell__" = none) (hdi : mc "__dict__" = none) (hwe : mc "__weakref__" = none) (heq : mc "__eq__" = none) (hdull : ∀ x v, mc x = some v → Dull hh v) {ms : Str → Option Value} (hst : hh.Ns cStatics ms) (hop : ms "thirdparty.any" = none)
    (hQ : ∀ h' tk C ns a1 a2 t1 t2, Mk hh h' C ns (clsO name qn tn tq C ns) (mcEnd mc a1 a2) → h'.get? a1 = some (gsO "__dict__" t1 C (.builtin "function.__dict__") (.builtin "function.__dict__#set")) → h'.get? a2 = some (gsO "__weakref__" t2 C (.builtin "ExceptionGroup.__weakref__") .none) → hh.get? a1 = none → hh.get? a2 = none → Q (.done (.ret (.ref C))) ⟨h', g, d, tk, os⟩) :
    wpAny (model prog w) A (Builtin.«type.__new__» ⟨[.type "type", .str name tn, .ref bT, .ref nsA], []⟩) Q E ⟨hh, g, d, t, os⟩ := by
  obtain ⟨es, n, hg, hk, hu, hmc⟩ := id hn
  have L1 : Looks (model prog w) hh (isInstance (.ref bT) (.type "tuple")) true := Looks.andThen (t := typeOf (.ref bT)) (a := .type "tuple") (Looks.andThen (Looks.ld hb) Looks.now) (Looks.of_pure tn_subTu)
  have L2 : Looks (model prog w) hh (isInstance (.ref nsA) (.type "dict")) true := Looks.andThen (t := typeOf (.ref nsA)) (a := .type "dict") (Looks.andThen (Looks.ld hg) Looks.now) (Looks.of_pure tn_subD)
  have L5 : Looks (model prog w) hh (seqItems? (.ref bT)) (some #[]) := (Looks.ld hb).andThen Looks.now
  have L6 : Looks (model prog w) hh (asStr? (.str name tn)) (some name) := Looks.now
  have fnone : ∀ x : Str, mc x = none → es.find? (·.key.isStr x) = none := fun x e => by
    have := hmc x; rw [e, nsFind, findBy, Option.map_eq_none_iff] at this; exact this
  have anyOf : ∀ x : Str, es.any (·.key.isStr x) = (mc x).isSome := fun x => by
    rw [← hmc x]; simp only [nsFind, findBy, Option.isSome_map]
    rw [Bool.eq_iff_iff]; simp only [Array.find?_isSome, Array.any_eq_true]
    constructor
    · rintro ⟨i, hi, hp⟩; exact ⟨_, Array.getElem_mem hi, hp⟩
    · rintro ⟨x, hx, hp⟩; obtain ⟨i, hi, rfl⟩ := Array.mem_iff_getElem.mp hx; exact ⟨i, hi, hp⟩
  unfold Builtin.«type.__new__»
  refine wpAny_bind (L6.at ?_)
  refine wpAny_bind (L1.at ?_)
  refine wp_neg (by decide) ?_
  refine wpAny_bind (L2.at ?_)
  refine wp_neg (by decide) ?_
  refine wpAny_bind (L5.at ?_)
  refine wp_neg (by decide) ?_
  refine wpAny_bind (wpAny_of_eq (a := PUnit.unit) rfl ?_)
  refine wpAny_bind (wpAny_of_eq (a := Value.type "type") rfl ?_)
  refine wp_neg (by decide) ?_
  refine wpAny_bind (wpAny_of_eq tn_turn ?_)
  refine wpAny_bind (wpAny_of_eq tn_ext ?_)
  refine wp_neg (by rw [hm]; exact Bool.false_ne_true) ?_
  refine wpAny_bind (wpAny_bind (wpAny_loadPart hg (wpAny_pure ?_)))
  refine wpAny_bind (wpAny_bind (wpAny_bind (wpAny_loadPart hg (wpAny_pure (wpAny_of_eq tn_iter ?_)))))
  refine wp_pos (by rw [beq_self_eq_true, Bool.or_true]) ?_
  refine wpAny_bind (wpAny_pure ?_)
  refine wpAny_bind (wpAny_holding (slots_read (fnone _ hs) ?_))
  refine wpAny_bind (wpAny_newObj_type ?_ (Nat.le_trans (hsz _ _ hg) (by decide)))
  have hn1 : NsD (hh.push { cls := .type "dict", data := .dict es }) hh.objs.size mc := ⟨es, _, Heap.get?_push_size _ rfl, hk, hu, hmc⟩
  have k1 : ∀ b o, hh.get? b = some o → (hh.push { cls := .type "dict", data := .dict es }).get? b = some o := fun b o e => Heap.get?_push_of_some _ e
  have z1 : hh.objs.size < (hh.push { cls := .type "dict", data := .dict es }).objs.size := by rw [Heap.size_push]; lia
  have fN : hh.get? hh.objs.size = none := fresh_size (Nat.le_refl _)
  have fC : hh.get? (hh.push { cls := .type "dict", data := .dict es }).objs.size = none := fresh_size (Nat.le_of_lt z1)
  generalize hh.push { cls := .type "dict", data := .dict es } = h1 at hn1 k1 z1 fC ⊢
  generalize hh.objs.size = ns at hn1 z1 fN ⊢
  refine wp_neg (by show ¬ ((!es.any _) = true); rw [anyOf, hmod]; decide) ?_
  refine wpAny_bind (wp_neg (by rw [hsur]; decide) (wpAny_pure ?_))
  refine wp_neg (by rw [hz]; decide) ?_
  refine wpAny_bind (wpAny_nsGet hn1.ns1.ns ?_)
  refine wpAny_bind (wpAny_nsGet hn1.ns1.ns ?_)
  rw [hqn]
  refine wpAny_bind (wpAny_of_eq (a := some qn) rfl ?_)
  refine wpAny_bind (wpAny_pure ?_)
  refine wpAny_bind (wpAny_nsGet hn1.ns1.ns ?_)
  rw [hdoc]
  refine wpAny_bind (wpAny_alloc ?_)
  have K : Mk hh (h1.push { cls := .type "type", data := .cls { name := name, bases := [.type "object"], mro := [], ns := ns, qualname := qn } }) h1.objs.size ns { cls := .type "type", data := .cls { name := name, bases := [.type "object"], mro := [], ns := ns, qualname := qn } } mc :=
    ⟨Heap.get?_push_size _ rfl, hn1.at fun o e => Heap.get?_push_of_some _ e, fun b o e => Heap.get?_push_of_some _ (k1 b o e), fC, fN, Nat.ne_of_gt z1⟩
  change wpAny (model prog w) A _ Q E ⟨h1.push { cls := .type "type", data := .cls { name := name, bases := [.type "object"], mro := [], ns := ns, qualname := qn } }, g, d, t, os⟩
  generalize h1.push { cls := .type "type", data := .cls { name := name, bases := [.type "object"], mro := [], ns := ns, qualname := qn } } = h2 at K ⊢
  generalize h1.objs.size = C at K ⊢
  clear hn1 k1 z1 fN fC h1
  refine wp_neg (by decide) ?_
  refine wpAny_bind (setSlot_any K.cls (by decide) rfl fun h3 e3 s3 => ?_)
  replace K : Mk hh h3 C ns ⟨.type "type", none, .cls { name := name, bases := [.type "object"], mro := [], ns := ns, qualname := qn }, #[none, none, some (.str name tn)]⟩ mc := K.setC e3 s3
  clear e3 s3
  refine wpAny_bind (setSlot_any K.cls (by decide) rfl fun h4 e4 s4 => ?_)
  replace K : Mk hh h4 C ns ⟨.type "type", none, .cls { name := name, bases := [.type "object"], mro := [], ns := ns, qualname := qn }, #[none, none, some (.str name tn), some (.str qn tq)]⟩ mc := K.setC e4 s4
  clear e4 s4
  refine wpAny_bind (nsDel_D K.nd fun h5 b5 n5 s5 => ?_)
  replace K := K.setN n5 s5
  clear n5 s5
  change wpAny (model prog w) A _ Q E ⟨h5, g, d, t, os⟩
  refine wpAny_bind (nsGet_v K.nd ((if_other (by decide +kernel)).trans hnew) ?_)
  refine wpAny_bind ?_
  rw [List.forIn_cons]
  refine wpAny_bind (wpAny_bind (nsGet_v K.nd ((if_other (by decide +kernel)).trans his) (wpAny_pure ?_)))
  refine wpAny_of_eq' (List.forIn_cons ..) ?_
  refine wpAny_bind (wpAny_bind (nsGet_v K.nd ((if_other (by decide +kernel)).trans hcg) (wpAny_pure ?_)))
  refine wpAny_of_eq (List.forIn_nil ..) ?_
  refine wpAny_bind (nsGet_v K.nd ((if_other (by decide +kernel)).trans hcc) ?_)
  refine wpAny_bind (nsGet_v K.nd ((if_other (by decide +kernel)).trans hcd) ?_)
  refine wpAny_bind (wpAny_of_eq tn_hook ?_)
  refine wpAny_bind (wpAny_of_eq tn_lin ?_)
  refine wpAny_bind (wpAny_pure ?_)
  refine wpAny_bind (wpAny_of_eq (a := false) (anyDel C) ?_)
  have hasDel : (es.any (·.key.isStr "__del__") || false) = false := by rw [anyOf, hdel]; rfl
  refine wpAny_bind (updateCls_any K.cls rfl rfl fun h6 e6 s6 => ?_)
  have e6' : h6.get? C = some ⟨.type "type", none, .cls { name := name, bases := [.type "object"], mro := [.ref C, .type "object"], ns := ns, qualname := qn, hasDel := false }, #[none, none, some (.str name tn), some (.str qn tq)]⟩ := by have e := e6; simp only [hasDel] at e; exact e
  replace K := K.setC e6' s6
  clear e6 e6' s6
  refine wpAny_bind (wpAny_of_eq tn_made ?_)
  refine wpAny_bind (setSlot_any K.cls (by decide) rfl fun h7 e7 s7 => ?_)
  replace K : Mk hh h7 C ns ⟨.type "type", none, .cls { name := name, bases := [.type "object"], mro := [.ref C, .type "object"], ns := ns, qualname := qn, hasDel := false }, #[none, none, some (.str name tn), some (.str qn tq), some (.builtin "object.__new__")]⟩ _ := K.setC e7 s7
  clear e7 s7
  refine wpAny_bind (refresh_ok K.cls (K.clsAt rfl rfl rfl) ((if_other (by decide +kernel)).trans hnew) ?_)
  refine wpAny_bind (install_ok K.cls rfl rfl fun h8 e8 s8 => ?_)
  replace K : Mk hh h8 C ns ⟨.type "type", none, .cls { name := name, bases := [.type "object"], mro := [.ref C, .type "object"], ns := ns, qualname := qn, hasDel := false, hasDict := true, slotNames := [] }, #[none, none, some (.str name tn), some (.str qn tq), some (.builtin "object.__new__")]⟩ _ := K.setC e8 s8
  clear e8 s8
  refine wpAny_bind (wpAny_of_eq tn_weak ?_)
  refine wpAny_bind (setSlot_any K.cls (by decide) rfl fun h9 e9 s9 => ?_)
  replace K : Mk hh h9 C ns (clsO name qn tn tq C ns) _ := K.setC e9 s9
  clear e9 s9
  change wpAny (model prog w) A _ Q E ⟨h9, g, d, t, os⟩
  refine wp_pos rfl ?_
  refine wpAny_bind (nsGet_v K.nd ((if_other (by decide +kernel)).trans hdi) ?_)
  refine wp_pos rfl ?_
  refine wpAny_bind (wpAny_mkStr ?_)
  have d1 := Nat.ne_of_gt K.ltN
  have f1 := fresh_old K.old
  refine wpAny_bind (wpAny_newObj_type ?_)
  replace K := K.keeps (h' := h9.push (gsO "__dict__" t C (.builtin "function.__dict__") (.builtin "function.__dict__#set"))) fun b o e => Heap.get?_push_of_some _ e
  have g1 : (h9.push (gsO "__dict__" t C (.builtin "function.__dict__") (.builtin "function.__dict__#set"))).get? h9.objs.size = some (gsO "__dict__" t C (.builtin "function.__dict__") (.builtin "function.__dict__#set")) := Heap.get?_push_size _ rfl
  refine wpAny_bind (nsSet_D K.nd fun h10 n10 s10 => ?_)
  change wpAny (model prog w) A _ Q E ⟨h10, g, d, t + 1 + 1, os⟩
  replace g1 := (s10.2 _ d1).trans g1
  replace K := K.setN n10 s10
  clear n10 s10
  refine wp_pos rfl ?_
  refine wpAny_bind (nsGet_v K.nd ((if_other (by decide +kernel)).trans ((if_other (by decide +kernel)).trans hwe)) ?_)
  refine wp_pos rfl ?_
  refine wpAny_bind (wpAny_mkStr ?_)
  have d2 := Nat.ne_of_gt K.ltN
  have f2 := fresh_old K.old
  refine wpAny_bind (wpAny_newObj_type ?_)
  replace K := K.keeps (h' := h10.push (gsO "__weakref__" (t + 1 + 1) C (.builtin "ExceptionGroup.__weakref__") .none)) fun b o e => Heap.get?_push_of_some _ e
  have g2 : (h10.push (gsO "__weakref__" (t + 1 + 1) C (.builtin "ExceptionGroup.__weakref__") .none)).get? h10.objs.size = some (gsO "__weakref__" (t + 1 + 1) C (.builtin "ExceptionGroup.__weakref__") .none) := Heap.get?_push_size _ rfl
  replace g1 := Heap.get?_push_of_some (gsO "__weakref__" (t + 1 + 1) C (.builtin "ExceptionGroup.__weakref__") .none) g1
  refine wpAny_bind (nsSet_D K.nd fun h11 n11 s11 => ?_)
  change wpAny (model prog w) A _ Q E ⟨h11, g, d, t + 1 + 1 + 1 + 1, os⟩
  replace g1 := (s11.2 _ d1).trans g1
  replace g2 := (s11.2 _ d2).trans g2
  replace K := K.setN n11 s11
  clear n11 s11
  refine wpAny_bind (nsGet_v K.nd ((if_other (by decide +kernel)).trans ((if_other (by decide +kernel)).trans ((if_other (by decide +kernel)).trans hdoc))) ?_)
  refine wp_pos rfl ?_
  refine wpAny_bind (nsSet_D K.nd fun h12 n12 s12 => ?_)
  change wpAny (model prog w) A _ Q E ⟨h12, g, d, t + 1 + 1 + 1 + 1 + 1, os⟩
  replace g1 := (s12.2 _ d1).trans g1
  replace g2 := (s12.2 _ d2).trans g2
  replace K := K.setN n12 s12
  clear n12 s12
  refine wpAny_bind (nsGet_v K.nd ((if_other (by decide +kernel)).trans ((if_other (by decide +kernel)).trans ((if_other (by decide +kernel)).trans ((if_other (by decide +kernel)).trans heq)))) ?_)
  refine wp_neg (by decide) ?_
  refine wpAny_bind (wpAny_of_eq' (List.forIn_cons ..) (wpAny_bind (wpAny_bind (wpAny_of_eq (tn_note C) (wpAny_pure (wpAny_of_eq (List.forIn_nil ..) ?_))))))
  refine wpAny_bind (wpAny_tryCatch (wpAny_holding ?_))
  have X : ClsAt h12 C ns (mcEnd mc h9.objs.size h10.objs.size) := K.clsAt rfl rfl rfl
  have D : ∀ x v, mcEnd mc h9.objs.size h10.objs.size x = some v → Dull h12 v := fun x v e => dull_end (fun x v e => (hdull x v e).keeps K.old) (dull_gs g1) (dull_gs g2) e
  refine NsD.elim K.nd fun es' n' hg' hk' hu' hm' => ?_
  refine wpAny_bind (dictEntries_D hg' ?_)
  refine wpAny_bind (wp_loopA (fun e he Q' hQ => ?_) ?_)
  · exact wpAny_bind (asStr_some hk' he fun x => wp_neg Bool.false_ne_true (wpAny_pure hQ))
  refine wp_neg Bool.false_ne_true ?_
  refine wpAny_bind (dictEntries_D hg' ?_)
  refine wpAny_bind (wp_loopA (fun e he Q' hQ => ?_) ?_)
  · have De : Dull h12 e.val := Exists.elim (entry_val hk' hu' he) fun x ex => D x _ ((hm' x).symm.trans ex)
    exact wp_neg (by rw [De.1]; exact Bool.false_ne_true) (wpAny_bind (special_dull De (wpAny_pure hQ)))
  refine wpAny_bind (super_cls X fun h13 e13 k13 => ?_)
  have L13 : Looks (model prog w) h13 (opaqueClassAbove (.ref C)) none := opaque_none ((hst.keeps K.old).keeps k13) hop
  refine wpAny_bind (wpAny_holding (super_get (X.keeps k13) L13 e13 ?_))
  have k14 : ∀ b o, h12.get? b = some o → (h13.push { cls := .type "builtin_function_or_method", data := .fields #[.builtin "object.__init_subclass__", .ref C] }).get? b = some o := fun b o e => Heap.get?_push_of_some _ (k13 b o e)
  refine wpAny_bind (isub_call (f := h13.objs.size) (X.keeps k14) (tn := tn) (tq := tq) (by have e := (K.keeps k14).cls; rw [hname, hqual] at e; exact e) (Heap.get?_push_size _ rfl) ?_)
  refine wpAny_pure (wpAny_pure ?_)
  exact hQ _ _ C ns _ _ _ _ (K.keeps k14) (k14 _ _ g1) (k14 _ _ g2) f1 f2
end
end Mine.Internal
end
section
open PySem PySem.W PySem.Calls PyProof.Rows PySem.Builtin
namespace Mine.Internal
theorem ty_mro : mroOf (.type "type") = pure [.type "type", .type "object"] := by rw [mroOf_type]; kernel_rfl
theorem ty_made : Bind.madeBy (.type "type") = pure (some "type.__new__") := by kernel_rfl
theorem ty_sub : isSubtype (.type "type") (.type "type") = pure true := by rw [isSubtype_type]; kernel_rfl
theorem ty_init : Slot "type" "__init__" "type.__init__" := .of (owner := "type") (n := "__init__") (by rw [typeLookup_type, builtinLookup_eq_fast]; kernel_rfl) (by decide +kernel) (by decide +kernel) (by decide +kernel)
  (by first | exact .inl (by decide +kernel) | exact .inr (by decide +kernel)) (by rw [isSubtype_type]; kernel_rfl)
theorem ty_can : ((Manifest.find? "type").bind (·.mro.findSome? fun t => (Manifest.find? t).bind fun b => if b.noNew then some true else if b.attrs.any (·.1 == "__new__") then some false else none)).getD false = false := by decide +kernel
theorem ty_check (a b c : Value) : checkTypeCall "type" ⟨[a, b, c], []⟩ = pure () := by kernel_rfl
theorem ty_newCall (a b c : Value) : checkBuiltinCall "type.__new__" ⟨[.type "type", a, b, c], []⟩ = pure () := by kernel_rfl
theorem ty_plain_new : plainId "type.__new__" = true := by decide +kernel
theorem ty_entry_new : entryFor table "type.__new__" = some Builtin.«type.__new__» := entryFor_of_tree (by kernel_rfl)
theorem ty_entry_init : entryFor table "type.__init__" = some Builtin.«type.__init__» := entryFor_of_tree (by kernel_rfl)
theorem ty_initArgs (o a b c : Value) : argsOk "type.__init__" ⟨[o, a, b, c], []⟩ := by unfold argsOk; kernel_rfl
section
variable {prog : Program} {w : World} {A : Around} {E : Value → Shared → Prop} {s : Shared}
theorem call_type {a b c : Value} {Q : Value → Shared → Prop}
    (hnew : wpAny (model prog w) A.in1.in1 (Builtin.«type.__new__» ⟨[.type "type", a, b, c], []⟩) (fun fin s' => ∃ C o, fin = .done (.ret (.ref C)) ∧ s'.heap.get? C = some o ∧ o.cls = .type "type" ∧ Q (.ref C) s') E s) :
    wpAny (model prog w) A (call (.type "type") [a, b, c]) Q E s := by
  refine wpAny_call (codeAny_of_tree ?_)
  show wpAny _ _ (callAny (.type "type") _) _ _ _
  refine wpAny_pure ⟨Code.quiet_builtin _ (by decide +kernel), codeAny_builtin F.entry_type_call ?_⟩
  rw [Around.under_plain (weight_type_call_type "type" [a, b, c] []) rfl]
  unfold Builtin.«type.__call__»
  refine wp_pos (by rfl) ?_
  refine wp_neg (by rw [show ((⟨[a, b, c], []⟩ : Args).pos.length == 1) = false from rfl]; exact Bool.false_ne_true) ?_
  refine wp_neg (by rw [show ((⟨[a, b, c], []⟩ : Args).pos.length != 3) = false from rfl]; exact Bool.false_ne_true) ?_
  refine wp_neg (by rw [ty_can]; exact Bool.false_ne_true) ?_
  refine wpAny_bind (wpAny_of_eq (ty_check a b c) ?_)
  refine wpAny_bind (wpAny_of_eq ty_mro ?_)
  refine wp_neg Bool.false_ne_true ?_
  refine wpAny_bind (wpAny_of_eq ty_made ?_)
  refine wpAny_bind (wpAny_pure ?_)
  refine wpAny_bind (wpAny_holding ?_)
  refine wpAny_call (codeAny_of_tree ?_)
  show wpAny _ A.in1.in1 (do checkBuiltinCall "type.__new__" ⟨[.type "type", a, b, c], []⟩; again (.builtin "type.__new__" ⟨[.type "type", a, b, c], []⟩)) _ _ s
  refine wpAny_bind (wpAny_of_eq (ty_newCall a b c) (wpAny_pure ⟨plainId_quiet ty_plain_new _, codeAny_builtin ty_entry_new ?_⟩))
  rw [Around.under_plainId ty_plain_new _]
  refine wpAny_mono hnew (fun fin s' z => ?_) fun _ _ z => z
  obtain ⟨C, o, rfl, hC, hc, hq⟩ := z
  have TI : s'.TypeIs (.ref C) "type" := ⟨o, hC, hc⟩
  show wpAny _ _ _ _ _ s'
  refine wpAny_bind (wpAny_isInstance TI ty_sub ?_)
  refine wp_neg Bool.false_ne_true ?_
  refine wpAny_bind (wpAny_holding ?_)
  refine wpAny_bind (wpAny_specialOf TI ty_init.lookup ?_)
  refine wpAny_holding (wpAny_bind (wpAny_of_eq (ty_init.bind _) ?_))
  refine wpAny_bind ?_
  refine wpAny_call_entry ty_init TI ty_entry_init ?_ (ty_initArgs _ _ _ _)
  unfold Builtin.«type.__init__»
  refine wp_neg Bool.false_ne_true ?_
  refine wp_neg Bool.false_ne_true ?_
  refine wpAny_pure ⟨_, rfl, ?_⟩
  refine wpAny_pure ?_
  refine wp_neg Bool.false_ne_true ?_
  exact wpAny_pure hq
end
end Mine.Internal
end
section
open PySem PySem.W PySem.Calls PyProof.Rows PySem.Builtin
namespace Mine.Internal
theorem prep_find : findCls [] (.type "type") (.type "type") "__prepare__" = some (.get (.builtin "classmethod_descriptor.__get__") (.builtin "type.__prepare__") .none (.type "type")) := by kernel_rfl
theorem prep_type : typeOf (.builtin "type.__prepare__") = pure (.type "classmethod_descriptor") := by show builtinType _ = _; rw [builtinType_eq_fast]; kernel_rfl
theorem prep_get : Builtin.«classmethod_descriptor.__get__» ⟨[.builtin "type.__prepare__", .none, .type "type"], []⟩ = (do ret (← newFields "builtin_function_or_method" [.builtin "type.__prepare__", .type "type"])) := by kernel_rfl
theorem prep_check (a b : Value) : checkBoundCall "type.__prepare__" ⟨[.type "type", a, b], []⟩ = pure () := by kernel_rfl
theorem prep_entry : entryFor table "type.__prepare__" = some Builtin.«type.__prepare__» := entryFor_of_tree (by kernel_rfl)
theorem prep_plain : plainId "type.__prepare__" = true := by decide +kernel
theorem ty_opaque : opaqueClassAbove (.type "type") = pure none := by kernel_rfl
theorem ty_typeOf : typeOf (.type "type") = pure (.type "type") := by kernel_rfl
section
variable {prog : Program} {w : World} {A : Around} {E : Value → Shared → Prop} {s : Shared}
theorem prep_attr {Q : Option Value → Shared → Prop}
    (hq : Q (some (.ref s.heap.objs.size)) { s with heap := s.heap.push { cls := .type "builtin_function_or_method", data := .fields #[.builtin "type.__prepare__", .type "type"] }, toks := s.toks + 1 }) :
    wpAny (model prog w) A (getAttr? (.type "type") "__prepare__") Q E s := by
  have X : ∀ h, Frag.In [] h := fun h a o e => nomatch e
  have hf := prep_find
  generalize ("__prepare__" : Str) = name at hf ⊢
  unfold getAttr? getAttrBy?
  refine wpAny_bind (wpAny_mkText (wpAny_bind (wpAny_attempt ?_)))
  unfold getAttrBy
  refine wpAny_holding (wpAny_bind (wpAny_of_eq ty_typeOf (wpAny_bind (wpAny_of_eq KF.slot_tga.lookup ?_))))
  refine wp_neg (by decide) ?_
  unfold getAttrByItsOwn hookBefore callGetattribute boundAndCalled
  refine wpAny_bind (wpAny_of_eq (show (if onTheHeap (.type "type") then typeLookup (.type "type") "__getattr__" else pure none) = pure none from rfl) ?_)
  refine wpAny_bind (wpAny_attempt (wpAny_holding ?_))
  refine wp_neg (by decide) ?_
  refine wpAny_bind (wpAny_of_eq (KF.slot_tga.bind _) ?_)
  refine wpAny_mono (Q := fun v s' => v = .ref s.heap.objs.size ∧ s' = { s with heap := s.heap.push { cls := .type "builtin_function_or_method", data := .fields #[.builtin "type.__prepare__", .type "type"] }, toks := s.toks + 1 }) (E := fun _ _ => False)
    (wpAny_call_entry (s := { s with toks := s.toks + 1 }) KF.slot_tga (show Shared.TypeIs { s with toks := s.toks + 1 } (.type "type") "type" from ty_typeOf) KF.entry_tga ?_ (KF.args_tga _ _)) (fun v s' hv => ?_) fun _ _ z => z.elim
  · refine tga_run (s := { s with toks := s.toks + 1 }) (K := []) (X _) (Looks.of_pure ty_opaque) (Looks.of_pure ty_typeOf) hf ?_
    refine wpAny_bind (wpAny_holding (wpAny_call_entry (s := { s with toks := s.toks + 1 }) cmd_slot (show Shared.TypeIs { s with toks := s.toks + 1 } _ _ from prep_type) cmd_entry ?_ (cmd_args _ _ _)))
    rw [prep_get]
    refine wpAny_bind (wpAny_newObj_type (wpAny_pure ⟨_, rfl, wpAny_pure ⟨_, rfl, rfl, rfl⟩⟩) ?_)
    show 2 ≤ sizeLine + 2
    lia
  · obtain ⟨rfl, rfl⟩ := hv
    exact wpAny_pure (wpAny_pure hq)
theorem prep_call {f : Addr} {a b : Value} {Q : Value → Shared → Prop} (hf : s.heap.get? f = some { cls := .type "builtin_function_or_method", data := .fields #[.builtin "type.__prepare__", .type "type"] })
    (hq : Q (.ref s.heap.objs.size) { s with heap := s.heap.push { cls := .type "dict", data := .dict #[] } }) : wpAny (model prog w) A (call (.ref f) [a, b] []) Q E s := by
  refine wpAny_call (codeAny_of_tree ?_)
  show wpAny _ A.in1 (callAny (.ref f) _) _ _ _
  unfold callAny
  refine wpAny_bind (wpAny_load hf ?_)
  refine wp_pos (by rfl) ?_
  refine wp_pos (by rfl) ?_
  refine wpAny_bind (wpAny_of_eq (prep_check a b) ?_)
  refine wpAny_pure ⟨plainId_quiet prep_plain _, codeAny_builtin prep_entry ?_⟩
  rw [Around.under_plainId prep_plain _]
  unfold Builtin.«type.__prepare__»
  exact wpAny_bind (wpAny_newObj_type (wpAny_pure hq))
end
end Mine.Internal
end
section
open PySem PySem.W PySem.Calls PyProof.Rows PySem.Builtin
namespace Mine.Internal
section
variable {M : Model} {A : Around} {E : Value → Shared → Prop} {s : Shared}
theorem classCode_ok {env : Env} {c P : Addr} {ps : Array Value} {pos : Pos} {firstLine : Nat} {name qualname : Str} {scope : Scope}
    {Q : Value → Shared → Prop} (hc : env.code = .ref c) (hok : s.heap.IsCode c P ps) (hnf : codeAmong pos ps.toList = none)
    (hQ : ∀ c' P' h' tk, Heap.ExtBut P s.heap h' → s.heap.objs.size ≤ c' → s.heap.objs.size ≤ P' → h'.IsCode c P (ps ++ #[rawInt pos.line, rawInt pos.col, .ref c']) → h'.IsCode c' P' #[] →
      Q (.ref c') { s with heap := h', toks := tk }) :
    wpAny M A (classCode env pos firstLine name qualname scope) Q E s := by
  obtain ⟨o, vs, file, tf, flags, tg, inF, text, tt, op, ho, hd, h11, h2, h7, h9, h10, hop, hpd, htr, hne⟩ := id hok
  unfold classCode codeAt
  rw [hc, if_neg (show ¬ ((Value.ref c == Value.none) = true) from Bool.false_ne_true)]
  refine wpAny_bind (wpAny_fieldsOf ho hd ?_)
  rw [h11]
  refine wpAny_bind (wpAny_fieldsOf hop hpd ?_)
  rw [hnf, h2, h7, h9, h10]
  refine wpAny_bind (wpAny_newCode fun c' P' h' tk hk hc' hP' hcode' hrec' => ?_)
  have hop' := hk _ _ hop
  refine wpAny_bind (wpAny_updateFieldsOfTheText hop' hpd ?_)
  have hnew : (Obj.mapFields (fun vs => if (codeAmong pos vs.toList).isSome = true then vs else vs ++ #[rawInt pos.line, rawInt pos.col, .ref c']) op).data =
      .fields (ps ++ #[rawInt pos.line, rawInt pos.col, .ref c']) := by
    rw [Obj.data_mapFields hpd, hnf]; rfl
  have hget := Heap.get?_update_self (h := h') (fun o => Obj.mapFields (fun vs => if (codeAmong pos vs.toList).isSome = true then vs else
    vs ++ #[rawInt pos.line, rawInt pos.col, .ref c']) o) hop' (Obj.isFreed_of_fields hnew)
  refine wpAny_bind (wpAny_fieldsOf hget hnew ?_)
  have hl : (ps ++ #[rawInt pos.line, rawInt pos.col, Value.ref c']).toList = ps.toList ++ [rawInt pos.line, rawInt pos.col, .ref c'] := by simp
  rw [hl, codeAmong_snoc _ htr hnf]
  have lt := Heap.lt_size hop
  refine wpAny_pure (hQ c' P' _ _ (fun b o' hb e => ((Heap.SameBut.update ..).extBut b o' hb (hk b o' e))) hc' hP' ?_ ?_)
  · exact ⟨o, vs, file, tf, flags, tg, inF, text, tt, _, (Heap.SameBut.update ..).extBut _ _ hne (hk _ _ ho), hd, h11, h2, h7, h9, h10, hget, hnew,
      by rw [hl]; exact TriplesOk_snoc _ _ _ _ htr, hne⟩
  · exact hcode'.sameBut (Heap.SameBut.update ..) (Nat.ne_of_gt (Nat.lt_of_lt_of_le lt hc')) (Nat.ne_of_gt (Nat.lt_of_lt_of_le lt hP'))
theorem clsName {sc : Scope} {nsA c fr : Addr} {q : Str} {mc mg : Str → Option Value} {v : Value} {Q : Value → Shared → Prop} (hk : sc.kind = .class) (hl : sc.names.lookup ("__name__" : Str) = none) (hn : NsD s.heap nsA mc) (e : mc "__name__" = none)
    (hg : s.heap.Ns mainGlobals mg) (hv : mg "__name__" = some v) (h : Q v s) : wpAny M A (loadName (clsEnv sc nsA q c fr) "__name__") Q E s := by
  have hcn : compilersOwnNames.contains ("__name__" : Str) = true := by decide +kernel
  generalize ("__name__" : Str) = x at *
  obtain ⟨es, n, ho, r⟩ := id hn
  have key : wpAny M A (localGet (clsEnv sc nsA q c fr) x) (fun r s' => r = none ∧ s' = s) E s := by
    unfold localGet
    refine wpAny_bind (wpAny_load ho ?_)
    simp only [beq_self_eq_true, if_true]
    exact wpAny_nsGet hn.ns1.ns ⟨e, rfl⟩
  unfold loadName Env.kindOf Env.blockKind
  simp only [hk, hl, ScopeKind.isAnnotationScope, Bool.false_and, Bool.false_eq_true, if_false]
  refine wp_neg (by rw [hcn]; decide) ?_
  refine wpAny_bind (wpAny_mono key (fun r s' z => ?_) fun _ _ z => z)
  obtain ⟨rfl, rfl⟩ := z
  unfold loadGlobal
  refine wpAny_bind (wpAny_nsGet hg ?_)
  rw [hv]
  exact wpAny_pure h
theorem nodup_le : ∀ {ks l : List Str}, ks.Nodup → (∀ x ∈ ks, x ∈ l) → ks.length ≤ l.length
  | [], _, _, _ => Nat.zero_le _
  | k :: ks, l, nd, h => by
    obtain ⟨n1, n2⟩ := List.nodup_cons.mp nd
    have hk := h k List.mem_cons_self
    have := nodup_le (l := l.erase k) n2 fun x hx => (List.mem_erase_of_ne (show x ≠ k from fun e => n1 (by rw [← e]; exact hx))).mpr (h x (List.mem_cons_of_mem _ hx))
    rw [List.length_erase_of_mem hk] at this
    have : 0 < l.length := List.length_pos_of_mem hk
    simp only [List.length_cons]
    lia
noncomputable def keyOf (e : DictEntry) : Str := match e.key with | .str x _ => x | _ => ""
theorem size_le {es : Array DictEntry} {m : Str → Option Value} {l : List Str} (hk : StrKeys es) (hu : UniqKeys es) (hm : ∀ x, nsFind es x = m x) (hl : ∀ x, m x ≠ none → x ∈ l) : es.size ≤ l.length := by
  have len : es.size = (es.toList.map keyOf).length := by simp
  rw [len]
  refine nodup_le ?_ fun x hx => ?_
  · have : es.toList.Pairwise fun a b => keyOf a ≠ keyOf b := by
      have hk' : ∀ e ∈ es.toList, ∃ n t, e.key = .str n t := fun e he => hk e (Array.mem_toList_iff.mp he)
      unfold UniqKeys at hu
      refine List.Pairwise.imp_of_mem (fun {a b} ha hb h e => ?_) hu
      obtain ⟨n1, t1, e1⟩ := hk' a ha
      obtain ⟨n2, t2, e2⟩ := hk' b hb
      simp only [keyOf, e1, e2] at e
      subst e
      exact h n1 (by rw [e1]; simp [isStr_str]) (by rw [e2]; simp [isStr_str])
    exact List.pairwise_map.mpr this
  · obtain ⟨e, he, rfl⟩ := List.mem_map.mp hx
    obtain ⟨n, t, ek⟩ := hk e (Array.mem_toList_iff.mp he)
    refine hl _ ?_
    have kx : keyOf e = n := by simp [keyOf, ek]
    rw [kx, ← hm n]
    intro z
    rw [nsFind, findBy, Option.map_eq_none_iff, Array.find?_eq_none] at z
    have := z e (Array.mem_toList_iff.mp he)
    rw [ek] at this
    simp [isStr_str] at this
end
end Mine.Internal
end
section
open PySem PySem.W PySem.Calls PyProof.Rows PySem.Builtin
namespace Mine.Internal
theorem ne2 {a b z : Nat} (h : b < z) (e : a = z + 2) : a ≠ b := by lia
theorem mem_of_lookup {α : Type} {x : Str} {cv : α} : ∀ {l : List (Str × α)}, l.lookup x = some cv → (x, cv) ∈ l
  | [], e => by cases e
  | (y, c) :: l, e => by
    rw [List.lookup_cons] at e
    cases h : (x == y) with
    | true => rw [h] at e; cases e; rw [beq_iff_eq.mp h]; exact List.mem_cons_self
    | false => rw [h] at e; exact List.mem_cons_of_mem _ (mem_of_lookup e)
theorem dget : typeLookup (.type "dict") "__getitem__" = pure (some (.builtin "dict.__getitem__")) := by rw [typeLookup_type, builtinLookup_eq_fast]; kernel_rfl
theorem code_get {h : Heap} {c Pl : Addr} {ps : Array Value} (M : h.IsCode c Pl ps) : ∃ o, h.get? Pl = some o := by
  obtain ⟨_, _, _, _, _, _, _, _, _, op, _, _, _, _, _, _, _, hop, _⟩ := M
  exact ⟨op, hop⟩
theorem code_at {h h' : Heap} {c Pl : Addr} {ps : Array Value} (M : h.IsCode c Pl ps) (k1 : ∀ o, h.get? c = some o → h'.get? c = some o) (k2 : ∀ o, h.get? Pl = some o → h'.get? Pl = some o) : h'.IsCode c Pl ps := by
  obtain ⟨o, vs, file, tf, flags, tg, inF, text, tt, op, a, r1, r2, r3, r4, r5, r6, b, r⟩ := M
  exact ⟨o, vs, file, tf, flags, tg, inF, text, tt, op, k1 _ a, r1, r2, r3, r4, r5, r6, k2 _ b, r⟩
theorem isType_type : isType (.type "type") = pure true := by kernel_rfl
noncomputable def banned : List Str := ["__slots__", "__del__", "__doc__", "__new__", "__init_subclass__", "__class_getitem__", "__classcell__", "__classdictcell__", "__dict__", "__weakref__", "__eq__", "__static_attributes__", "__name__"]
noncomputable def st0 (nm : Str) (fl : Int) : CSt := ⟨[("__firstlineno__", .int fl), ("__qualname__", .str "MPU"), ("__module__", .str nm)], [], [], 0⟩
noncomputable abbrev mcSt (mc : Str → Option Value) (sa : Addr) : Str → Option Value := fun (x : Str) => if x = ("__static_attributes__" : Str) then some (.ref sa) else mc x
structure Made (h : Heap) (Pl B : Nat) (st : CSt) (C ns : Addr) (φ ψ : List Addr) (mc : Str → Option Value) (sa a1 a2 : Addr) : Prop where
  lo : Pl < B ∧ mainGlobals < B
  cls : ∃ tn tq, h.get? C = some (clsO "MPU" "MPU" tn tq C ns)
  nd : NsD h ns (mcEnd (mcSt mc sa) a1 a2)
  sm : ∃ ps, Sm B ("MPU" ++ ".") h st φ ψ mc ps
  d1 : ∃ t, h.get? a1 = some (gsO "__dict__" t C (.builtin "function.__dict__") (.builtin "function.__dict__#set"))
  d2 : ∃ t, h.get? a2 = some (gsO "__weakref__" t C (.builtin "ExceptionGroup.__weakref__") .none)
  ne : ∀ x ∈ [C, ns, a1, a2], x ≠ Pl ∧ x ≠ mainGlobals
theorem Made.keep {h h' : Heap} {Pl B : Nat} {st : CSt} {C ns : Addr} {φ ψ : List Addr} {mc : Str → Option Value} {sa a1 a2 : Addr} (x : Made h Pl B st C ns φ ψ mc sa a1 a2) (k : ∀ b o, b ≠ Pl → b ≠ mainGlobals → h.get? b = some o → h'.get? b = some o) : Made h' Pl B st C ns φ ψ mc sa a1 a2 := by
  have kk : ∀ y ∈ [C, ns, a1, a2], ∀ o, h.get? y = some o → h'.get? y = some o := fun y hy o e => k y o (x.ne y hy).1 (x.ne y hy).2 e
  refine ⟨x.lo, ?_, x.nd.at fun o e => kk _ (by simp) _ e, ?_, ?_, ?_, x.ne⟩
  · obtain ⟨tn, tq, e⟩ := x.cls; exact ⟨tn, tq, kk _ (by simp) _ e⟩
  · obtain ⟨ps, S⟩ := x.sm
    exact ⟨ps, S.keep fun b o hb e => k b o (Nat.ne_of_gt (Nat.lt_of_lt_of_le x.lo.1 hb)) (Nat.ne_of_gt (Nat.lt_of_lt_of_le x.lo.2 hb)) e⟩
  · obtain ⟨t, e⟩ := x.d1; exact ⟨t, kk _ (by simp) _ e⟩
  · obtain ⟨t, e⟩ := x.d2; exact ⟨t, kk _ (by simp) _ e⟩
theorem dull_int {h : Heap} {i : Int} {t : Tok} : Dull h (.int i t) := ⟨fun k => by cases k <;> rfl, "int", rfl, by rw [typeLookup_type, builtinLookup_eq_fast]; kernel_rfl⟩
theorem dull_str {h : Heap} {i : Str} {t : Tok} : Dull h (.str i t) := ⟨fun k => by cases k <;> rfl, "str", rfl, by rw [typeLookup_type, builtinLookup_eq_fast]; kernel_rfl⟩
theorem set_fn : typeLookup (.type "function") "__set_name__" = pure none := by rw [typeLookup_type, builtinLookup_eq_fast]; kernel_rfl
theorem set_list : typeLookup (.type "list") "__set_name__" = pure none := by rw [typeLookup_type, builtinLookup_eq_fast]; kernel_rfl
theorem set_tuple : typeLookup (.type "tuple") "__set_name__" = pure none := by rw [typeLookup_type, builtinLookup_eq_fast]; kernel_rfl
theorem dull_ref {h : Heap} {a : Addr} {T : String} {o : Obj} (e : h.get? a = some o) (hc : o.cls = .type T) (hl : typeLookup (.type T) "__set_name__" = pure none) : Dull h (.ref a) := ⟨fun k => by cases k <;> rfl, T, ⟨_, e, hc⟩, hl⟩
theorem Sm.dull {B : Nat} {q : Str} {h : Heap} {st : CSt} {φ ψ : List Addr} {mc : Str → Option Value} {ps : Array Value} (S : Sm B q h st φ ψ mc ps) {x : Str} {v : Value} (e : mc x = some v) : Dull h v := by
  have := S.tab x
  cases hx : st.tab.lookup x with
  | none => rw [hx] at this; rw [this] at e; cases e
  | some cv =>
    rw [hx] at this
    obtain ⟨u, e1, r⟩ := this
    rw [e] at e1; cases e1
    cases cv with
    | int i => obtain ⟨t, rfl⟩ := r; exact dull_int
    | str i => obtain ⟨t, rfl⟩ := r; exact dull_str
    | fn k =>
      obtain ⟨a, ea, rfl⟩ := r
      have hlt : k < st.fns.length := by rw [← S.flen]; exact (List.getElem?_eq_some_iff.mp ea).1
      obtain ⟨dV, vs, ⟨pm, c', doc, _, _, eo, _⟩, _⟩ := S.fn k a _ ea (List.getElem?_eq_getElem hlt)
      exact dull_ref eo rfl set_fn
    | lst k =>
      obtain ⟨a, ea, rfl⟩ := r
      have hlt : k < st.lsts.length := by rw [← S.llen]; exact (List.getElem?_eq_some_iff.mp ea).1
      obtain ⟨vs, _, eo, _⟩ := S.lst k a _ ea (List.getElem?_eq_getElem hlt)
      exact dull_ref eo rfl set_list
noncomputable abbrev mc0 (nm qual : Str) (fl : Int) (tnm t1 t2 : Tok) : Str → Option Value := fun (y : Str) => if y = ("__firstlineno__" : Str) then some (.int fl t2) else if y = ("__qualname__" : Str) then some (.str qual t1) else if y = ("__module__" : Str) then some (.str nm tnm) else none
theorem sm0 {B : Nat} {q nm qual : Str} {h : Heap} {fl : Int} {tnm t1 t2 : Tok} (hq : qual = "MPU") : Sm B q h (st0 nm fl) [] [] (mc0 nm qual fl tnm t1 t2) #[] := by
  refine ⟨?_, rfl, fun k a fi e => (by cases e), rfl, fun k a its e => (by cases e), [], trivial, fun x hx => (by cases hx)⟩
  have T1 := tab_set (φ := []) (ψ := []) (φ' := []) (ψ' := []) (tab := []) (mc := fun _ => none) (x := ("__module__" : Str)) (v := .str nm tnm) (cv := .str nm) (List.prefix_refl _) (List.prefix_refl _) ⟨_, rfl⟩ (fun x => rfl)
  have T2 := tab_set (x := ("__qualname__" : Str)) (v := .str qual t1) (cv := .str "MPU") (List.prefix_refl _) (List.prefix_refl _) (by rw [hq]; exact ⟨_, rfl⟩) T1
  exact tab_set (x := ("__firstlineno__" : Str)) (v := .int fl t2) (cv := .int fl) (List.prefix_refl _) (List.prefix_refl _) ⟨_, rfl⟩ T2
section
variable {prog : Program} {w : World} {A : Around} {E : Value → Shared → Prop} {s : Shared}
set_option maxHeartbeats 1000000 in
theorem build_ok {c Pl F : Addr} {ps : Array Value} {mg ms : Str → Option Value} {body : List Stmt} {sc : Scope} {statics : List Str} {fl : Nat} {pos : Pos} {st : CSt} {nm qual : Str} {tnm : Tok} {Q : Value → Shared → Prop}
    (hm : s.heap.Main mg c Pl ps) (hnf : codeAmong pos ps.toList = none) (hname : mg "__name__" = some (.str nm tnm)) (hqual : qual = "MPU")
    (hlim : s.heap.NoLimit) (hdep : A.depth + 2 < recursionLimit) (hst : s.heap.Ns cStatics ms) (hop : ms "thirdparty.any" = none) (hbig : sysModules < s.heap.objs.size)
    (hk : sc.kind = .class) (hfree : ∀ x ∈ sc.names, x.2 ≠ .free) (hcl : (sc.names.lookup ("__class__" : Str) == some NameKind.cell) = false) (hcd : (sc.names.lookup ("__classdict__" : Str) == some NameKind.cell) = false)
    (hn1 : sc.names.lookup ("__name__" : Str) = none) (hn2 : sc.names.lookup ("__module__" : Str) = none) (hn3 : sc.names.lookup ("__qualname__" : Str) = none) (hn4 : sc.names.lookup ("__firstlineno__" : Str) = none) (hn5 : sc.names.lookup ("__static_attributes__" : Str) = none)
    (hann : hasAnns body = false) (hdoc : docOf body = none) (hrun : clsRun sc body (st0 nm fl) = some st) (hlen : st.tab.length ≤ 900) (hban : ∀ x ∈ banned, st.tab.lookup x = none)
    (hmo : ∃ t, st.tab.lookup ("__module__" : Str) = some (.str t)) (hqn : st.tab.lookup ("__qualname__" : Str) = some (.str "MPU"))
    (hQ : ∀ h' tk c' B C ns φ ψ mc sa a1 a2, Made h' Pl B st C ns φ ψ mc sa a1 a2 → h'.Main mg c Pl (ps ++ #[rawInt pos.line, rawInt pos.col, .ref c']) → (∀ b o, b ≠ Pl → s.heap.get? b = some o → h'.get? b = some o) → Q (.ref C) { s with heap := h', toks := tk }) :
    wpAny (model prog w) A (buildClass qual qual [] [] body sc statics fl (mainEnv prog c F) pos none) Q E s := by
  unfold buildClass
  refine wpAny_bind (wpAny_newObj_type ?_)
  refine wpAny_bind (wpAny_of_eq (List.forIn_nil ..) ?_)
  refine wpAny_bind (wpAny_pure ?_)
  refine wpAny_bind (wpAny_of_eq isType_type ?_)
  refine wp_pos rfl ?_
  refine wpAny_bind (wpAny_of_eq (List.forIn_nil ..) ?_)
  refine wpAny_bind (wpAny_mkText ?_)
  refine wp_neg Bool.false_ne_true ?_
  refine wpAny_bind (wpAny_pure ?_)
  refine wpAny_holding ?_
  refine wpAny_bind (prep_attr ?_)
  refine wpAny_bind (prep_call (Heap.get?_push_size _ rfl) ?_)
  have k1 : ∀ b o, s.heap.get? b = some o → (((s.heap.push { cls := .type "tuple", data := .seq #[] }).push { cls := .type "builtin_function_or_method", data := .fields #[.builtin "type.__prepare__", .type "type"] }).push { cls := .type "dict", data := .dict #[] }).get? b = some o :=
    fun b o e => Heap.get?_push_of_some _ (Heap.get?_push_of_some _ (Heap.get?_push_of_some _ e))
  have eT : (((s.heap.push { cls := .type "tuple", data := .seq #[] }).push { cls := .type "builtin_function_or_method", data := .fields #[.builtin "type.__prepare__", .type "type"] }).push { cls := .type "dict", data := .dict #[] }).get? s.heap.objs.size = some { cls := .type "tuple", data := .seq #[] } :=
    Heap.get?_push_of_some _ (Heap.get?_push_of_some _ (Heap.get?_push_size _ rfl))
  have eN : (((s.heap.push { cls := .type "tuple", data := .seq #[] }).push { cls := .type "builtin_function_or_method", data := .fields #[.builtin "type.__prepare__", .type "type"] }).push { cls := .type "dict", data := .dict #[] }).get? ((s.heap.push { cls := .type "tuple", data := .seq #[] }).push { cls := .type "builtin_function_or_method", data := .fields #[.builtin "type.__prepare__", .type "type"] }).objs.size = some { cls := .type "dict", data := .dict #[] } :=
    Heap.get?_push_size _ rfl
  have zN : ((s.heap.push { cls := .type "tuple", data := .seq #[] }).push { cls := .type "builtin_function_or_method", data := .fields #[.builtin "type.__prepare__", .type "type"] }).objs.size = s.heap.objs.size + 2 := by rw [Heap.size_push, Heap.size_push]
  change wpAny (model prog w) A _ Q E ⟨((s.heap.push { cls := .type "tuple", data := .seq #[] }).push { cls := .type "builtin_function_or_method", data := .fields #[.builtin "type.__prepare__", .type "type"] }).push { cls := .type "dict", data := .dict #[] }, s.gens, s.drawn, s.toks + 1 + 1, s.os⟩
  generalize ((s.heap.push { cls := .type "tuple", data := .seq #[] }).push { cls := .type "builtin_function_or_method", data := .fields #[.builtin "type.__prepare__", .type "type"] }).push { cls := .type "dict", data := .dict #[] } = h1 at k1 eT eN ⊢
  generalize ((s.heap.push { cls := .type "tuple", data := .seq #[] }).push { cls := .type "builtin_function_or_method", data := .fields #[.builtin "type.__prepare__", .type "type"] }).objs.size = nsA at eN zN ⊢
  obtain ⟨bm, ob, hbm, hbm0, hbmG, hbmP, hbo, hbc, hbd, hbp⟩ := hm.bmod
  have TI : (⟨h1, s.gens, s.drawn, s.toks + 1 + 1, s.os⟩ : Shared).TypeIs (.ref nsA) "dict" := ⟨_, eN, rfl⟩
  have hns : (nsA == sysModules) = false := beq_eq_false_iff_ne.mpr (ne2 hbig zN)
  refine wpAny_bind (wp_neg (by rw [hns]; exact Bool.false_ne_true) (wpAny_pure ?_))
  refine wpAny_bind (wpAny_specialOf TI dget ?_)
  refine wp_neg Bool.false_ne_true ?_
  refine wpAny_holding ?_
  refine wp_neg (by rw [hcl]; exact Bool.false_ne_true) (wpAny_bind (wpAny_pure ?_))
  refine wp_neg (by rw [hcd]; exact Bool.false_ne_true) (wpAny_bind (wpAny_pure ?_))
  have l1 : s.heap.objs.size + 2 < h1.objs.size := by rw [← zN]; exact Heap.lt_size eN
  refine wpAny_bind (classCode_ok rfl (hm.code.keeps k1) hnf fun c' P' h2 tk2 x2 hc' hP' hok2 hcode2 => ?_)
  have pl1 : Pl < s.heap.objs.size := hm.code.lt.2
  dsimp only at x2 hc' hP'
  have g2 : h2.Ns mainGlobals mg := (hm.g.keeps k1).extBut x2 (Nat.ne_of_lt hm.low.2)
  have eN2 := x2 _ _ (ne2 pl1 zN) eN
  have eT2 := x2 _ _ (Nat.ne_of_gt pl1) eT
  have k2 : ∀ b o, b ≠ Pl → s.heap.get? b = some o → h2.get? b = some o := fun b o hb e => x2 _ _ hb (k1 _ _ e)
  refine wpAny_bind (wpAny_builtinsFor (bm := bm) (m := mg) (o := ob) g2 hbm hbm0 (k2 _ _ hbmP hbo) hbc hbd hbp ?_)
  refine wpAny_bind (wpAny_bind (wpAny_nsGet g2 (wpAny_alloc ?_)))
  refine wpAny_bind (wpAny_of_eq (closureFor_none hfree) ?_)
  refine wpAny_holding ?_
  change wpAny (model prog w) A _ Q E ⟨h2.push { cls := .type "frame", slots := #[some (.ref c'), some (.ref mainGlobals), some (.ref nsA), none, some ((mg "__name__").getD .none), none, some (.ref builtinsNs)] }, s.gens, s.drawn, tk2, s.os⟩
  have k3 : ∀ b o, h2.get? b = some o → (h2.push { cls := .type "frame", slots := #[some (.ref c'), some (.ref mainGlobals), some (.ref nsA), none, some ((mg "__name__").getD .none), none, some (.ref builtinsNs)] }).get? b = some o := fun b o e => Heap.get?_push_of_some _ e
  have z3 : h2.objs.size < (h2.push { cls := .type "frame", slots := #[some (.ref c'), some (.ref mainGlobals), some (.ref nsA), none, some ((mg "__name__").getD .none), none, some (.ref builtinsNs)] }).objs.size := by rw [Heap.size_push]; lia
  generalize h2.push { cls := .type "frame", slots := #[some (.ref c'), some (.ref mainGlobals), some (.ref nsA), none, some ((mg "__name__").getD .none), none, some (.ref builtinsNs)] } = h3 at k3 z3 ⊢
  generalize hfr : h2.objs.size = fr at z3 ⊢
  have nS : cStatics ≠ Pl := Nat.ne_of_lt (Nat.lt_trans (by decide) hm.low.2)
  have k4 : ∀ b o, b ≠ Pl → s.heap.get? b = some o → h3.get? b = some o := fun b o hb e => k3 _ _ (k2 _ _ hb e)
  refine wpAny_bind (wpAny_enterFrame (hlim.at fun o e => k4 _ _ nS e) (by lia) ?_)
  have N3 : NsD h3 nsA (fun _ => none) := ⟨#[], 0, k3 _ _ eN2, fun e he => absurd he (Array.not_mem_empty e), List.Pairwise.nil, fun x => rfl⟩
  have G3 : h3.Ns mainGlobals mg := g2.keeps k3
  have C3 : h3.IsCode c' P' #[] := hcode2.keeps k3
  have M3 : h3.IsCode c Pl (ps ++ #[rawInt pos.line, rawInt pos.col, .ref c']) := hok2.keeps k3
  have zP : s.heap.objs.size ≤ P' := Nat.le_trans (Nat.le_of_lt (Nat.lt_of_le_of_lt (Nat.le_add_right _ 2) l1)) hP'
  have nP : nsA ≠ P' := by
    intro e
    have : h1.objs.size ≤ nsA := e ▸ hP'
    rw [zN] at this
    lia
  have X3 : CS h3 mg nsA c' P' #[] (fun _ => none) := ⟨G3, C3, ⟨bm, ob, hbm, hbm0, hbmG, Nat.ne_of_lt (Nat.lt_of_lt_of_le (Heap.lt_size hbo) zP), k4 _ _ hbmP hbo, hbc, hbd, hbp⟩, N3,
    Nat.ne_of_lt (Nat.lt_of_lt_of_le hm.g.lt zP), (Ne.symm (ne2 hm.g.lt zN)), nP⟩
  refine wpAny_bind (wpAny_onRaise ?_)
  refine wpAny_bind (clsName (c := c') (fr := fr) hk hn1 N3 rfl G3 hname ?_)
  refine wpAny_bind (clsStore (c := c') (fr := fr) hk (.inr ⟨hn2, by decide +kernel⟩) X3.ns fun h4 n4 s4 => ?_)
  have X4 := X3.set n4 s4
  refine wpAny_bind (wpAny_mkText ?_)
  refine wpAny_bind (clsStore (c := c') (fr := fr) hk (.inr ⟨hn3, by decide +kernel⟩) X4.ns fun h5 n5 s5 => ?_)
  have X5 := X4.set n5 s5
  refine wpAny_bind (wpAny_mkInt ?_)
  refine wpAny_bind (clsStore (c := c') (fr := fr) hk (.inr ⟨hn4, by decide +kernel⟩) X5.ns fun h6 n6 s6 => ?_)
  have X6 : CS h6 mg nsA c' P' #[] (mc0 nm qual fl tnm (tk2 + 1) (tk2 + 1 + 1 + 1)) := X5.set n6 s6
  refine wpAny_pure ?_
  have kk : Keep P' nsA h3 h6 := fun b o _ h2 e => (s6.2 b h2).trans ((s5.2 b h2).trans ((s4.2 b h2).trans e))
  have z6 : h6.objs.size = h3.objs.size := s6.1.trans (s5.1.trans s4.1)
  change wpAny (model prog w) A _ Q E ⟨h6, s.gens, s.drawn, tk2 + 1 + 1 + 1 + 1 + 1, s.os⟩
  have lP : P' < h6.objs.size := by rw [z6]; exact C3.lt.2
  have lN : nsA < h6.objs.size := by rw [z6]; exact Heap.lt_size (k3 _ _ eN2)
  clear X3 X4 X5 n4 n5 n6 s4 s5 s6
  refine wpAny_bind (wpAny_run (codeAny_body hann hdoc ?_))
  refine run_ok (st := st0 nm fl) (z := st) (fr := fr) (B := h6.objs.size) hk hrun X6 (sm0 hqual) (Nat.le_refl _) lP lN fun φ ψ mc ps' h7 tk7 X7 S7 kp7 z7 => ?_
  have k7 : ∀ b o, b ≠ P' → b ≠ nsA → h3.get? b = some o → h7.get? b = some o := fun b o h1 h2 e => kp7 b o h1 h2 (kk b o h1 h2 e)
  refine wpAny_bind (wpAny_onRaise ?_)
  refine wpAny_bind (wpAny_mkStrs fun vs => ?_)
  refine wpAny_bind (wpAny_newObjAsIs_type ?_)
  have k8 : ∀ b o, h7.get? b = some o → (h7.push { cls := .type "tuple", data := .seq vs.toArray }).get? b = some o := fun b o e => Heap.get?_push_of_some _ e
  have eS : (h7.push { cls := .type "tuple", data := .seq vs.toArray }).get? h7.objs.size = some { cls := .type "tuple", data := .seq vs.toArray } := Heap.get?_push_size _ rfl
  have X8 := X7.keeps k8
  have S8 : Sm h6.objs.size _ _ st φ ψ mc ps' := S7.keep fun b o _ e => k8 b o e
  have nS7 : h7.objs.size ≠ nsA := Nat.ne_of_gt (Nat.lt_of_lt_of_le lN z7)
  refine wpAny_bind (clsStore (c := c') (fr := fr) hk (.inr ⟨hn5, by decide +kernel⟩) X8.ns fun h9 n9 s9 => ?_)
  change wpAny (model prog w) A _ _ _ ⟨h9, s.gens, s.drawn, tk7 + statics.length + 1, s.os⟩
  have X9 : CS h9 mg nsA c' P' ps' (mcSt mc h7.objs.size) := X8.set n9 s9
  have S9 := S8.keep (h' := h9) fun b o hb e => (s9.2 b (Nat.ne_of_gt (Nat.lt_of_lt_of_le lN hb))).trans e
  have eS9 := (s9.2 _ nS7).trans eS
  have k9 : ∀ b o, b ≠ P' → b ≠ nsA → h3.get? b = some o → h9.get? b = some o := fun b o h1 h2 e => (s9.2 b h2).trans (k8 _ _ (k7 b o h1 h2 e))
  refine wpAny_pure ?_
  refine wp_neg Bool.false_ne_true ?_
  change wpAny (model prog w) A _ Q E ⟨h9, s.gens, s.drawn, tk7 + statics.length + 1, s.os⟩
  have tabN : ∀ x : Str, st.tab.lookup x = none → mc x = none := fun x e => by have := S9.tab x; rw [e] at this; exact this
  have ban : ∀ x ∈ banned, mc x = none := fun x hx => tabN x (hban x hx)
  have ban' : ∀ x : Str, (x == ("__static_attributes__" : Str)) = false → x ∈ banned → mcSt mc h7.objs.size x = none := fun x h1 h2 => (if_other h1).trans (ban x h2)
  have nPT : s.heap.objs.size ≠ P' := Nat.ne_of_lt (Nat.lt_of_lt_of_le (Nat.lt_of_le_of_lt (Nat.le_add_right _ 2) l1) hP')
  have nNT : s.heap.objs.size ≠ nsA := by rw [zN]; lia
  have eT9 := k9 _ _ nPT nNT (k3 _ _ eT2)
  have nPS : cStatics ≠ P' := Nat.ne_of_lt (Nat.lt_of_lt_of_le hst.lt zP)
  have nNS : cStatics ≠ nsA := Ne.symm (ne2 hst.lt zN)
  have st9 : h9.Ns cStatics ms := hst.at fun o e => k9 _ _ nPS nNS (k4 _ _ nS e)
  obtain ⟨vm, hvm, _⟩ : ∃ v, mc ("__module__" : Str) = some v ∧ True := by
    obtain ⟨t, e⟩ := hmo
    have := S9.tab ("__module__" : Str); rw [e] at this
    obtain ⟨v, e, _⟩ := this; exact ⟨v, e, trivial⟩
  obtain ⟨tq, hvq⟩ : ∃ tq, mc ("__qualname__" : Str) = some (.str "MPU" tq) := by
    have := S9.tab ("__qualname__" : Str); rw [hqn] at this
    obtain ⟨v, e, t, rfl⟩ := this; exact ⟨t, e⟩
  have eP9 : ∃ o, h9.get? Pl = some o := by
    obtain ⟨op, hop'⟩ := code_get M3
    exact ⟨op, k9 _ _ (Nat.ne_of_lt (Nat.lt_of_lt_of_le pl1 zP)) (Ne.symm (ne2 pl1 zN)) hop'⟩
  have eG9 : ∃ o, h9.get? mainGlobals = some o := by obtain ⟨o, _, _, e, _⟩ := X9.g; exact ⟨o, e⟩
  have neOf : ∀ x, h9.get? x = none → x ≠ Pl ∧ x ≠ mainGlobals := fun x e => by
    obtain ⟨o1, q1⟩ := eP9
    obtain ⟨o2, q2⟩ := eG9
    exact ⟨fun z => (by rw [← z, e] at q1; cases q1), fun z => (by rw [← z, e] at q2; cases q2)⟩
  have dl : ∀ x v, mcSt mc h7.objs.size x = some v → Dull h9 v := fun x v e => by
    unfold mcSt at e
    split at e
    · cases e; exact dull_ref eS9 rfl set_tuple
    · exact S9.dull e
  have sz : ∀ es n, h9.get? nsA = some { cls := .type "dict", data := .dict es n } → es.size ≤ 1000 := fun es n e => by
    obtain ⟨es', n', e', hk', hu', hm'⟩ := X9.ns
    rw [e] at e'; cases e'
    refine Nat.le_trans (size_le (l := ("__static_attributes__" : Str) :: st.tab.map (·.1)) hk' hu' hm' fun x hx => ?_) (by simp only [List.length_cons, List.length_map]; lia)
    by_cases q : x = ("__static_attributes__" : Str)
    · rw [q]; exact List.mem_cons_self
    · refine List.mem_cons_of_mem _ ?_
      have hx' : mc x ≠ none := fun e => hx ((if_neg q).trans e)
      have := S9.tab x
      cases hl : st.tab.lookup x with
      | none => rw [hl] at this; exact absurd this hx'
      | some cv =>
        exact List.mem_map.mpr ⟨(x, cv), mem_of_lookup hl, rfl⟩
  refine wpAny_bind (call_type (type_new eT9 X9.ns sz hns (ban' _ (by decide +kernel) (by decide +kernel)) (by rw [show mcSt mc h7.objs.size ("__module__" : Str) = some vm from (if_other (by decide +kernel)).trans hvm]; rfl) (ban' _ (by decide +kernel) (by decide +kernel))
    ((if_other (by decide +kernel)).trans hvq) (ban' _ (by decide +kernel) (by decide +kernel)) hqual rfl (by rw [hqual]; decide +kernel) (by rw [hqual]; decide +kernel)
    (ban' _ (by decide +kernel) (by decide +kernel)) (ban' _ (by decide +kernel) (by decide +kernel)) (ban' _ (by decide +kernel) (by decide +kernel)) (ban' _ (by decide +kernel) (by decide +kernel)) (ban' _ (by decide +kernel) (by decide +kernel)) (ban' _ (by decide +kernel) (by decide +kernel)) (ban' _ (by decide +kernel) (by decide +kernel)) (ban' _ (by decide +kernel) (by decide +kernel))
    dl st9 hop fun h' tk C ns a1 a2 t1 t2 K g1 g2 f1 f2 => ⟨C, _, rfl, K.cls, rfl, ?_⟩))
  refine wpAny_pure (hQ h' tk c' h6.objs.size C ns φ ψ mc h7.objs.size a1 a2 ⟨?_, ?_, K.nd, ?_, ⟨_, g1⟩, ⟨_, g2⟩, ?_⟩ ⟨X9.g.keeps K.old, ?_, hm.low, ?_⟩ ?_)
  · have z3' : s.heap.objs.size < h6.objs.size := Nat.lt_of_le_of_lt zP lP
    exact ⟨Nat.lt_trans pl1 z3', Nat.lt_trans hm.g.lt z3'⟩
  · have e := K.cls; rw [hqual] at e; exact ⟨_, _, e⟩
  · have S := S9.keep fun b o _ e => K.old b o e
    rw [hqual] at S; exact ⟨_, S⟩
  · intro x hx
    simp only [List.mem_cons, List.not_mem_nil, or_false] at hx
    rcases hx with rfl | rfl | rfl | rfl
    · exact neOf _ K.fC
    · exact neOf _ K.fN
    · exact neOf _ f1
    · exact neOf _ f2
  · have nc : c ≠ P' := Nat.ne_of_lt (Nat.lt_of_lt_of_le hm.code.lt.1 zP)
    have nc2 : c ≠ nsA := Ne.symm (ne2 hm.code.lt.1 zN)
    have np : Pl ≠ P' := Nat.ne_of_lt (Nat.lt_of_lt_of_le pl1 zP)
    have np2 : Pl ≠ nsA := Ne.symm (ne2 pl1 zN)
    exact code_at M3 (fun o e => K.old _ _ (k9 _ _ nc nc2 e)) fun o e => K.old _ _ (k9 _ _ np np2 e)
  · have nb1 : bm ≠ P' := Nat.ne_of_lt (Nat.lt_of_lt_of_le (Heap.lt_size hbo) zP)
    have nb2 : bm ≠ nsA := Ne.symm (ne2 (Heap.lt_size hbo) zN)
    exact ⟨bm, ob, hbm, hbm0, hbmG, hbmP, K.old _ _ (k9 _ _ nb1 nb2 (k4 _ _ hbmP hbo)), hbc, hbd, hbp⟩
  · intro b o hb e
    have nb1 : b ≠ P' := Nat.ne_of_lt (Nat.lt_of_lt_of_le (Heap.lt_size e) zP)
    have nb2 : b ≠ nsA := Ne.symm (ne2 (Heap.lt_size e) zN)
    exact K.old _ _ (k9 _ _ nb1 nb2 (k4 _ _ hb e))
end
end Mine.Internal
end
section
open PySem PySem.W PySem.Calls PyProof.Rows PySem.Builtin
namespace Mine.Internal
theorem Main.set {h h' : Heap} {mg mg' : Str → Option Value} {c Pl : Addr} {ps : Array Value} (x : h.Main mg c Pl ps) (hn : h'.Ns mainGlobals mg') (hs : Heap.SameBut mainGlobals h h') (hb : mg' "__builtins__" = mg "__builtins__") : h'.Main mg' c Pl ps := by
  obtain ⟨bm, ob, hbm, hbm0, hbmG, hbmP, hbo, r⟩ := x.bmod
  exact ⟨hn, x.code.sameBut hs (Nat.ne_of_gt x.low.1) (Nat.ne_of_gt x.low.2), x.low, ⟨bm, ob, hb.trans hbm, hbm0, hbmG, hbmP, (hs.2 _ hbmG).trans hbo, r⟩⟩
section
variable {prog : Program} {w : World} {A : Around} {E : Value → Shared → Prop} {s : Shared} {c Pl F : Addr} {ps : Array Value} {mg ms : Str → Option Value}
theorem store_main {x : Str} {v : Value} {Q : Unit → Shared → Prop} (hmod : prog.main.scope.kind = .module) (hloc : prog.main.scope.names.lookup x = some .local) (hb : (("__builtins__" : Str) == x) = false) (hm : s.heap.Main mg c Pl ps)
    (h : ∀ h', h'.Main (fun y => if y = x then some v else mg y) c Pl ps → Heap.SameBut mainGlobals s.heap h' → Q () { s with heap := h', toks := s.toks + 1 }) : wpAny (model prog w) A (storeName (mainEnv prog c F) x v) Q E s :=
  wpAny_storeName_local (env := mainEnv prog c F) hloc hm.g (fun h' hg' hs' => h h' (Main.set hm hg' hs' (if_other hb)) hs') (by show (prog.main.scope.kind == .class || (prog.main.scope.kind == .module && mainGlobals != mainGlobals)) = false; rw [hmod]; rfl)
theorem name_ok {x t : Str} {k : Nat} {p1 p2 pos : Pos} {Q : Flow → Shared → Prop} (hmod : prog.main.scope.kind = .module) (hloc : prog.main.scope.names.lookup x = some .local) (hb : (("__builtins__" : Str) == x) = false) (hm : s.heap.Main mg c Pl ps)
    (h : ∀ h' tk t', h'.Main (fun y => if y = x then some (.str t t') else mg y) c Pl ps → Heap.SameBut mainGlobals s.heap h' → Q .next { s with heap := h', toks := tk }) : wpAny (model prog w) A (exec (.Assign [.Name x p1] (.Constant (.str t) k p2) pos) (mainEnv prog c F)) Q E s :=
  wpAny_Assign_Name (Calls.Constant_str (store_main (s := { s with toks := s.toks + 1 }) hmod hloc hb hm fun h' hm' hs => h h' _ _ hm' hs))
theorem args0 {f : Value} {Q : Args → Shared → Prop} (h : Q ⟨[], []⟩ s) : wpAny (model prog w) A (evalArgs f false [] []) Q E s := by
  unfold evalArgs
  show wpAny _ A (spliced [] >>= _) Q E s
  refine wpAny_bind (spliced_nil (wpAny_bind (wpAny_pure ?_)))
  refine wpAny_holding ?_
  exact wpAny_bind (wpAny_pure (wpAny_bind (wpAny_pure (wpAny_pure h))))
theorem class_ok {body : List Stmt} {sc : Scope} {statics : List Str} {pos : Pos} {st : CSt} {nm name : Str} {tnm : Tok} {mb : Str → Option Value} {Q : Flow → Shared → Prop}
    (hmod : prog.main.scope.kind = .module) (hloc : prog.main.scope.names.lookup name = some .local) (hbn : mb "__build_class__" = some (.builtin "__build_class__")) (hb : s.heap.Ns builtinsNs mb)
    (hm : s.heap.Main mg c Pl ps) (hnf : codeAmong pos ps.toList = none) (hname : mg "__name__" = some (.str nm tnm)) (hqual : name = "MPU")
    (hlim : s.heap.NoLimit) (hdep : A.depth + 2 < recursionLimit) (hst : s.heap.Ns cStatics ms) (hop : ms "thirdparty.any" = none) (hbig : sysModules < s.heap.objs.size)
    (hk : sc.kind = .class) (hfree : ∀ x ∈ sc.names, x.2 ≠ .free) (hcl : (sc.names.lookup ("__class__" : Str) == some NameKind.cell) = false) (hcd : (sc.names.lookup ("__classdict__" : Str) == some NameKind.cell) = false)
    (hn1 : sc.names.lookup ("__name__" : Str) = none) (hn2 : sc.names.lookup ("__module__" : Str) = none) (hn3 : sc.names.lookup ("__qualname__" : Str) = none) (hn4 : sc.names.lookup ("__firstlineno__" : Str) = none) (hn5 : sc.names.lookup ("__static_attributes__" : Str) = none)
    (hann : hasAnns body = false) (hdoc : docOf body = none) (hrun : clsRun sc body (st0 nm pos.line) = some st) (hlen : st.tab.length ≤ 900) (hban : ∀ x ∈ banned, st.tab.lookup x = none)
    (hmo : ∃ t, st.tab.lookup ("__module__" : Str) = some (.str t)) (hqn : st.tab.lookup ("__qualname__" : Str) = some (.str "MPU"))
    (hQ : ∀ h' tk c' B C ns φ ψ mc sa a1 a2, Made h' Pl B st C ns φ ψ mc sa a1 a2 → h'.Main (fun y => if y = name then some (.ref C) else mg y) c Pl (ps ++ #[rawInt pos.line, rawInt pos.col, .ref c']) → (∀ b o, b ≠ Pl → b ≠ mainGlobals → s.heap.get? b = some o → h'.get? b = some o) → Q .next { s with heap := h', toks := tk }) :
    wpAny (model prog w) A (exec (.ClassDef name [] [] body [] [] sc none name statics pos) (mainEnv prog c F)) Q E s := by
  have hq' : qualnameIn (mainEnv prog c F) name name = name := by
    unfold qualnameIn Env.kindOf
    rw [show (mainEnv prog c F).scope.names.lookup name = some .local from hloc, hqual]
    rfl
  rw [arm_exec_ClassDef, hq']
  refine wpAny_bind (wpAny_pure ?_)
  refine wpAny_bind (wpAny_standAt ?_)
  unfold buildClassGuard
  refine wpAny_bind (wpAny_bind (wpAny_nsGet hb ?_))
  rw [hbn]
  refine wpAny_pure ?_
  refine wpAny_bind (wpAny_holding ?_)
  refine wpAny_bind (args0 ?_)
  refine wpAny_bind (wpAny_standAt (wpAny_holding ?_))
  refine build_ok hm hnf hname hqual hlim hdep hst hop hbig hk hfree hcl hcd hn1 hn2 hn3 hn4 hn5 hann hdoc hrun hlen hban hmo hqn fun h' tk c' B C ns φ ψ mc sa a1 a2 M' main' keep => ?_
  refine wpAny_bind (wpAny_pure ?_)
  refine wpAny_bind (wpAny_standAt ?_)
  refine wpAny_bind (wpAny_bindName (store_main (s := { s with heap := h', toks := tk }) hmod hloc (by rw [hqual]; decide +kernel) main' fun h2 m2 s2 => wpAny_pure ?_))
  exact hQ h2 _ c' B C ns φ ψ mc sa a1 a2 (M'.keep fun b o _ hb e => (s2.2 b hb).trans e) m2 fun b o h1 h2 e => (s2.2 b h2).trans (keep b o h1 e)
end
end Mine.Internal
end
section
open PySem PySem.W PySem.Calls PyProof.Rows PySem.Builtin
namespace Mine.Internal
theorem halt_done {p : Program} {w : World} {s s' : Shared} {t : Thread} {f : Flow} (hc : ∀ k s₁ t₁, runN (denote table) p w k s t = .running s₁ t₁ → t₁.calm = true) (h : step (denote table) p w s t = .halt (.done f) s') : through t = true ∧ s' = s := by
  refine ⟨?_, step_halt_same _ _ _ _ _ _ _ h⟩
  obtain ⟨s2, h2, _⟩ := runN_calm_runNI (n := 1) _ _ _ (by unfold runN; rw [h]) hc
  unfold runNI at h2
  cases hs : stepI (denote table) p w s t with
  | go a b => rw [hs] at h2; cases h2
  | halt o a =>
    rw [hs] at h2
    cases h2
    obtain ⟨cur, code, pos, stack⟩ := t
    obtain ⟨rfl, rfl, _⟩ := step_halt_result (M := model p w) (r := .ok f) hs
    rfl
theorem run_through {p : Program} {w : World} {f : Flow} {s' : Shared} : ∀ {n : Nat} {s : Shared} {t : Thread}, s.asleep → (∀ k s₁ t₁, runN (denote table) p w k s t = .running s₁ t₁ → t₁.calm = true) → runN (denote table) p w n s t = .halted (.done f) s' →
    ∃ m t₁, schedN (denote table) p w m (.single s t) = .running (.single s' t₁) ∧ through t₁ = true
  | 0, _, _, _, _, h => by cases h
  | n + 1, s, t, hr, hc, h => by
    unfold runN at h
    cases hs : step (denote table) p w s t with
    | halt o s1 =>
      rw [hs] at h
      cases h
      obtain ⟨a, rfl⟩ := halt_done hc hs
      exact ⟨0, t, rfl, a⟩
    | go s1 t1 =>
      rw [hs] at h
      have hl := step_life (denote table) p w s s1 t t1 hs
      obtain ⟨m, t₁, hm, ht⟩ := run_through (Shared.asleep_of_life hl hr) (fun k s₂ t₂ e => hc (k + 1) s₂ t₂ (by unfold runN; rw [hs]; exact e)) h
      have e : sstep (denote table) p w (.single s t) = .go (.single s1 t1) := by
        rcases sstep_single (denote table) p w s t (hc 0 s t rfl) hr with e | e
        · rw [e, hs]; rfl
        · rw [hs] at e; cases e
      exact ⟨m + 1, t₁, by simp only [schedN, e]; exact hm, ht⟩
theorem top_runs {p : Program} {w : World} {t : Sem Fin} {s : Shared} {R : Shared → Prop} (hreg : s.asleep)
    (h : wpAny (model p w) callerA t (fun fin s' => ∃ f, fin = .done f ∧ R s' ∧ s'.gens = #[]) (fun _ _ => False) s) :
    ∃ m t₁ s₁, schedN (denote table) p w m (.single s ⟨t, .builtin "claim.caller" {}, default, []⟩) = .running (.single s₁ t₁) ∧ through t₁ = true ∧ R s₁ ∧ s₁.gens = #[] ∧ s₁.heap.life = s.heap.life := by
  have h' := wp_of_wpAny_done (R := fun r s' => ((∃ f, r = .ok f) ∧ R s' ∧ s'.gens = #[]) ∧ leftWithCleanup s'.gens = false) caller_in
    (wpAny_mono h (fun fin s' ⟨f, e, a, b⟩ => ⟨f, e, ⟨⟨f, rfl⟩, a, b⟩, by rw [b]; simp [leftWithCleanup]⟩) fun _ _ z => z.elim) default
  obtain ⟨n, r, s', hn, ⟨f, rfl⟩, hR, hg⟩ := (wp_iff_halts (M := model p w) t (fun r s' => (∃ f, r = .ok f) ∧ R s' ∧ s'.gens = #[]) default s).mp h'
  obtain ⟨s'', hr, hf, hc⟩ := runNI_real (denote table) p w hn (outcomeOf_ends _)
  obtain rfl := Shared.eq_of_forget_eq hf hg
  obtain ⟨m, t₁, hm, ht⟩ := run_through hreg hc hr
  exact ⟨m, t₁, s'', hm, ht, hR, hg, runN_life _ _ _ hr⟩
end Mine.Internal
end
section
open PySem PySem.W PySem.Calls PyProof.Rows PySem.Builtin
namespace Mine.Internal
noncomputable def nthS (p : Program) (i : Nat) : Stmt := p.main.body.getD i (.Pass default)
noncomputable def cBody : Stmt → List Stmt | .ClassDef _ _ _ b _ _ _ _ _ _ _ => b | _ => []
noncomputable def cScope : Stmt → Scope | .ClassDef _ _ _ _ _ _ s _ _ _ _ => s | _ => default
noncomputable def cStat : Stmt → List Str | .ClassDef _ _ _ _ _ _ _ _ _ s _ => s | _ => default
noncomputable def cPos : Stmt → Pos | .ClassDef _ _ _ _ _ _ _ _ _ _ p => p | _ => default
noncomputable def dPars : Stmt → Arguments | .FunctionDef _ a _ _ _ _ _ _ _ _ => a | _ => ⟨[], [], none, [], [], none, []⟩
noncomputable def dBody : Stmt → List Stmt | .FunctionDef _ _ b _ _ _ _ _ _ _ => b | _ => []
noncomputable def dScope : Stmt → Scope | .FunctionDef _ _ _ _ _ _ s _ _ _ => s | _ => default
noncomputable def dPos : Stmt → Pos | .FunctionDef _ _ _ _ _ _ _ _ _ p => p | _ => default
noncomputable def okCls (st : CSt) : Bool := decide (st.tab.length ≤ 900) && banned.all (fun x => (st.tab.lookup x).isNone) && (match st.tab.lookup ("__qualname__" : Str) with | some (.str x) => x == "MPU" | _ => false) && (match st.tab.lookup ("__module__" : Str) with | some (.str _) => true | _ => false)
theorem okCls_of {st : CSt} (h : okCls st = true) : st.tab.length ≤ 900 ∧ (∀ x ∈ banned, st.tab.lookup x = none) ∧ (∃ t, st.tab.lookup ("__module__" : Str) = some (.str t)) ∧ st.tab.lookup ("__qualname__" : Str) = some (.str "MPU") := by
  unfold okCls at h
  simp only [Bool.and_eq_true, decide_eq_true_eq, List.all_eq_true, Option.isNone_iff_eq_none] at h
  obtain ⟨⟨⟨h1, h2⟩, h3⟩, h4⟩ := h
  refine ⟨h1, h2, ?_, ?_⟩
  · split at h4
    · rename_i t e; exact ⟨t, e⟩
    · cases h4
  · split at h3
    · rename_i t e; rw [e, beq_iff_eq.mp h3]
    · cases h3
noncomputable def BootS (s : Shared) : Prop := (∃ mb mg c Pl, BootLeft s.heap mb mg c Pl) ∧ s.gens = #[]
theorem boot_any {q : Program} (hb : q.main.body = []) (hmore : q.main.more = []) (w : World) : (∃ s, AfterImport q w s) ∧ ∀ s, AfterImport q w s → BootS s := by
  refine AfterImport.of_body (out := #[]) (fun h tk mb mg c Pl F hB => ?_) hmore
  rw [hb]
  exact codeAny_body rfl rfl (wpAny_execs_nil ⟨⟨_, rfl⟩, .of hB (fun _ _ _ _ e => e) hB.g, ⟨⟨mb, mg, c, Pl, hB⟩, rfl⟩, rfl⟩)
noncomputable def DefAt (h : Heap) (mg : Str → Option Value) (Pl : Addr) (st : Stmt) (name : Str) : Prop :=
  ∃ a c' pm, mg name = some (.ref a) ∧ h.get? a = some { cls := .type "function", data := .func (plainDef name (dPars st) (dBody st) (dScope st) pm (.ref c')) } ∧ h.CodeRec (.ref c') name ∧ (a ≠ Pl ∧ a ≠ mainGlobals) ∧ (c' ≠ Pl ∧ c' ≠ mainGlobals)
theorem DefAt.keep {h h' : Heap} {mg mg' : Str → Option Value} {Pl : Addr} {st : Stmt} {name : Str} (x : DefAt h mg Pl st name) (k : ∀ b o, b ≠ Pl → b ≠ mainGlobals → h.get? b = some o → h'.get? b = some o) (e : mg' name = mg name) : DefAt h' mg' Pl st name :=
  let ⟨a, c', pm, h1, h2, h3, h4, h5⟩ := x; ⟨a, c', pm, e.trans h1, k _ _ h4.1 h4.2 h2, h3.at fun _ e => k _ _ h5.1 h5.2 e, h4, h5⟩
section
variable {prog : Program} {w : World} {A : Around} {E : Value → Shared → Prop} {s : Shared} {c Pl F : Addr} {ps : Array Value} {mg ms : Str → Option Value}
theorem def_ok {st : Stmt} {name : Str} {Q : Flow → Shared → Prop} (hst : st = .FunctionDef name (dPars st) (dBody st) [] none [] (dScope st) none name (dPos st)) (hdf : (dPars st).defaults = [] ∧ noAnn (dPars st) = true)
    (hfree : ((dScope st).names.all fun x => x.2 != .free) = true) (hdoc : docOf (dBody st) = none) (hloc : prog.main.scope.names.lookup name = some .local)
    (hq : (("" : Str) ++ name == name) = true) (hm : s.heap.Main mg c Pl ps) (hnb : (("__builtins__" : Str) == name) = false) (hmod : prog.main.scope.kind = .module) (hnf : codeAmong (dPos st) ps.toList = none)
    (h : ∀ h' c' tk mg', h'.Main mg' c Pl (ps ++ #[rawInt (dPos st).line, rawInt (dPos st).col, .ref c']) → DefAt h' mg' Pl st name → (∀ x, (x == name) = false → mg' x = mg x) → (∀ b o, b ≠ Pl → b ≠ mainGlobals → s.heap.get? b = some o → h'.get? b = some o) → Q .next { s with heap := h', toks := tk }) :
    wpAny (model prog w) A (exec st (mainEnv prog c F)) Q E s := by
  rw [hst]
  have hpl : Pl < s.heap.objs.size := hm.code.lt.2
  refine wpAny_plainDefN (fun env => ?_) (fun x hx => by simpa using List.all_eq_true.mp hfree x hx) hdoc hloc ?_ hm (fun a c' h' tk ha hm' hf hc _ keep => ?_) (fun e => by rw [e] at hnb; simp at hnb) hmod hnf
  · obtain ⟨n1, n2, n3⟩ := noAnn_of (env := env) hdf.2
    rw [exec_def, defaultsOf_eq, n2, n3, hdf.1]
    rfl
  · unfold qualnameIn Env.kindOf
    rw [show (List.lookup name prog.main.scope.names) = some .local from hloc]
    exact beq_iff_eq.mp hq
  · refine h h' c' tk _ hm' ⟨a, c', _, if_pos rfl, hf, hc.2, ⟨Nat.ne_of_gt (Nat.lt_of_lt_of_le hpl ha), Nat.ne_of_gt (Nat.lt_of_lt_of_le hm.g.lt ha)⟩, ⟨Nat.ne_of_gt (Nat.lt_of_lt_of_le hpl hc.1), Nat.ne_of_gt (Nat.lt_of_lt_of_le hm.g.lt hc.1)⟩⟩ (fun x hx => if_other hx) keep
end
end Mine.Internal
end
section
open PySem PySem.W PySem.Calls PyProof.Rows PySem.Builtin
namespace Mine.Internal
structure TopS (h₀ h : Heap) (mg₀ mg mb : Str → Option Value) (c Pl : Addr) (ps : Array Value) (pp : List (Nat × Nat)) (nms : List Str) : Prop where
  main : h.Main mg c Pl ps
  pl : Places ps.toList pp
  b : h.Ns builtinsNs mb
  st : h.Ns cStatics (fun _ => none)
  sm : ∃ o, h.get? sysModules = some o
  same : ∀ x, x ∉ nms → mg x = mg₀ x
  old : ∀ b o, b ≠ mainGlobals → h₀.get? b = some o → h.get? b = some o
  fresh : h₀.get? Pl = none
theorem TopS.step {h₀ h h' : Heap} {mg₀ mg mg' mb : Str → Option Value} {c Pl : Addr} {ps ps' : Array Value} {pp pp' : List (Nat × Nat)} {nms : List Str} {name : Str} (T : TopS h₀ h mg₀ mg mb c Pl ps pp nms) (main' : h'.Main mg' c Pl ps') (pl' : Places ps'.toList pp')
    (k : ∀ b o, b ≠ Pl → b ≠ mainGlobals → h.get? b = some o → h'.get? b = some o) (s : ∀ x, (x == name) = false → mg' x = mg x) : TopS h₀ h' mg₀ mg' mb c Pl ps' pp' (name :: nms) := by
  have lo := T.main.low.2
  refine ⟨main', pl', T.b.at fun o e => k _ _ (Nat.ne_of_lt (Nat.lt_trans (by decide) lo)) (by decide) e, T.st.at fun o e => k _ _ (Nat.ne_of_lt (Nat.lt_trans (by decide) lo)) (by decide) e, ?_, fun x hx => ?_, fun b o hb e => ?_, T.fresh⟩
  · obtain ⟨o, e⟩ := T.sm
    exact ⟨o, k _ _ (Nat.ne_of_lt (Nat.lt_trans (by decide) lo)) (by decide) e⟩
  · rw [List.mem_cons, not_or] at hx
    exact (s x (beq_eq_false_iff_ne.mpr hx.1)).trans (T.same x hx.2)
  · refine k _ _ (fun z => ?_) hb (T.old b o hb e)
    rw [z, T.fresh] at e; cases e
noncomputable def okShape (st : Stmt) (name : Str) : Bool := match st with
  | .FunctionDef n _ _ ds rt tp _ ts b _ => ds.isEmpty && rt.isNone && tp.isEmpty && ts.isNone && n == name && b == name
  | _ => false
theorem okShape_of {st : Stmt} {name : Str} (h : okShape st name = true) : st = .FunctionDef name (dPars st) (dBody st) [] none [] (dScope st) none name (dPos st) := by
  cases st with
  | FunctionDef n ar bd ds rt tp sc ts bn ps =>
    replace h : (ds.isEmpty && rt.isNone && tp.isEmpty && ts.isNone && n == name && bn == name) = true := h
    simp only [Bool.and_eq_true, beq_iff_eq, List.isEmpty_iff, Option.isNone_iff_eq_none] at h
    obtain ⟨⟨⟨⟨⟨rfl, rfl⟩, rfl⟩, rfl⟩, rfl⟩, rfl⟩ := h
    rfl
  | _ => cases (show false = true from h)
noncomputable def okDef (prog : Program) (st : Stmt) (name : Str) : Bool := okShape st name && (dPars st).defaults.isEmpty && noAnn (dPars st) && ((dScope st).names.all fun x => x.2 != .free) && (docOf (dBody st)).isNone &&
  prog.main.scope.names.lookup name == some .local && (("" : Str) ++ name == name) && !(("__builtins__" : Str) == name)
theorem okDef_of {prog : Program} {st : Stmt} {name : Str} (h : okDef prog st name = true) : st = .FunctionDef name (dPars st) (dBody st) [] none [] (dScope st) none name (dPos st) ∧ ((dPars st).defaults = [] ∧ noAnn (dPars st) = true) ∧ ((dScope st).names.all fun x => x.2 != .free) = true ∧
    docOf (dBody st) = none ∧ prog.main.scope.names.lookup name = some .local ∧ (("" : Str) ++ name == name) = true ∧ (("__builtins__" : Str) == name) = false := by
  unfold okDef at h
  simp only [Bool.and_eq_true, List.isEmpty_iff, Option.isNone_iff_eq_none, Bool.not_eq_true'] at h
  obtain ⟨⟨⟨⟨⟨⟨⟨h1, h2⟩, h3⟩, h4⟩, h5⟩, h6⟩, h7⟩, h8⟩ := h
  exact ⟨okShape_of h1, ⟨h2, h3⟩, h4, h5, beq_iff_eq.mp h6, h7, h8⟩
section
variable {prog : Program} {w : World} {A : Around} {E : Value → Shared → Prop} {c Pl F : Addr} {h₀ : Heap} {mg₀ mb : Str → Option Value}
theorem one_def {s : Shared} {mg : Str → Option Value} {ps : Array Value} {pp : List (Nat × Nat)} {nms : List Str} {st : Stmt} {name : Str} {Q : Flow → Shared → Prop} (ok : okDef prog st name = true) (hmod : prog.main.scope.kind = .module) (T : TopS h₀ s.heap mg₀ mg mb c Pl ps pp nms) (hpos : ((dPos st).line, (dPos st).col) ∉ pp)
    (h : ∀ h' tk mg' ps', TopS h₀ h' mg₀ mg' mb c Pl ps' (pp ++ [((dPos st).line, (dPos st).col)]) (name :: nms) → DefAt h' mg' Pl st name → (∀ x, (x == name) = false → mg' x = mg x) → (∀ b o, b ≠ Pl → b ≠ mainGlobals → s.heap.get? b = some o → h'.get? b = some o) → Q .next { s with heap := h', toks := tk }) :
    wpAny (model prog w) A (exec st (mainEnv prog c F)) Q E s := by
  obtain ⟨o1, o2, o3, o4, o5, o6, o7⟩ := okDef_of ok
  refine def_ok o1 o2 o3 o4 o5 o6 T.main o7 hmod (T.pl.none hpos) fun h' c' tk mg' hm' hd hs hk => ?_
  exact h h' tk mg' _ (T.step hm' (by have := T.pl.snoc (v := .ref c') (q := ((dPos st).line, (dPos st).col)); simpa using this) hk hs) hd hs hk
theorem defs_ok (hmod : prog.main.scope.kind = .module) : ∀ {ds : List (Stmt × Str)} {s : Shared} {mg : Str → Option Value} {ps : Array Value} {pp : List (Nat × Nat)} {nms : List Str} {Q : Flow → Shared → Prop},
    (∀ d ∈ ds, okDef prog d.1 d.2 = true) → (pp ++ ds.map fun d => ((dPos d.1).line, (dPos d.1).col)).Nodup → (ds.map (·.2)).Nodup → TopS h₀ s.heap mg₀ mg mb c Pl ps pp nms →
    (∀ h' tk mg' ps' pp', TopS h₀ h' mg₀ mg' mb c Pl ps' pp' ((ds.map (·.2)).reverse ++ nms) → (∀ d ∈ ds, DefAt h' mg' Pl d.1 d.2) → (∀ x, x ∉ ds.map (·.2) → mg' x = mg x) → (∀ b o, b ≠ Pl → b ≠ mainGlobals → s.heap.get? b = some o → h'.get? b = some o) → Q .next { s with heap := h', toks := tk }) →
    wpAny (model prog w) A (execs (ds.map (·.1)) (mainEnv prog c F)) Q E s
  | [], s, mg, ps, pp, nms, Q, _, _, _, T, h => wpAny_execs_nil (h s.heap s.toks mg ps pp T (fun d hd => by cases hd) (fun _ _ => rfl) (fun _ _ _ _ e => e))
  | d :: ds, s, mg, ps, pp, nms, Q, ok, np, nn, T, h => by
    have np' := (List.nodup_append.mp np).2.2
    refine wpAny_execs_cons (one_def (ok d List.mem_cons_self) hmod T (fun z => np' _ z _ List.mem_cons_self rfl) fun h1 tk1 mg1 ps1 T1 D1 s1 k1 => ?_)
    obtain ⟨n1, n2⟩ := List.nodup_cons.mp nn
    refine defs_ok hmod (fun e he => ok e (List.mem_cons_of_mem _ he)) (by simpa [List.append_assoc] using np) n2 T1 fun h2 tk2 mg2 ps2 pp2 T2 D2 s2 k2 => ?_
    refine h h2 tk2 mg2 ps2 pp2 (by simpa [List.append_assoc] using T2) (fun e he => ?_) (fun x hx => ?_) fun b o h1 h2 e => k2 b o h1 h2 (k1 b o h1 h2 e)
    · rcases List.mem_cons.mp he with rfl | he
      · exact D1.keep k2 (s2 _ n1)
      · exact D2 e he
    · rw [List.map_cons, List.mem_cons, not_or] at hx
      exact (s2 x hx.2).trans (s1 x (beq_eq_false_iff_ne.mpr hx.1))
end
end Mine.Internal
end
section
open PySem PySem.W PySem.Calls PyProof.Rows PySem.Builtin
namespace Mine.Internal
noncomputable def isName (st : Stmt) (nm : Str) : Bool := match viewS st with
  | .asg t v => (match viewE t with
    | .name x => (match viewE v with
      | .str s => PySem.W.Fast.sEq x "__name__" && PySem.W.Fast.sEq s nm
      | _ => false)
    | _ => false)
  | _ => false
noncomputable def clsShape (st : Stmt) : Bool := match st with
  | .ClassDef n bs ks _ ds tp _ ts b _ _ => bs.isEmpty && ks.isEmpty && ds.isEmpty && tp.isEmpty && ts.isNone && n == ("MPU" : Str) && b == ("MPU" : Str)
  | _ => false
theorem clsShape_of {st : Stmt} (h : clsShape st = true) : st = .ClassDef "MPU" [] [] (cBody st) [] [] (cScope st) none "MPU" (cStat st) (cPos st) := by
  cases st with
  | ClassDef n bs ks bd ds tp sc ts bn ss ps =>
    replace h : (bs.isEmpty && ks.isEmpty && ds.isEmpty && tp.isEmpty && ts.isNone && n == ("MPU" : Str) && bn == ("MPU" : Str)) = true := h
    simp only [Bool.and_eq_true, beq_iff_eq, List.isEmpty_iff, Option.isNone_iff_eq_none] at h
    obtain ⟨⟨⟨⟨⟨⟨rfl, rfl⟩, rfl⟩, rfl⟩, rfl⟩, rfl⟩, rfl⟩ := h
    rfl
  | _ => cases (show false = true from h)
noncomputable def okClass (prog : Program) (st : Stmt) : Bool := clsShape st && (cScope st).kind == .class && ((cScope st).names.all fun x => x.2 != .free) &&
  !((cScope st).names.lookup ("__class__" : Str) == some NameKind.cell) && !((cScope st).names.lookup ("__classdict__" : Str) == some NameKind.cell) &&
  (([("__name__" : Str), "__module__", "__qualname__", "__firstlineno__", "__static_attributes__"]).all fun x => ((cScope st).names.lookup x).isNone) && !hasAnns (cBody st) && (docOf (cBody st)).isNone && prog.main.scope.names.lookup ("MPU" : Str) == some .local && prog.main.scope.names.lookup ("__name__" : Str) == some .local
theorem isName_of {st : Stmt} {nm : Str} (h : isName st nm = true) : ∃ p1 k p2 pos, st = .Assign [.Name "__name__" p1] (.Constant (.str nm) k p2) pos := by
  unfold isName at h
  split at h
  · rename_i t v hv
    obtain ⟨p, rfl⟩ := viewS_of hv
    split at h
    · rename_i x hx
      obtain ⟨p1, rfl⟩ := viewE_of hx
      split at h
      · rename_i y hy
        obtain ⟨k, p2, rfl⟩ := viewE_of hy
        rw [← beq_q, ← beq_q] at h
        simp only [Bool.and_eq_true, beq_iff_eq] at h
        obtain ⟨rfl, rfl⟩ := h
        exact ⟨_, _, _, _, rfl⟩
      · cases h
    · cases h
  · cases h
theorem okClass_of {prog : Program} {st : Stmt} (h : okClass prog st = true) : st = .ClassDef "MPU" [] [] (cBody st) [] [] (cScope st) none "MPU" (cStat st) (cPos st) ∧ (cScope st).kind = .class ∧ (∀ x ∈ (cScope st).names, x.2 ≠ .free) ∧
    ((cScope st).names.lookup ("__class__" : Str) == some NameKind.cell) = false ∧ ((cScope st).names.lookup ("__classdict__" : Str) == some NameKind.cell) = false ∧ (∀ x ∈ [("__name__" : Str), "__module__", "__qualname__", "__firstlineno__", "__static_attributes__"], (cScope st).names.lookup x = none) ∧
    hasAnns (cBody st) = false ∧ docOf (cBody st) = none ∧ prog.main.scope.names.lookup ("MPU" : Str) = some .local ∧ prog.main.scope.names.lookup ("__name__" : Str) = some .local := by
  unfold okClass at h
  simp only [Bool.and_eq_true, List.all_eq_true, Option.isNone_iff_eq_none, Bool.not_eq_true', bne_iff_ne, beq_iff_eq] at h
  obtain ⟨⟨⟨⟨⟨⟨⟨⟨⟨h1, h2⟩, h3⟩, h4⟩, h5⟩, h6⟩, h7⟩, h8⟩, h9⟩, h10⟩ := h
  exact ⟨clsShape_of h1, h2, h3, h4, h5, h6, h7, h8, h9, h10⟩
section
variable {prog : Program} {w : World} {A : Around} {E : Value → Shared → Prop} {c Pl F : Addr} {h₀ : Heap} {mg₀ mb : Str → Option Value} {s : Shared}
theorem one_name {st : Stmt} {nm : Str} {mg : Str → Option Value} {ps : Array Value} {pp : List (Nat × Nat)} {nms : List Str} {Q : Flow → Shared → Prop} (ok : isName st nm = true) (hmod : prog.main.scope.kind = .module) (hloc : prog.main.scope.names.lookup ("__name__" : Str) = some .local) (T : TopS h₀ s.heap mg₀ mg mb c Pl ps pp nms)
    (h : ∀ h' tk t, TopS h₀ h' mg₀ (fun y => if y = ("__name__" : Str) then some (.str nm t) else mg y) mb c Pl ps pp ("__name__" :: nms) → (∀ b o, b ≠ mainGlobals → s.heap.get? b = some o → h'.get? b = some o) → Q .next { s with heap := h', toks := tk }) :
    wpAny (model prog w) A (exec st (mainEnv prog c F)) Q E s := by
  obtain ⟨p1, k, p2, pos, rfl⟩ := isName_of ok
  refine name_ok hmod hloc (by decide +kernel) T.main fun h' tk t hm' hs => ?_
  exact h h' tk t (T.step hm' T.pl (fun b o _ hb e => (hs.2 b hb).trans e) fun x hx => if_other hx) fun b o hb e => (hs.2 b hb).trans e
theorem pre_ok {S0 S1 S2 S3 : Stmt} {rest : List Stmt} {st : CSt} {nm1 nm2 : Str} {Q : Flow → Shared → Prop} (hmod : prog.main.scope.kind = .module) (o0 : okDef prog S0 "_wall" = true) (o1 : isName S1 nm1 = true) (o2 : okClass prog S2 = true) (o3 : isName S3 nm2 = true)
    (hpos : (((dPos S0).line, (dPos S0).col) == ((cPos S2).line, (cPos S2).col)) = false) (hrun : clsRun (cScope S2) (cBody S2) (st0 nm1 (cPos S2).line) = some st) (hok : okCls st = true) (hbn : mb "__build_class__" = some (.builtin "__build_class__"))
    (T : TopS h₀ s.heap mg₀ mg₀ mb c Pl #[] [] []) (hdep : A.depth + 2 < recursionLimit)
    (h : ∀ h' tk mg' ps' B C ns φ ψ mc sa a1 a2, TopS h₀ h' mg₀ mg' mb c Pl ps' [((dPos S0).line, (dPos S0).col), ((cPos S2).line, (cPos S2).col)] ["__name__", "MPU", "__name__", "_wall"] → Made h' Pl B st C ns φ ψ mc sa a1 a2 → mg' "MPU" = some (.ref C) →
      wpAny (model prog w) A (execs rest (mainEnv prog c F)) Q E { s with heap := h', toks := tk }) :
    wpAny (model prog w) A (execs (S0 :: S1 :: S2 :: S3 :: rest) (mainEnv prog c F)) Q E s := by
  obtain ⟨c1, c2, c3, c4, c5, c6, c7, c8, c9, c10⟩ := okClass_of o2
  obtain ⟨k1, k2, k3, k4⟩ := okCls_of hok
  refine wpAny_execs_cons (one_def o0 hmod T (by simp) fun h1 tk1 mg1 ps1 T1 D1 s1 kk1 => ?_)
  refine wpAny_execs_cons (one_name (s := { s with heap := h1, toks := tk1 }) o1 hmod c10 T1 fun h2 tk2 t2 T2 kk2 => ?_)
  refine wpAny_execs_cons ?_
  rw [c1]
  have sz : sysModules < h2.objs.size := by obtain ⟨o, e⟩ := T2.sm; exact Heap.lt_size e
  have hp : (((cPos S2).line, (cPos S2).col)) ∉ [((dPos S0).line, (dPos S0).col)] := by
    intro z
    rw [List.mem_singleton] at z
    rw [z] at hpos; simp at hpos
  refine class_ok (s := { s with heap := h2, toks := tk2 }) hmod c9 hbn T2.b T2.main (T2.pl.none hp) (if_pos rfl) rfl ⟨_, T2.st, rfl⟩ hdep T2.st rfl sz c2 c3 c4 c5 (c6 _ (by simp)) (c6 _ (by simp)) (c6 _ (by simp)) (c6 _ (by simp)) (c6 _ (by simp)) c7 c8 hrun k1 k2 k3 k4
    fun h3 tk3 c' B C ns φ ψ mc sa a1 a2 M3 main3 kk3 => ?_
  have T3 : TopS h₀ h3 mg₀ _ mb c Pl _ [((dPos S0).line, (dPos S0).col), ((cPos S2).line, (cPos S2).col)] ["MPU", "__name__", "_wall"] :=
    T2.step main3 (by have := T2.pl.snoc (v := .ref c') (q := ((cPos S2).line, (cPos S2).col)); simpa using this) kk3 (fun x hx => if_other hx)
  refine wpAny_execs_cons (one_name (s := { s with heap := h3, toks := tk3 }) o3 hmod c10 T3 fun h4 tk4 t4 T4 kk4 => ?_)
  exact h h4 tk4 _ _ B C ns φ ψ mc sa a1 a2 T4 (M3.keep fun b o _ hb e => kk4 b o hb e) ((if_other (by decide +kernel)).trans (if_pos rfl))
end
end Mine.Internal
end
section
open PySem PySem.W PySem.Calls PyProof.Rows PySem.Builtin
namespace Mine.Internal
noncomputable abbrev Walk (prog : Program) (w : World) (rest : List Stmt) (pp : List (Nat × Nat)) (nms : List Str) (Fin : Heap → (Str → Option Value) → Addr → Prop) : Prop :=
  ∀ {A : Around} {E : Value → Shared → Prop} {s : Shared} {c Pl F : Addr} {h₀ : Heap} {mg₀ mb mg : Str → Option Value} {ps : Array Value} {Q : Flow → Shared → Prop}, TopS h₀ s.heap mg₀ mg mb c Pl ps pp ["__name__", "MPU", "__name__", "_wall"] →
    (∀ h' tk mg' ps' pp', TopS h₀ h' mg₀ mg' mb c Pl ps' pp' nms → Fin h' mg' Pl → (∀ b o, b ≠ Pl → b ≠ mainGlobals → s.heap.get? b = some o → h'.get? b = some o) → mg' "MPU" = mg "MPU" → Q .next { s with heap := h', toks := tk }) →
    wpAny (model prog w) A (execs rest (mainEnv prog c F)) Q E s
noncomputable def blNames : List Str := ["len", "divmod", "range", "enumerate", "sum", "max", "min", "abs", "zip", "reversed", "list", "dict", "int", "bool", "any", "all", "sorted", "tuple", "set", "isinstance", "print", "str"]
structure Ready (Fin : Heap → (Str → Option Value) → Addr → Prop) (st : CSt) (h : Heap) (mg mb : Str → Option Value) (Pl B : Nat) (C ns : Addr) (φ ψ : List Addr) (mc : Str → Option Value) (sa a1 a2 : Addr) : Prop where
  g : h.Ns mainGlobals mg
  b : h.Ns builtinsNs mb
  blt : ∀ x : Str, (x == "__name__") = false → mb x = bootBuiltins x
  sts : h.Ns cStatics (fun _ => none)
  made : Made h Pl B st C ns φ ψ mc sa a1 a2
  cls : mg "MPU" = some (.ref C)
  fin : Fin h mg Pl
  bmod : h.BuiltinsAt mg Pl
  oth : ∀ x ∈ blNames, mg x = none
noncomputable def ReadyS (Fin : Heap → (Str → Option Value) → Addr → Prop) (st : CSt) (s : Shared) : Prop := ∃ mg mb Pl B C ns φ ψ mc sa a1 a2, Ready Fin st s.heap mg mb Pl B C ns φ ψ mc sa a1 a2
theorem boot_build : bootBuiltins "__build_class__" = some (.builtin "__build_class__") := by kernel_rfl
theorem static_none {h : Heap} (x : h.Ns cStatics (fun _ => none)) (k : Str) : staticOf h k = none := by
  obtain ⟨o, es, ep, ho, hd, _, hf⟩ := x
  unfold staticOf
  rw [ho]
  dsimp only
  rw [hd]
  exact hf k
theorem top_ran {p : Program} {w : World} {s₀ : Shared} {S0 S1 S2 S3 : Stmt} {rest : List Stmt} {st : CSt} {nm1 nm2 : Str} {nms : List Str} {Fin : Heap → (Str → Option Value) → Addr → Prop}
    (hbody : behindTheImports p = S0 :: S1 :: S2 :: S3 :: rest) (hann : hasAnns (S0 :: S1 :: S2 :: S3 :: rest) = false) (hdoc : docOf (S0 :: S1 :: S2 :: S3 :: rest) = none)
    (hmod : p.main.scope.kind = .module) (o0 : okDef p S0 "_wall" = true) (o1 : isName S1 nm1 = true) (o2 : okClass p S2 = true) (o3 : isName S3 nm2 = true)
    (hpos : (((dPos S0).line, (dPos S0).col) == ((cPos S2).line, (cPos S2).col)) = false) (hrun : clsRun (cScope S2) (cBody S2) (st0 nm1 (cPos S2).line) = some st) (hok : okCls st = true)
    (walk : Walk p w rest [((dPos S0).line, (dPos S0).col), ((cPos S2).line, (cPos S2).col)] nms Fin)
    (hnms : ∀ x ∈ nms, x ∈ startupNames ∨ x ∈ p.boundNames) (hlaid : ∀ x ∈ laidNames, x ∉ nms) (hb0 : ("__builtins__" : Str) ∉ nms) (hbl : ∀ x ∈ blNames, x ∉ nms ∧ x ∉ startupNames)
    (B : BootS s₀) (hz : s₀.asleep) : ∃ s₁, TopRan p w s₀ s₁ ∧ s₁.gens = #[] ∧ s₁.asleep ∧ ReadyS Fin st s₁ ∧ ∃ mg, s₁.heap.Ns mainGlobals mg := by
  obtain ⟨⟨mb, mg, c₀, Pl₀, BL⟩, hg0⟩ := B
  obtain ⟨h₀, g₀, d₀, t₀, os₀⟩ := s₀
  dsimp only at BL hg0
  subst hg0
  obtain ⟨bm, ob, b1, b2, b3, b4, b5, b6, b7, b8⟩ := BL.bmod
  have hsys : ∃ o, h₀.get? sysModules = some o := by obtain ⟨mm, ⟨o, _, _, e, _⟩, _⟩ := BL.noThreading; exact ⟨o, e⟩
  obtain ⟨m, t₁, s₁, hm, ht, ⟨hos, mg', ps', pp', c, Pl, Bn, C, ns, φ, ψ, mc, sa, a1, a2, T, M, hcl, hf⟩, hgens, hlife⟩ := top_runs (p := p) (w := w) (s := ⟨h₀, #[], d₀, t₀, os₀⟩)
    (t := do let code ← moduleCode p.main
             let frame ← newBodyFrame code mainNs mainNs
             let _ ← run (.body (behindTheImports p) { scope := p.main.scope, locals := mainNs, globals := mainNs, cells := [], code, frame := some frame })
             ret .none)
    (R := fun s' => s'.os = os₀ ∧ ∃ mg' ps' pp' c Pl Bn C ns φ ψ mc sa a1 a2, TopS h₀ s'.heap mg mg' mb c Pl ps' pp' nms ∧ Made s'.heap Pl Bn st C ns φ ψ mc sa a1 a2 ∧ mg' "MPU" = some (.ref C) ∧ Fin s'.heap mg' Pl) hz (by
      refine wpAny_bind (wpAny_moduleCode fun c Pl h1 tk1 k1 hc hP hcode => ?_)
      have G1 : h1.Ns mainGlobals mg := BL.g.keeps k1
      refine wpAny_bind (wpAny_bind (wpAny_nsGet (m := mg) G1 (wpAny_alloc ?_)))
      have k2 : ∀ b o, h1.get? b = some o → (h1.push { cls := .type "frame", slots := #[some (.ref c), some (.ref mainGlobals), some (.ref mainGlobals), none, some ((mg "__name__").getD .none), none, some (.ref builtinsNs)] }).get? b = some o := fun b o e => Heap.get?_push_of_some _ e
      refine wpAny_bind (wpAny_run ?_)
      rw [hbody]
      refine codeAny_body hann hdoc ?_
      refine wpAny_mono (E := fun _ _ => False) (pre_ok (mg₀ := mg) (mb := mb) (c := c) (Pl := Pl) (h₀ := h₀) (F := h1.objs.size) hmod o0 o1 o2 o3 hpos hrun hok ((BL.builtins _ (by decide +kernel)).trans boot_build) ⟨⟨G1.keeps k2, hcode.keeps k2, ?_, ?_⟩, trivial, (BL.b.keeps k1).keeps k2, (BL.statics.keeps k1).keeps k2, ?_, fun _ _ => rfl, fun b o _ e => k2 _ _ (k1 _ _ e), fresh_size hP⟩ ?_ fun h' tk mg' ps' B C ns φ ψ mc sa a1 a2 T M hcl => walk (s := ⟨h', #[], d₀, tk, os₀⟩) T fun h2 tk2 mg2 ps2 pp2 T2 F2 kk2 e2 => ?_) (fun _ _ x => x) fun _ _ x => x.elim
      · exact ⟨Nat.lt_of_lt_of_le BL.g.lt hc, Nat.lt_of_lt_of_le BL.g.lt hP⟩
      · exact ⟨bm, ob, b1, b2, b3, Nat.ne_of_lt (Nat.lt_of_lt_of_le (Heap.lt_size b5) hP), k2 _ _ (k1 _ _ b5), b6, b7, b8⟩
      · obtain ⟨o, e⟩ := hsys; exact ⟨o, k2 _ _ (k1 _ _ e)⟩
      · show 1 + claimMargin + 1 + 2 < recursionLimit
        decide +kernel
      · exact wpAny_pure ⟨_, rfl, ⟨rfl, mg2, ps2, pp2, c, Pl, B, C, ns, φ, ψ, mc, sa, a1, a2, T2, M.keep kk2, e2.trans hcl, F2⟩, rfl⟩)
  refine ⟨s₁, ⟨⟨m, t₁, hm, ht⟩, hlife, Shared.rest_eq hos, fun b o e hn => T.old b o (fun z => hn (.inl z)) e, ?_, ?_, ?_, ?_, ?_, ?_, ?_, ?_⟩, hgens, Shared.asleep_of_life hlife hz, ⟨mg', mb, Pl, Bn, C, ns, φ, ψ, mc, sa, a1, a2, T.main.g, T.b, fun x hx => BL.builtins x (beq_eq_false_iff_ne.mp hx), T.st, M, hcl, hf, T.main.bmod, fun x hx => (T.same x (hbl x hx).1).trans (BL.others x (hbl x hx).2)⟩, mg', T.main.g⟩
  · intro k v e; rw [static_none T.st] at e; cases e
  · intro k; exact .inl ((static_none T.st k).trans (static_none BL.statics k).symm)
  · obtain ⟨o, es, ep, ho, hd, hk, _⟩ := T.main.g; exact ⟨o, es, ep, ho, hd, hk⟩
  · intro x hx
    obtain ⟨o, es, ep, ho, hd, hk, hf⟩ := T.b
    unfold builtinOf
    rw [ho]
    dsimp only
    rw [hd]
    exact (hf x).trans (BL.builtins x hx)
  · obtain ⟨bm, ob, b1, b2, b3, b4, b5, b6, b7, b8⟩ := T.main.bmod
    exact ⟨bm, ob, (Claim2Try.globalOf_of_ns T.main.g _).trans b1, b5, b6, b7⟩
  · intro g hg; rw [hgens] at hg; exact absurd hg (Array.not_mem_empty g)
  · intro x v e
    rw [Claim2Try.globalOf_of_ns T.main.g] at e
    by_cases hx : x ∈ nms
    · exact hnms x hx
    · refine .inl (Classical.byContradiction fun hn => ?_)
      rw [T.same x hx, BL.others x hn] at e; cases e
  · intro x hx
    rw [Claim2Try.globalOf_of_ns T.main.g, T.same x (hlaid x hx)]
    exact (Claim2Try.globalOf_of_ns BL.g x).symm
end Mine.Internal
end
section
open PySem PySem.W PySem.Calls PyProof.Rows PySem.Builtin
namespace Mine.Internal
theorem Ready.keeps {Fin : Heap → (Str → Option Value) → Addr → Prop} {st : CSt} {h h' : Heap} {mg mb : Str → Option Value} {Pl B : Nat} {C ns : Addr} {φ ψ : List Addr} {mc : Str → Option Value} {sa a1 a2 : Addr} (x : Ready Fin st h mg mb Pl B C ns φ ψ mc sa a1 a2)
    (hf : ∀ h h' mg Pl, Fin h mg Pl → (∀ b o, h.get? b = some o → h'.get? b = some o) → Fin h' mg Pl) (k : ∀ b o, h.get? b = some o → h'.get? b = some o) : Ready Fin st h' mg mb Pl B C ns φ ψ mc sa a1 a2 :=
  ⟨x.g.keeps k, x.b.keeps k, x.blt, x.sts.keeps k, x.made.keep fun b o _ _ e => k b o e, x.cls, hf _ _ _ _ x.fin k, x.bmod.keeps k, x.oth⟩
theorem ints_of {R : WRecords} {cl : Str → Option Addr} {h : Heap} : ∀ {ds : List WData} {vs : List Value} {as : List Addr}, ReadsAllW R cl h vs ds as → WShape.hasItems R ds .int = true → ∃ ns, IntsAre vs ns ∧ ns.length = ds.length
  | [], vs, as, r, _ => by
    obtain ⟨rfl, _⟩ := readsAllW_nil_inv r
    exact ⟨[], .nil, rfl⟩
  | d :: ds, vs, as, r, hh => by
    cases r with
    | cons r1 r2 =>
      unfold WShape.hasItems at hh
      obtain ⟨h1, h2⟩ := Bool.and_eq_true_iff.mp hh
      obtain ⟨i, rfl⟩ := hasW_int h1
      cases r1
      obtain ⟨ns, a, b⟩ := ints_of r2 h2
      exact ⟨_ :: ns, .cons _ _ a, by simp [b]⟩
theorem script_of {R : WRecords} {cl : Str → Option Addr} {h : Heap} {args : List WData} {vs : List Value} {as : List Addr} (hs : WShape.hasAll R args [.list .int] = true) (hl : WData.layableAll args = true) (r : ReadsAllW R cl h vs args as) :
    ∃ a o its n ns, vs = [.ref a] ∧ h.get? a = some o ∧ o.cls = .type "list" ∧ o.data = .seq its n ∧ IntsAre its.toList ns ∧ ns.length ≤ 1048576 ∧ a ∈ as := by
  obtain ⟨d, r', rfl, h1, h2⟩ := hasAllW_cons hs
  obtain rfl := hasAllW_nil h2
  obtain ⟨xs, rfl, h3⟩ := hasW_list h1
  have hlen := length_le_of_layableW (layableW_arg hl _ List.mem_cons_self)
  cases r with
  | cons r1 r2 =>
    obtain ⟨rfl, rfl⟩ := readsAllW_nil_inv r2
    cases r1 with
    | list ho hc hd hr =>
      obtain ⟨ns, a, b⟩ := ints_of hr h3
      exact ⟨_, _, _, _, ns, rfl, ho, hc, hd, a, by rw [b]; exact hlen, by simp⟩
noncomputable abbrev Duty (p : Program) (name : Str) (Fin : Heap → (Str → Option Value) → Addr → Prop) (st : CSt) : Prop :=
  ∀ (w : World) (s : Shared) (mg mb : Str → Option Value) (Pl B : Nat) (C ns : Addr) (φ ψ : List Addr) (mc : Str → Option Value) (sa a1 a2 : Addr), Ready Fin st s.heap mg mb Pl B C ns φ ψ mc sa a1 a2 → s.gens = #[] →
    ∀ (f : Value) (a : Addr) (o : Obj) (its : Array Value) (n : Nat) (xs : List Int), mg name = some f → s.heap.get? a = some o → o.cls = .type "list" → o.data = .seq its n → IntsAre its.toList xs → xs.length ≤ 1048576 →
    wpAny (model p w) callerA (PySem.call f [.ref a]) (fun v s' => v = .bool true ∧ OldK s.heap s'.heap ∧ s'.os = s.os ∧ AllBare s'.gens) (fun _ _ => False) s
theorem law_holds {l : OpenLaw} {S0 S1 S2 S3 SL : Stmt} {rest : List Stmt} {st : CSt} {nm1 nm2 : Str} {nms : List Str} {Fin : Heap → (Str → Option Value) → Addr → Prop} (ok : l.wellSaid = true) (hb : l.prog.bare) (how : opensWell l.prog = true) (hpr : l.row.toRowW.promised) (hwr : l.writes = false)
    (hop : (opening l.prog).main.body = []) (hom : (opening l.prog).main.more = []) (hfe : ∀ s, fenceModules? l.prog s = some s)
    (hbody : behindTheImports l.prog = S0 :: S1 :: S2 :: S3 :: rest) (hann : hasAnns (S0 :: S1 :: S2 :: S3 :: rest) = false) (hdoc : docOf (S0 :: S1 :: S2 :: S3 :: rest) = none)
    (hmod : l.prog.main.scope.kind = .module) (o0 : okDef l.prog S0 "_wall" = true) (o1 : isName S1 nm1 = true) (o2 : okClass l.prog S2 = true) (o3 : isName S3 nm2 = true)
    (hpos : (((dPos S0).line, (dPos S0).col) == ((cPos S2).line, (cPos S2).col)) = false) (hrun : clsRun (cScope S2) (cBody S2) (st0 nm1 (cPos S2).line) = some st) (hok : okCls st = true)
    (walk : ∀ w, Walk l.prog w rest [((dPos S0).line, (dPos S0).col), ((cPos S2).line, (cPos S2).col)] nms Fin)
    (hnms : (nms.all fun x => startupNames.contains x || l.prog.boundNames.contains x) = true) (hlaid : (laidNames.all fun x => !nms.contains x) = true) (hb0 : nms.contains ("__builtins__" : Str) = false) (hbl : (blNames.all fun x => !nms.contains x && !startupNames.contains x) = true)
    (hFin : ∀ h h' mg Pl, Fin h mg Pl → (∀ b o, h.get? b = some o → h'.get? b = some o) → Fin h' mg Pl) (hdef : ∀ h mg Pl, Fin h mg Pl → DefAt h mg Pl SL l.name) (htd : l.prog.theDef l.name = some (dPars SL, dBody SL, dScope SL)) (hsl : okDef l.prog SL l.name = true)
    (duty : Duty l.prog l.name Fin st) : l.Holds := by
  have hl1 : ∀ x ∈ nms, x ∈ startupNames ∨ x ∈ l.prog.boundNames := fun x hx => by
    have := List.all_eq_true.mp hnms x hx
    simpa only [Bool.or_eq_true, List.contains_iff_mem] using this
  have hl2 : ∀ x ∈ laidNames, x ∉ nms := fun x hx hn => by
    have := List.all_eq_true.mp hlaid x hx
    rw [Bool.not_eq_true', List.contains_iff_mem.mpr hn] at this; cases this
  have hl3 : ("__builtins__" : Str) ∉ nms := fun hn => by rw [List.contains_iff_mem.mpr hn] at hb0; cases hb0
  have hl4 : ∀ x ∈ blNames, x ∉ nms ∧ x ∉ startupNames := fun x hx => by
    have := List.all_eq_true.mp hbl x hx
    simp only [Bool.and_eq_true, Bool.not_eq_true'] at this
    obtain ⟨t1, t2⟩ := this
    constructor
    · intro hn; rw [List.contains_iff_mem.mpr hn] at t1; cases t1
    · intro hn; rw [List.contains_iff_mem.mpr hn] at t2; cases t2
  refine PySem.W.holds_law ok fun k1 => ⟨k1, hpr, ⟨hb, how, rfl⟩, hpr.witness, fun w => ?_⟩
  obtain ⟨e1, e2⟩ := boot_any hop hom w
  refine ⟨e1, fun s hs => ⟨s, hfe s, (e2 s hs).2, ?_⟩⟩
  have hz : s.asleep := AfterImport.life hs
  obtain ⟨s₁, TR, hg, hz1, ⟨mg, mb, Pl, B, C, ns, φ, ψ, mc, sa, a1, a2, RD⟩, _⟩ := top_ran hbody hann hdoc hmod o0 o1 o2 o3 hpos hrun hok (walk w) hl1 hl2 hl3 hl4 (e2 s hs) hz
  refine ⟨s₁, TR, fun n hn => ?_, fun x hx => (by cases hx), fun x hx => (by cases hx), ?_⟩
  · obtain rfl : n = l.name := List.mem_singleton.mp hn
    obtain ⟨a, c', pm, h1, h2, h3, _⟩ := hdef _ _ _ RD.fin
    obtain ⟨_, ⟨q2, q3⟩, _⟩ := okDef_of hsl
    obtain ⟨n1, n2, _⟩ := noAnn_of (env := { scope := default, locals := 0, globals := 0, cells := [] }) q3
    exact ⟨a, _, _, _, _, _, (Claim2Try.globalOf_of_ns RD.g _).trans h1, h2, rfl, htd, rfl, rfl, rfl, rfl, rfl, rfl, rfl, rfl, .inl ⟨q2, rfl⟩, [], by rw [n1, n2]; rfl, .inl ⟨rfl, rfl⟩⟩
  · refine ClaimW.callFrom_of_specG (c := l.row.toRowW.claim) (tree := fun vs => do match ← nsGet mainNs l.name with
      | some f => do ret (← PySem.call f vs)
      | none => unsupported "claim.caller:no-such-global") hz1 hg fun args hpre hlay ord hord => ?_
    have hsh : WShape.hasAll [] args [.list .int] = true := (pre_splitW (r := l.row.toRowW) hpre).1
    obtain ⟨⟨vs, s₂⟩, hlaid⟩ := Option.isSome_iff_exists.mp (layAllW_isSome (R := []) (cl := classAt s₁.heap) (P := w.params) (ord := ord) (fun c hc => by cases hc) args [.list .int] s₁ hsh)
    have keeps := layAllW_keeps _ _ _ hlaid
    have hal := layAllW_rest _ _ _ hlaid
    obtain ⟨as, hrd, hin, hold⟩ := reads_layAllW hord _ _ _ hlaid hlay s₂.heap (fun _ _ e => e)
    have L : Laid [] w s₁ s₂ args vs as := ⟨⟨ord, hord, hlaid⟩, hrd, hin, hold, keeps, hal.1.trans hg, hal.2.2.1⟩
    obtain ⟨a, o, its, n, xs, rfl, c1, c2, c3, c4, c5, _⟩ := script_of hsh hlay hrd
    have RD2 := RD.keeps hFin keeps
    obtain ⟨af, cf, pf, f1, f2, f3, _⟩ := hdef _ _ _ RD2.fin
    refine ⟨[.ref a], s₂, hlaid, wpAny_bind (wpAny_nsGet (m := mg) RD2.g ?_)⟩
    rw [f1]
    refine wpAny_bind (wpAny_mono (duty w s₂ mg mb Pl B C ns φ ψ mc sa a1 a2 RD2 L.gens (.ref af) a o its n xs f1 c1 c2 c3 c4 c5) (fun v s' g => ?_) fun _ _ z => z.elim)
    obtain ⟨rfl, g1, g2, g3⟩ := g
    have hpost : l.row.toRowW.claim.post args (.bool true) args = true := by
      show (WShape.has [] (.bool true) .bool && WTm.holds [] (.eq .res (.lit (.bool true))) { args := args, res := some (.bool true), after := args }) = true
      simp [WTm.holds, WTm.value, WShape.has, WShape.arms, same]
    have G : GoodWG l.row.toRowW.claim (classAt s₁.heap) (ExcName.means s₁.heap) args s₂ (.ok (.ret (.bool true))) s' :=
      ⟨.inl ⟨.bool true, .bool true, [], rfl, fun _ => rfl, .bool true, hpost, fun _ => ⟨List.nodup_nil, fun a ha => by cases ha⟩⟩, g1, g2, g3⟩
    have z := G.laid (c := l.row.toRowW.claim) rfl rfl (fun _ _ => ident_freeW (r := l.row.toRowW) rfl rfl rfl _ _) L
    exact wpAny_pure ⟨_, rfl, z.1, z.2.1, z.2.2, fun q => by rw [show l.row.writes = false from hwr] at q; cases q⟩
end Mine.Internal
end
section
open PySem PySem.W PySem.Calls PyProof.Rows
set_option genInjectivity false
set_option genSizeOf false
set_option genSizeOfSpec false
namespace Mine.Internal
set_option genCtorIdx true in
inductive AV where
  | none | bool (b : Bool) | int (i : Int) | str (s : Str) | obj (i : Nat) | fn (k : Nat) | lst (k : Nat) | cls | bi (id : String) | ty (n : String)
set_option genCtorIdx true in
inductive AO where
  | inst (d : Nat)
  | ns (fs : List (Str × AV))
  | nums (xs : List Int)
  | seq (tup : Bool) (xs : List AV)
  | meth (k : Nat) (self : AV)
  | tab (kvs : List (Int × Int))
  | rng (a b : Int)
theorem no_some {α : Type} {a : α} {P : Prop} (h : (none : Option α) = some a) : P := nomatch h
theorem no_bool {P : Prop} (h : false = true) : P := nomatch h
theorem some_eq {α : Type} {a b : α} (h : some a = some b) : a = b := Option.some.inj h
theorem same_some {α : Type} {o : Option α} {a b : α} (h : o = some a) (k : o = some b) : a = b := Option.some.inj (h.symm.trans k)
noncomputable def AV.obj? : AV → Option Nat
  | .obj i => some i
  | _ => .none
noncomputable def AV.int? : AV → Option Int
  | .int i => some i
  | _ => .none
noncomputable def AV.bool? : AV → Option Bool
  | .bool i => some i
  | _ => .none
noncomputable def AV.lst? : AV → Option Nat
  | .lst i => some i
  | _ => .none
theorem obj_inj {i j : Nat} (h : AV.obj i = AV.obj j) : i = j := some_eq (congrArg AV.obj? h)
theorem obj?_of {v : AV} {i : Nat} (h : v.obj? = some i) : v = .obj i := by
  cases v with
  | obj j => exact congrArg AV.obj (some_eq h)
  | _ => exact no_some h
theorem int?_of {v : AV} {i : Int} (h : v.int? = some i) : v = .int i := by
  cases v with
  | int j => exact congrArg AV.int (some_eq h)
  | _ => exact no_some h
theorem bool?_of {v : AV} {i : Bool} (h : v.bool? = some i) : v = .bool i := by
  cases v with
  | bool j => exact congrArg AV.bool (some_eq h)
  | _ => exact no_some h
theorem lst?_of {v : AV} {i : Nat} (h : v.lst? = some i) : v = .lst i := by
  cases v with
  | lst j => exact congrArg AV.lst (some_eq h)
  | _ => exact no_some h
noncomputable def AO.inst? : AO → Option Nat
  | .inst d => some d
  | _ => none
noncomputable def AO.ns? : AO → Option (List (Str × AV))
  | .ns d => some d
  | _ => none
noncomputable def AO.nums? : AO → Option (List Int)
  | .nums d => some d
  | _ => none
noncomputable def AO.seq? : AO → Option (Bool × List AV)
  | .seq t d => some (t, d)
  | _ => none
noncomputable def AO.meth? : AO → Option (Nat × AV)
  | .meth t d => some (t, d)
  | _ => none
noncomputable def AO.tab? : AO → Option (List (Int × Int))
  | .tab d => some d
  | _ => none
noncomputable def AO.rng? : AO → Option (Int × Int)
  | .rng a b => some (a, b)
  | _ => none
theorem inst?_of {v : AO} {i : Nat} (h : v.inst? = some i) : v = .inst i := by
  cases v with
  | inst j => exact congrArg AO.inst (some_eq h)
  | _ => exact no_some h
theorem ns?_of {v : AO} {i : List (Str × AV)} (h : v.ns? = some i) : v = .ns i := by
  cases v with
  | ns j => exact congrArg AO.ns (some_eq h)
  | _ => exact no_some h
theorem nums?_of {v : AO} {i : List Int} (h : v.nums? = some i) : v = .nums i := by
  cases v with
  | nums j => exact congrArg AO.nums (some_eq h)
  | _ => exact no_some h
theorem seq?_of {v : AO} {i : Bool × List AV} (h : v.seq? = some i) : v = .seq i.1 i.2 := by
  cases v with
  | seq j k => exact congrArg (fun q : Bool × List AV => AO.seq q.1 q.2) (some_eq h)
  | _ => exact no_some h
theorem meth?_of {v : AO} {i : Nat × AV} (h : v.meth? = some i) : v = .meth i.1 i.2 := by
  cases v with
  | meth j k => exact congrArg (fun q : Nat × AV => AO.meth q.1 q.2) (some_eq h)
  | _ => exact no_some h
theorem tab?_of {v : AO} {i : List (Int × Int)} (h : v.tab? = some i) : v = .tab i := by
  cases v with
  | tab j => exact congrArg AO.tab (some_eq h)
  | _ => exact no_some h
theorem rng?_of {v : AO} {i : Int × Int} (h : v.rng? = some i) : v = .rng i.1 i.2 := by
  cases v with
  | rng j k => exact congrArg (fun q : Int × Int => AO.rng q.1 q.2) (some_eq h)
  | _ => exact no_some h
inductive T (α : Type) where
  | ret (a : α) | fail | br (c : Bool) (t e : T α)
namespace T
noncomputable def bind {α β : Type} : T α → (α → T β) → T β
  | .ret a, f => f a
  | .fail, _ => .fail
  | .br c t e, f => .br c (bind t f) (bind e f)
noncomputable def All {α : Type} (P : α → Prop) : T α → Prop
  | .ret a => P a
  | .fail => False
  | .br c t e => (c = true → All P t) ∧ (c = false → All P e)
noncomputable def run {α : Type} : T α → Option α
  | .ret a => some a
  | .fail => none
  | .br c t e => cond c (run t) (run e)
theorem all_bind {α β : Type} {P : β → Prop} {f : α → T β} : ∀ {t : T α}, All P (bind t f) → All (fun a => All P (f a)) t
  | .ret _, h => h
  | .fail, h => h
  | .br _ _ _, h => ⟨fun c => all_bind (h.1 c), fun c => all_bind (h.2 c)⟩
theorem all_mono {α : Type} {P P' : α → Prop} (hp : ∀ a, P a → P' a) : ∀ {t : T α}, All P t → All P' t
  | .ret _, h => hp _ h
  | .fail, h => h
  | .br _ _ _, h => ⟨fun c => all_mono hp (h.1 c), fun c => all_mono hp (h.2 c)⟩
theorem all_of_run {α : Type} {P : α → Prop} {a : α} (p : P a) : ∀ {t : T α}, run t = some a → All P t
  | .ret _, h => by cases h; exact p
  | .fail, h => by cases h
  | .br true _ _, h => ⟨fun _ => all_of_run p h, fun q => (nomatch q)⟩
  | .br false _ _, h => ⟨fun q => (nomatch q), fun _ => all_of_run p h⟩
theorem all_ex {α : Type} {P : α → Prop} : ∀ {t : T α}, t.All P → ∃ a, P a
  | .ret a, h => ⟨a, h⟩
  | .fail, h => h.elim
  | .br true _ _, h => all_ex (h.1 rfl)
  | .br false _ _, h => all_ex (h.2 rfl)
noncomputable def need {α : Type} (c : Bool) (t : T α) : T α := .br c t .fail
theorem all_need {α : Type} {P : α → Prop} {c : Bool} {t : T α} (h : All P (need c t)) : c = true ∧ All P t := by
  cases c with
  | true => exact ⟨rfl, h.1 rfl⟩
  | false => exact (h.2 rfl).elim
noncomputable def opt {α β : Type} (o : Option α) (f : α → T β) : T β := match o with
  | some a => f a
  | none => .fail
theorem optE {α β : Type} {P : β → Prop} {o : Option α} {f : α → T β} {G : Prop} (h : All P (opt o f)) (k : ∀ a, o = some a → All P (f a) → G) : G := by
  cases o with
  | none => exact h.elim
  | some a => exact k a rfl h
theorem needE {α : Type} {P : α → Prop} {c : Bool} {t : T α} {G : Prop} (h : All P (need c t)) (k : c = true → All P t → G) : G := k (all_need h).1 (all_need h).2
end T
noncomputable abbrev Loc := List (Str × AV)
noncomputable abbrev HP := List AO
set_option genCtorIdx true in
inductive AF where | next | ret (v : AV) | brk | cont
structure Fns where
  ev : Nat → Scope → Expr → Loc → HP → T (AV × HP)
  xs : Nat → Scope → List Stmt → Loc → HP → T (AF × Loc × HP)
  cl : Nat → Nat → List AV → HP → T (AV × HP)
  ts : Nat → Scope → Expr → Loc → HP → T (Bool × HP)
inductive CAttr where
  | field | int (i : Int) | fn (k : Nat) | lst (k : Nat)
structure FnR where
  names : List Str
  body : List Stmt
  scope : Scope
structure Ifc where
  glob : Str → Option AV
  init : FnR
  cls : Str → Option CAttr
  fns : Nat → Option FnR
  lst : Nat → Option (Bool × List AV)
  iLs : Nat → Option (List Int)
noncomputable def notStar : Expr → Bool
  | .Starred .. => false
  | _ => true
noncomputable def noSlice : Expr → Bool
  | .Slice .. => false
  | _ => true
noncomputable def noSet : Expr → Bool
  | .Set .. => false
  | _ => true
noncomputable def plainE : Expr → Bool
  | .ListComp .. | .SetComp .. | .DictComp .. => false
  | _ => true
set_option genCtorIdx true in
inductive Ex where
  | cst (v : AV) | name (x : Str) | attr (x a : Str) | bin (a : Expr) (op : Operator) (b : Expr) | inv (a : Expr) | neg (a : Expr) | cmp (a : Expr) (op : CmpOp) (b : Expr)
  | sub (v i : Expr) | sli (x : Str) (lo hi : Option Expr) | rev (x : Str) (st : Expr) | call (f : Expr) (es : List Expr) | meth (x m : Str) (es : List Expr) | make (x n1 : Str) (e1 : Expr) (n2 : Str) (e2 : Expr)
  | list (es : List Expr) | tup (es : List Expr) | dict0 | bool (op : BoolOp) (es : List Expr) | ife (t a b : Expr) | other
noncomputable def viewC : Const → Ex
  | .int i => .cst (.int i)
  | .none => .cst .none
  | .bool b => .cst (.bool b)
  | .str s => .cst (.str s)
  | _ => .other
noncomputable def nameOf : Expr → Option Str
  | .Name x _ => some x
  | _ => none
theorem nameOf_of {e : Expr} {x : Str} (h : nameOf e = some x) : ∃ p, e = .Name x p := by
  cases e with
  | Name y p => obtain rfl := some_eq h; exact ⟨p, rfl⟩
  | _ => exact no_some h
noncomputable def viewSub (v i : Expr) : Ex := match i with
  | .Slice lo hi st _ => (match nameOf v with
    | some x => (match st with
      | none => .sli x lo hi
      | some e => (match lo, hi with
        | none, none => .rev x e
        | _, _ => .other))
    | none => .other)
  | _ => .sub v i
noncomputable def viewCall (f : Expr) (es : List Expr) (pos : Pos) : Ex := match f with
  | .Attribute o m ap => (match nameOf o with
    | some x => cond (ap.endLine == pos.line && decide (es.length < 30) && es.all notStar) (.meth x m es) .other
    | none => .other)
  | .Name x p => cond (es.all notStar) (.call (.Name x p) es) .other
  | .Subscript v i p => cond (es.all notStar) (.call (.Subscript v i p) es) .other
  | _ => .other
noncomputable def viewMake (f : Expr) (k1 k2 : Keyword) : Ex := match nameOf f, k1.arg, k2.arg with
  | some x, some n1, some n2 => .make x n1 k1.value n2 k2.value
  | _, _, _ => .other
noncomputable def viewX : Expr → Ex
  | .Constant c _ _ => viewC c
  | .Name x _ => .name x
  | .Attribute o a _ => (match nameOf o with
    | some x => .attr x a
    | none => .other)
  | .BinOp a op b _ => .bin a op b
  | .UnaryOp op a _ => (match op with
    | .Invert => .inv a
    | .USub => .neg a
    | _ => .other)
  | .Compare a ops bs _ => (match ops, bs with
    | [op], [b] => cond (noSet b) (.cmp a op b) .other
    | _, _ => .other)
  | .Subscript v i _ => viewSub v i
  | .Call f es ks pos => (match ks with
    | [] => viewCall f es pos
    | [k1, k2] => (match es with
      | [] => viewMake f k1 k2
      | _ => .other)
    | _ => .other)
  | .List es _ => cond (es.all notStar) (.list es) .other
  | .Tuple es _ _ => cond (es.all notStar) (.tup es) .other
  | .Dict ks vs _ => (match ks, vs with
    | [], [] => .dict0
    | _, _ => .other)
  | .BoolOp op es _ => .bool op es
  | .IfExp t a b _ => .ife t a b
  | _ => .other
noncomputable def IsX (e : Expr) : Ex → Prop
  | .cst v => (match v with
    | .int i => ∃ k p, e = .Constant (.int i) k p
    | .none => ∃ k p, e = .Constant .none k p
    | .bool b => ∃ k p, e = .Constant (.bool b) k p
    | .str s => ∃ k p, e = .Constant (.str s) k p
    | _ => False)
  | .name x => ∃ p, e = .Name x p
  | .attr x a => ∃ xp p, e = .Attribute (.Name x xp) a p
  | .bin a op b => ∃ p, e = .BinOp a op b p
  | .inv a => ∃ p, e = .UnaryOp .Invert a p
  | .neg a => ∃ p, e = .UnaryOp .USub a p
  | .cmp a op b => ∃ p, e = .Compare a [op] [b] p ∧ noSet b = true
  | .sub v i => ∃ p, e = .Subscript v i p ∧ noSlice i = true
  | .sli x lo hi => ∃ xp sp p, e = .Subscript (.Name x xp) (.Slice lo hi none sp) p
  | .rev x st => ∃ xp sp p, e = .Subscript (.Name x xp) (.Slice none none (some st) sp) p
  | .call f es => ∃ p, e = .Call f es [] p ∧ es.all notStar = true ∧ ((∃ x xp, f = .Name x xp) ∨ ∃ v i ip, f = .Subscript v i ip)
  | .meth x m es => ∃ xp ap p, e = .Call (.Attribute (.Name x xp) m ap) es [] p ∧ (ap.endLine == p.line && decide (es.length < 30) && es.all notStar) = true
  | .make x n1 e1 n2 e2 => ∃ xp q1 q2 p, e = .Call (.Name x xp) [] [⟨some n1, e1, q1⟩, ⟨some n2, e2, q2⟩] p
  | .list es => ∃ p, e = .List es p ∧ es.all notStar = true
  | .tup es => ∃ k p, e = .Tuple es k p ∧ es.all notStar = true
  | .dict0 => ∃ p, e = .Dict [] [] p
  | .bool op es => ∃ p, e = .BoolOp op es p
  | .ife t a b => ∃ p, e = .IfExp t a b p
  | .other => True
theorem isX_cond {e : Expr} {c : Bool} {v : Ex} (h : c = true → IsX e v) : IsX e (cond c v .other) := by
  cases c with
  | true => exact h rfl
  | false => exact trivial
theorem viewSub_ok {v i : Expr} {p : Pos} : IsX (.Subscript v i p) (viewSub v i) := by
  cases i with
  | Slice lo hi st sp =>
    unfold viewSub
    dsimp only
    cases hv : nameOf v with
    | none => exact trivial
    | some x =>
      obtain ⟨xp, rfl⟩ := nameOf_of hv
      cases st with
      | none => exact ⟨xp, sp, p, rfl⟩
      | some e =>
        cases lo with
        | some _ => exact trivial
        | none =>
          cases hi with
          | some _ => exact trivial
          | none => exact ⟨xp, sp, p, rfl⟩
  | _ => exact ⟨p, rfl, rfl⟩
theorem viewCall_ok {f : Expr} {es : List Expr} {p : Pos} : IsX (.Call f es [] p) (viewCall f es p) := by
  cases f with
  | Attribute o m ap =>
    unfold viewCall
    dsimp only
    cases hv : nameOf o with
    | none => exact trivial
    | some x =>
      obtain ⟨xp, rfl⟩ := nameOf_of hv
      exact isX_cond fun h => ⟨xp, ap, p, rfl, h⟩
  | Name x xp => exact isX_cond fun h => ⟨p, rfl, h, .inl ⟨x, xp, rfl⟩⟩
  | Subscript v i ip => exact isX_cond fun h => ⟨p, rfl, h, .inr ⟨v, i, ip, rfl⟩⟩
  | _ => exact trivial
theorem viewMake_ok {f : Expr} {k1 k2 : Keyword} {p : Pos} : IsX (.Call f [] [k1, k2] p) (viewMake f k1 k2) := by
  obtain ⟨n1, e1, q1⟩ := k1
  obtain ⟨n2, e2, q2⟩ := k2
  unfold viewMake
  dsimp only
  cases hv : nameOf f with
  | none => exact trivial
  | some x =>
    obtain ⟨xp, rfl⟩ := nameOf_of hv
    cases n1 with
    | none => exact trivial
    | some n1 =>
      cases n2 with
      | none => exact trivial
      | some n2 => exact ⟨xp, q1, q2, p, rfl⟩
theorem viewC_ok {c : Const} {k : Nat} {p : Pos} : IsX (.Constant c k p) (viewC c) := by
  cases c with
  | int i => exact ⟨k, p, rfl⟩
  | none => exact ⟨k, p, rfl⟩
  | bool b => exact ⟨k, p, rfl⟩
  | str s => exact ⟨k, p, rfl⟩
  | _ => exact trivial
theorem viewX_ok (e : Expr) : IsX e (viewX e) := by
  cases e with
  | Constant c k p => exact viewC_ok
  | Name x p => exact ⟨p, rfl⟩
  | Attribute o a p =>
    unfold viewX
    dsimp only
    cases hv : nameOf o with
    | none => exact trivial
    | some x =>
      obtain ⟨xp, rfl⟩ := nameOf_of hv
      exact ⟨xp, p, rfl⟩
  | BinOp a op b p => exact ⟨p, rfl⟩
  | UnaryOp op a p =>
    cases op with
    | Invert => exact ⟨p, rfl⟩
    | USub => exact ⟨p, rfl⟩
    | _ => exact trivial
  | Compare a ops bs p =>
    match ops, bs with
    | [op], [b] => exact isX_cond fun h => ⟨p, rfl, h⟩
    | [], _ => exact trivial
    | [_], [] => exact trivial
    | [_], _ :: _ :: _ => exact trivial
    | _ :: _ :: _, _ => exact trivial
  | Subscript v i p => exact viewSub_ok
  | Call f es ks p =>
    match ks, es with
    | [], _ => exact viewCall_ok
    | [k1, k2], [] => exact viewMake_ok
    | [k1, k2], _ :: _ => exact trivial
    | [_], _ => exact trivial
    | _ :: _ :: _ :: _, _ => exact trivial
  | List es p => exact isX_cond fun h => ⟨p, rfl, h⟩
  | Tuple es k p => exact isX_cond fun h => ⟨k, p, rfl, h⟩
  | Dict ks vs p =>
    match ks, vs with
    | [], [] => exact ⟨p, rfl⟩
    | [], _ :: _ => exact trivial
    | _ :: _, _ => exact trivial
  | BoolOp op es p => exact ⟨p, rfl⟩
  | IfExp t a b p => exact ⟨p, rfl⟩
  | _ => exact trivial
inductive Tg where
  | name (x : Str) | attr (x a : Str) | sub (o i : Expr) | sli (x : Str) (lo hi : Option Expr) | tup (ts : List Expr) | other
noncomputable def viewTS (o i : Expr) : Tg := match i with
  | .Slice lo hi st _ => (match st with
    | none => (match nameOf o with
      | some x => .sli x lo hi
      | none => .other)
    | some _ => .other)
  | _ => .sub o i
noncomputable def viewT : Expr → Tg
  | .Name x _ => .name x
  | .Attribute o a _ => (match nameOf o with
    | some x => .attr x a
    | none => .other)
  | .Subscript o i _ => viewTS o i
  | .Tuple ts _ _ => cond (ts.all notStar) (.tup ts) .other
  | _ => .other
noncomputable def IsT (e : Expr) : Tg → Prop
  | .name x => ∃ p, e = .Name x p
  | .attr x a => ∃ xp p, e = .Attribute (.Name x xp) a p
  | .sub o i => ∃ p, e = .Subscript o i p ∧ noSlice i = true
  | .sli x lo hi => ∃ xp sp p, e = .Subscript (.Name x xp) (.Slice lo hi none sp) p
  | .tup ts => ∃ k p, e = .Tuple ts k p ∧ ts.all notStar = true
  | .other => True
theorem viewTS_ok {o : Expr} {p : Pos} {i : Expr} : IsT (.Subscript o i p) (viewTS o i) := by
  cases i with
  | Slice lo hi st sp =>
    cases st with
    | none =>
      unfold viewTS
      dsimp only
      cases hv : nameOf o with
      | none => exact trivial
      | some x =>
        obtain ⟨xp, rfl⟩ := nameOf_of hv
        exact ⟨xp, sp, p, rfl⟩
    | some _ => exact trivial
  | _ => exact ⟨p, rfl, rfl⟩
theorem viewT_ok (e : Expr) : IsT e (viewT e) := by
  cases e with
  | Name x p => exact ⟨p, rfl⟩
  | Attribute o a p =>
    unfold viewT
    dsimp only
    cases hv : nameOf o with
    | none => exact trivial
    | some x =>
      obtain ⟨xp, rfl⟩ := nameOf_of hv
      exact ⟨xp, p, rfl⟩
  | Subscript o i p => exact viewTS_ok
  | Tuple ts k p =>
    unfold viewT
    dsimp only
    cases h : ts.all notStar with
    | true => exact ⟨k, p, rfl, h⟩
    | false => exact trivial
  | _ => exact trivial
inductive St where
  | pass | ret (e : Option Expr) | expr (e : Expr) | asg (t e : Expr) | comp (x : Str) (elt : Expr) (y : Str) (iter : Expr) (cs : Scope) | aug (t : Expr) (op : Operator) (e : Expr)
  | ifs (t : Expr) (b o : List Stmt) | brk | for_ (t e : Expr) (b : List Stmt) | whl (t : Expr) (b : List Stmt) | other
noncomputable def swapOk (ts : List Expr) (e : Expr) : Bool := match e with
  | .Tuple vs _ _ => ts.any (fun t => (nameOf t).isNone) || vs.all (foldedForSure 8)
  | _ => true
structure Cmp where
  elt : Expr
  y : Str
  iter : Expr
  cs : Scope
noncomputable def compOf : Expr → Option Cmp
  | .ListComp elt gens cs _ => (match gens with
    | [g] => cond (g.ifs.isEmpty && g.is_async == 0 && noSet g.iter) ((nameOf g.target).map fun y => ⟨elt, y, g.iter, cs⟩) none
    | _ => none)
  | _ => none
theorem compOf_of {e : Expr} {c : Cmp} (h : compOf e = some c) : ∃ yp p, e = .ListComp c.elt [⟨.Name c.y yp, c.iter, [], 0⟩] c.cs p ∧ noSet c.iter = true := by
  cases e with
  | ListComp elt gens cs p =>
    match gens, h with
    | [⟨t, iter, ifs, asy⟩], h =>
      unfold compOf at h
      dsimp only at h
      cases hc : (ifs.isEmpty && asy == 0 && noSet iter) with
      | false => rw [hc] at h; exact no_some h
      | true =>
        rw [hc] at h
        obtain ⟨y, hy, rfl⟩ := Option.map_eq_some_iff.mp h
        obtain ⟨yp, rfl⟩ := nameOf_of hy
        simp only [Bool.and_eq_true, List.isEmpty_iff, beq_iff_eq] at hc
        obtain ⟨⟨rfl, rfl⟩, h3⟩ := hc
        exact ⟨yp, p, rfl, h3⟩
    | [], h => exact no_some h
    | _ :: _ :: _, h => exact no_some h
  | _ => exact no_some h
noncomputable def viewA (t e : Expr) : St := match compOf e with
  | some c => (match nameOf t with
    | some x => cond (t.pos.line == e.pos.line) (.comp x c.elt c.y c.iter c.cs) .other
    | none => .other)
  | none => cond (plainE e) (.asg t e) .other
noncomputable def viewY : Stmt → St
  | .Pass _ => .pass
  | .Return e _ => .ret e
  | .Expr e _ => cond (plainE e) (.expr e) .other
  | .Assign ts e _ => (match ts with
    | [t] => viewA t e
    | _ => .other)
  | .AugAssign t op e _ => .aug t op e
  | .If t b o _ => .ifs t b o
  | .Break _ => .brk
  | .For t e b els _ => cond (els.isEmpty && noSet e) (.for_ t e b) .other
  | .While t b els _ => cond els.isEmpty (.whl t b) .other
  | _ => .other
noncomputable def IsY (s : Stmt) : St → Prop
  | .pass => ∃ p, s = .Pass p
  | .ret e => ∃ p, s = .Return e p
  | .expr e => ∃ p, s = .Expr e p ∧ plainE e = true
  | .asg t e => ∃ p, s = .Assign [t] e p ∧ plainE e = true
  | .comp x elt y iter cs => ∃ xp yp cp p, s = .Assign [.Name x xp] (.ListComp elt [⟨.Name y yp, iter, [], 0⟩] cs cp) p ∧ noSet iter = true ∧ (xp.line == cp.line) = true
  | .aug t op e => ∃ p, s = .AugAssign t op e p
  | .ifs t b o => ∃ p, s = .If t b o p
  | .brk => ∃ p, s = .Break p
  | .for_ t e b => ∃ p, s = .For t e b [] p ∧ noSet e = true
  | .whl t b => ∃ p, s = .While t b [] p
  | .other => True
theorem isY_cond {s : Stmt} {c : Bool} {v : St} (h : c = true → IsY s v) : IsY s (cond c v .other) := by
  cases c with
  | true => exact h rfl
  | false => exact trivial
theorem viewA_ok {t e : Expr} {p : Pos} : IsY (.Assign [t] e p) (viewA t e) := by
  unfold viewA
  cases hc : compOf e with
  | none => exact isY_cond fun h => ⟨p, rfl, h⟩
  | some c =>
    obtain ⟨yp, cp, rfl, hn⟩ := compOf_of hc
    cases ht : nameOf t with
    | none => exact trivial
    | some x =>
      obtain ⟨xp, rfl⟩ := nameOf_of ht
      exact isY_cond fun h => ⟨xp, yp, cp, p, rfl, hn, h⟩
theorem viewY_ok (s : Stmt) : IsY s (viewY s) := by
  cases s with
  | Pass p => exact ⟨p, rfl⟩
  | Return e p => exact ⟨p, rfl⟩
  | Expr e p => exact isY_cond fun h => ⟨p, rfl, h⟩
  | Assign ts e p =>
    match ts with
    | [t] => exact viewA_ok
    | [] => exact trivial
    | _ :: _ :: _ => exact trivial
  | AugAssign t op e p => exact ⟨p, rfl⟩
  | If t b o p => exact ⟨p, rfl⟩
  | Break p => exact ⟨p, rfl⟩
  | For t e b els p => exact isY_cond fun h => (by
      rw [Bool.and_eq_true, List.isEmpty_iff] at h
      obtain ⟨rfl, h⟩ := h
      exact ⟨p, rfl, h⟩)
  | While t b els p => exact isY_cond fun h => (by
      obtain rfl := List.isEmpty_iff.mp h
      exact ⟨p, rfl⟩)
  | _ => exact trivial
end Mine.Internal
end
section
open PySem PySem.W PySem.Calls PyProof.Rows
set_option genInjectivity false
set_option genSizeOf false
set_option genSizeOfSpec false
namespace Mine.Internal
section
variable (I : Ifc)
noncomputable def sel {β : Type} (f : AO → Option β) (H : HP) (v : AV) : Option β := v.obj?.bind fun i => (H[i]?).bind f
noncomputable def fld (H : HP) (v : AV) : Option (Nat × List (Str × AV)) := (sel AO.inst? H v).bind fun d => (sel AO.ns? H (.obj d)).map fun fs => (d, fs)
noncomputable def isBi : AV → Bool
  | .bi _ => true
  | _ => false
noncomputable def getA (attr : Str) (v : AV) (H : HP) : T (AV × HP) := .opt (fld H v) fun q => .opt (I.cls attr) fun c => match c with
  | .field => .opt (q.2.lookup attr) fun x => .need (!isBi x) (.ret (x, H))
  | .int i => .need (q.2.lookup attr).isNone (.ret (.int i, H))
  | .lst k => .need (q.2.lookup attr).isNone (.ret (.lst k, H))
  | .fn k => .need (q.2.lookup attr).isNone (.ret (.obj H.length, H ++ [.meth k v]))
noncomputable def fnOfC : CAttr → Option Nat
  | .fn k => some k
  | _ => none
noncomputable def isField : CAttr → Bool
  | .field => true
  | _ => false
noncomputable def getM (attr : Str) (v : AV) (H : HP) : T Nat := .opt (fld H v) fun q => .opt ((I.cls attr).bind fnOfC) fun k => .need (q.2.lookup attr).isNone (.ret k)
noncomputable def setF (x : Str) (v : AV) : List (Str × AV) → List (Str × AV)
  | [] => [(x, v)]
  | (y, u) :: r => if y = x then (y, v) :: r else (y, u) :: setF x v r
noncomputable def setA (attr : Str) (o v : AV) (H : HP) : T HP := .opt (fld H o) fun q => .opt (I.cls attr) fun c => .need (isField c && decide ((setF attr v q.2).length ≤ 1000)) (.ret (H.set q.1 (.ns (setF attr v q.2))))
noncomputable def numsO (H : HP) (v : AV) : Option (List Int) := sel AO.nums? H v
noncomputable def numsV (H : HP) (v : AV) : Option (List Int) := match v.lst? with
  | some k => I.iLs k
  | none => numsO H v
noncomputable def numsX (H : HP) (v : AV) : Option (List Int) := match v.lst? with
  | some k => cond (Nat.beq k 3) none (I.iLs k)
  | none => numsO H v
noncomputable def tabO (H : HP) (v : AV) : Option (List (Int × Int)) := sel AO.tab? H v
noncomputable def binN (op : Operator) (x y : Int) : T Int := match op with
  | .Add => .ret (x + y)
  | .Sub => .ret (x - y)
  | .BitAnd => .ret (Builtin.bitAnd x y)
  | .BitOr => .ret (Builtin.bitOr x y)
  | .BitXor => .ret (Builtin.bitXor x y)
  | .LShift => .need (decide (0 ≤ y) && decide (y ≤ 1000000) && decide (x.natAbs < 2 ^ 64)) (.ret (x * 2 ^ y.toNat))
  | .RShift => .need (decide (0 ≤ y)) (.ret (x.fdiv (2 ^ y.toNat)))
  | .Mult => .need (decide (x.natAbs < 1073741824) || decide (y.natAbs < 1073741824)) (.ret (x * y))
  | .FloorDiv => .need (y != 0 && decide (y.natAbs < 1073741824)) (.ret (x.fdiv y))
  | .Mod => .need (y != 0) (.ret (x.fmod y))
  | _ => .fail
noncomputable def isAdd : Operator → Bool
  | .Add => true
  | _ => false
noncomputable def isMul : Operator → Bool
  | .Mult => true
  | _ => false
noncomputable def binL (op : Operator) (a b : AV) (H : HP) : T (AV × HP) := .opt (numsX I H a) fun xs => match b.int? with
  | some k => .need (isMul op && decide (0 ≤ k) && decide (k < 2 ^ 63) && decide (xs.length * k.toNat ≤ 2 ^ 24)) (.ret (.obj H.length, H ++ [.nums (List.replicate k.toNat xs).flatten]))
  | none => .opt (numsX I H b) fun ys => .need (isAdd op && decide (xs.length + ys.length ≤ 2 ^ 24)) (.ret (.obj H.length, H ++ [.nums (xs ++ ys)]))
noncomputable def binI (op : Operator) (a b : AV) (H : HP) : T (AV × HP) := match a.int? with
  | some x => .opt b.int? fun y => (binN op x y).bind fun z => .ret (.int z, H)
  | none => binL I op a b H
noncomputable def extI (op : Operator) (a : Nat) (b : AV) (H : HP) : T HP := .opt (numsO H (.obj a)) fun xs => .opt b.obj? fun j => .opt (numsO H b) fun ys =>
  .need (isAdd op && !Nat.beq a j && !ys.isEmpty && decide (xs.length + ys.length ≤ 2 ^ 24)) (.ret (H.set a (.nums (xs ++ ys))))
noncomputable def isInts : List AV → Option (List Int)
  | [] => some []
  | .int i :: r => (isInts r).map (i :: ·)
  | _ => none
noncomputable def upto (a : Int) : Nat → List Int
  | 0 => []
  | n + 1 => a :: upto (a + 1) n
noncomputable def bltI (id : String) (vs : List AV) (H : HP) : T (AV × HP) := match vs with
  | [] => .fail
  | v :: r => (match r with
    | [] => (match id with
      | "len" => .opt (numsO H v) fun xs => .need (decide (xs.length < 2 ^ 62)) (.ret (.int xs.length, H))
      | "sum" => .opt (numsO H v) fun xs => .ret (.int xs.sum, H)
      | _ => .fail)
    | u :: r => (match id with
      | "max" => .opt v.int? fun x => .opt u.int? fun y => .need r.isEmpty (.ret (.int (if x < y then y else x), H))
      | _ => .fail))
noncomputable def tyI (n : String) (vs : List AV) (H : HP) : T (AV × HP) := match vs with
  | [] => .fail
  | v :: r => (match n with
    | "range" => .opt v.int? fun x => (match r with
      | [] => .need (decide (0 ≤ x) && decide (x ≤ 1000000)) (.ret (.obj H.length, H ++ [.rng 0 x]))
      | u :: r => .opt u.int? fun y => .need (r.isEmpty && decide (0 ≤ x) && decide (x ≤ y) && decide (y ≤ 1000000)) (.ret (.obj H.length, H ++ [.rng x y])))
    | "list" => .opt (sel AO.rng? H v) fun q => .need (r.isEmpty && decide (0 ≤ q.1) && decide (q.1 ≤ q.2) && decide (q.2 ≤ 1000000)) (.ret (.obj H.length, H ++ [.nums (upto q.1 (q.2 - q.1).toNat)]))
    | _ => .fail)
noncomputable def dispI (tup : Bool) (vs : List AV) (H : HP) : T (AV × HP) := .need (decide (vs.length ≤ 100000)) (.ret (.obj H.length, H ++ [match tup, isInts vs with
  | false, some xs => .nums xs
  | _, _ => .seq tup vs]))
noncomputable def seqInts (H : HP) (v : AV) : Option (Bool × List Int) := match numsO H v with
  | some xs => some (false, xs)
  | none => (sel AO.seq? H v).bind fun q => (isInts q.2).map (q.1, ·)
noncomputable def loI (v : Option Int) (n : Nat) : Nat := match v with
  | none => 0
  | some x => if x < 0 then n - (-x).toNat else min x.toNat n
noncomputable def hiI (v : Option Int) (n : Nat) : Nat := match v with
  | none => n
  | some y => if y < 0 then n - (-y).toNat else min y.toNat n
noncomputable def pickI (xs : List Int) (lo hi : Option Int) : List Int := (xs.drop (loI lo xs.length)).take (hiI hi xs.length - loI lo xs.length)
noncomputable def sliceI (o : AV) (lo hi : Option Int) (H : HP) : T (AV × HP) := .opt (numsV I H o) fun xs => .need (decide (xs.length ≤ 2 ^ 24)) (.ret (.obj H.length, H ++ [.nums (pickI xs lo hi)]))
noncomputable def revI (o st : AV) (H : HP) : T (AV × HP) := .opt (numsO H o) fun xs => .opt st.int? fun k => .need (k == -1 && decide (xs.length ≤ 2 ^ 24)) (.ret (.obj H.length, H ++ [.nums xs.reverse]))
set_option genCtorIdx true in
inductive CK where | eq | ne | lt | le | gt | ge | is | inn | nin | other
noncomputable def ckOf : CmpOp → CK
  | .Eq => .eq
  | .NotEq => .ne
  | .Lt => .lt
  | .LtE => .le
  | .Gt => .gt
  | .GtE => .ge
  | .Is => .is
  | .In => .inn
  | .NotIn => .nin
  | .IsNot => .other
noncomputable def cmpN (op : CK) (x y : Int) : T Bool := match op with
  | .eq => .ret (x == y)
  | .ne => .ret (x != y)
  | .lt => .ret (decide (x < y))
  | .le => .ret (decide (x ≤ y))
  | .gt => .ret (decide (x > y))
  | .ge => .ret (decide (x ≥ y))
  | _ => .fail
noncomputable def inI (x : Int) (b : AV) (H : HP) : T Bool := match tabO H b with
  | some kvs => .ret (kvs.lookup x).isSome
  | none => .opt (numsO H b) fun xs => .ret (xs.any (· == x))
noncomputable def isNone : AV → Option Bool
  | .none => some true
  | .obj _ => some false
  | .int _ => some false
  | _ => none
noncomputable def isNoneV : AV → Bool
  | .none => true
  | _ => false
noncomputable def eqS (a b : AV) (H : HP) : T Bool := .opt (seqInts H a) fun p => .opt (seqInts H b) fun q => .need (p.1 == q.1) (.ret (decide (p.2 = q.2)))
noncomputable def cmpI (op : CmpOp) (a b : AV) (H : HP) : T Bool := match ckOf op with
  | .is => .opt (isNone a) fun c => .need (isNoneV b) (.ret c)
  | .inn => .opt a.int? fun x => inI x b H
  | .nin => .opt a.int? fun x => (inI x b H).bind fun c => .ret (!c)
  | k => (match a.int? with
    | some x => .opt b.int? fun y => cmpN k x y
    | none => (match k with
      | .eq => eqS a b H
      | .ne => (eqS a b H).bind fun c => .ret (!c)
      | _ => .fail))
noncomputable def okIx (k : Int) (n : Nat) : Bool := decide (0 ≤ k) && decide (k < 2 ^ 63) && decide (k.toNat < n)
noncomputable def itemI (o i : AV) (H : HP) : T (AV × HP) := .opt i.int? fun k => match o.lst? with
  | some a => .opt (I.lst a) fun q => .opt (q.2[k.toNat]?) fun x => .need (decide (0 ≤ k) && decide (k < 2 ^ 63) && !q.1) (.ret (x, H))
  | none => (match tabO H o with
    | some kvs => .opt (kvs.lookup k) fun v => .ret (.int v, H)
    | none => .opt (numsO H o) fun xs => .need (okIx k xs.length) (.ret (.int (xs.getD k.toNat 0), H)))
noncomputable def setI (o i v : AV) (H : HP) : T HP := .opt o.obj? fun a => .opt i.int? fun k => .opt v.int? fun x => match tabO H o with
  | some kvs => .need ((kvs.lookup k).isNone && decide (kvs.length ≤ 1000)) (.ret (H.set a (.tab ((k, x) :: kvs))))
  | none => .opt (numsO H o) fun xs => .need (okIx k xs.length) (.ret (H.set a (.nums (xs.set k.toNat x))))
noncomputable def layI (xs : List Int) (lo hi : Option Int) (ys : List Int) : List Int := xs.take (loI lo xs.length) ++ ys ++ xs.drop (max (loI lo xs.length) (hiI hi xs.length))
noncomputable def setS (o : AV) (lo hi : Option Int) (v : AV) (H : HP) : T HP := .opt o.obj? fun a => .opt v.obj? fun j => .opt (numsO H o) fun xs => .opt (numsO H v) fun ys =>
    .need (!Nat.beq a j && decide (xs.length + ys.length ≤ 2 ^ 24)) (.ret (H.set a (.nums (layI xs lo hi ys))))
variable (F : Fns)
noncomputable def evs (dp : Nat) (sc : Scope) : List Expr → Loc → HP → T (List AV × HP)
  | [], _, H => .ret ([], H)
  | e :: r, l, H => (F.ev dp sc e l H).bind fun p => (evs dp sc r l p.2).bind fun q => .ret (p.1 :: q.1, q.2)
noncomputable def callI (dp : Nat) (f : AV) (vs : List AV) (H : HP) : T (AV × HP) := match f with
  | .fn a => .need (I.fns a).isSome (F.cl dp a vs H)
  | .obj i => .opt (sel AO.meth? H (.obj i)) fun q => .need (I.fns q.1).isSome (F.cl dp q.1 (q.2 :: vs) H)
  | .bi id => bltI id vs H
  | .ty n => tyI n vs H
  | _ => .fail
noncomputable def renV (a b : Nat) (v : AV) : Option AV := match v.obj? with
  | some j => (match Nat.beq j a with | true => some (.obj b) | false => none)
  | none => some v
noncomputable def renF (a b : Nat) : List (Str × AV) → Option (List (Str × AV))
  | [] => some []
  | p :: r => (renV a b p.2).bind fun v => (renF a b r).map fun r' => (p.1, v) :: r'
noncomputable def objOf : List (Str × AV) → Option Nat
  | [] => none
  | p :: r => match p.2.obj? with
    | some j => some j
    | none => objOf r
noncomputable def isObj0 (v : AV) : Bool := match v.obj? with
  | some k => Nat.beq k 0
  | none => false
noncomputable def back3 (i d m : Nat) (H : HP) (r : AV × HP) : T (AV × HP) := .need (isObj0 r.1 && Nat.beq r.2.length 3) (.opt (sel AO.inst? r.2 (.obj 0)) fun k => .need (Nat.beq k 1) (.opt (sel AO.ns? r.2 (.obj 1)) fun fs => .opt (sel AO.nums? r.2 (.obj 2)) fun xs =>
  .opt (renF 2 m fs) fun fs' => .ret (.obj i, (H.set d (.ns fs')).set m (.nums xs))))
noncomputable def cl3 (dp : Nat) (k : Nat) (i d m : Nat) (fs : List (Str × AV)) (H : HP) : T (AV × HP) := .opt (numsO H (.obj m)) fun xs => .opt (renF m 2 fs) fun fs2 =>
  (F.cl dp k [.obj 0] [.inst 1, .ns fs2, .nums xs]).bind fun r => back3 i d m H r
noncomputable def clC (dp : Nat) (nm : Str) (k : Nat) (vs : List AV) (H : HP) : T (AV × HP) := match nm == ("step" : Str) with
  | false => F.cl dp k vs H
  | true => (match vs with
    | [] => .fail
    | v :: r => .need r.isEmpty (.opt v.obj? fun i => .opt (fld H v) fun q => .opt (objOf q.2) fun m => cl3 F dp k i q.1 m q.2 H))
noncomputable def makeB (dp : Nat) (v1 v2 : AV) (H : HP) : T (AV × HP) := (F.xs dp I.init.scope I.init.body [("pc", v2), ("memory", v1), ("self", .obj (H.length + 1))] (H ++ [.ns []] ++ [.inst H.length])).bind fun r => match r.1 with
  | .next => .ret (.obj (H.length + 1), r.2.2)
  | _ => .fail
noncomputable def makeI (dp : Nat) (k1 k2 : Str) (v1 v2 : AV) (H : HP) : T (AV × HP) := match dp with
  | dp + 2 => .need (I.init.names == ([("self" : Str), "memory", "pc"]) && k1 == ("memory" : Str) && k2 == ("pc" : Str)) (makeB I F dp v1 v2 H)
  | _ => .fail
noncomputable def evO (dp : Nat) (sc : Scope) (e : Option Expr) (l : Loc) (H : HP) : T (Option Int × HP) := match e with
  | none => .ret (none, H)
  | some e => (F.ev dp sc e l H).bind fun r => .opt r.1.int? fun i => .need (decide (-(2 ^ 62) ≤ i) && decide (i ≤ 2 ^ 62)) (.ret (some i, r.2))
noncomputable def truI (v : AV) (H : HP) : T Bool := match v with
  | .int x => .ret (x != 0)
  | .bool b => .ret b
  | .none => .ret false
  | .lst k => .opt (I.iLs k) fun xs => .ret (!xs.isEmpty)
  | _ => .fail
noncomputable def cmpE (dp : Nat) (sc : Scope) (a : Expr) (op : CmpOp) (b : Expr) (l : Loc) (H : HP) : T (Bool × HP) := (F.ev dp sc a l H).bind fun r => (F.ev dp sc b l r.2).bind fun q => (cmpI op r.1 q.1 q.2).bind fun c => .ret (c, q.2)
noncomputable def tsAll (dp : Nat) (sc : Scope) (isAnd : Bool) : List Expr → Loc → HP → T (Bool × HP)
  | [], _, H => .ret (isAnd, H)
  | e :: r, l, H => (F.ts dp sc e l H).bind fun c => .br (c.1 == isAnd) (tsAll dp sc isAnd r l c.2) (.ret (!isAnd, c.2))
noncomputable def isAnd : BoolOp → Bool
  | .And => true
  | .Or => false
noncomputable def tstV (dp : Nat) (sc : Scope) (e : Expr) (l : Loc) (H : HP) (v : Ex) : T (Bool × HP) := match v with
  | .cmp a op b => cmpE F dp sc a op b l H
  | .bool op es => tsAll F dp sc (isAnd op) es l H
  | .bin .. | .name .. | .attr .. => (F.ev dp sc e l H).bind fun r => (truI I r.1 r.2).bind fun c => .ret (c, r.2)
  | _ => .fail
noncomputable def tstI (dp : Nat) (sc : Scope) (e : Expr) (l : Loc) (H : HP) : T (Bool × HP) := tstV I F dp sc e l H (viewX e)
noncomputable def evBools (dp : Nat) (sc : Scope) (isAnd : Bool) : List Expr → Loc → HP → T (AV × HP)
  | [], _, _ => .fail
  | e :: r, l, H => (F.ev dp sc e l H).bind fun q => .opt q.1.bool? fun c => match r with
    | [] => .ret (.bool c, q.2)
    | _ :: _ => .br (c == isAnd) (evBools dp sc isAnd r l q.2) (.ret (.bool (!isAnd), q.2))
noncomputable def isCls : AV → Bool
  | .cls => true
  | _ => false
noncomputable def lkN (sc : Scope) (x : Str) (l : Loc) : Option AV := match x == ("__debug__" : Str) with
  | true => none
  | false => (match sc.names.lookup x with
    | some .local => l.lookup x
    | some .cell => l.lookup x
    | some .free => (match x == ("self" : Str) with | true => l.lookup x | false => none)
    | some .globalImplicit => I.glob x
    | _ => none)
noncomputable def evV (dp : Nat) (sc : Scope) (l : Loc) (H : HP) (v : Ex) : T (AV × HP) := match v with
  | .cst v => .ret (v, H)
  | .name x => .opt (lkN I sc x l) fun v => .ret (v, H)
  | .attr x a => .opt (lkN I sc x l) fun v => getA I a v H
  | .bin a op b => (F.ev dp sc a l H).bind fun r => (F.ev dp sc b l r.2).bind fun q => binI I op r.1 q.1 q.2
  | .inv a => (F.ev dp sc a l H).bind fun r => .opt r.1.int? fun x => .ret (.int (Builtin.bitNot x), r.2)
  | .neg a => (F.ev dp sc a l H).bind fun r => .opt r.1.int? fun x => .ret (.int (-x), r.2)
  | .cmp a op b => (cmpE F dp sc a op b l H).bind fun q => .ret (.bool q.1, q.2)
  | .sub v i => (F.ev dp sc v l H).bind fun r => (F.ev dp sc i l r.2).bind fun q => itemI I r.1 q.1 q.2
  | .sli x lo hi => .opt (lkN I sc x l) fun v => (evO F dp sc lo l H).bind fun a => (evO F dp sc hi l a.2).bind fun b => sliceI I v a.1 b.1 b.2
  | .rev x st => .opt (lkN I sc x l) fun v => (F.ev dp sc st l H).bind fun q => revI v q.1 q.2
  | .call f es => (F.ev dp sc f l H).bind fun r => (evs F dp sc es l r.2).bind fun q => callI I F dp r.1 q.1 q.2
  | .meth x m es => .opt (lkN I sc x l) fun v => ((getM I m v H).bind fun g => (evs F dp sc es l H).bind fun q => clC F dp m g (v :: q.1) q.2)
  | .make x n1 e1 n2 e2 => .opt (lkN I sc x l) fun v => .need (isCls v) ((F.ev dp sc e1 l H).bind fun a => (F.ev dp sc e2 l a.2).bind fun b => makeI I F dp n1 n2 a.1 b.1 b.2)
  | .list es => (evs F dp sc es l H).bind fun q => dispI false q.1 q.2
  | .tup es => (evs F dp sc es l H).bind fun q => dispI true q.1 q.2
  | .dict0 => .ret (.obj H.length, H ++ [.tab []])
  | .bool op es => evBools F dp sc (isAnd op) es l H
  | .ife t a b => (tstI I F dp sc t l H).bind fun r => .br r.1 (F.ev dp sc a l r.2) (F.ev dp sc b l r.2)
  | .other => .fail
noncomputable def evI (dp : Nat) (sc : Scope) (e : Expr) (l : Loc) (H : HP) : T (AV × HP) := evV I F dp sc l H (viewX e)
noncomputable def setL (x : Str) (v : AV) (l : Loc) : Loc := setF x v l
noncomputable def isVar : Option NameKind → Bool
  | some .local => true
  | some .cell => true
  | _ => false
noncomputable def bndN (sc : Scope) (x : Str) (v : AV) (l : Loc) : T Loc := .need (isVar (sc.names.lookup x)) (.ret (setL x v l))
noncomputable def asgV (dp : Nat) (sc : Scope) (v : AV) (l : Loc) (H : HP) (t : Tg) : T (Loc × HP) := match t with
  | .name x => (bndN sc x v l).bind fun l' => .ret (l', H)
  | .attr x a => .opt (lkN I sc x l) fun o => (setA I a o v H).bind fun H' => .ret (l, H')
  | .sub o i => (F.ev dp sc o l H).bind fun r => (F.ev dp sc i l r.2).bind fun q => (setI r.1 q.1 v q.2).bind fun H' => .ret (l, H')
  | _ => .fail
noncomputable def asgI (dp : Nat) (sc : Scope) (t : Expr) (v : AV) (l : Loc) (H : HP) : T (Loc × HP) := asgV I F dp sc v l H (viewT t)
noncomputable def asgsI (dp : Nat) (sc : Scope) : List Expr → List AV → Loc → HP → T (Loc × HP)
  | [], [], l, H => .ret (l, H)
  | t :: ts, v :: vs, l, H => (asgI I F dp sc t v l H).bind fun r => asgsI dp sc ts vs r.1 r.2
  | _, _, _, _ => .fail
noncomputable def lineN (sc : Scope) (line : Nat) : Expr → Option Str
  | .Name id pos => if (sc.names.lookup id == some .local && pos.line == line) = true then some id else none
  | _ => none
noncomputable def tupE : Expr → Option (List Expr)
  | .Tuple vs _ _ => some vs
  | _ => none
noncomputable def swpN (sc : Scope) (ts : List Expr) (e : Expr) : Option (List Str) := (tupE e).bind fun vs => (fun names : List Str =>
  cond ((ts.length == 2 || ts.length == 3) && vs.length == ts.length && vs.all notStar && names.length == ts.length && names.eraseDups.length == names.length && !vs.all (foldedForSure 8) && !vs.all (constantsAlone 8)) (some names) none) (ts.filterMap (lineN sc ((ts.head?.map (·.pos.line)).getD 0)))
noncomputable def bndsI (sc : Scope) : List Str → List AV → Loc → T Loc
  | [], [], l => .ret l
  | x :: xs, v :: vs, l => (bndN sc x v l).bind (bndsI sc xs vs)
  | _, _, _ => .fail
noncomputable def tupV (v : AV) (H : HP) : Option (List AV) := match v.lst? with
  | some k => (I.lst k).bind fun q => cond q.1 (some q.2) none
  | none => (sel AO.seq? H v).bind fun q => cond q.1 (some q.2) none
noncomputable def asgTV (dp : Nat) (sc : Scope) (v : AV) (l : Loc) (H : HP) (t : Tg) : T (Loc × HP) := match t with
  | .tup ts => .opt (tupV I v H) fun vs => asgsI I F dp sc ts vs l H
  | t => asgV I F dp sc v l H t
noncomputable def asgT (dp : Nat) (sc : Scope) (t : Expr) (v : AV) (l : Loc) (H : HP) : T (Loc × HP) := asgTV I F dp sc v l H (viewT t)
noncomputable def dropL (x : Str) (l : Loc) : Loc := l.filter fun p => !(p.1 == x)
noncomputable def dropT (t : Expr) (l : Loc) : Loc := match viewT t with
  | .name x => dropL x l
  | .tup ts => ts.foldl (fun l t => match nameOf t with | some x => dropL x l | none => l) l
  | _ => l
noncomputable def allBelow (n : Nat) : AV → Bool
  | .obj i => decide (i < n)
  | _ => true
noncomputable def objBelow (n : Nat) : AO → Bool
  | .inst d => decide (d < n)
  | .ns fs => fs.all fun p => allBelow n p.2
  | .seq _ xs => xs.all (allBelow n)
  | .meth _ s => allBelow n s
  | _ => true
noncomputable def keepI (n : Nat) (v : AV) : Option Nat := v.obj?.bind fun i => cond (Nat.ble n i) (some i) none
noncomputable def keepK (n : Nat) (l : Loc) : List Nat := l.filterMap fun p => keepI n p.2
noncomputable def leafO : AO → Bool
  | .nums _ => true
  | .tab _ => true
  | .rng .. => true
  | _ => false
noncomputable def renK (n : Nat) (ks : List Nat) (v : AV) : AV := match keepI n v with
  | some i => .obj (n + ks.idxOf i)
  | none => v
noncomputable def nodupK : List Nat → Bool
  | [] => true
  | k :: ks => ks.all (fun j => !Nat.beq k j) && nodupK ks
noncomputable def leafAt (H : HP) (k : Nat) : Bool := match H[k]? with
  | some o => leafO o
  | none => false
noncomputable def sweepK (n : Nat) (l : Loc) (H : HP) (ks : List Nat) : Loc × HP := match (H.take n).all (objBelow n) && nodupK ks && ks.all (leafAt H) with
  | true => (l.map (fun p => (p.1, renK n ks p.2)), H.take n ++ ks.map fun k => H.getD k (.rng 0 0))
  | false => (l, H)
noncomputable def sweepL (n : Nat) (l : Loc) (H : HP) : Loc × HP := sweepK n l H (keepK n l)
noncomputable def nxtL (q : Loc × HP) : AF × Loc × HP := (.next, q.1, q.2)
inductive Itr where | lst (i : Nat) | rng (a b : Int)
noncomputable def listO (H : HP) (v : AV) : Bool := (numsO H v).isSome || (match sel AO.seq? H v with | some q => !q.1 | none => false)
noncomputable def itrOf (v : AV) (H : HP) : Option Itr := match sel AO.rng? H v with
  | some q => cond (decide (0 ≤ q.1) && decide (q.1 ≤ q.2) && decide (q.2 ≤ 1000000)) (some (.rng q.1 q.2)) none
  | none => v.obj?.bind fun i => cond (listO H v) (some (.lst i)) none
noncomputable def nxI (w : Itr) (k : Nat) (H : HP) : Option (Option AV) := match w with
  | .rng a b => some (if a + (k : Int) < b then some (.int (a + (k : Int))) else none)
  | .lst i => (match numsO H (.obj i) with
    | some xs => some ((xs[k]?).map .int)
    | none => (sel AO.seq? H (.obj i)).bind fun q => cond q.1 none (some q.2[k]?))
noncomputable def lenI (w : Itr) (H : HP) : Nat := match w with
  | .rng a b => (b - a).toNat
  | .lst i => (match numsO H (.obj i) with
    | some xs => xs.length
    | none => (match sel AO.seq? H (.obj i) with
      | some q => q.2.length
      | none => 0))
noncomputable def forI (dp : Nat) (sc : Scope) (t : Expr) (body : List Stmt) (v : Itr) (n0 : Nat) : Nat → Nat → Loc → HP → T (AF × Loc × HP)
  | 0, _, _, _ => .fail
  | n + 1, k, l, H => .opt (nxI v k H) fun nx => match nx with
    | none => .ret (.next, dropT t l, H)
    | some u => (asgT I F dp sc t u l H).bind fun q => (F.xs dp sc body q.1 q.2).bind fun r => (match r.1 with
      | .ret v => .ret (.ret v, r.2.1, r.2.2)
      | .brk => .ret (nxtL (sweepL n0 (dropT t r.2.1) r.2.2))
      | _ => (fun q : Loc × HP => forI dp sc t body v n0 n (k + 1) q.1 q.2) (sweepL n0 r.2.1 r.2.2))
noncomputable def arI (ν : Str → Option Int) : Nat → Expr → T Int
  | 0, _ => .fail
  | n + 1, e => match viewX e with
    | .cst (.int i) => .ret i
    | .name x => .opt (ν x) .ret
    | .bin a op b => (arI ν n a).bind fun x => (arI ν n b).bind fun y => binN op x y
    | _ => .fail
noncomputable def arM (ν : Int → Str → Option Int) (elt : Expr) : List Int → T (List Int)
  | [] => .ret []
  | z :: zs => (arI (ν z) 8 elt).bind fun x => (arM ν elt zs).bind fun xs => .ret (x :: xs)
noncomputable def compOk (sc cs : Scope) (y : Str) : Bool := cs.kind == .function && cs.names.all (fun p => p.2 != .cell && (p.2 != .local || cs.names.lookup p.1 == some .local) && (p.2 != .free || sc.names.lookup p.1 == some .cell)) && cs.names.lookup y == some .local
noncomputable def compV (cs : Scope) (y : Str) (l : Loc) (z : Int) (x : Str) : Option Int := match x == y, x == ("__debug__" : Str) with
  | true, false => some z
  | false, false => (match cs.names.lookup x with
    | some .free => (l.lookup x).bind AV.int?
    | _ => none)
  | _, _ => none
noncomputable def srcI (v : AV) (H : HP) : Option (List Int) := match numsO H v with
  | some xs => some xs
  | none => (sel AO.rng? H v).bind fun q => cond (decide (0 ≤ q.1) && decide (q.1 ≤ q.2) && decide (q.2 ≤ 1000000)) (some (upto q.1 (q.2 - q.1).toNat)) none
noncomputable def compI (dp : Nat) (sc : Scope) (x : Str) (elt : Expr) (y : Str) (iter : Expr) (cs : Scope) (l : Loc) (H : HP) : T (AF × Loc × HP) :=
  .need (compOk sc cs y && sc.names.lookup x == some .local && (cs.names.lookup x).isNone) ((F.ev dp sc iter l H).bind fun r => .opt (srcI r.1 r.2) fun zs => .need (decide (zs.length ≤ 100000))
    ((arM (compV cs y l) elt zs).bind fun xs => .ret (.next, setL x (.obj r.2.length) l, r.2 ++ [.nums xs])))
noncomputable def augV (dp : Nat) (sc : Scope) (op : Operator) (e : Expr) (l : Loc) (H : HP) (t : Tg) : T (AF × Loc × HP) := match t with
  | .name x => .need (isVar (sc.names.lookup x) && !(x == ("__debug__" : Str))) (.opt (l.lookup x) fun a => (F.ev dp sc e l H).bind fun r => (match a.int? with
    | some a => .opt r.1.int? fun b => (binN op a b).bind fun z => .ret (.next, setL x (.int z) l, r.2)
    | none => .opt a.obj? fun a => (extI op a r.1 r.2).bind fun H' => .ret (.next, setL x (.obj a) l, H')))
  | .attr x a => .opt (lkN I sc x l) fun o => (getA I a o H).bind fun u => .opt u.1.int? fun a' => (F.ev dp sc e l u.2).bind fun r => .opt r.1.int? fun b =>
    (binN op a' b).bind fun z => (setA I a o (.int z) r.2).bind fun H' => .ret (.next, l, H')
  | _ => .fail
noncomputable def asgS (dp : Nat) (sc : Scope) (e : Expr) (l : Loc) (H : HP) (t : Tg) : T (AF × Loc × HP) := match t with
  | .tup ts => (match swapOk ts e with
    | true => (F.ev dp sc e l H).bind fun r => .opt (tupV I r.1 r.2) fun vs => (asgsI I F dp sc ts vs l r.2).bind fun q => .ret (.next, q.1, q.2)
    | false => .opt (swpN sc ts e) fun ns => (F.ev dp sc e l H).bind fun r => .opt (tupV I r.1 r.2) fun vs => .need (ns.length == vs.length) ((bndsI sc ns.reverse vs.reverse l).bind fun l' => .ret (.next, l', r.2)))
  | .sli x lo hi => (F.ev dp sc e l H).bind fun r => .opt (lkN I sc x l) fun o => (evO F dp sc lo l r.2).bind fun a => (evO F dp sc hi l a.2).bind fun b => (setS o a.1 b.1 r.1 b.2).bind fun H' => .ret (.next, l, H')
  | .other => .fail
  | t => (F.ev dp sc e l H).bind fun r => (asgV I F dp sc r.1 l r.2 t).bind fun q => .ret (.next, q.1, q.2)
noncomputable def stV (dp : Nat) (sc : Scope) (l : Loc) (H : HP) (s : St) : T (AF × Loc × HP) := match s with
  | .pass => .ret (.next, l, H)
  | .ret eo => (match eo with
    | some e => (F.ev dp sc e l H).bind fun r => .ret (.ret r.1, l, r.2)
    | none => .ret (.ret .none, l, H))
  | .expr e => (F.ev dp sc e l H).bind fun r => .ret (.next, l, r.2)
  | .asg t e => asgS I F dp sc e l H (viewT t)
  | .comp x elt y iter cs => compI F dp sc x elt y iter cs l H
  | .aug t op e => augV I F dp sc op e l H (viewT t)
  | .ifs t b o => (tstI I F dp sc t l H).bind fun r => .br r.1 (F.xs dp sc b l r.2) (F.xs dp sc o l r.2)
  | .brk => .ret (.brk, l, H)
  | .for_ t e b => (F.ev dp sc e l H).bind fun r => .opt (itrOf r.1 r.2) fun w => forI I F dp sc t b w r.2.length (lenI w r.2 + 1) 0 l r.2
  | .whl t b => .fail
  | .other => .fail
noncomputable def stI (dp : Nat) (sc : Scope) (s : Stmt) (l : Loc) (H : HP) : T (AF × Loc × HP) := stV I F dp sc l H (viewY s)
noncomputable def xsI (dp : Nat) (sc : Scope) (ss : List Stmt) (l : Loc) (H : HP) : T (AF × Loc × HP) := match ss with
  | [] => .ret (.next, l, H)
  | s :: r => (stI I F dp sc s l H).bind fun p => (match p.1 with
    | .next => F.xs dp sc r p.2.1 p.2.2
    | f => .ret (f, p.2.1, p.2.2))
noncomputable def sweep (n : Nat) (v : AV) (H : HP) : AV × HP := match allBelow n v && (H.take n).all (objBelow n) with
  | true => (v, H.take n)
  | false => (v, H)
noncomputable def retV : AF → Option AV
  | .ret v => some v
  | .next => some .none
  | _ => none
noncomputable def clF (dp : Nat) (k : Nat) (vs : List AV) (H : HP) : T (AV × HP) := match dp with
  | 0 => .fail
  | dp + 1 => .opt (I.fns k) fun r => .need (decide (r.names.length = vs.length)) ((F.xs dp r.scope r.body (r.names.zip vs).reverse H).bind fun z => .opt (retV z.1) fun v => .ret (sweep H.length v z.2.2))
noncomputable def clI (dp : Nat) (k : Nat) (vs : List AV) (H : HP) : T (AV × HP) := match Nat.beq k 7 with
  | true => .fail
  | false => clF I F dp k vs H
noncomputable def stepF : Fns := ⟨evI I F, xsI I F, clI I F, tstI I F⟩
end
noncomputable def failF : Fns := ⟨fun _ _ _ _ _ => .fail, fun _ _ _ _ _ => .fail, fun _ _ _ _ => .fail, fun _ _ _ _ _ => .fail⟩
noncomputable def fns (I : Ifc) : Nat → Fns
  | 0 => failF
  | n + 1 => stepF I (fns I n)
noncomputable def parsOf (p : Arguments) : Option (List Str) := cond (p.posonlyargs.isEmpty && p.vararg.isNone && p.kwonlyargs.isEmpty && p.kw_defaults.isEmpty && p.kwarg.isNone && p.defaults.isEmpty) (some (p.args.map (·.arg))) none
end Mine.Internal
end
section
open PySem PySem.W PySem.Calls PyProof.Rows
set_option genInjectivity false
set_option genSizeOf false
set_option genSizeOfSpec false
namespace Mine.Internal
structure Ph where
  cls : Addr
  fn : Nat → Addr
  lst : Nat → Addr
  tb : Addr
noncomputable def RepV (Φ : Ph) (ρ : List Addr) (v : Value) : AV → Prop
  | .none => v = .none
  | .bool b => v = .bool b
  | .int i => ∃ t, v = .int i t
  | .str s => ∃ t, v = .str s t
  | .obj i => ∃ a, ρ[i]? = some a ∧ v = .ref a
  | .fn k => v = .ref (Φ.fn k)
  | .lst k => v = .ref (Φ.lst k)
  | .cls => v = .ref Φ.cls
  | .bi id => v = .builtin id
  | .ty n => v = .type n
noncomputable def RepFs (Φ : Ph) (ρ : List Addr) : List DictEntry → List (Str × AV) → Prop
  | [], [] => True
  | e :: es, f :: fs => (∃ t, e.key = .str f.1 t) ∧ RepV Φ ρ e.val f.2 ∧ RepFs Φ ρ es fs
  | _, _ => False
noncomputable def RepVs (Φ : Ph) (ρ : List Addr) : List Value → List AV → Prop
  | [], [] => True
  | v :: vs, x :: xs => RepV Φ ρ v x ∧ RepVs Φ ρ vs xs
  | _, _ => False
noncomputable def TabOf (o : Obj) (kvs : List (Int × Int)) : Prop :=
  ∃ es ep, o.cls = .type "dict" ∧ o.data = .dict es ep ∧ IntKeys es ∧ es.size ≤ kvs.length ∧ ∀ k, match kvs.lookup k with | some v => ∃ t, findBy Value.isInt es k = some (.int v t) | none => findBy Value.isInt es k = none
noncomputable def RepO (Φ : Ph) (ρ : List Addr) (o : Obj) : AO → Prop
  | .inst d => ∃ a, ρ[d]? = some a ∧ o = instObj Φ.cls a
  | .ns fs => ∃ es n, o = dictOf es n ∧ RepFs Φ ρ es fs
  | .nums xs => ∃ vs n, o = listOf vs n ∧ IntsAre vs.toList xs
  | .seq tup xs => ∃ vs n, o = { cls := .type (if tup then "tuple" else "list"), data := .seq vs n } ∧ RepVs Φ ρ vs.toList xs
  | .meth f self => ∃ v, o = methodObj (.ref (Φ.fn f)) v ∧ RepV Φ ρ v self
  | .tab kvs => TabOf o kvs
  | .rng a b => ∃ t u v, o = { cls := .type "range", dict := none, data := .fields #[.int a t, .int b u, .int 1 v], slots := #[] }
noncomputable def ledger (ρ : List Addr) (c : Addr → Obj) : List (Addr × Obj) := ρ.map fun a => (a, c a)
noncomputable def Cf (Φ : Ph) (g : Heap) (L : Addr) (rest : List (Addr × Obj)) (h : Heap) (ρ : List Addr) (H : HP) : Prop :=
  ∃ c : Addr → Obj, News g L h (ledger ρ c ++ rest) ∧ (ρ ++ rest.map (·.1)).Nodup ∧ ρ.length = H.length ∧ ∀ (i : Nat) (a : Addr) (ao : AO), ρ[i]? = some a → H[i]? = some ao → RepO Φ ρ (c a) ao
theorem RepV.mono {Φ : Ph} {ρ ρ' : List Addr} (p : ρ <+: ρ') {v : Value} {x : AV} (h : RepV Φ ρ v x) : RepV Φ ρ' v x := by
  cases x <;> first | exact h | exact (let ⟨a, q, e⟩ := h; ⟨a, pre_get p q, e⟩)
theorem RepFs.mono {Φ : Ph} {ρ ρ' : List Addr} (p : ρ <+: ρ') : ∀ {es : List DictEntry} {fs : List (Str × AV)}, RepFs Φ ρ es fs → RepFs Φ ρ' es fs
  | [], [], h => h
  | _ :: _, _ :: _, h => ⟨h.1, h.2.1.mono p, h.2.2.mono p⟩
  | [], _ :: _, h => h.elim
  | _ :: _, [], h => h.elim
theorem RepVs.mono {Φ : Ph} {ρ ρ' : List Addr} (p : ρ <+: ρ') : ∀ {es : List Value} {fs : List AV}, RepVs Φ ρ es fs → RepVs Φ ρ' es fs
  | [], [], h => h
  | _ :: _, _ :: _, h => ⟨h.1.mono p, h.2.mono p⟩
  | [], _ :: _, h => h.elim
  | _ :: _, [], h => h.elim
theorem RepO.mono {Φ : Ph} {ρ ρ' : List Addr} (p : ρ <+: ρ') {o : Obj} {x : AO} (h : RepO Φ ρ o x) : RepO Φ ρ' o x := by
  cases x with
  | inst d => exact (let ⟨a, q, e⟩ := h; ⟨a, pre_get p q, e⟩)
  | ns fs => exact (let ⟨es, n, e, q⟩ := h; ⟨es, n, e, q.mono p⟩)
  | nums xs => exact h
  | seq b xs => exact (let ⟨es, n, e, q⟩ := h; ⟨es, n, e, q.mono p⟩)
  | meth f s => exact (let ⟨v, e, q⟩ := h; ⟨v, e, q.mono p⟩)
  | tab kvs => exact h
  | rng a b => exact h
theorem RepO.free {Φ : Ph} {ρ : List Addr} {o : Obj} {x : AO} (h : RepO Φ ρ o x) : o.isFreed = false := by
  cases x with
  | inst d => obtain ⟨a, q, rfl⟩ := h; rfl
  | ns fs => obtain ⟨es, n, rfl, q⟩ := h; rfl
  | nums xs => obtain ⟨es, n, rfl, q⟩ := h; rfl
  | seq b xs => obtain ⟨es, n, rfl, q⟩ := h; rfl
  | meth f s => obtain ⟨v, rfl, q⟩ := h; rfl
  | tab kvs => obtain ⟨es, ep, _, hd, _⟩ := h; obtain ⟨c, d, dt, sl⟩ := o; dsimp only at hd; subst hd; rfl
  | rng a b => obtain ⟨_, _, _, rfl⟩ := h; rfl
section
variable {Φ : Ph} {g h h' : Heap} {L : Addr} {rest : List (Addr × Obj)} {ρ ρ' : List Addr} {H : HP} {m : Str → Option Value}
theorem mem_ledger {c : Addr → Obj} {a : Addr} {i : Nat} (e : ρ[i]? = some a) : (a, c a) ∈ ledger ρ c := List.mem_map.mpr ⟨a, List.mem_of_getElem? e, rfl⟩
theorem Cf.get (C : Cf Φ g L rest h ρ H) {i : Nat} {ao : AO} (e : H[i]? = some ao) : ∃ a o, ρ[i]? = some a ∧ h.get? a = some o ∧ RepO Φ ρ o ao := by
  obtain ⟨c, N, nd, len, r⟩ := C
  have hi : i < ρ.length := len ▸ (List.getElem?_eq_some_iff.mp e).1
  have ea : ρ[i]? = some ρ[i] := List.getElem?_eq_getElem hi
  exact ⟨ρ[i], c ρ[i], ea, (N _ (List.mem_append_left _ (mem_ledger ea))).1, r i _ _ ea e⟩
theorem Cf.set (C : Cf Φ g L rest h ρ H) (hs : Heap.SameBut L h h') : Cf Φ g L rest h' ρ H := by
  obtain ⟨c, N, nd, len, r⟩ := C
  exact ⟨c, N.set hs, nd, len, r⟩
theorem Cf.fresh (C : Cf Φ g L rest h ρ H) {i : Nat} {a : Addr} (e : ρ[i]? = some a) : g.get? a = none ∧ a ≠ L := by
  obtain ⟨c, N, nd, len, r⟩ := C
  have := N _ (List.mem_append_left _ (mem_ledger e))
  exact ⟨this.2.2, this.2.1⟩
theorem nodup_ne (nd : ρ.Nodup) {i j : Nat} {a b : Addr} (ei : ρ[i]? = some a) (ej : ρ[j]? = some b) (h : i ≠ j) : a ≠ b := by
  intro e
  subst e
  obtain ⟨hi, ei⟩ := List.getElem?_eq_some_iff.mp ei
  obtain ⟨hj, ej⟩ := List.getElem?_eq_some_iff.mp ej
  have q := List.pairwise_iff_getElem.mp nd
  rcases Nat.lt_or_gt_of_ne h with hl | hl
  · exact q i j hi hj hl (ei.trans ej.symm)
  · exact q j i hj hi hl (ej.trans ei.symm)
theorem Cf.upd (C : Cf Φ g L rest h ρ H) (F : Fr g L h m) {i : Nat} {a : Addr} {ao : AO} {o : Obj} (e : ρ[i]? = some a) (hs : Heap.SameBut a h h') (ho : h'.get? a = some o) (R : RepO Φ ρ o ao) :
    Cf Φ g L rest h' ρ (H.set i ao) ∧ Fr g L h' m := by
  have fr := C.fresh e
  obtain ⟨c, N, nd, len, r⟩ := C
  refine ⟨⟨fun b => if b = a then o else c b, fun p hp => ?_, nd, by rw [List.length_set]; exact len, fun j b bo ej eo => ?_⟩, ?_⟩
  · rcases List.mem_append.mp hp with q | q
    · obtain ⟨b, hb, rfl⟩ := List.mem_map.mp q
      have P := N (b, c b) (List.mem_append_left _ (List.mem_map.mpr ⟨b, hb, rfl⟩))
      refine ⟨?_, P.2⟩
      by_cases hba : b = a
      · subst hba; simp only [if_true]; exact ho
      · simp only [hba, if_false]; rw [hs.2 b hba]; exact P.1
    · have P := N p (List.mem_append_right _ q)
      refine ⟨?_, P.2⟩
      rw [hs.2 p.1 ?_]; exact P.1
      intro hpa
      exact (List.nodup_append.mp nd).2.2 a (List.mem_of_getElem? e) p.1 (List.mem_map.mpr ⟨p, q, rfl⟩) hpa.symm
  · by_cases hij : i = j
    · subst hij
      have hi : i < H.length := by rw [← len]; exact (List.getElem?_eq_some_iff.mp e).1
      rw [List.getElem?_set_self hi] at eo
      cases eo
      rw [e] at ej; cases ej
      simp only [if_true]; exact R
    · rw [List.getElem?_set_ne hij] at eo
      have hba : b ≠ a := nodup_ne (List.nodup_append.mp nd).1 ej e (Ne.symm hij)
      simp only [hba, if_false]; exact r j b bo ej eo
  · obtain ⟨oL, es, ep, hL, q⟩ := F.ns
    exact ⟨⟨oL, es, ep, (hs.2 L (Ne.symm fr.2)).trans hL, q⟩, fun b x ex => (hs.2 b (fun hb => by subst hb; rw [fr.1] at ex; cases ex)).trans (F.keep b x ex), F.above⟩
theorem Cf.add {c : Addr → Obj} {D : Addr} {o : Obj} {ao : AO} (N' : News g L h' ((D, o) :: (ledger ρ c ++ rest))) (nd : (ρ ++ rest.map (·.1)).Nodup) (len : ρ.length = H.length)
    (rp : ∀ (i : Nat) (a : Addr) (ao : AO), ρ[i]? = some a → H[i]? = some ao → RepO Φ ρ (c a) ao) (new : ∀ p ∈ ledger ρ c ++ rest, p.1 ≠ D) (R : RepO Φ ρ o ao) : Cf Φ g L rest h' (ρ ++ [D]) (H ++ [ao]) := by
  have nr : D ∉ ρ := fun z => new (D, c D) (List.mem_append_left _ (List.mem_map.mpr ⟨D, z, rfl⟩)) rfl
  refine ⟨fun b => if b = D then o else c b, fun p hp => ?_, ?_, by simp [len], fun j b bo ej eo => ?_⟩
  · rcases List.mem_append.mp hp with q | q
    · obtain ⟨b, hb, rfl⟩ := List.mem_map.mp q
      rcases List.mem_append.mp hb with hb | hb
      · have hbD : b ≠ D := fun e => nr (e ▸ hb)
        dsimp only
        rw [if_neg hbD]
        exact N' (b, c b) (List.mem_cons_of_mem _ (List.mem_append_left _ (List.mem_map.mpr ⟨b, hb, rfl⟩)))
      · obtain rfl := List.mem_singleton.mp hb
        dsimp only
        rw [if_pos rfl]
        exact N' _ List.mem_cons_self
    · exact N' p (List.mem_cons_of_mem _ (List.mem_append_right _ q))
  · rw [List.append_assoc]
    obtain ⟨n1, n2, n3⟩ := List.nodup_append.mp nd
    refine List.nodup_append.mpr ⟨n1, List.nodup_cons.mpr ⟨fun q => ?_, n2⟩, fun a ha b hb => ?_⟩
    · obtain ⟨p, hp, e⟩ := List.mem_map.mp q
      exact new p (List.mem_append_right _ hp) e
    · rcases List.mem_cons.mp hb with rfl | hb
      · exact fun e => nr (e ▸ ha)
      · exact n3 a ha b hb
  · rcases Nat.lt_or_ge j ρ.length with hj | hj
    · rw [List.getElem?_append_left hj] at ej
      rw [List.getElem?_append_left (len ▸ hj)] at eo
      have hbD : b ≠ D := fun e => nr (e ▸ List.mem_of_getElem? ej)
      show RepO _ _ (if b = D then o else c b) _
      rw [if_neg hbD]
      exact (rp j b bo ej eo).mono (List.prefix_append _ _)
    · rw [List.getElem?_append_right hj] at ej
      rw [List.getElem?_append_right (len ▸ hj), ← len] at eo
      cases hz : j - ρ.length with
      | zero =>
        rw [hz] at ej eo
        cases ej; cases eo
        dsimp only
        rw [if_pos rfl]
        exact R.mono (List.prefix_append _ _)
      | succ n => rw [hz] at ej; cases ej
theorem Cf.push (C : Cf Φ g L rest h ρ H) (F : Fr g L h m) {o : Obj} {ao : AO} (R : RepO Φ ρ o ao) :
    Cf Φ g L rest (h.push o) (ρ ++ [h.objs.size]) (H ++ [ao]) ∧ Fr g L (h.push o) m := by
  obtain ⟨c, N, nd, len, r⟩ := C
  exact ⟨Cf.add (News.push F N o R.free) nd len r (fun p hp => Nat.ne_of_lt (Heap.lt_size (N p hp).1)) R, F.push o⟩
theorem Cf.keeps (C : Cf Φ g L rest h ρ H) (k : ∀ b o, h.get? b = some o → h'.get? b = some o) : Cf Φ g L rest h' ρ H := by
  obtain ⟨c, N, nd, len, r⟩ := C
  exact ⟨c, fun p hp => ⟨k _ _ (N p hp).1, (N p hp).2⟩, nd, len, r⟩
theorem Cf.hide {b : Addr} {o : Obj} (C : Cf Φ g L rest h ρ H) (e : h.get? b = some o) (fg : g.get? b = none) (fL : b ≠ L) (fr : b ∉ ρ) (fs : b ∉ rest.map (·.1)) : Cf Φ g L ((b, o) :: rest) h ρ H := by
  obtain ⟨c, N, nd, len, r⟩ := C
  refine ⟨c, fun p hp => ?_, ?_, len, r⟩
  · rcases List.mem_append.mp hp with q | q
    · exact N p (List.mem_append_left _ q)
    · rcases List.mem_cons.mp q with rfl | q
      · exact ⟨e, fL, fg⟩
      · exact N p (List.mem_append_right _ q)
  · obtain ⟨n1, n2, n3⟩ := List.nodup_append.mp nd
    refine List.nodup_append.mpr ⟨n1, List.nodup_cons.mpr ⟨fs, n2⟩, fun a ha x hx => ?_⟩
    rcases List.mem_cons.mp hx with rfl | hx
    · intro z; exact fr (z ▸ ha)
    · exact n3 a ha x hx
theorem Cf.hidden {b : Addr} {o : Obj} (C : Cf Φ g L ((b, o) :: rest) h ρ H) : h.get? b = some o ∧ b ≠ L ∧ g.get? b = none ∧ b ∉ ρ ∧ b ∉ rest.map (·.1) := by
  obtain ⟨c, N, nd, len, r⟩ := C
  obtain ⟨n1, n2, n3⟩ := List.nodup_append.mp nd
  have := N (b, o) (List.mem_append_right _ List.mem_cons_self)
  exact ⟨this.1, this.2.1, this.2.2, fun z => n3 b z b List.mem_cons_self rfl, (List.nodup_cons.mp n2).1⟩
theorem Cf.unhide {b : Addr} {o : Obj} (C : Cf Φ g L ((b, o) :: rest) h ρ H) : Cf Φ g L rest h ρ H := by
  obtain ⟨c, N, nd, len, r⟩ := C
  obtain ⟨n1, n2, n3⟩ := List.nodup_append.mp nd
  refine ⟨c, fun p hp => N p ?_, List.nodup_append.mpr ⟨n1, (List.nodup_cons.mp n2).2, fun a ha x hx => n3 a ha x (List.mem_cons_of_mem _ hx)⟩, len, r⟩
  rcases List.mem_append.mp hp with q | q
  · exact List.mem_append_left _ q
  · exact List.mem_append_right _ (List.mem_cons_of_mem _ q)
theorem Cf.off {b : Addr} (C : Cf Φ g L rest h ρ H) (k : Heap.ExtBut b h h') (fr : b ∉ ρ) (fs : b ∉ rest.map (·.1)) : Cf Φ g L rest h' ρ H := by
  obtain ⟨c, N, nd, len, r⟩ := C
  refine ⟨c, fun p hp => ⟨k _ _ (fun z => ?_) (N p hp).1, (N p hp).2⟩, nd, len, r⟩
  rcases List.mem_append.mp hp with q | q
  · obtain ⟨a, ha, rfl⟩ := List.mem_map.mp q; exact fr (z ▸ ha)
  · exact fs (z ▸ List.mem_map.mpr ⟨p, q, rfl⟩)
theorem frOff {b : Addr} (F : Fr g L h m) (k : Heap.ExtBut b h h') (fg : g.get? b = none) (fL : b ≠ L) : Fr g L h' m :=
  ⟨F.ns.at' fun o e => k _ _ (Ne.symm fL) e, fun a o e => k _ _ (fun z => by rw [z, fg] at e; cases e) (F.keep a o e), F.above⟩
theorem frKeeps (F : Fr g L h m) (k : ∀ b o, h.get? b = some o → h'.get? b = some o) : Fr g L h' m :=
  ⟨F.ns.at' fun o e => k _ _ e, fun a o e => k _ _ (F.keep a o e), F.above⟩
theorem Cf.turn {b : Addr} {o o' : Obj} (C : Cf Φ g L ((b, o) :: rest) h ρ H) (F : Fr g L h m) (k : Heap.ExtBut b h h') (e : h'.get? b = some o') : Cf Φ g L ((b, o') :: rest) h' ρ H ∧ Fr g L h' m := by
  obtain ⟨_, h2, h3, h4, h5⟩ := C.hidden
  exact ⟨(C.unhide.off k h4 h5).hide e h3 h2 h4 h5, frOff F k h3 h2⟩
end
end Mine.Internal
end
section
open PySem PySem.W PySem.Calls PyProof.Rows
set_option genInjectivity false
set_option genSizeOf false
set_option genSizeOfSpec false
namespace Mine.Internal
structure Cx where
  prog : Program
  w : World
  K : Frag
  Φ : Ph
  A₀ : Around
  A : Around
  base : Heap
  g : Heap
  outer : List Env
  L : Addr
  qual : Str
  sc : Scope
  f : Addr
  cdv : Value
  dp : Nat
  cs : Option (Str × Addr)
  gens : Array GenState
  drawn : Drawn
  os : OsState
  fz : Option (Addr × Obj)
noncomputable def Cx.env (X : Cx) : Env := { scope := X.sc, locals := X.L, globals := mainGlobals, cells := X.cs.toList, qual := X.qual ++ ".<locals>.", func := some X.f, code := X.cdv, frame := some X.L, builtins := builtinsNs }
noncomputable abbrev Cx.M (X : Cx) : Model := model X.prog X.w
structure Cx.Ok (X : Cx) : Prop where
  below : Below X.A₀ X.base X.outer X.g
  frames : X.A.frames = some (X.env :: X.outer)
  inn : X.K.In X.g
  lim : X.g.NoLimit
  room : X.A.depth + X.dp < recursionLimit
  kind : X.sc.kind = .function
  handled : X.A.handled = none
  units : X.A.units + 4 * X.dp + 100 < cLine
  fz : ∀ q, X.fz = some q → X.dp < 20
  cell : ∀ x, (X.sc.names.lookup x = some .cell ∨ X.sc.names.lookup x = some .free) → ∃ c, X.cs = some (x, c)
structure Sg where
  h : Heap
  tk : Nat
  ρ : List Addr
  m : Str → Option Value
  co : Obj
  pt : Option (Addr × Obj)
noncomputable def tabsOf (P : Addr) : Option (Addr × Obj) → List (Addr × Obj)
  | none => [(P, { cls := .none, data := .fields #[] })]
  | some q => [(P, { cls := .none, data := .fields #[rawInt 71, rawInt 15, .ref q.1] }), q]
noncomputable def lamQual : Str := "MPU.WrapAt.<locals>.<lambda>"
noncomputable def PtOk (pt : Option (Addr × Obj)) : Prop := ∀ q, pt = some q → ∃ vs t, q.2.data = .fields vs ∧ vs[1]? = some (.str lamQual t)
noncomputable def Cx.st (X : Cx) (σ : Sg) : Shared := ⟨σ.h, X.gens, X.drawn, σ.tk, X.os⟩
noncomputable def Cx.own (X : Cx) (o : Obj) : List (Addr × Obj) := X.cs.toList.map fun p => (p.2, o)
noncomputable def Cx.tabs (X : Cx) (pt : Option (Addr × Obj)) : List (Addr × Obj) := match X.fz with
  | none => tabsOf X.Φ.tb pt
  | some q => [(X.Φ.tb, { cls := .none, data := .fields #[rawInt 71, rawInt 15, .ref q.1] })]
noncomputable def Cx.cells (X : Cx) (o : Obj) (pt : Option (Addr × Obj)) : List (Addr × Obj) := X.own o ++ X.tabs pt
noncomputable def Val (X : Cx) (σ : Sg) (x : Str) (u : Value) : Prop := match X.sc.names.lookup x with
  | some .cell => σ.co.data = .cell (some u)
  | some .free => σ.co.data = .cell (some u)
  | _ => σ.m x = some u
structure Conf (X : Cx) (rest : List (Addr × Obj)) (σ : Sg) (l : Loc) (H : HP) : Prop where
  F : Fr X.g X.L σ.h σ.m
  R : ∀ x y, l.lookup x = some y → ∃ u, Val X σ x u ∧ RepV X.Φ σ.ρ u y
  C : Cf X.Φ X.g X.L (X.cells σ.co σ.pt ++ rest) σ.h σ.ρ H
  co : (∃ v, σ.co.data = .cell v) ∧ PtOk σ.pt
structure Le (σ σ' : Sg) : Prop where
  pre : σ.ρ <+: σ'.ρ
  m : σ'.m = σ.m
  co : σ'.co = σ.co
theorem Le.trans {a b c : Sg} (x : Le a b) (y : Le b c) : Le a c := ⟨List.IsPrefix.trans x.pre y.pre, y.m.trans x.m, y.co.trans x.co⟩
noncomputable def Post (X : Cx) (rest : List (Addr × Obj)) (σ : Sg) (l : Loc) (Q : Value → Shared → Prop) (r : AV × HP) : Prop := ∀ σ' v, Le σ σ' → Conf X rest σ' l r.2 → RepV X.Φ σ'.ρ v r.1 → Q v (X.st σ')
section
variable {X : Cx} {rest : List (Addr × Obj)} {σ σ' : Sg} {l : Loc} {H : HP} {Q : Value → Shared → Prop}
theorem pre_trans {a b c : List Addr} (x : a <+: b) (y : b <+: c) : a <+: c := List.IsPrefix.trans x y
theorem post_trans {t : T (AV × HP)} (p : Le σ σ') (h : t.All (Post X rest σ l Q)) : t.All (Post X rest σ' l Q) := T.all_mono (fun _ hr σ2 v p2 => hr σ2 v (p.trans p2)) h
noncomputable def Sg.tok (σ : Sg) (n : Nat) : Sg := { σ with tk := n }
noncomputable def Sg.push (σ : Sg) (o : Obj) : Sg := { σ with h := σ.h.push o, ρ := σ.ρ ++ [σ.h.objs.size] }
noncomputable def Sg.hp (σ : Sg) (h' : Heap) : Sg := { σ with h := h' }
noncomputable def Sg.new (σ : Sg) (h' : Heap) (D : Addr) : Sg := { σ with h := h', ρ := σ.ρ ++ [D] }
theorem Conf.len (C : Conf X rest σ l H) : σ.ρ.length = H.length := by obtain ⟨_, _, _, e, _⟩ := C.C; exact e
theorem Conf.tok (C : Conf X rest σ l H) (n : Nat) : Conf X rest (σ.tok n) l H := ⟨C.F, C.R, C.C, C.co⟩
theorem Conf.mono (C : Conf X rest σ l H) {ρ' : List Addr} (p : σ.ρ <+: ρ') : ∀ x y, l.lookup x = some y → ∃ u, Val X σ x u ∧ RepV X.Φ ρ' u y := fun x y e => let ⟨u, a, b⟩ := C.R x y e; ⟨u, a, b.mono p⟩
theorem Conf.push (C : Conf X rest σ l H) {o : Obj} {ao : AO} (R : RepO X.Φ σ.ρ o ao) : Conf X rest (σ.push o) l (H ++ [ao]) :=
  ⟨(C.C.push C.F R).2, C.mono (List.prefix_append _ _), (C.C.push C.F R).1, C.co⟩
theorem Conf.upd (C : Conf X rest σ l H) {i : Nat} {a : Addr} {ao : AO} {o : Obj} {h' : Heap} (e : σ.ρ[i]? = some a) (hs : Heap.SameBut a σ.h h') (ho : h'.get? a = some o) (R : RepO X.Φ σ.ρ o ao) : Conf X rest (σ.hp h') l (H.set i ao) :=
  ⟨(C.C.upd C.F e hs ho R).2, C.R, (C.C.upd C.F e hs ho R).1, C.co⟩
theorem Conf.keeps (C : Conf X rest σ l H) {h' : Heap} (k : ∀ b o, σ.h.get? b = some o → h'.get? b = some o) : Conf X rest (σ.hp h') l H := ⟨frKeeps C.F k, C.R, C.C.keeps k, C.co⟩
theorem Conf.news (C : Conf X rest σ l H) : ∃ news, News X.g X.L σ.h news ∧ (∀ (D : Addr) (h' : Heap) (o : Obj) (ao : AO), Fr X.g X.L h' σ.m → News X.g X.L h' ((D, o) :: news) → (∀ p ∈ news, p.1 < D) → RepO X.Φ σ.ρ o ao → Conf X rest (σ.new h' D) l (H ++ [ao])) := by
  obtain ⟨c, N, nd, len, rp⟩ := C.C
  exact ⟨_, N, fun D h' o ao F' N' hD R => ⟨F', C.mono (List.prefix_append _ _), Cf.add N' nd len rp (fun p hp => Nat.ne_of_lt (hD p hp)) R, C.co⟩⟩
theorem new_at (C : Conf X rest σ l H) (D : Addr) : (σ.ρ ++ [D])[H.length]? = some D := by rw [← C.len, List.getElem?_append_right (Nat.le_refl _)]; simp
theorem Conf.topV (C : Conf X rest σ l H) {D : Addr} : RepV X.Φ (σ.ρ ++ [D]) (.ref D) (.obj H.length) := ⟨D, new_at C D, rfl⟩
theorem Conf.fresh (C : Conf X rest σ l H) : X.g.get? σ.h.objs.size = none := by
  cases e : X.g.get? σ.h.objs.size with
  | none => rfl
  | some o => exact absurd (Heap.lt_size (C.F.keep _ _ e)) (Nat.lt_irrefl _)
theorem Conf.In (C : Conf X rest σ l H) (O : X.Ok) : X.K.In σ.h := O.inn.keeps C.F.keep
end
end Mine.Internal
end
section
open PySem PySem.W PySem.Calls PyProof.Rows PySem.SeqAt
namespace Mine.Internal
structure FnD where
  dd : Option Addr
  sl : Array (Option Value)
  name : Str
  qual : Str
  params : Arguments
  dV : Value
  kV : Value
  doc : Value
  pm : Value
  an : Option Addr
  cdv : Value
  ct : Value
noncomputable def FnD.obj (d : FnD) (r : FnR) : Obj := ⟨.type "function", d.dd, .func (fnOf d.name d.qual d.params r.body r.scope d.dV d.kV d.doc d.pm d.an d.cdv d.ct), d.sl⟩
structure FnAtK (K : Frag) (f : Addr) (r : FnR) (d : FnD) : Prop where
  get : K.lookup f = some (d.obj r)
  code : codeIn K d.cdv d.qual = true
  nodup : r.names.Nodup
  loc : ∀ x ∈ r.names, r.scope.names.lookup x = some .local
  co : r.scope.isCoroutine = false
  gen : r.scope.isGenerator = false
  kind : r.scope.kind = .function
  cell : ∀ x ∈ r.scope.names, x.2 ≠ .cell ∧ x.2 ≠ .free
noncomputable def FnOk (K : Frag) (Φ : Ph) (k : Nat) (r : FnR) : Prop := ∃ d, FnAtK K (Φ.fn k) r d ∧ parsOf d.params = some r.names ∧ d.dV = .none
noncomputable def InitOk (K : Frag) (Φ : Ph) (r : FnR) : Prop :=
  ∃ fI d T oT, FnAtK K fI r d ∧ findIn K (.ref Φ.cls) "__init__" = some (some (.ref fI)) ∧ (∃ as df, d.params = ⟨[], as, none, [], [], none, df⟩ ∧ as.map (·.arg) = r.names) ∧ d.dV = .ref T ∧ K.lookup T = some oT ∧ ∃ vs n, oT.data = .seq vs n
structure KOk (K : Frag) (Φ : Ph) (I : Ifc) : Prop where
  glob : ∀ x v, I.glob x = some v → ∃ u, (nsIn K mainGlobals x = some (some u) ∨ (nsIn K mainGlobals x = some none ∧ nsIn K builtinsNs x = some (some u))) ∧ RepV Φ [] u v
  makes : makesIn K Φ.cls = true
  init : InitOk K Φ I.init
  plain : plainGet K Φ.cls "" = true
  hasD : hasDictIn K Φ.cls = true
  setattr : findIn K (.ref Φ.cls) "__setattr__" = some (some (.builtin "object.__setattr__"))
  over : plainOver K Φ.cls = true
  field : ∀ x, I.cls x = some .field → findIn K (.ref Φ.cls) x = some none
  int : ∀ x i, I.cls x = some (.int i) → (∃ t, findIn K (.ref Φ.cls) x = some (some (.int i t))) ∧ copiedNames.contains x = false
  lst : ∀ x k, I.cls x = some (.lst k) → findIn K (.ref Φ.cls) x = some (some (.ref (Φ.lst k))) ∧ copiedNames.contains x = false ∧ ∃ dd dat sl, K.lookup (Φ.lst k) = some ⟨.type "list", dd, dat, sl⟩
  fn : ∀ x k, I.cls x = some (.fn k) → findIn K (.ref Φ.cls) x = some (some (.ref (Φ.fn k))) ∧ copiedNames.contains x = false ∧ ∃ dd fd sl, K.lookup (Φ.fn k) = some ⟨.type "function", dd, .func fd, sl⟩
  lists : ∀ k q, I.lst k = some q → ∃ vs dd n sl, K.lookup (Φ.lst k) = some ⟨.type (if q.1 then "tuple" else "list"), dd, .seq (List.toArray vs) n, sl⟩ ∧ RepVs Φ [] vs q.2
  fns : ∀ k r, I.fns k = some r → FnOk K Φ k r
  iLs : ∀ k xs, I.iLs k = some xs → ∃ vs o, K.lookup (Φ.lst k) = some o ∧ o.cls = .type "list" ∧ (∃ n, o.data = .seq vs n) ∧ IntsAre vs.toList xs ∧ (Nat.beq k 3 = false → ∃ n, o = listOf vs n)
  sizes : ∀ k xs, I.iLs k = some xs → xs.length ≤ 1048576
theorem special_int (K : Frag) (i : Int) (t : Tok) : specialIn K (.int i t) "__get__" = some none := by kernel_rfl
theorem special_list : findIn [] (.type "list") "__get__" = some none := by kernel_rfl
theorem special_fn1 : findIn [] (.type "function") "__get__" = some (some (.builtin "function.__get__")) := by kernel_rfl
theorem special_fn2 : findIn [] (.type "function") "__set__" = some none := by kernel_rfl
theorem special_fn3 : findIn [] (.type "function") "__delete__" = some none := by kernel_rfl
section
variable {K : Frag} {a : Addr} {dd : Option Addr} {dat : Data} {sl : Array (Option Value)}
theorem type_frag {T : String} (h : K.lookup a = some ⟨.type T, dd, dat, sl⟩) : typeIn K (.ref a) = some (.type T) := by
  show Option.map _ (List.lookup a K) = _; rw [h]; rfl
theorem spec_list (h : K.lookup a = some ⟨.type "list", dd, dat, sl⟩) : specialIn K (.ref a) "__get__" = some none := by
  unfold specialIn; rw [type_frag h]; exact special_list
theorem spec_fn (h : K.lookup a = some ⟨.type "function", dd, dat, sl⟩) : specialIn K (.ref a) "__get__" = some (some (.builtin "function.__get__")) ∧ takesIn K (.ref a) = some false ∧ isFn K (.ref a) = true := by
  have t := type_frag h
  refine ⟨?_, ?_, ?_⟩
  · unfold specialIn; rw [t]; exact special_fn1
  · unfold takesIn
    rw [show specialIn K (.ref a) "__set__" = some none by unfold specialIn; rw [t]; exact special_fn2]
    dsimp only
    rw [show specialIn K (.ref a) "__delete__" = some none by unfold specialIn; rw [t]; exact special_fn3]; rfl
  · unfold isFn; rw [t]; exact beq_iff_eq.mpr rfl
end
theorem lookup_cons_eq {β : Type} {x : Str} {f : Str × β} {fs : List (Str × β)} : (f :: fs).lookup x = if f.1 = x then some f.2 else fs.lookup x := by
  rw [List.lookup_cons]
  by_cases h : f.1 = x
  · rw [if_pos h, ← h, beq_self_eq_true]
  · rw [if_neg h, beq_eq_false_iff_ne.mpr (Ne.symm h)]
theorem getL_cons {x : Str} {e : DictEntry} {es : List DictEntry} {s : Str} {t : Tok} (k : e.key = .str s t) : getL x (e :: es) = if s = x then some (some e.val) else getL x es := by
  unfold getL
  have hr : e.refKey = false := by unfold DictEntry.refKey; rw [k]
  rw [List.find?_cons, k, isStr_str]
  by_cases h : s = x
  · simp [h]
  · simp only [h, decide_false, if_false, List.any_cons, hr, Bool.false_or]
theorem RepFs.getL {Φ : Ph} {ρ : List Addr} {x : Str} : ∀ {es : List DictEntry} {fs : List (Str × AV)}, RepFs Φ ρ es fs → match fs.lookup x with
    | some y => ∃ v, getL x es = some (some v) ∧ RepV Φ ρ v y
    | none => PySem.W.getL x es = some none
  | [], [], _ => rfl
  | e :: es, f :: fs, h => by
    obtain ⟨⟨t, k⟩, hv, hr⟩ := h
    rw [lookup_cons_eq, getL_cons k]
    by_cases q : f.1 = x
    · rw [if_pos q, if_pos q]; exact ⟨_, rfl, hv⟩
    · rw [if_neg q, if_neg q]; exact hr.getL
  | [], _ :: _, h => h.elim
  | _ :: _, [], h => h.elim
theorem RepFs.hit {Φ : Ph} {ρ : List Addr} {x : Str} {y : AV} {es : List DictEntry} {fs : List (Str × AV)} (h : RepFs Φ ρ es fs) (e : fs.lookup x = some y) : ∃ v, PySem.W.getL x es = some (some v) ∧ RepV Φ ρ v y := by
  have := h.getL (x := x); rw [e] at this; exact this
theorem RepFs.miss {Φ : Ph} {ρ : List Addr} {x : Str} {es : List DictEntry} {fs : List (Str × AV)} (h : RepFs Φ ρ es fs) (e : (fs.lookup x).isNone = true) : PySem.W.getL x es = some none := by
  have := h.getL (x := x); rw [Option.isNone_iff_eq_none.mp e] at this; exact this
theorem RepFs.isSome {Φ : Ph} {ρ : List Addr} {x : Str} {es : List DictEntry} {fs : List (Str × AV)} (h : RepFs Φ ρ es fs) : (PySem.W.getL x es).isSome = true := by
  cases e : fs.lookup x with
  | none => rw [h.miss (by rw [e]; rfl)]; rfl
  | some y => obtain ⟨v, q, _⟩ := h.hit e; rw [q]; rfl
theorem RepFs.put {Φ : Ph} {ρ : List Addr} {x : Str} {hsh : Int} {t : Tok} {v : Value} {y : AV} (hv : RepV Φ ρ v y) : ∀ {es : List DictEntry} {fs : List (Str × AV)}, RepFs Φ ρ es fs → RepFs Φ ρ (putL x hsh (.str x t) v es) (setF x y fs)
  | [], [], _ => ⟨⟨t, rfl⟩, hv, trivial⟩
  | e :: es, f :: fs, h => by
    obtain ⟨⟨t', k⟩, hw, hr⟩ := h
    unfold putL setF
    rw [k, isStr_str]
    by_cases q : f.1 = x
    · rw [if_pos q, if_pos (decide_eq_true q)]; exact ⟨⟨t', rfl⟩, hv, hr⟩
    · rw [if_neg q, if_neg (by rw [decide_eq_false q]; exact Bool.false_ne_true)]; exact ⟨⟨t', k⟩, hw, hr.put hv⟩
  | [], _ :: _, h => h.elim
  | _ :: _, [], h => h.elim
theorem RepFs.length {Φ : Ph} {ρ : List Addr} : ∀ {es : List DictEntry} {fs : List (Str × AV)}, RepFs Φ ρ es fs → es.length = fs.length
  | [], [], _ => rfl
  | _ :: _, _ :: _, h => congrArg (· + 1) h.2.2.length
  | [], _ :: _, h => h.elim
  | _ :: _, [], h => h.elim
theorem upd_of {d : Addr} {o o' : Obj} {c : Addr → Obj} (hd : c d = o) : ∀ {ρ : List Addr} {rest : List (Addr × Obj)}, (ρ ++ rest.map (·.1)).Nodup → d ∈ ρ →
    Upd d o o' (ledger ρ c ++ rest) (ledger ρ (fun b => if b = d then o' else c b) ++ rest)
  | [], _, _, h => by cases h
  | a :: ρ, rest, nd, h => by
    have nd' := List.nodup_cons.mp nd
    by_cases q : a = d
    · subst q
      have e : ledger ρ (fun b => if b = a then o' else c b) = ledger ρ c := List.map_congr_left fun b hb => by
        have : b ≠ a := fun e => nd'.1 (List.mem_append_left _ (e ▸ hb))
        dsimp only
        rw [if_neg this]
      show Upd a o o' ((a, c a) :: (ledger ρ c ++ rest)) ((a, if a = a then o' else c a) :: (ledger ρ (fun b => if b = a then o' else c b) ++ rest))
      rw [e, hd, if_pos rfl]
      refine .head fun p hp => ?_
      rintro rfl
      rcases List.mem_append.mp hp with z | z
      · obtain ⟨b, hb, e⟩ := List.mem_map.mp z
        exact nd'.1 (List.mem_append_left _ (by rw [← e]; exact hb))
      · exact nd'.1 (List.mem_append_right _ (List.mem_map.mpr ⟨p, z, rfl⟩))
    · show Upd d o o' ((a, c a) :: (ledger ρ c ++ rest)) ((a, if a = d then o' else c a) :: (ledger ρ (fun b => if b = d then o' else c b) ++ rest))
      rw [if_neg q]
      refine .tail q (upd_of hd nd'.2 ?_)
      rcases List.mem_cons.mp h with z | z
      · exact absurd z.symm q
      · exact z
section
variable {X : Cx} {I : Ifc} {rest : List (Addr × Obj)} {σ : Sg} {l : Loc} {H : HP} {E : Value → Shared → Prop}
theorem selE {β : Type} {f : AO → Option β} {b : β} {x : AV} {v : Value} {G : Prop} (C : Conf X rest σ l H) (r : RepV X.Φ σ.ρ v x) (e : sel f H x = some b)
    (k : ∀ i a o ao, x = .obj i → v = .ref a → σ.ρ[i]? = some a → H[i]? = some ao → f ao = some b → σ.h.get? a = some o → RepO X.Φ σ.ρ o ao → G) : G := by
  obtain ⟨i, hi, e1⟩ := Option.bind_eq_some_iff.mp e
  obtain ⟨ao, ha, e2⟩ := Option.bind_eq_some_iff.mp e1
  obtain rfl := obj?_of hi
  obtain ⟨a, hr, rfl⟩ := r
  obtain ⟨a', o, hr', ho, hO⟩ := C.C.get ha
  obtain rfl := same_some hr hr'
  exact k i a o ao rfl rfl hr ha e2 ho hO
theorem numsE {x : AV} {v : Value} {xs : List Int} {G : Prop} (C : Conf X rest σ l H) (r : RepV X.Φ σ.ρ v x) (e : numsO H x = some xs)
    (k : ∀ i a vs n, x = .obj i → v = .ref a → σ.ρ[i]? = some a → σ.h.get? a = some (listOf vs n) → IntsAre vs.toList xs → G) : G :=
  selE C r e fun i a o ao h1 h2 h3 _ h5 h6 h7 => by
    obtain rfl := nums?_of h5
    obtain ⟨vs, n, rfl, hi⟩ := h7
    exact k i a vs n h1 h2 h3 h6 hi
theorem numsVE {x : AV} {v : Value} {xs : List Int} {G : Prop} (O : X.Ok) (K : KOk X.K X.Φ I) (C : Conf X rest σ l H) (r : RepV X.Φ σ.ρ v x) (e : numsV I H x = some xs)
    (k : ∀ a vs, v = .ref a → σ.h.IsList a vs → IntsAre vs.toList xs → G) : G := by
  unfold numsV at e
  cases hx : x.lst? with
  | none =>
    rw [hx] at e
    exact numsE C r e fun i a vs n _ h2 _ h4 h5 => k a vs h2 ⟨_, h4, rfl, n, rfl⟩ h5
  | some j =>
    rw [hx] at e
    obtain rfl := lst?_of hx
    obtain ⟨vs, o, h1, h2, h3, h4, _⟩ := K.iLs _ _ e
    exact k _ vs r ⟨o, C.In O _ _ h1, h2, h3⟩ h4
theorem numsXE {x : AV} {v : Value} {xs : List Int} {G : Prop} (O : X.Ok) (K : KOk X.K X.Φ I) (C : Conf X rest σ l H) (r : RepV X.Φ σ.ρ v x) (e : numsX I H x = some xs)
    (k : ∀ a vs n, v = .ref a → σ.h.get? a = some (listOf vs n) → IntsAre vs.toList xs → G) : G := by
  unfold numsX at e
  cases hx : x.lst? with
  | none =>
    rw [hx] at e
    exact numsE C r e fun i a vs n _ h2 _ h4 h5 => k a vs n h2 h4 h5
  | some j =>
    rw [hx] at e
    obtain rfl := lst?_of hx
    cases hj : Nat.beq j 3 with
    | true => dsimp only at e; rw [hj] at e; exact no_some e
    | false =>
      dsimp only at e
      rw [hj] at e
      obtain ⟨vs, o, h1, _, _, h4, h5⟩ := K.iLs _ _ e
      obtain ⟨n, rfl⟩ := h5 hj
      exact k _ vs n r (C.In O _ _ h1) h4
structure FldAt (X : Cx) (σ : Sg) (d : Nat) (fs : List (Str × AV)) (v : Value) (a da : Addr) (es : List DictEntry) (n : Nat) : Prop where
  v : v = .ref a
  hda : σ.ρ[d]? = some da
  get : σ.h.get? da = some (dictOf es n)
  rep : RepFs X.Φ σ.ρ es fs
  inst : InstAt σ.h a (instObj X.Φ.cls da) X.Φ.cls (some (dictOf es n))
theorem fldE {v : Value} {x : AV} {q : Nat × List (Str × AV)} {G : Prop} (C : Conf X rest σ l H) (r : RepV X.Φ σ.ρ v x) (e : fld H x = some q) (k : ∀ a da es n, FldAt X σ q.1 q.2 v a da es n → G) : G := by
  obtain ⟨d, h1, e⟩ := Option.bind_eq_some_iff.mp e
  obtain ⟨fs, h2, rfl⟩ := Option.map_eq_some_iff.mp e
  refine selE C r h1 fun i a o ao _ g2 _ _ g5 g6 g7 => ?_
  obtain rfl := inst?_of g5
  obtain ⟨da, hda, rfl⟩ := g7
  refine selE C (show RepV X.Φ σ.ρ (.ref da) (.obj d) from ⟨da, hda, rfl⟩) h2 fun _ da' o' ao' _ k2 k3 _ k5 k6 k7 => ?_
  obtain rfl : da = da' := Value.ref.inj k2
  obtain rfl := ns?_of k5
  obtain ⟨es, n, rfl, hf⟩ := k7
  exact k a da es n ⟨g2, hda, k6, hf, ⟨g6, rfl, rfl, k6⟩⟩
theorem notBi {Φ : Ph} {ρ : List Addr} {u : Value} {y : AV} (r : RepV Φ ρ u y) (hb : (!isBi y) = true) : (∀ n, u ≠ .builtin n) := fun n e => by
  subst e
  cases y with
  | bi _ => cases hb
  | obj _ => obtain ⟨_, _, e⟩ := r; cases e
  | int _ => obtain ⟨_, e⟩ := r; cases e
  | str _ => obtain ⟨_, e⟩ := r; cases e
  | _ => cases r
theorem getA_ok (O : X.Ok) (K : KOk X.K X.Φ I) {attr : Str} {expr : Bool} {v : Value} {x : AV} {Q : Value → Shared → Prop} (C : Conf X rest σ l H) (r : RepV X.Φ σ.ρ v x)
    (h : (getA I attr x H).All (Post X rest σ l Q)) : wpAny X.M X.A (getAttr v attr expr) Q E (X.st σ) := by
  refine T.optE h fun q e h1 => T.optE h1 fun c hc h2 => fldE C r e fun a da es n Z => ?_
  rw [Z.v]
  cases c with
  | field =>
    refine T.optE h2 fun y hy h3 => T.needE h3 fun hb h4 => ?_
    obtain ⟨u, hu, ru⟩ := Z.rep.hit hy
    refine get_own C.F O.inn Z.inst K.plain K.hasD (K.field _ hc) rfl hu ?_ (h4 (σ.tok _) u ⟨List.prefix_refl _, rfl, rfl⟩ (C.tok _) ru)
    cases u with
    | builtin n => exact absurd rfl (notBi ru hb n)
    | _ => rfl
  | int i =>
    obtain ⟨⟨t, ha⟩, hcp⟩ := K.int _ _ hc
    exact T.needE h2 fun hy h3 => get_cls C.F O.inn Z.inst K.plain K.hasD ha (special_int X.K i t) rfl hcp (Z.rep.miss hy) (h3 (σ.tok _) _ ⟨List.prefix_refl _, rfl, rfl⟩ (C.tok _) ⟨t, rfl⟩)
  | lst k =>
    obtain ⟨ha, hcp, dd, dat, sl, hb⟩ := K.lst _ _ hc
    exact T.needE h2 fun hy h3 => get_cls C.F O.inn Z.inst K.plain K.hasD ha (spec_list hb) rfl hcp (Z.rep.miss hy) (h3 (σ.tok _) _ ⟨List.prefix_refl _, rfl, rfl⟩ (C.tok _) rfl)
  | fn k =>
    obtain ⟨ha, hcp, dd, dat, sl, hb⟩ := K.fn _ _ hc
    obtain ⟨z1, z2, z3⟩ := spec_fn hb
    exact T.needE h2 fun hy h3 => get_bind (C.In O) Z.inst (plainGet_of (name := attr) K.plain).1 (findObj_fn K.hasD ha z1 z2 hcp (by show lookIn attr (dictOf es n) = _; rw [lookIn_dict, Z.rep.miss hy])) (plainGet_of (name := attr) K.plain).2
      (wpAny_call (fn_get (s := X.st (σ.tok (σ.tk + 1))) (C.In O) (beq_iff_eq.mp z3) (handed_on rfl (h3 ((σ.tok _).push _) _ ⟨List.prefix_append _ _, rfl, rfl⟩ ((C.tok _).push (ao := .meth k x) ⟨_, rfl, Z.v ▸ r⟩) C.topV))))
theorem getM_ok (O : X.Ok) (K : KOk X.K X.Φ I) {attr : Str} {pl : Sem Bool} {v : Value} {x : AV} {Q : Value × List Value → Shared → Prop} (C : Conf X rest σ l H) (r : RepV X.Φ σ.ρ v x)
    (h : (getM I attr x H).All (fun k => (∃ dd fd sl, X.K.lookup (X.Φ.fn k) = some ⟨.type "function", dd, .func fd, sl⟩) → Q (.ref (X.Φ.fn k), [v]) (X.st σ))) : wpAny X.M X.A (getMethod v attr pl) Q E (X.st σ) := by
  refine T.optE h fun q e h1 => T.optE h1 fun k hc h2 => T.needE h2 fun hy h3 => fldE C r e fun a da es n Z => ?_
  obtain ⟨c, hc2, hk⟩ := Option.bind_eq_some_iff.mp hc
  cases c with
  | fn k' =>
    obtain rfl := some_eq hk
    obtain ⟨ha, hcp, dd, fd, sl, hb⟩ := K.fn _ _ hc2
    obtain rfl := Z.v
    exact method_inst C.F O.inn Z.inst K.plain ha (spec_fn hb).2.2 (Z.rep.miss hy) (h3 ⟨dd, fd, sl, hb⟩)
  | _ => exact no_some hk
theorem Cf.field {Φ : Ph} {g h' : Heap} {L : Addr} {rest : List (Addr × Obj)} {ρ : List Addr} {c : Addr → Obj} {d : Nat} {da : Addr} {o : Obj} {ao : AO} (nd : (ρ ++ rest.map (·.1)).Nodup) (len : ρ.length = H.length)
    (rp : ∀ (i : Nat) (a : Addr) (ao : AO), ρ[i]? = some a → H[i]? = some ao → RepO Φ ρ (c a) ao) (N' : News g L h' (ledger ρ (fun b => if b = da then o else c b) ++ rest)) (hda : ρ[d]? = some da) (R : RepO Φ ρ o ao) : Cf Φ g L rest h' ρ (H.set d ao) := by
  refine ⟨_, N', nd, by rw [List.length_set]; exact len, fun j b bo ej eo => ?_⟩
  rcases Nat.decEq d j with hij | hij
  · rw [List.getElem?_set_ne hij] at eo
    rw [if_neg (nodup_ne (List.nodup_append.mp nd).1 ej hda (Ne.symm hij))]; exact rp j b bo ej eo
  · subst hij
    rw [List.getElem?_set_self (by rw [← len]; exact (List.getElem?_eq_some_iff.mp hda).1)] at eo
    obtain rfl := some_eq eo
    obtain rfl := same_some ej hda
    rw [if_pos rfl]; exact R
theorem setA_ok (O : X.Ok) (K : KOk X.K X.Φ I) {attr : Str} {o v : Value} {ox x : AV} {Q : Unit → Shared → Prop} (C : Conf X rest σ l H) (r : RepV X.Φ σ.ρ o ox) (rv : RepV X.Φ σ.ρ v x)
    (h : (setA I attr ox x H).All (fun H' => ∀ h' tk, Conf X rest ((σ.hp h').tok tk) l H' → Q () (X.st ((σ.hp h').tok tk)))) : wpAny X.M X.A (setAttr o attr v) Q E (X.st σ) := by
  refine T.optE h fun q e h1 => T.optE h1 fun c hc h2 => T.needE h2 fun hz h3 => fldE C r e fun a da es n Z => ?_
  rw [Bool.and_eq_true] at hz
  rw [Z.v]
  cases c with
  | field =>
    obtain ⟨c, N, nd, len, rp⟩ := C.C
    have hc : c da = dictOf es n := some_eq ((N _ (List.mem_append_left _ (mem_ledger Z.hda))).1.symm.trans Z.get)
    have rp' := Z.rep.put (x := attr) (hsh := PyData.keyHash X.w.params attr) (t := σ.tk + 1) rv
    exact set_dict C.F O.inn N Z.inst rfl K.setattr K.over (by unfold takerIn; rw [K.field _ ‹_›]; rfl) K.hasD Z.rep.isSome (es' := putL attr (PyData.keyHash X.w.params attr) (.str attr (σ.tk + 1)) v es) (n' := putN attr es n) rfl
      (upd_of hc nd (List.mem_of_getElem? Z.hda)) (by rw [rp'.length]; exact of_decide_eq_true hz.2) fun h' F' N' => h3 h' _ ⟨F', C.R, Cf.field nd len rp N' Z.hda ⟨_, _, rfl, rp'⟩, C.co⟩
  | _ => exact no_bool hz.1
end
end Mine.Internal
end
section
open PySem PySem.W PySem.Calls PyProof.Rows PySem.SeqAt
namespace Mine.Internal
theorem ints_get : ∀ {vs : List Value} {xs : List Int} {i : Nat}, IntsAre vs xs → i < xs.length → ∃ t, vs[i]? = some (.int (xs.getD i 0) t)
  | _, _, 0, .cons n t _, _ => ⟨t, rfl⟩
  | _, _, i + 1, .cons _ _ r, h => by
    obtain ⟨t, e⟩ := ints_get (i := i) r (Nat.lt_of_succ_lt_succ h)
    exact ⟨t, e⟩
theorem ints_set {x : Int} {t : Tok} : ∀ {vs : List Value} {xs : List Int} {i : Nat}, IntsAre vs xs → IntsAre (vs.set i (.int x t)) (xs.set i x)
  | _, _, _, .nil => .nil
  | _, _, 0, .cons _ _ r => .cons _ _ r
  | _, _, _ + 1, .cons _ _ r => .cons _ _ (ints_set r)
theorem RepVs.length {Φ : Ph} {ρ : List Addr} : ∀ {vs : List Value} {xs : List AV}, RepVs Φ ρ vs xs → vs.length = xs.length
  | [], [], _ => rfl
  | _ :: _, _ :: _, h => congrArg (· + 1) h.2.length
  | [], _ :: _, h => h.elim
  | _ :: _, [], h => h.elim
theorem RepVs.get {Φ : Ph} {ρ : List Addr} : ∀ {vs : List Value} {xs : List AV} {i : Nat} {x : AV}, RepVs Φ ρ vs xs → xs[i]? = some x → ∃ v, vs[i]? = some v ∧ RepV Φ ρ v x
  | _ :: _, _ :: _, 0, _, h, e => ⟨_, rfl, some_eq e ▸ h.1⟩
  | _ :: _, _ :: _, i + 1, _, h, e => by
    obtain ⟨v, a, b⟩ := RepVs.get (i := i) h.2 e
    exact ⟨v, a, b⟩
  | [], [], _, _, _, e => no_some e
  | [], _ :: _, _, _, h, _ => h.elim
  | _ :: _, [], _, _, h, _ => h.elim
theorem RepVs.ints {Φ : Ph} {ρ : List Addr} : ∀ {vs : List Value} {xs : List AV} {is : List Int}, RepVs Φ ρ vs xs → isInts xs = some is → IntsAre vs is
  | [], [], _, _, e => some_eq e ▸ .nil
  | v :: vs, x :: xs, is, h, e => by
    cases x with
    | int i =>
      obtain ⟨js, e1, rfl⟩ := Option.map_eq_some_iff.mp (show (isInts xs).map (i :: ·) = some is from e)
      obtain ⟨t, rfl⟩ := h.1
      exact .cons _ _ (RepVs.ints h.2 e1)
    | _ => exact no_some e
  | [], _ :: _, _, h, _ => h.elim
  | _ :: _, [], _, h, _ => h.elim
theorem size_eq {vs : Array Value} {xs : List Int} (h : IntsAre vs.toList xs) : vs.size = xs.length := by rw [← Array.length_toList]; exact h.length
theorem upto_ints {vs : Array Value} {n : Nat} {a : Int} (h : ItemsOf (fun i v => ∃ t, v = Value.int (a + i * 1) t) vs n) : IntsAre vs.toList (upto a n) := by
  have key : ∀ (n : Nat) (a : Int) (l : List Value), l.length = n → (∀ (i : Nat) (v : Value), l[i]? = some v → ∃ t, v = Value.int (a + (i : Int)) t) → IntsAre l (upto a n) := by
    intro n
    induction n with
    | zero => intro a l e _; rw [List.length_eq_zero_iff.mp e]; exact .nil
    | succ n ih =>
      intro a l e k
      cases l with
      | nil => cases e
      | cons v l =>
        obtain ⟨t, rfl⟩ := k 0 v rfl
        rw [show a + ((0 : Nat) : Int) = a from Int.add_zero a]
        exact .cons _ _ (ih (a + 1) l (Nat.succ.inj e) fun i v hv => by
          obtain ⟨t, rfl⟩ := k (i + 1) v hv
          exact ⟨t, congrArg (fun z => Value.int z t) (by rw [Int.add_assoc, Int.add_comm 1]; rfl)⟩)
  exact key n a vs.toList (by rw [Array.length_toList]; exact h.1) fun i v hv => by
    obtain ⟨t, e⟩ := h.2 i v (by rw [← Array.getElem?_toList]; exact hv)
    exact ⟨t, by rw [e, Int.mul_one]⟩
section
variable {X : Cx} {I : Ifc} {rest : List (Addr × Obj)} {σ : Sg} {l : Loc} {H : HP} {E : Value → Shared → Prop}
theorem subs_of {slice : Expr} {o i : Value} (h : noSlice slice = true) : subscripted slice false o i = operate [o, i] (getItem o i) := by
  cases slice with
  | Slice => exact no_bool h
  | _ => rfl
theorem tabE {x : AV} {v : Value} {kvs : List (Int × Int)} {G : Prop} (C : Conf X rest σ l H) (r : RepV X.Φ σ.ρ v x) (e : tabO H x = some kvs)
    (k : ∀ i a o, x = .obj i → v = .ref a → σ.ρ[i]? = some a → σ.h.get? a = some o → TabOf o kvs → G) : G :=
  selE C r e fun i a o ao h1 h2 h3 _ h5 h6 h7 => by
    obtain rfl := tab?_of h5
    exact k i a o h1 h2 h3 h6 h7
theorem seqE {x : AV} {v : Value} {q : Bool × List AV} {G : Prop} (C : Conf X rest σ l H) (r : RepV X.Φ σ.ρ v x) (e : sel AO.seq? H x = some q)
    (k : ∀ i a vs n, x = .obj i → v = .ref a → σ.ρ[i]? = some a → σ.h.get? a = some { cls := .type (if q.1 then "tuple" else "list"), data := .seq vs n } → RepVs X.Φ σ.ρ vs.toList q.2 → G) : G :=
  selE C r e fun i a o ao h1 h2 h3 _ h5 h6 h7 => by
    obtain rfl := seq?_of h5
    obtain ⟨vs, n, rfl, hi⟩ := h7
    exact k i a vs n h1 h2 h3 h6 hi
theorem rngE {x : AV} {v : Value} {q : Int × Int} {G : Prop} (C : Conf X rest σ l H) (r : RepV X.Φ σ.ρ v x) (e : sel AO.rng? H x = some q)
    (k : ∀ i a t u w, x = .obj i → v = .ref a → σ.ρ[i]? = some a → IsRange σ.h a q.1 q.2 1 t u w → G) : G :=
  selE C r e fun i a o ao h1 h2 h3 _ h5 h6 h7 => by
    obtain rfl := rng?_of h5
    obtain ⟨t, u, w, rfl⟩ := h7
    exact k i a t u w h1 h2 h3 h6
theorem TabOf.map {h : Heap} {a : Addr} {o : Obj} {kvs : List (Int × Int)} (ho : h.get? a = some o) (t : TabOf o kvs) : ∃ f, h.IntMap a f ∧ ∀ k, match kvs.lookup k with | some v => ∃ t, f k = some (.int v t) | none => f k = none := by
  obtain ⟨es, ep, h1, h2, h3, _, h5⟩ := t
  exact ⟨fun k => findBy Value.isInt es k, ⟨o, es, ep, ho, h1, h2, h3, fun k => rfl⟩, h5⟩
theorem itemI_ok (O : X.Ok) (K : KOk X.K X.Φ I) {value slice : Expr} {o i : Value} {x y : AV} {Q : Value → Shared → Prop} (hn : noSlice slice = true) (C : Conf X rest σ l H) (r : RepV X.Φ σ.ρ o x) (q : RepV X.Φ σ.ρ i y)
    (h : (itemI I x y H).All (Post X rest σ l Q)) : wpAny X.M X.A (subscriptTail value slice o i) Q E (X.st σ) := by
  refine T.optE h fun k hk h1 => ?_
  obtain rfl := int?_of hk
  obtain ⟨t, rfl⟩ := q
  cases hx : x.lst? with
  | some j =>
    rw [hx] at h1
    obtain rfl := lst?_of hx
    obtain rfl : o = _ := r
    refine T.optE h1 fun q hq h2 => T.optE h2 fun z e h3 => T.needE h3 fun c h4 => ?_
    simp only [Bool.and_eq_true, decide_eq_true_eq, Bool.not_eq_true'] at c
    obtain ⟨vs, dd, n, sl, hl, rp⟩ := K.lists _ _ hq
    rw [c.2] at hl
    obtain ⟨u, e', ru⟩ := rp.get e
    exact topList_K C.F O.inn hl c.1.1 c.1.2 e' (h4 σ u ⟨List.prefix_refl _, rfl, rfl⟩ C (ru.mono List.nil_prefix)) (subs_of hn)
  | none =>
    rw [hx] at h1
    cases ht : tabO H x with
    | some kvs =>
      rw [ht] at h1
      refine T.optE h1 fun v hv h2 => tabE C r ht fun i a ob _ h3 _ h5 h6 => ?_
      obtain ⟨f, hm, hf⟩ := h6.map h5
      have hf := hf k
      rw [hv] at hf
      obtain ⟨t', hf⟩ := hf
      rw [h3]
      exact tail_any hm.typeIs PySem.F.slot_dict_getitem.lookup (wpAny_getItem_intMap hm hf (h2 (σ.tok _) _ ⟨List.prefix_refl _, rfl, rfl⟩ (C.tok _) ⟨t', rfl⟩)) (subs_of hn)
    | none =>
      rw [ht] at h1
      refine T.optE h1 fun xs hx h2 => T.needE h2 fun c h3 => numsE C r hx fun i a vs n _ h4 _ h6 h7 => ?_
      unfold okIx at c
      simp only [Bool.and_eq_true, decide_eq_true_eq] at c
      obtain ⟨t', e⟩ := ints_get h7 c.2
      have hl : (X.st σ).heap.IsList a vs := ⟨_, h6, rfl, n, rfl⟩
      rw [h4]
      exact tail_any hl.typeIs slot_list_getitem.lookup (wpAny_getItem_list hl c.1.1 c.1.2 (by rw [← Array.getElem?_toList]; exact e) (h3 σ _ ⟨List.prefix_refl _, rfl, rfl⟩ C ⟨t', rfl⟩)) (subs_of hn)
theorem setI_ok {o i v : Value} {x y z : AV} {Q : Unit → Shared → Prop} (C : Conf X rest σ l H) (r : RepV X.Φ σ.ρ o x) (q : RepV X.Φ σ.ρ i y) (rv : RepV X.Φ σ.ρ v z)
    (h : (setI x y z H).All (fun H' => ∀ h' tk, Conf X rest ((σ.hp h').tok tk) l H' → Q () (X.st ((σ.hp h').tok tk)))) : wpAny X.M X.A (setItem o i v) Q E (X.st σ) := by
  refine T.optE h fun a ha h1 => T.optE h1 fun k hk h2 => T.optE h2 fun u hu h3 => ?_
  obtain rfl := obj?_of ha
  obtain rfl := int?_of hk
  obtain rfl := int?_of hu
  obtain ⟨t, rfl⟩ := q
  obtain ⟨tu, rfl⟩ := rv
  cases ht : tabO H (.obj a) with
  | none =>
    rw [ht] at h3
    refine T.optE h3 fun xs hx h4 => T.needE h4 fun c h5 => numsE C r hx fun i ad vs n e1 e2 e3 e4 e5 => ?_
    obtain rfl := obj_inj e1
    unfold okIx at c
    simp only [Bool.and_eq_true, decide_eq_true_eq] at c
    rw [e2]
    refine ki_setAt e4 c.1.1 c.1.2 (by rw [size_eq e5]; exact (Int.toNat_lt c.1.1).mp c.2) ?_
    exact h5 _ σ.tk ((C.upd e3 (Heap.SameBut.update σ.h ad (Obj.mapSeq fun a => a.setIfInBounds k.toNat (.int u tu))) (PySem.IsL.update e4 (fun a => a.setIfInBounds k.toNat (.int u tu))) (ao := .nums (xs.set k.toNat u))
      ⟨_, _, rfl, by rw [Array.toList_setIfInBounds]; exact ints_set e5⟩).tok _)
  | some kvs =>
    rw [ht] at h3
    refine T.needE h3 fun c h4 => tabE C r ht fun i ad ob e1 e2 e3 e4 e5 => ?_
    obtain rfl := obj_inj e1
    obtain ⟨f, hm, hf⟩ := e5.map e4
    have hz : σ.h.DictLe ad kvs.length := fun o' es ep g1 g2 => by
      obtain rfl := same_some e4 g1
      obtain ⟨es', ep', _, d2, _, d4, _⟩ := e5
      rw [d2] at g2
      obtain ⟨rfl, rfl⟩ := Data.dict.inj g2
      exact d4
    rw [e2]
    rw [Bool.and_eq_true] at c
    refine wpAny_setItem_intMap_le hm hz (Nat.le_trans (of_decide_eq_true c.2) (by decide)) fun h' m' z' s' => ?_
    obtain ⟨o', es, ep, g1, g2, g3, g4, g5⟩ := m'
    refine h4 h' _ ((C.upd e3 s' g1 (ao := .tab ((k, u) :: kvs)) ⟨es, ep, g2, g3, g4, z' _ _ _ g1 g3, fun j => ?_⟩).tok _)
    rw [List.lookup_cons, g5]
    rcases Int.instDecidableEq j k with q | q
    · dsimp only; rw [if_neg q, beq_eq_false_iff_ne.mpr q]; exact hf j
    · dsimp only; rw [if_pos q, beq_iff_eq.mpr q]; exact ⟨tu, rfl⟩
end
end Mine.Internal
end
section
open PySem PySem.W PySem.Calls PyProof.Rows PySem.SeqAt
namespace Mine.Internal
section
variable {X : Cx} {I : Ifc} {rest : List (Addr × Obj)} {σ : Sg} {l : Loc} {H : HP} {E : Value → Shared → Prop}
theorem small_bits {x : Int} (h : x.natAbs < 1073741824) : Builtin.Int.intBits x ≤ 64 := by
  unfold Builtin.Int.intBits
  split
  · omega
  · rename_i h0
    have hx : x.natAbs ≠ 0 := fun e => h0 (by rw [Int.natAbs_eq_zero.mp e]; rfl)
    have := (Nat.log2_lt hx).mpr (show x.natAbs < 2 ^ 30 by omega)
    omega
noncomputable def Two (X : Cx) (E : Value → Shared → Prop) (op : Operator) (a b : Value) (Q : Value → Shared → Prop) (s : Shared) : Prop := wpAny X.M X.A (binaryOp op a b) Q E s ∧ wpAny X.M X.A (inplaceOp op a b) Q E s
theorem binN_ok {op : Operator} {x y : Int} {t u : Tok} {Q : Value → Shared → Prop} {s : Shared} (h : (binN op x y).All (fun z => ∀ t, Q (.int z t) { s with toks := s.toks + 1 })) : Two X E op (.int x t) (.int y u) Q s := by
  cases op with
  | Add => exact ⟨P.add_int (h _), P.iadd_int (h _)⟩
  | Sub => exact ⟨P.sub_int (h _), P.isub_int (h _)⟩
  | BitAnd => exact ⟨and_int (h _), iand_int (h _)⟩
  | BitOr => exact ⟨or_int (h _), ior_int (h _)⟩
  | BitXor => exact ⟨xor_int (h _), ixor_int (h _)⟩
  | LShift =>
    refine T.needE h fun c h => ?_
    simp only [Bool.and_eq_true, decide_eq_true_eq] at c
    exact ⟨lshift_int_small c.1.1 c.1.2 c.2 (h _), ilshift_int_small c.1.1 c.1.2 c.2 (h _)⟩
  | RShift => exact T.needE h fun c h => ⟨rshift_int (of_decide_eq_true c) (h _), irshift_int (of_decide_eq_true c) (h _)⟩
  | Mult =>
    refine T.needE h fun c h => ?_
    simp only [Bool.or_eq_true, decide_eq_true_eq] at c
    have hm : IntMulOk _ _ := c.elim (fun c => IntMulOk.of_left (small_bits c)) fun c => IntMulOk.of_right (small_bits c)
    exact ⟨PyProof.Rows.mul_int (h _) hm, PyProof.Rows.imul_int (h _) hm⟩
  | FloorDiv =>
    refine T.needE h fun c h => ?_
    simp only [Bool.and_eq_true, decide_eq_true_eq, bne_iff_ne] at c
    have c1 : ¬ (y == 0) = true := fun e => c.1 (beq_iff_eq.mp e)
    have c2 := PyProof.noPylong_small (x := x) c.2
    exact ⟨AutoIntOps.floordiv_1 c1 (by rw [c2]; exact Bool.false_ne_true) (h _), AutoIntOps.ifloordiv_1 c1 (by rw [c2]; exact Bool.false_ne_true) (h _)⟩
  | Mod => exact T.needE h fun c h => ⟨PyProof.Rows.mod_int (bne_iff_ne.mp c) (h _), PyProof.Rows.imod_int (bne_iff_ne.mp c) (h _)⟩
  | _ => exact False.elim h
theorem isAdd_of {op : Operator} (h : isAdd op = true) : op = .Add := by
  cases op with
  | Add => rfl
  | _ => exact no_bool h
theorem isMul_of {op : Operator} (h : isMul op = true) : op = .Mult := by
  cases op with
  | Mult => rfl
  | _ => exact no_bool h
theorem binL_ok (O : X.Ok) (K : KOk X.K X.Φ I) {op : Operator} {a b : Value} {x y : AV} {Q : Value → Shared → Prop} (C : Conf X rest σ l H) (r : RepV X.Φ σ.ρ a x) (q : RepV X.Φ σ.ρ b y)
    (h : (binL I op x y H).All (Post X rest σ l Q)) : wpAny X.M X.A (binaryOp op a b) Q E (X.st σ) := by
  refine T.optE h fun xs hx h1 => numsXE O K C r hx fun ad vs n e1 e2 e3 => ?_
  rw [e1]
  cases hy : y.int? with
  | some k =>
    rw [hy] at h1
    obtain rfl := int?_of hy
    obtain ⟨t, rfl⟩ := q
    refine T.needE h1 fun c h2 => ?_
    simp only [Bool.and_eq_true, decide_eq_true_eq] at c
    obtain rfl := isMul_of c.1.1.1
    obtain ⟨news, N, add⟩ := C.news
    exact KM.mul C.F N (vs := vs.toList) ⟨_, e2, rfl, n, by rw [Array.toArray_toList]⟩ e3 (by omega) c.1.2 (by rw [e3.length]; exact c.2) fun D h' F' N' hD hI _ _ _ _ _ => h2 (σ.new h' D) _ ⟨List.prefix_append _ _, rfl, rfl⟩ (add D h' _ (.nums _) F' N' hD ⟨_, _, rfl, hI⟩) C.topV
  | none =>
    rw [hy] at h1
    refine T.optE h1 fun ys hy h2 => T.needE h2 fun c h3 => numsXE O K C q hy fun bd us n' f1 f2 f3 => ?_
    simp only [Bool.and_eq_true, decide_eq_true_eq] at c
    obtain rfl := isAdd_of c.1
    rw [f1]
    exact PySem.P.add_list e2 f2 (h3 (σ.push { cls := .type "list", data := .seq (vs ++ us) }) _ ⟨List.prefix_append _ _, rfl, rfl⟩ (C.push (ao := .nums (xs ++ ys)) ⟨vs ++ us, _, rfl, by rw [Array.toList_append]; exact IntsAre.append e3 f3⟩) C.topV)
      (by rw [size_eq e3, size_eq f3]; exact Nat.le_trans c.2 (by decide))
theorem binI_ok (O : X.Ok) (K : KOk X.K X.Φ I) {op : Operator} {a b : Value} {x y : AV} {Q : Value → Shared → Prop} (C : Conf X rest σ l H) (r : RepV X.Φ σ.ρ a x) (q : RepV X.Φ σ.ρ b y)
    (h : (binI I op x y H).All (Post X rest σ l Q)) : wpAny X.M X.A (binaryOp op a b) Q E (X.st σ) := by
  unfold binI at h
  cases hx : x.int? with
  | none => rw [hx] at h; exact binL_ok O K C r q h
  | some i =>
    rw [hx] at h
    obtain rfl := int?_of hx
    obtain ⟨t, rfl⟩ := r
    refine T.optE h fun j hj h1 => ?_
    obtain rfl := int?_of hj
    obtain ⟨u, rfl⟩ := q
    exact (binN_ok (T.all_mono (fun z hz t => hz (σ.tok (σ.tk + 1)) _ ⟨List.prefix_refl _, rfl, rfl⟩ (C.tok _) ⟨t, rfl⟩) (T.all_bind h1))).1
theorem fillsI_list : fillsInplaceSlot (.type "list") "add" (Operator.Add == .Add) = pure false := by
  unfold fillsInplaceSlot
  show (typeLookup (.type "list") (dunderI "add") >>= fun fi => pure (fi.isSome && !isSeqSlot fi)) = pure false
  rw [PySem.F.slot_list_iadd.lookup]
  kernel_rfl
theorem seqI_list : seqSlot? (.type "list") (dunderI "add") = pure (some (.builtin "list.__iadd__")) := by
  unfold seqSlot?
  rw [PySem.F.slot_list_iadd.lookup]
  kernel_rfl
theorem ext_list {ad bd : Addr} {vs us : Array Value} {n n' : Nat} {Q : Value → Shared → Prop} {s : Shared} (ho : s.heap.get? ad = some { cls := .type "list", data := .seq vs n }) (ho' : s.heap.get? bd = some { cls := .type "list", data := .seq us n' }) (hne : us.size ≠ 0) (hz : vs.size + us.size ≤ 2 ^ 24)
    (h : Q (.ref ad) { s with heap := s.heap.update ad (Obj.mapSeq fun x => x ++ us) }) : wpAny X.M X.A (inplaceOp .Add (.ref ad) (.ref bd)) Q E s := by
  have TA : s.TypeIs (.ref ad) "list" := ⟨_, ho, rfl⟩
  have TB : s.TypeIs (.ref bd) "list" := ⟨_, ho', rfl⟩
  unfold inplaceOp
  refine wpAny_holding ?_
  refine wpAny_bind (wpAny_typeOf TA (wpAny_bind (wpAny_of_eq fillsI_list ?_)))
  show wpAny _ X.A (if false = true then _ else _) Q E s
  rw [if_neg Bool.false_ne_true]
  refine wpAny_bind (binaryOp1_none (nm := "add") TA TB noFill_list_add ?_)
  refine wpAny_bind (wpAny_of_eq seqI_list ?_)
  refine wpAny_bind (wpAny_rule ?_)
  refine call_meets PySem.F.slot_list_iadd TA PySem.F.entry_list_iadd (PySem.F.args_list_iadd_2 _ _) (PySem.AutoSeq1.list___iadd___list_list_0 ad vs n bd us n' ?_ ?_ ?_) ⟨ho, ho', h⟩
  · intro z
    simp only [Bool.and_eq_true, Builtin.List.listTooLong] at z
    have := z.2
    simp [sizeLine] at this
    lia
  · simp [sizeLine]; lia
  · simp [sizeLine]; lia
theorem extI_ok {op : Operator} {a b : Value} {i : Nat} {y : AV} {Q : Value → Shared → Prop} (C : Conf X rest σ l H) (r : RepV X.Φ σ.ρ a (.obj i)) (q : RepV X.Φ σ.ρ b y)
    (h : (extI op i y H).All (fun H' => ∀ h', Conf X rest (σ.hp h') l H' → Q a (X.st (σ.hp h')))) : wpAny X.M X.A (inplaceOp op a b) Q E (X.st σ) := by
  refine T.optE h fun xs hx h1 => T.optE h1 fun j hj h2 => T.optE h2 fun ys hy h3 => T.needE h3 fun c h4 => numsE C r hx fun i' ad vs n e1 e2 e3 e4 e5 => numsE C q hy fun j' bd us n' _ f2 _ f4 f5 => ?_
  simp only [Bool.and_eq_true, decide_eq_true_eq, Bool.not_eq_true'] at c
  obtain rfl := isAdd_of c.1.1.1
  obtain rfl := obj_inj e1
  rw [f2]
  have h5 := h4 (σ.h.update ad (Obj.mapSeq fun x => x ++ us)) (C.upd e3 (Heap.SameBut.update σ.h ad (Obj.mapSeq fun x => x ++ us)) (Heap.get?_update_self (h := σ.h) (a := ad) (Obj.mapSeq fun x => x ++ us) e4 rfl) (ao := .nums (xs ++ ys))
    ⟨vs ++ us, _, rfl, by rw [Array.toList_append]; exact IntsAre.append e5 f5⟩)
  rw [e2] at h5 ⊢
  refine ext_list e4 f4 (fun z => ?_) (by rw [size_eq e5, size_eq f5]; exact c.2) h5
  rw [size_eq f5] at z
  rw [List.length_eq_zero_iff.mp z] at c
  exact no_bool c.1.2.symm
theorem small_of {a b : Int} (h : 0 ≤ a) (h1 : a ≤ b) (h2 : b ≤ 1000000) : Builtin.Range.small a b 1 = true ∧ Builtin.Range.rangeSize a b 1 = (((b - a).toNat : Nat) : Int) := by
  have e : Builtin.Range.rangeSize a b 1 = (((b - a).toNat : Nat) : Int) := by
    unfold Builtin.Range.rangeSize
    simp only [gt_iff_lt, Int.zero_lt_one, if_true]
    split <;> lia
  refine ⟨?_, e⟩
  have k : ∀ j : Int, 0 ≤ j → j ≤ 1000000 → Builtin.Range.rangeFitsLong j = true := fun j a b => by
    unfold Builtin.Range.rangeFitsLong
    rw [Bool.and_eq_true, decide_eq_true_eq, decide_eq_true_eq]
    exact ⟨Int.le_trans (by decide) a, Int.lt_of_le_of_lt b (by decide)⟩
  unfold Builtin.Range.small
  rw [e, k a h (by lia), k b (by lia) h2, k 1 (by lia) (by lia), k _ (by lia) (by lia), if_pos (by lia), k (b + (1 - 1)) (by lia) (by lia)]
  simp
theorem bltI_ok (O : X.Ok) {id : String} {vs : List Value} {xs : List AV} {Q : Value → Shared → Prop} (C : Conf X rest σ l H) (r : RepVs X.Φ σ.ρ vs xs) (h : (bltI id xs H).All (Post X rest σ l Q)) : wpAny X.M X.A (call (.builtin id) vs) Q E (X.st σ) := by
  match vs, xs, r, h with
  | [v], [x], r, h =>
    unfold bltI at h
    dsimp only at h
    split at h
    · refine T.optE h fun ys hy h1 => T.needE h1 fun c h2 => numsE C r.1 hy fun i a us n _ e2 _ e4 e5 => ?_
      rw [e2]
      refine Calls.call_len_list (items := us) ⟨_, e4, rfl, n, rfl⟩ (by rw [size_eq e5]; have := of_decide_eq_true c; lia) ?_
      rw [size_eq e5]
      exact h2 (σ.tok _) _ ⟨List.prefix_refl _, rfl, rfl⟩ (C.tok _) ⟨_, rfl⟩
    · refine T.optE h fun ys hy h1 => numsE C r.1 hy fun i a us n _ e2 _ e4 e5 => ?_
      have hall : AllInts us.toList.toArray := e5.allInts
      rw [Array.toArray_toList] at hall
      obtain ⟨is, he⟩ := hall.items
      have hs : preSum (numAt is) is.size = ys.sum := by
        have e1 := nums_intItems is
        rw [← he, e5.numsOf] at e1
        rw [preSum_eq, List.take_of_length_le (by simp), ← e1]
      rw [e2]
      refine sum_intListG O.handled (xs := is) ⟨_, e4, rfl, n, by rw [he] <;> rfl⟩ fun h' tk t' hk => ?_
      rw [hs]
      exact h1 ((σ.hp h').tok tk) _ ⟨List.prefix_refl _, rfl, rfl⟩ ((C.keeps hk).tok _) ⟨_, rfl⟩
    · exact h.elim
  | [v, u], [x, y], r, h =>
    unfold bltI at h
    dsimp only at h
    split at h
    · refine T.optE h fun i hi h1 => T.optE h1 fun j hj h2 => T.needE h2 fun _ h3 => ?_
      obtain ⟨r1, r2, _⟩ := r
      obtain rfl := int?_of hi
      obtain rfl := int?_of hj
      obtain ⟨t, rfl⟩ := r1
      obtain ⟨t', rfl⟩ := r2
      refine max_two_ints O.handled ?_
      refine fun h' tk hk => h3 ((σ.hp h').tok tk) _ ⟨List.prefix_refl _, rfl, rfl⟩ ((C.keeps hk).tok _) ?_
      show ∃ t, _ = Value.int (if i < j then j else i) t
      rcases Int.decLt i j with q | q
      · rw [if_neg q, if_neg q]; exact ⟨_, rfl⟩
      · rw [if_pos q, if_pos q]; exact ⟨_, rfl⟩
    · exact h.elim
  | v :: u :: w :: vs, x :: y :: z :: xs, r, h =>
    unfold bltI at h
    dsimp only at h
    split at h
    · exact T.optE h fun i hi h1 => T.optE h1 fun j hj h2 => T.needE h2 fun c _ => no_bool c
    · exact h.elim
  | [], [], _, h => exact h.elim
  | [], _ :: _, r, _ => exact r.elim
  | _ :: _, [], r, _ => exact r.elim
  | [_], _ :: _ :: _, r, _ => exact r.2.elim
  | _ :: _ :: _, [_], r, _ => exact r.2.elim
  | [_, _], _ :: _ :: _ :: _, r, _ => exact r.2.2.elim
  | _ :: _ :: _ :: _, [_, _], r, _ => exact r.2.2.elim
end
end Mine.Internal
end
section
open PySem PySem.W PySem.Calls PyProof.Rows PySem.SeqAt
namespace Mine.Internal
section
variable {X : Cx} {I : Ifc} {rest : List (Addr × Obj)} {σ : Sg} {l : Loc} {H : HP} {E : Value → Shared → Prop}
theorem tyI_ok (O : X.Ok) {n : String} {vs : List Value} {xs : List AV} {Q : Value → Shared → Prop} (C : Conf X rest σ l H) (r : RepVs X.Φ σ.ρ vs xs) (h : (tyI n xs H).All (Post X rest σ l Q)) : wpAny X.M X.A (call (.type n) vs) Q E (X.st σ) := by
  match vs, xs, r, h with
  | [], [], _, h => exact h.elim
  | [], _ :: _, r, _ => exact r.elim
  | _ :: _, [], r, _ => exact r.elim
  | v :: vs, x :: xs, r, h =>
    obtain ⟨r1, r2⟩ := r
    unfold tyI at h
    dsimp only at h
    split at h
    · refine T.optE h fun i hi h1 => ?_
      obtain rfl := int?_of hi
      obtain ⟨t, rfl⟩ := r1
      match vs, xs, r2, h1 with
      | [], [], _, h1 =>
        exact T.needE h1 fun c h2 => call_range_1 (h2 ((σ.push { cls := .type "range", data := .fields #[.int 0 σ.tk, .int i t, .int 1 (σ.tk + 1)] }).tok _) _ ⟨List.prefix_append _ _, rfl, rfl⟩ ((C.push (ao := .rng 0 i) ⟨_, _, _, rfl⟩).tok _) C.topV)
      | [], _ :: _, r2, _ => exact r2.elim
      | _ :: _, [], r2, _ => exact r2.elim
      | [u], [y], r2, h1 =>
        refine T.optE h1 fun j hj h2 => T.needE h2 fun c h3 => ?_
        obtain rfl := int?_of hj
        obtain ⟨t', rfl⟩ := r2.1
        exact call_range_2 (h3 ((σ.push { cls := .type "range", data := .fields #[.int i t, .int j t', .int 1 σ.tk] }).tok _) _ ⟨List.prefix_append _ _, rfl, rfl⟩ ((C.push (ao := .rng i j) ⟨_, _, _, rfl⟩).tok _) C.topV)
      | [_], _ :: _ :: _, r2, _ => exact r2.2.elim
      | _ :: _ :: _, [_], r2, _ => exact r2.2.elim
      | _ :: _ :: _, _ :: _ :: _, _, h1 => exact T.optE h1 fun j hj h2 => T.needE h2 fun c _ => no_bool c
    · refine T.optE h fun q hq h1 => T.needE h1 fun c h2 => rngE C r1 hq fun i a t u w _ e2 _ e4 => ?_
      simp only [Bool.and_eq_true, decide_eq_true_eq, List.isEmpty_iff] at c
      obtain ⟨⟨⟨rfl, c1⟩, c2⟩, c3⟩ := c
      match vs, r2 with
      | [], _ =>
        rw [e2]
        refine call_list_range O.handled e4 (small_of c1 c2 c3).1 (small_of c1 c2 c3).2 (by omega) fun h' tk acc c' hk hS hI => ?_
        obtain ⟨news, N, add⟩ := C.news
        exact h2 ((σ.new h' σ.h.objs.size).tok tk) _ ⟨List.prefix_append _ _, rfl, rfl⟩ ((add _ h' _ (.nums _) (frKeeps C.F hk) (fun p hp => (List.mem_cons.mp hp).elim (fun e => e ▸ ⟨hS, Ne.symm (Nat.ne_of_lt C.F.ns.lt), C.fresh⟩) fun hp => ⟨hk _ _ (N p hp).1, (N p hp).2⟩)
          (fun p hp => Heap.lt_size (N p hp).1) ⟨_, _, rfl, upto_ints hI⟩).tok _) C.topV
      | _ :: _, r2 => exact r2.elim
    · exact h.elim
theorem dispI_ok {tup : Bool} {vs : List Value} {xs : List AV} {Q : Value → Shared → Prop} (C : Conf X rest σ l H) (r : RepVs X.Φ σ.ρ vs xs) (h : (dispI tup xs H).All (Post X rest σ l Q)) :
    vs.length ≤ sizeLine ∧ Q (.ref σ.h.objs.size) (X.st (σ.push { cls := .type (if tup then "tuple" else "list"), data := .seq vs.toArray })) := by
  refine T.needE h fun c h1 => ⟨by rw [r.length]; exact Nat.le_trans (of_decide_eq_true c) (by decide), h1 _ _ ⟨List.prefix_append _ _, rfl, rfl⟩ (C.push ?_) C.topV⟩
  have gen : RepO X.Φ σ.ρ { cls := .type (if tup then "tuple" else "list"), data := .seq vs.toArray } (.seq tup xs) := ⟨vs.toArray, 0, rfl, r⟩
  cases tup with
  | true => exact gen
  | false =>
    cases hi : isInts xs with
    | none => exact gen
    | some is => exact ⟨vs.toArray, 0, rfl, r.ints hi⟩
theorem ints_drop : ∀ {vs : List Value} {xs : List Int} (n : Nat), IntsAre vs xs → IntsAre (vs.drop n) (xs.drop n)
  | _, _, 0, h => h
  | _, _, _ + 1, .nil => .nil
  | _, _, n + 1, .cons _ _ h => ints_drop n h
theorem ints_take : ∀ {vs : List Value} {xs : List Int} (n : Nat), IntsAre vs xs → IntsAre (vs.take n) (xs.take n)
  | _, _, 0, _ => .nil
  | _, _, _ + 1, .nil => .nil
  | _, _, n + 1, .cons i t h => .cons i t (ints_take n h)
theorem lo_eq {lo : Option Int} {n : Nat} : kms_lo lo n = loI lo n := by cases lo <;> rfl
theorem hi_eq {hi : Option Int} {n : Nat} : kms_hi hi n = hiI hi n := by cases hi <;> rfl
theorem ints_pick {vs : List Value} {xs : List Int} {lo hi : Option Int} (h : IntsAre vs xs) : IntsAre (kms_pick vs lo hi) (pickI xs lo hi) := by
  unfold kms_pick pickI
  rw [h.length, lo_eq, hi_eq]
  exact ints_take _ (ints_drop _ h)
theorem sliceI_ok (O : X.Ok) (K : KOk X.K X.Φ I) {x : Str} {xp sp : Pos} {slo shi : Option Expr} {o vl vu : Value} {ox : AV} {lo hi : Option Int} {Q : Value → Shared → Prop} (C : Conf X rest σ l H) (r : RepV X.Φ σ.ρ o ox) (pl : IsPart vl lo) (pu : IsPart vu hi)
    (h : (sliceI I ox lo hi H).All (Post X rest σ l Q)) : wpAny X.M X.A (subscriptTail (.Name x xp) (.Slice slo shi none sp) o (.ref σ.h.objs.size)) Q E (X.st (σ.hp (σ.h.push { cls := .type "slice", data := .fields #[vl, vu, .none] }))) := by
  refine T.optE h fun xs hx h1 => T.needE h1 fun c h2 => numsVE O K C r hx fun a vs e1 e2 e3 => ?_
  obtain ⟨news, N, add⟩ := C.news
  rw [e1]
  exact kms_slice_lit (s := X.st σ) C.F N e2 pl pu rfl (fun D h' F' N' hD => h2 (σ.new h' D) _ ⟨List.prefix_append _ _, rfl, rfl⟩ (add D h' _ (.nums _) F' N' hD ⟨_, _, rfl, ints_pick e3⟩) C.topV) rfl (fun _ => rfl)
    (by rw [size_eq e3]; exact Nat.le_trans (of_decide_eq_true c) (by decide))
theorem revI_ok {x : Str} {xp sp : Pos} {sst : Expr} {o vk : Value} {ox st : AV} {Q : Value → Shared → Prop} (C : Conf X rest σ l H) (r : RepV X.Φ σ.ρ o ox) (q : RepV X.Φ σ.ρ vk st)
    (h : (revI ox st H).All (Post X rest σ l Q)) : wpAny X.M X.A (subscriptTail (.Name x xp) (.Slice none none (some sst) sp) o (.ref σ.h.objs.size)) Q E (X.st (σ.hp (σ.h.push { cls := .type "slice", data := .fields #[.none, .none, vk] }))) := by
  refine T.optE h fun xs hx h1 => T.optE h1 fun k hk h2 => T.needE h2 fun c h3 => numsE C r hx fun i a vs n _ e2 _ e4 e5 => ?_
  rw [Bool.and_eq_true] at c
  obtain rfl := int?_of hk
  obtain rfl := beq_iff_eq.mp c.1
  obtain ⟨t, rfl⟩ := q
  obtain ⟨news, N, add⟩ := C.news
  rw [e2]
  exact krv_lit (s := X.st σ) C.F N ⟨_, e4, rfl, n, rfl⟩ (.int _ t) rfl (fun D h' F' N' hD => h3 (σ.new h' D) _ ⟨List.prefix_append _ _, rfl, rfl⟩ (add D h' _ (.nums _) F' N' hD ⟨_, _, rfl, e5.reverse⟩) C.topV) (ops := [.ref a, .ref σ.h.objs.size]) rfl (fun _ => rfl)
    (by rw [size_eq e5]; exact Nat.le_trans (of_decide_eq_true c.2) (by decide))
theorem reads_tup {h : Heap} {a : Addr} {vs : Array Value} {n : Nat} {ns : List Int} (e : h.get? a = some { cls := .type "tuple", data := .seq vs n }) (hi : IntsAre vs.toList ns) : Reads h (.ref a) (.tuple (ns.map PyData.int)) [] :=
  .tuple e rfl rfl (readsAll_of_ints hi)
noncomputable def datS (q : Bool × List Int) : PyData := if q.1 then .tuple (q.2.map PyData.int) else .list (q.2.map PyData.int)
theorem seq_reads (C : Conf X rest σ l H) {x : AV} {q : Bool × List Int} (e : seqInts H x = some q) {v : Value} (r : RepV X.Φ σ.ρ v x) : ∃ as, Reads σ.h v (datS q) as := by
  unfold seqInts at e
  cases hx : numsO H x with
  | some xs =>
    rw [hx] at e
    obtain rfl := some_eq e
    exact numsE C r hx fun i a vs n _ e2 _ e4 e5 => e2 ▸ ⟨_, reads_of_ints (vs := vs.toList) ⟨_, e4, rfl, n, rfl⟩ e5⟩
  | none =>
    rw [hx] at e
    obtain ⟨p, h1, h2⟩ := Option.bind_eq_some_iff.mp e
    obtain ⟨js, h3, rfl⟩ := Option.map_eq_some_iff.mp h2
    refine seqE C r h1 fun i a vs n _ e2 _ e4 e5 => ?_
    rw [e2]
    obtain ⟨t, q⟩ := p
    cases t with
    | true => exact ⟨_, reads_tup e4 (e5.ints h3)⟩
    | false => exact ⟨_, reads_of_ints (vs := vs.toList) ⟨_, e4, rfl, n, rfl⟩ (e5.ints h3)⟩
theorem shaped_S (q : Bool × List Int) : shaped (datS q) = true := by obtain ⟨t, q⟩ := q; cases t <;> exact shaped_ints q
theorem eqS_ok (O : X.Ok) {a b : Value} {x y : AV} {P : Bool → Prop} {G : Prop} (C : Conf X rest σ l H) (r : RepV X.Φ σ.ρ a x) (q : RepV X.Φ σ.ρ b y) (h : (eqS x y H).All P)
    (k : ∀ as bs u w, Reads σ.h a u as → Reads σ.h b w bs → shaped u = true → shaped w = true → noMix u w = true → P (PySem.Spec.same u w) → G) : G := by
  refine T.optE h fun p hp h1 => T.optE h1 fun p' hp' h2 => T.needE h2 fun c h3 => ?_
  obtain ⟨t, xs⟩ := p
  obtain ⟨t', ys⟩ := p'
  obtain rfl := beq_iff_eq.mp c
  obtain ⟨as, R1⟩ := seq_reads C hp r
  obtain ⟨bs, R2⟩ := seq_reads C hp' q
  refine k as bs _ _ R1 R2 (shaped_S _) (shaped_S _) ?_ ?_
  · cases t <;> exact noMix_ints xs ys
  · have e : PySem.Spec.same (datS (t, xs)) (datS (t, ys)) = decide (xs = ys) := by
      cases t <;> simp only [datS, Bool.false_eq_true, if_false, if_true, PySem.Spec.same] <;> exact same_ints xs ys
    rw [e]; exact h3
theorem contains_map {d : Addr} {f : Int → Option Value} {k : Int} {t : Tok} {Q : Bool → Shared → Prop} {s : Shared} (hm : s.heap.IntMap d f) (h : Q (f k).isSome { s with toks := s.toks + 1 }) : wpAny X.M X.A (contains (.ref d) (.int k t)) Q E s := by
  unfold contains
  refine wpAny_holding ?_
  refine wpAny_bind (wpAny_specialOf hm.typeIs PySem.F.slot_dict_contains.lookup ?_)
  show wpAny _ _ (if (some (Value.builtin "dict.__contains__") == some Value.none) = true then _ else _) _ E s
  rw [if_neg (by rw [beq_builtin_none]; exact Bool.false_ne_true)]
  refine wpAny_bind (wpAny_callSpecialUnlessNone?_slot (name := Str.ofString "__contains__") hm.typeIs PySem.F.slot_dict_contains (wpAny_call_entry PySem.F.slot_dict_contains hm.typeIs PySem.F.entry_dict_contains ?_ (PySem.F.args_dict_contains_2 _ _)))
  show wpAny _ _ (dictGet d (.int k t) >>= _) _ _ s
  refine wpAny_bind (wpAny_dictGet_int hm ?_)
  cases hf : f k with
  | some v =>
    rw [hf] at h
    exact wpAny_pure ⟨_, rfl, wpAny_truthy_bool h⟩
  | none =>
    rw [hf] at h
    exact wpAny_bind (wpAny_pendingKey_int (wpAny_pure ⟨_, rfl, wpAny_truthy_bool h⟩))
theorem inI_ok {k : Int} {t : Tok} {b : Value} {y : AV} {Q : Value → Shared → Prop} (C : Conf X rest σ l H) (q : RepV X.Φ σ.ρ b y) (ne : Bool)
    (h : (inI k y H).All (fun c => ∀ n, Q (.bool (c != ne)) (X.st (σ.tok n)))) : wpAny X.M X.A (compareOp (cond ne .NotIn .In) (.int k t) b) Q E (X.st σ) := by
  unfold inI at h
  cases ht : tabO H y with
  | some kvs =>
    rw [ht] at h
    refine tabE C q ht fun i a o _ e2 _ e4 e5 => ?_
    obtain ⟨f, hm, hf⟩ := e5.map e4
    have hs : (f k).isSome = (kvs.lookup k).isSome := by
      have := hf k
      cases hl : kvs.lookup k with
      | none => rw [hl] at this; rw [this]; rfl
      | some v => rw [hl] at this; obtain ⟨t, e⟩ := this; rw [e]; rfl
    have h := h (σ.tk + 1)
    rw [← hs] at h
    rw [e2]
    cases ne with
    | false => exact wpAny_in_intMap hm (by rw [Bool.bne_false] at h; exact h)
    | true => exact wpAny_bind (contains_map hm (wpAny_pure (by rw [Bool.bne_true] at h; exact h)))
  | none =>
    rw [ht] at h
    refine T.optE h fun xs hx h1 => numsE C q hx fun i a vs n _ e2 _ e4 e5 => ?_
    rw [e2]
    cases ne with
    | false => exact in_list_ints (vs := vs.toList) ⟨_, e4, rfl, n, rfl⟩ e5 (by have := h1 σ.tk; rw [Bool.bne_false] at this; exact this)
    | true => exact notin_list_ints (vs := vs.toList) ⟨_, e4, rfl, n, rfl⟩ e5 (by have := h1 σ.tk; rw [Bool.bne_true] at this; exact this)
theorem cmpI_ok (O : X.Ok) {op : CmpOp} {a b : Value} {x y : AV} {Q : Value → Shared → Prop} (C : Conf X rest σ l H) (r : RepV X.Φ σ.ρ a x) (q : RepV X.Φ σ.ρ b y)
    (h : (cmpI op x y H).All (fun c => ∀ n, Q (.bool c) (X.st (σ.tok n)))) : wpAny X.M X.A (compareOp op a b) Q E (X.st σ) := by
  have hu : X.A.units + 64 < cLine := by have := O.units; lia
  have num : ∀ {k : CK} {G : Prop}, (match x.int? with | some i => T.opt y.int? fun j => cmpN k i j | none => .fail).All (fun c => ∀ n, Q (.bool c) (X.st (σ.tok n))) → (∀ i j t u, a = .int i t → b = .int j u → (cmpN k i j).All (fun c => ∀ n, Q (.bool c) (X.st (σ.tok n))) → G) → G := fun {k G} h g => by
    cases hx : x.int? with
    | none => rw [hx] at h; exact h.elim
    | some i =>
      rw [hx] at h
      refine T.optE h fun j hj h1 => ?_
      obtain rfl := int?_of hx
      obtain rfl := int?_of hj
      obtain ⟨t, rfl⟩ := r
      obtain ⟨u, rfl⟩ := q
      exact g i j t u rfl rfl h1
  cases op with
  | Eq =>
    cases hx : x.int? with
    | some i => exact num (k := .eq) (by unfold cmpI ckOf at h; dsimp only at h; rw [hx] at h ⊢; exact h) fun i j t u e1 e2 h => e1 ▸ e2 ▸ P.eq_int (h σ.tk)
    | none => exact eqS_ok O C r q (P := fun c => ∀ n, Q (.bool c) (X.st (σ.tok n))) (by unfold cmpI ckOf at h; dsimp only at h; rw [hx] at h; exact h) fun as bs u w R1 R2 s1 s2 hm g => eq_dataH_same R1 R2 s1 s2 hu hm (g σ.tk)
  | NotEq =>
    cases hx : x.int? with
    | some i => exact num (k := .ne) (by unfold cmpI ckOf at h; dsimp only at h; rw [hx] at h ⊢; exact h) fun i j t u e1 e2 h => e1 ▸ e2 ▸ P.ne_int (h σ.tk)
    | none => exact eqS_ok O C r q (P := fun c => ∀ n, Q (.bool (!c)) (X.st (σ.tok n))) (by unfold cmpI ckOf at h; dsimp only at h; rw [hx] at h; exact T.all_bind h) fun as bs u w R1 R2 s1 s2 hm g => ne_dataH_same R1 R2 s1 s2 hu hm (g σ.tk)
  | Lt => exact num (k := .lt) (by unfold cmpI ckOf at h; exact h) fun i j t u e1 e2 h => e1 ▸ e2 ▸ P.lt_int (h σ.tk)
  | LtE => exact num (k := .le) (by unfold cmpI ckOf at h; exact h) fun i j t u e1 e2 h => e1 ▸ e2 ▸ P.le_int (h σ.tk)
  | Gt => exact num (k := .gt) (by unfold cmpI ckOf at h; exact h) fun i j t u e1 e2 h => e1 ▸ e2 ▸ P.gt_int (h σ.tk)
  | GtE => exact num (k := .ge) (by unfold cmpI ckOf at h; exact h) fun i j t u e1 e2 h => e1 ▸ e2 ▸ P.ge_int (h σ.tk)
  | Is =>
    refine T.optE h fun c hc h1 => T.needE h1 fun hb h2 => ?_
    obtain rfl : b = .none := by
      cases y with
      | none => exact q
      | _ => exact no_bool hb
    cases x with
    | none => obtain rfl := some_eq hc; obtain rfl : a = _ := r; exact is_none_none (h2 σ.tk)
    | obj i => obtain rfl := some_eq hc; obtain ⟨_, _, rfl⟩ := r; exact is_none_ne (fun e => by cases e) (h2 σ.tk)
    | int i => obtain rfl := some_eq hc; obtain ⟨_, rfl⟩ := r; exact is_none_ne (fun e => by cases e) (h2 σ.tk)
    | _ => exact no_some hc
  | In =>
    refine T.optE h fun k hk h1 => ?_
    obtain rfl := int?_of hk
    obtain ⟨t, rfl⟩ := r
    exact inI_ok C q false (T.all_mono (fun c hc n => by rw [Bool.bne_false]; exact hc n) h1)
  | NotIn =>
    refine T.optE h fun k hk h1 => ?_
    obtain rfl := int?_of hk
    obtain ⟨t, rfl⟩ := r
    exact inI_ok C q true (T.all_mono (fun c hc n => by rw [Bool.bne_true]; exact hc n) (T.all_bind h1))
  | IsNot => exact num (k := .other) (by unfold cmpI ckOf at h; cases hx : x.int? with | some i => rw [hx] at h; exact h | none => rw [hx] at h; exact h) fun i j t u _ _ h => h.elim
theorem truI_ok (O : X.Ok) (K : KOk X.K X.Φ I) {a : Value} {x : AV} {Q : Bool → Shared → Prop} (C : Conf X rest σ l H) (r : RepV X.Φ σ.ρ a x) (h : (truI I x H).All (fun c => ∀ n, Q c (X.st (σ.tok n)))) : wpAny X.M X.A (truthy a) Q E (X.st σ) := by
  cases x with
  | int i => obtain ⟨t, rfl⟩ := r; exact P.truthy_int (h σ.tk)
  | bool b => obtain rfl : a = _ := r; exact wpAny_truthy_bool (h σ.tk)
  | none => obtain rfl : a = _ := r; exact truthy_none (h σ.tk)
  | lst k =>
    refine T.optE h fun xs hx h1 => numsVE (x := .lst k) O K C r hx fun ad vs e1 e2 e3 => ?_
    rw [e1]
    have hz := K.sizes _ _ hx
    refine wpAny_truthy_list e2 (by rw [size_eq e3]; lia) ?_
    have he : vs.isEmpty = xs.isEmpty := by
      have := size_eq e3
      cases xs with
      | nil => exact decide_eq_true this
      | cons _ _ => exact decide_eq_false (fun z => by rw [z] at this; cases this)
    rw [he]
    exact h1 _
  | _ => exact h.elim
end
end Mine.Internal
end
section
open PySem PySem.W PySem.Calls PyProof.Rows
namespace Mine.Internal
theorem fm_congr {α β : Type} {f g : α → Option β} : ∀ {l : List α}, (∀ x ∈ l, f x = g x) → l.filterMap f = l.filterMap g
  | [], _ => rfl
  | a :: l, h => by
    rw [List.filterMap_cons, List.filterMap_cons, h a List.mem_cons_self, fm_congr fun x hx => h x (List.mem_cons_of_mem _ hx)]
theorem zip_lookup_some {α : Type} : ∀ {ps : List Str} {vs : List α}, ps.length = vs.length → ∀ p ∈ ps, ((ps.zip vs).lookup p).isNone = false
  | p :: ps, v :: vs, h, q, hq => by
    rw [List.zip_cons_cons, List.lookup_cons]
    cases e : (q == p) with
    | true => rfl
    | false => exact zip_lookup_some (Nat.succ.inj h) q ((List.mem_cons.mp hq).resolve_left fun z => no_bool (e.symm.trans (beq_iff_eq.mpr z)))
  | [], _, _, _, hq => nomatch hq
theorem zip_filterMap {α : Type} : ∀ {ps : List Str} {vs : List α}, ps.Nodup → ps.length = vs.length → (ps.filterMap fun n => ((ps.zip vs).lookup n).map (n, ·)) = ps.zip vs
  | [], [], _, _ => rfl
  | p :: ps, v :: vs, nd, h => by
    obtain ⟨n1, n2⟩ := List.nodup_cons.mp nd
    rw [List.zip_cons_cons, List.filterMap_cons, List.lookup_cons, beq_self_eq_true]
    refine congrArg (List.cons (p, v)) (Eq.trans (fm_congr fun q hq => ?_) (zip_filterMap n2 (Nat.succ.inj h)))
    rw [List.lookup_cons, beq_eq_false_iff_ne.mpr (fun e => n1 (by rw [← e]; exact hq))]
  | [], _ :: _, _, h => nomatch h
  | _ :: _, [], _, h => nomatch h
theorem bind_rest {P : List Str} {D : List Value} {slots : List (Str × Value)} {α : Type} {f : List (Str × Value) → Sem α} {z : Sem α} (hD : D = []) (h : f slots = z) :
    (forIn (P.zip D) slots fun (z : Str × Value) (r : List (Str × Value)) => if (r.lookup z.1).isNone = true then (pure (.yield (r ++ [(z.1, z.2)])) : Sem _) else pure (.yield r)) >>= f = z := by
  rw [hD, List.zip_nil_right]; exact h
theorem bind_plain {fd : FuncData} {ps : List Str} {vs : List Value} (hp : parsOf fd.params = some ps) (hd : fd.defaults = .none) (hl : ps.length = vs.length) (nd : ps.Nodup) : bindArgs fd ⟨vs, []⟩ = pure (ps.zip vs) := by
  obtain ⟨nm, qn, ⟨po, as, va, ko, kd, kw, df⟩, body, sc, gl, clo, dflt, kwd, r1, r2, r3, r4, r5, r6⟩ := fd
  unfold parsOf at hp
  dsimp only at hp hd
  subst hd
  cases hc : (po.isEmpty && va.isNone && ko.isEmpty && kd.isEmpty && kw.isNone && df.isEmpty) with
  | false => rw [hc] at hp; exact no_some hp
  | true =>
    rw [hc] at hp
    obtain rfl := some_eq hp
    simp only [Bool.and_eq_true, List.isEmpty_iff, Option.isNone_iff_eq_none] at hc
    obtain ⟨⟨⟨⟨⟨rfl, rfl⟩, rfl⟩, rfl⟩, rfl⟩, rfl⟩ := hc
    have hD : List.drop (([] : List Value).length - (as.map (·.arg)).length) ([] : List Value) = [] := List.drop_nil
    have e0 : ((as.map (·.arg)).take ((as.map (·.arg)).length - (List.drop (([] : List Value).length - (as.map (·.arg)).length) ([] : List Value)).length)).filter (fun n => ((List.zip (as.map (·.arg)) vs).lookup n).isNone) = [] :=
      List.filter_eq_nil_iff.mpr fun p hp e => no_bool ((zip_lookup_some hl p (List.mem_of_mem_take hp)).symm.trans e)
    refine (if_neg (c := (decide (vs.length > (as.map (·.arg)).length) && true) = true) (by rw [hl, decide_eq_false (Nat.lt_irrefl _)]; exact Bool.false_ne_true)).trans ?_
    refine (if_neg (c := (!(((as.map (·.arg)).take ((as.map (·.arg)).length - (List.drop (([] : List Value).length - (as.map (·.arg)).length) ([] : List Value)).length)).filter (fun n => ((List.zip (as.map (·.arg)) vs).lookup n).isNone)).isEmpty) = true) (by rw [e0]; exact Bool.false_ne_true)).trans ?_
    refine bind_rest hD ?_
    exact congrArg (fun z => (pure z : Sem _)) ((congrArg (List.filterMap (fun n => ((List.zip (as.map (·.arg)) vs).lookup n).map (n, ·))) (List.append_nil (as.map (·.arg)))).trans (zip_filterMap nd hl))
end Mine.Internal
end
section
open PySem PySem.W PySem.Calls PyProof.Rows
namespace Mine.Internal
structure Fx (I : Ifc) (X : Cx) : Prop where
  O : X.Ok
  K : KOk X.K X.Φ I
noncomputable def RepF (Φ : Ph) (ρ : List Addr) (fl : Flow) : AF → Prop
  | .next => fl = .next
  | .ret x => ∃ v, fl = .ret v ∧ RepV Φ ρ v x
  | .brk => fl = .brk
  | .cont => fl = .cont
noncomputable def PostS (X : Cx) (rest : List (Addr × Obj)) (σ : Sg) (Q : Flow → Shared → Prop) (r : AF × Loc × HP) : Prop := ∀ σ' fl, σ.ρ <+: σ'.ρ → Conf X rest σ' r.2.1 r.2.2 → RepF X.Φ σ'.ρ fl r.1 → Q fl (X.st σ')
noncomputable def CallPost (Q E : Value → Shared → Prop) (r : Result) (s' : Shared) : Prop := match r with
  | .ok (.ret v) => Q v s'
  | .ok _ => False
  | .error e => E e s'
noncomputable def SEv (I : Ifc) (F : Fns) : Prop := ∀ {X : Cx} {rest : List (Addr × Obj)} {σ : Sg} {l : Loc} {H : HP} {e : Expr} {Q E : Value → Shared → Prop}, Fx I X → Conf X rest σ l H → (F.ev X.dp X.sc e l H).All (Post X rest σ l Q) → wpAny X.M X.A (eval e X.env) Q E (X.st σ)
noncomputable def SXs (I : Ifc) (F : Fns) : Prop := ∀ {X : Cx} {rest : List (Addr × Obj)} {σ : Sg} {l : Loc} {H : HP} {ss : List Stmt} {Q : Flow → Shared → Prop} {E : Value → Shared → Prop}, Fx I X → Conf X rest σ l H → (F.xs X.dp X.sc ss l H).All (PostS X rest σ Q) → wpAny X.M X.A (execs ss X.env) Q E (X.st σ)
noncomputable def SCl (I : Ifc) (F : Fns) : Prop := ∀ {X : Cx} {rest : List (Addr × Obj)} {σ : Sg} {l : Loc} {H : HP} {k : Nat} {vs : List Value} {xs : List AV} {Q E : Value → Shared → Prop}, Fx I X → Conf X rest σ l H → RepVs X.Φ σ.ρ vs xs → (F.cl X.dp k xs H).All (Post X rest σ l Q) →
  codeAny X.M X.A (.call (.ref (X.Φ.fn k)) ⟨vs, []⟩) (CallPost Q E) (X.st σ)
noncomputable def PostC (X : Cx) (rest : List (Addr × Obj)) (σ : Sg) (l : Loc) (Q : Bool → Shared → Prop) (r : Bool × HP) : Prop := ∀ σ', Le σ σ' → Conf X rest σ' l r.2 → Q r.1 (X.st σ')
noncomputable def STs (I : Ifc) (F : Fns) : Prop := ∀ {X : Cx} {rest : List (Addr × Obj)} {σ : Sg} {l : Loc} {H : HP} {e : Expr} {Q : Bool → Shared → Prop} {E : Value → Shared → Prop}, Fx I X → Conf X rest σ l H → (F.ts X.dp X.sc e l H).All (PostC X rest σ l Q) → wpAny X.M X.A (isTrue e X.env (eval e X.env)) Q E (X.st σ)
structure Sound (I : Ifc) (F : Fns) : Prop where
  ev : SEv I F
  xs : SXs I F
  cl : SCl I F
  ts : STs I F
section
variable {X : Cx} {I : Ifc} {F : Fns} {rest : List (Addr × Obj)} {σ : Sg} {l : Loc} {H : HP} {E : Value → Shared → Prop}
theorem ev_then (S : Sound I F) (O : Fx I X) (C : Conf X rest σ l H) {β : Type} {e : Expr} {k : AV × HP → T β} {P : β → Prop} {Q : Value → Shared → Prop} (h : ((F.ev X.dp X.sc e l H).bind k).All P)
    (go : ∀ r σ' v, (k r).All P → Le σ σ' → Conf X rest σ' l r.2 → RepV X.Φ σ'.ρ v r.1 → Q v (X.st σ')) : wpAny X.M X.A (eval e X.env) Q E (X.st σ) :=
  S.ev O C (T.all_mono (fun r hr σ' v => go r σ' v hr) (T.all_bind h))
theorem postS_trans {σ' : Sg} {Q : Flow → Shared → Prop} {t : T (AF × Loc × HP)} (p : σ.ρ <+: σ'.ρ) (h : t.All (PostS X rest σ Q)) : t.All (PostS X rest σ' Q) := T.all_mono (fun _ hr σ2 fl p2 => hr σ2 fl (pre_trans p p2)) h
theorem debug_no {x : Str} {sc : Scope} {y : AV} (e : lkN I sc x l = some y) : (x == ("__debug__" : Str)) = false := by
  cases h : x == ("__debug__" : Str) with
  | false => rfl
  | true => unfold lkN at e; rw [h] at e; exact no_some e
theorem load_local (O : X.Ok) (C : Conf X rest σ l H) {x : Str} {u : Value} {Q : Value → Shared → Prop} (hl : X.sc.names.lookup x = some .local) (hu : Val X σ x u) (h : Q u (X.st σ)) : wpAny X.M X.A (loadName X.env x) Q E (X.st σ) :=
  wpAny_loadName_local O.kind hl C.F.ns (by unfold Val at hu; rw [hl] at hu; exact hu) h
theorem cell_at (C : Conf X rest σ l H) {x : Str} {c : Addr} (hc : X.cs = some (x, c)) : σ.h.get? c = some σ.co ∧ c ≠ X.L ∧ X.g.get? c = none := by
  obtain ⟨c0, N, _⟩ := C.C
  exact N (c, σ.co) (List.mem_append_right _ (List.mem_append_left _ (List.mem_append_left _ (by unfold Cx.own; rw [hc]; exact List.mem_cons_self))))
theorem load_cell (O : X.Ok) (C : Conf X rest σ l H) {x : Str} {u : Value} {Q : Value → Shared → Prop} (hl : X.sc.names.lookup x = some .cell) (hu : Val X σ x u) (h : Q u (X.st σ)) : wpAny X.M X.A (loadName X.env x) Q E (X.st σ) := by
  obtain ⟨c, hc⟩ := O.cell x (.inl hl)
  refine wpAny_loadName_cell O.kind hl (c := c) (by show List.lookup x X.cs.toList = _; rw [hc]; show (match x == x with | true => some c | false => _) = _; rw [beq_self_eq_true]) ⟨σ.co, (cell_at C hc).1, ?_⟩ h
  unfold Val at hu; rw [hl] at hu; exact hu
theorem load_free (O : X.Ok) (C : Conf X rest σ l H) {x : Str} {u : Value} {Q : Value → Shared → Prop} (hl : X.sc.names.lookup x = some .free) (hn : (x == ("__classdict__" : Str)) = false) (hu : Val X σ x u) (h : Q u (X.st σ)) : wpAny X.M X.A (loadName X.env x) Q E (X.st σ) := by
  obtain ⟨c, hc⟩ := O.cell x (.inr hl)
  refine wpAny_loadName_free O.kind hl (c := c) (by show List.lookup x X.cs.toList = _; rw [hc]; show (match x == x with | true => some c | false => _) = _; rw [beq_self_eq_true]) ⟨σ.co, (cell_at C hc).1, ?_⟩ h hn
  unfold Val at hu; rw [hl] at hu; exact hu
theorem load_var (O : X.Ok) (C : Conf X rest σ l H) {x : Str} {y : AV} {Q : Value → Shared → Prop} (hk : isVar (X.sc.names.lookup x) = true) (e : l.lookup x = some y) (h : ∀ v, RepV X.Φ σ.ρ v y → Q v (X.st σ)) : wpAny X.M X.A (loadName X.env x) Q E (X.st σ) := by
  obtain ⟨u, hu, ru⟩ := C.R x y e
  cases hl : X.sc.names.lookup x with
  | none => rw [hl] at hk; exact no_bool hk
  | some k =>
    rw [hl] at hk
    cases k with
    | «local» => exact load_local O C hl hu (h u ru)
    | cell => exact load_cell O C hl hu (h u ru)
    | _ => exact no_bool hk
theorem nm_ok (O : Fx I X) (C : Conf X rest σ l H) {x : Str} {p : Pos} {y : AV} {Q : Value → Shared → Prop} (e : lkN I X.sc x l = some y) (h : ∀ v, RepV X.Φ σ.ρ v y → Q v (X.st σ)) : wpAny X.M X.A (eval (.Name x p) X.env) Q E (X.st σ) := by
  have hd := debug_no e
  unfold lkN at e
  rw [hd] at e
  cases hl : X.sc.names.lookup x with
  | none => rw [hl] at e; exact no_some e
  | some k =>
    rw [hl] at e
    cases k with
    | «local» => exact wpAny_Name (load_var O.O C (by rw [hl]; rfl) e h) hd
    | cell => exact wpAny_Name (load_var O.O C (by rw [hl]; rfl) e h) hd
    | free =>
      cases hs : x == ("self" : Str) with
      | false => dsimp only at e; rw [hs] at e; exact no_some e
      | true =>
        dsimp only at e
        rw [hs] at e
        obtain ⟨u, hu, ru⟩ := C.R x y e
        exact wpAny_Name (load_free O.O C hl (by rw [beq_iff_eq.mp hs]; decide) hu (h u ru)) hd
    | globalImplicit =>
      obtain ⟨u, hu, ru⟩ := O.K.glob x y e
      have q := h u (ru.mono List.nil_prefix)
      refine Name_function_global (env := X.env) O.O.kind hl ?_ hd
      unfold loadGlobal
      rcases hu with hu | ⟨hu, hv⟩
      · exact wpAny_bind ((looks_nsIn (C.In O.O) hu).at (wpAny_pure q))
      · exact wpAny_bind ((looks_nsIn (C.In O.O) hu).at (wpAny_bind ((looks_nsIn (C.In O.O) hv).at (wpAny_pure q))))
    | _ => exact no_some e
theorem star_of {e : Expr} {rest : List Expr} {env : Env} (h : notStar e = true) : starEach (e :: rest) env = (false, eval e env) :: starEach rest env := by
  cases e with
  | Starred => exact no_bool h
  | _ => rfl
theorem stars_all {env : Env} {pos : Pos} : ∀ {es : List Expr}, es.all notStar = true → (backTo pos (starEach es env)).any (·.1) = false ∧ (backTo pos (starEach es env)).all (!·.1) = true
  | [], _ => ⟨rfl, rfl⟩
  | e :: es, h => by
    rw [List.all_cons, Bool.and_eq_true] at h
    rw [star_of h.1]
    obtain ⟨a, b⟩ := stars_all (env := env) (pos := pos) h.2
    exact ⟨(Bool.false_or _).trans a, (Bool.true_and _).trans b⟩
noncomputable def PostVs (X : Cx) (rest : List (Addr × Obj)) (σ : Sg) (l : Loc) (Q : List Value → Shared → Prop) (r : List AV × HP) : Prop := ∀ σ' vs, Le σ σ' → Conf X rest σ' l r.2 → RepVs X.Φ σ'.ρ vs r.1 → Q vs (X.st σ')
theorem evs_ok (S : Sound I F) (O : Fx I X) {pos : Pos} : ∀ {es : List Expr} {σ : Sg} {H : HP} {Q : List Value → Shared → Prop}, es.all notStar = true → Conf X rest σ l H → (evs F X.dp X.sc es l H).All (PostVs X rest σ l Q) →
    wpAny X.M X.A (spliced (backTo pos (starEach es X.env))) Q E (X.st σ)
  | [], σ, H, Q, _, C, h => args_nil (h σ [] ⟨List.prefix_refl _, rfl, rfl⟩ C trivial)
  | e :: es, σ, H, Q, hs, C, h => by
    rw [List.all_cons, Bool.and_eq_true] at hs
    refine args_cons (ev_then S O C h fun r σ1 v hr p1 C1 r1 => ?_) (star_of hs.1)
    exact evs_ok S O hs.2 C1 (T.all_mono (fun q hq σ2 vs p2 C2 r2 => hq σ2 (v :: vs) (p1.trans p2) C2 ⟨r1.mono p2.pre, r2⟩) (T.all_bind hr))
theorem call_args (S : Sound I F) (O : Fx I X) {pos : Pos} {es : List Expr} {f : Value} {first : List Value} {P : Heap → Prop} {Q : Value → Shared → Prop} (hs : es.all notStar = true) (hP : ∀ h, P h → ∃ k, (k = Keeper.frame ∨ k = Keeper.machine ∨ k = Keeper.boundFrame) ∧ Looks X.M h (keeperOf f) k) (C : Conf X rest σ l H)
    (h : (evs F X.dp X.sc es l H).All (PostVs X rest σ l fun vs s => P s.heap ∧ wpAny X.M X.A (call f (first ++ vs)) Q E s)) :
    wpAny X.M X.A (callWith pos f first (backTo pos (starEach es X.env)) []) Q E (X.st σ) := by
  refine callWith_of (P := P) (by rw [(stars_all hs).1]; rfl) hP ?_
  have key := evs_ok (E := E) (pos := pos) S O hs C h
  cases es with
  | nil => exact evalArgs_nil3 (h σ [] ⟨List.prefix_refl _, rfl, rfl⟩ C trivial)
  | cons e es =>
    rw [List.all_cons, Bool.and_eq_true] at hs
    rw [star_of hs.1] at key ⊢
    exact evalArgs_plain key
theorem fnIn_of (K : KOk X.K X.Φ I) {k : Nat} (h : (I.fns k).isSome = true) : fnIn X.K (X.Φ.fn k) = true ∧ keepIn X.K (.ref (X.Φ.fn k)) = true := by
  obtain ⟨r, hr⟩ := Option.isSome_iff_exists.mp h
  obtain ⟨d, e, _⟩ := K.fns _ _ hr
  exact ⟨by unfold fnIn; rw [e.get]; rfl, by unfold keepIn; dsimp only; rw [e.get]; rfl⟩
theorem methodForm {x : Str} {xp apos pos : Pos} {name : Str} {es : List Expr} {env : Env} (h : (apos.endLine == pos.line && decide (es.length < 30) && es.all notStar) = true) :
    eval (.Call (.Attribute (.Name x xp) name apos) es [] pos) env = (do
      let ov ← eval (.Name x xp) env
      standAt apos.atName
      let (f, first) ← holding [ov] (getMethod ov name (do return (← importBound (.Name x xp) env).getD true))
      callWith pos f first (backTo pos (starEach es env)) []) := by
  simp only [Bool.and_eq_true] at h
  have hm : methodCallForm (es.length + 0) (backTo pos (starEach es env)) [] = true := by
    unfold methodCallForm
    rw [(stars_all h.2).2]
    simp [of_decide_eq_true h.1.2]
  show (do
    let ov ← eval (.Name x xp) env
    standAt apos.atName
    methodCall (.Name x xp) name apos pos env ov (es.length + 0) (backTo pos (starEach es env)) []) = _
  congr 1
  funext ov
  congr 1
  funext _
  unfold methodCall calleeOf methodCallPos
  rw [hm, h.1.1]
  simp
theorem callI_ok (S : Sound I F) (O : Fx I X) {pos : Pos} {fv : AV} {v : Value} {es : List Expr} {Q : Value → Shared → Prop} (hs : es.all notStar = true) (C : Conf X rest σ l H) (r : RepV X.Φ σ.ρ v fv)
    (h : ((evs F X.dp X.sc es l H).bind fun q => callI I F X.dp fv q.1 q.2).All (Post X rest σ l Q)) : wpAny X.M X.A (callWith pos v [] (backTo pos (starEach es X.env)) []) Q E (X.st σ) := by
  refine call_args (P := fun h => ∃ k, (k = Keeper.frame ∨ k = Keeper.machine ∨ k = Keeper.boundFrame) ∧ Looks X.M h (keeperOf v) k) S O hs (fun _ x => x) C (T.all_mono (fun q hq σ1 vs p1 C1 r1 => ?_) (T.all_bind h))
  have hq := post_trans p1 hq
  have r := r.mono p1.pre
  cases fv with
  | fn a =>
    obtain rfl : v = _ := r
    exact T.needE hq fun hf h1 => ⟨keeps_K (fnIn_of O.K hf).2 _ (C1.In O.O), wpAny_call (S.cl O C1 r1 h1)⟩
  | obj i =>
    refine T.optE hq fun m hm h1 => T.needE h1 fun hf h2 => selE C1 r hm fun i' a o ao _ e2 _ _ e5 e6 e7 => ?_
    obtain rfl := meth?_of e5
    obtain ⟨sv, rfl, hs⟩ := e7
    rw [e2]
    exact ⟨keeps_M (fnIn_of O.K hf).1 _ ⟨e6, C1.In O.O⟩, wpAny_call (method_call e6 (S.cl O C1 (vs := sv :: vs) (xs := m.2 :: q.1) ⟨hs, r1⟩ h2))⟩
  | bi id =>
    obtain rfl : v = _ := r
    exact ⟨⟨.machine, .inr (.inl rfl), Looks.now⟩, bltI_ok O.O C1 r1 hq⟩
  | ty n =>
    obtain rfl : v = _ := r
    exact ⟨⟨.machine, .inr (.inl rfl), Looks.now⟩, tyI_ok O.O C1 r1 hq⟩
  | _ => exact hq.elim
end
end Mine.Internal
end
section
open PySem PySem.W PySem.Calls PyProof.Rows
namespace Mine.Internal
theorem take_get {α : Type} {l : List α} {n i : Nat} (h : i < n) : (l.take n)[i]? = l[i]? := by rw [List.getElem?_take, if_pos h]
theorem RepV.take {Φ : Ph} {ρ : List Addr} {n : Nat} {v : Value} {x : AV} (h : RepV Φ ρ v x) (b : allBelow n x = true) : RepV Φ (ρ.take n) v x := by
  cases x with
  | obj i => exact h.imp fun a e => ⟨by rw [take_get (of_decide_eq_true b)]; exact e.1, e.2⟩
  | _ => exact h
theorem RepFs.take {Φ : Ph} {ρ : List Addr} {n : Nat} : ∀ {es : List DictEntry} {fs : List (Str × AV)}, RepFs Φ ρ es fs → (fs.all fun p => allBelow n p.2) = true → RepFs Φ (ρ.take n) es fs
  | [], [], _, _ => trivial
  | _ :: _, _ :: _, h, b => ⟨h.1, h.2.1.take (Bool.and_eq_true_iff.mp b).1, h.2.2.take (Bool.and_eq_true_iff.mp b).2⟩
  | [], _ :: _, h, _ => h.elim
  | _ :: _, [], h, _ => h.elim
theorem RepVs.take {Φ : Ph} {ρ : List Addr} {n : Nat} : ∀ {es : List Value} {fs : List AV}, RepVs Φ ρ es fs → (fs.all (allBelow n)) = true → RepVs Φ (ρ.take n) es fs
  | [], [], _, _ => trivial
  | _ :: _, _ :: _, h, b => ⟨h.1.take (Bool.and_eq_true_iff.mp b).1, h.2.take (Bool.and_eq_true_iff.mp b).2⟩
  | [], _ :: _, h, _ => h.elim
  | _ :: _, [], h, _ => h.elim
theorem RepO.take {Φ : Ph} {ρ : List Addr} {n : Nat} {o : Obj} {x : AO} (h : RepO Φ ρ o x) (b : objBelow n x = true) : RepO Φ (ρ.take n) o x := by
  cases x with
  | inst d => exact h.imp fun a e => ⟨by rw [take_get (of_decide_eq_true b)]; exact e.1, e.2⟩
  | ns fs => exact h.imp fun es h => h.imp fun n' e => ⟨e.1, e.2.take b⟩
  | seq t xs => exact h.imp fun es h => h.imp fun n' e => ⟨e.1, e.2.take b⟩
  | meth f s => exact h.imp fun v e => ⟨e.1, e.2.take b⟩
  | _ => exact h
theorem Cf.take {Φ : Ph} {g h : Heap} {L : Addr} {rest : List (Addr × Obj)} {ρ : List Addr} {H : HP} {n : Nat} (C : Cf Φ g L rest h ρ H) (b : (H.take n).all (objBelow n) = true) : Cf Φ g L rest h (ρ.take n) (H.take n) := by
  obtain ⟨c, N, nd, len, r⟩ := C
  refine ⟨c, fun p hp => N p ?_, List.Nodup.sublist (List.Sublist.append_right (List.take_sublist _ _) _) nd, by rw [List.length_take, List.length_take, len], fun i a ao ea eo => ?_⟩
  · rcases List.mem_append.mp hp with q | q
    · obtain ⟨a, ha, e⟩ := List.mem_map.mp q
      exact List.mem_append_left _ (List.mem_map.mpr ⟨a, List.mem_of_mem_take ha, e⟩)
    · exact List.mem_append_right _ q
  · have hi : i < n := Nat.lt_of_lt_of_le (List.getElem?_eq_some_iff.mp ea).1 (List.length_take ▸ Nat.min_le_left _ _)
    have hb : objBelow n ao = true := List.all_eq_true.mp b ao (List.mem_of_getElem? eo)
    rw [take_get hi] at ea eo
    exact (r i a ao ea eo).take hb
theorem take_pre {ρ ρ' : List Addr} (p : ρ <+: ρ') : ρ'.take ρ.length = ρ := by obtain ⟨t, rfl⟩ := p; exact List.take_left' rfl
section
variable {X : Cx} {I : Ifc} {F : Fns} {rest : List (Addr × Obj)} {σ : Sg} {l : Loc} {H : HP} {E : Value → Shared → Prop}
theorem val_le {σ' : Sg} (p : Le σ σ') {x : Str} {u : Value} (h : Val X σ x u) : Val X σ' x u := by unfold Val at *; rw [p.m, p.co]; exact h
theorem sweep_ok {σ' : Sg} {H0 : HP} {n : Nat} {v : Value} {x : AV} (p : Le σ σ') (hn : σ.ρ.length = n) (C0 : Conf X rest σ l H0) (C : Conf X rest σ' l H) (r : RepV X.Φ σ'.ρ v x) (Q : Value → Shared → Prop) (h : Post X rest σ l Q (sweep n x H)) : Q v (X.st σ') := by
  unfold sweep at h
  cases hb : (allBelow n x && (H.take n).all (objBelow n)) with
  | false => rw [hb] at h; exact h σ' v p C r
  | true =>
    rw [hb] at h
    rw [Bool.and_eq_true] at hb
    subst hn
    have e := take_pre p.pre
    exact h { σ' with ρ := σ.ρ } v ⟨List.prefix_refl _, p.m, p.co⟩ ⟨C.F, fun x y e => (C0.R x y e).imp fun u q => ⟨val_le p q.1, q.2⟩, by have := C.C.take hb.2; rw [e] at this; exact this, C.co⟩ (by have := r.take hb.1; rw [e] at this; exact this)
theorem lkp_in {x : Str} {y : AV} : ∀ {l : Loc}, l.lookup x = some y → ∃ p ∈ l, p.2 = y
  | [], e => no_some e
  | p :: l, e => by
    rw [List.lookup_cons] at e
    cases hx : (x == p.1) with
    | true => rw [hx] at e; exact ⟨p, List.mem_cons_self, some_eq e⟩
    | false => rw [hx] at e; exact (lkp_in e).imp fun q h => ⟨List.mem_cons_of_mem _ h.1, h.2⟩
theorem nodupK_of : ∀ {ks : List Nat}, nodupK ks = true → ks.Nodup
  | [], _ => List.nodup_nil
  | k :: ks, h => by
    obtain ⟨a, b⟩ := Bool.and_eq_true_iff.mp h
    refine List.nodup_cons.mpr ⟨fun hm => ?_, nodupK_of b⟩
    have := List.all_eq_true.mp a k hm
    rw [Nat.beq_refl] at this
    exact no_bool this
theorem lookup_map {x : Str} {f : AV → AV} {y : AV} : ∀ {l : Loc}, (l.map fun p => (p.1, f p.2)).lookup x = some y → ∃ z, l.lookup x = some z ∧ y = f z
  | [], e => no_some e
  | p :: l, e => by
    rw [List.map_cons, List.lookup_cons] at e
    rw [List.lookup_cons]
    cases hx : (x == p.1) with
    | true => rw [hx] at e; exact ⟨_, rfl, (some_eq e).symm⟩
    | false => rw [hx] at e; exact lookup_map e
theorem RepO.leaf {Φ : Ph} {ρ ρ' : List Addr} {o : Obj} {x : AO} (b : leafO x = true) (h : RepO Φ ρ o x) : RepO Φ ρ' o x := by
  cases x with
  | nums xs => exact h
  | tab kvs => exact h
  | rng a b => exact h
  | _ => exact no_bool b
noncomputable def keepR (ρ : List Addr) (n : Nat) (ks : List Nat) : List Addr := ρ.take n ++ ks.map fun k => ρ.getD k 0
theorem at_getD {ρ : List Addr} {k : Nat} (h : k < ρ.length) : ρ[k]? = some (ρ.getD k 0) := by rw [List.getD_eq_getElem?_getD, List.getElem?_eq_getElem h]; rfl
theorem map_nodup {ρ : List Addr} (nd : ρ.Nodup) : ∀ {ks : List Nat}, ks.Nodup → (∀ k ∈ ks, k < ρ.length) → (ks.map fun k => ρ.getD k 0).Nodup
  | [], _, _ => List.nodup_nil
  | k :: ks, h, b => by
    rw [List.nodup_cons] at h
    refine List.nodup_cons.mpr ⟨fun hm => ?_, map_nodup nd h.2 fun j hj => b j (List.mem_cons_of_mem _ hj)⟩
    obtain ⟨j, hj, e⟩ := List.mem_map.mp hm
    refine nodup_ne nd (at_getD (b j (List.mem_cons_of_mem _ hj))) (at_getD (b k List.mem_cons_self)) (fun q => h.1 (q ▸ hj)) e
theorem Cf.kept {Φ : Ph} {g h : Heap} {L : Addr} {rest : List (Addr × Obj)} {ρ : List Addr} {H : HP} {n : Nat} {ks : List Nat} (C : Cf Φ g L rest h ρ H) (b : (H.take n).all (objBelow n) = true) (hk : ks.Nodup) (hg : ∀ k ∈ ks, n ≤ k)
    (hl : ∀ k ∈ ks, ∃ o, H[k]? = some o ∧ leafO o = true) (hn : n ≤ ρ.length) : Cf Φ g L rest h (keepR ρ n ks) (H.take n ++ ks.map fun k => H.getD k (.rng 0 0)) := by
  obtain ⟨c, N, nd, len, r⟩ := C
  have nr := List.nodup_append.mp nd
  have hlt : ∀ k ∈ ks, k < ρ.length := fun k hm => (hl k hm).elim fun o e => len ▸ (List.getElem?_eq_some_iff.mp e.1).1
  have lt : (ρ.take n).length = n := List.length_take.trans (Nat.min_eq_left hn)
  have sub : ∀ a ∈ keepR ρ n ks, a ∈ ρ := fun a ha => by
    rcases List.mem_append.mp ha with q | q
    · exact List.mem_of_mem_take q
    · obtain ⟨k, hm, rfl⟩ := List.mem_map.mp q
      exact List.mem_of_getElem? (at_getD (hlt k hm))
  refine ⟨c, fun p hp => N p ?_, List.nodup_append.mpr ⟨List.nodup_append.mpr ⟨List.Nodup.sublist (List.take_sublist _ _) nr.1, map_nodup nr.1 hk hlt, fun a ha z hz e => ?_⟩, nr.2.1, fun a ha z hz => nr.2.2 a (sub a ha) z hz⟩, ?_, fun i a ao ea eo => ?_⟩
  · rcases List.mem_append.mp hp with q | q
    · obtain ⟨a, ha, e⟩ := List.mem_map.mp q
      exact List.mem_append_left _ (List.mem_map.mpr ⟨a, sub a ha, e⟩)
    · exact List.mem_append_right _ q
  · obtain ⟨k, hm, rfl⟩ := List.mem_map.mp hz
    obtain ⟨i, hi⟩ := List.getElem?_of_mem ha
    have hin : i < n := lt ▸ (List.getElem?_eq_some_iff.mp hi).1
    rw [take_get hin] at hi
    exact nodup_ne nr.1 hi (at_getD (hlt k hm)) (Nat.ne_of_lt (Nat.lt_of_lt_of_le hin (hg k hm))) e
  · unfold Mine.Internal.keepR
    rw [List.length_append, List.length_append, List.length_map, List.length_map, lt, List.length_take, ← len, Nat.min_eq_left hn]
  · unfold Mine.Internal.keepR at ea
    rcases Nat.lt_or_ge i n with hin | hin
    · rw [List.getElem?_append_left (by rw [lt]; exact hin), take_get hin] at ea
      rw [List.getElem?_append_left (by rw [List.length_take, ← len, Nat.min_eq_left hn]; exact hin)] at eo
      have hb : objBelow n ao = true := List.all_eq_true.mp b ao (List.mem_of_getElem? eo)
      rw [take_get hin] at eo
      exact ((r i a ao ea eo).take hb).mono (List.prefix_append _ _)
    · rw [List.getElem?_append_right (by rw [lt]; exact hin), lt] at ea
      rw [List.getElem?_append_right (by rw [List.length_take, ← len, Nat.min_eq_left hn]; exact hin), List.length_take, ← len, Nat.min_eq_left hn] at eo
      rw [List.getElem?_map] at ea eo
      cases hq : ks[i - n]? with
      | none => rw [hq] at ea; exact no_some ea
      | some k =>
        rw [hq] at ea eo
        have hm := List.mem_of_getElem? hq
        obtain ⟨o, ho, hf⟩ := hl k hm
        have e1 : H.getD k (.rng 0 0) = o := by rw [List.getD_eq_getElem?_getD, ho]; rfl
        obtain rfl : o = ao := e1.symm.trans (some_eq eo)
        exact RepO.leaf hf (r k a o ((at_getD (hlt k hm)).trans (congrArg some (some_eq ea))) ho)
theorem keepI_of {n i : Nat} {v : AV} (h : keepI n v = some i) : v = .obj i ∧ n ≤ i := by
  obtain ⟨j, h1, h2⟩ := Option.bind_eq_some_iff.mp h
  cases hb : Nat.ble n j with
  | false => rw [hb] at h2; exact no_some h2
  | true =>
    rw [hb] at h2
    obtain rfl := some_eq h2
    exact ⟨obj?_of h1, Nat.le_of_ble_eq_true hb⟩
theorem keepI_no {n : Nat} {v : AV} (h : keepI n v = none) : allBelow n v = true := by
  cases v with
  | obj i =>
    refine decide_eq_true (Nat.lt_of_not_le fun hle => ?_)
    replace h : cond (Nat.ble n i) (some i) none = none := h
    rw [Nat.ble_eq_true_of_le hle] at h
    exact no_some h.symm
  | _ => rfl
theorem sweepL_ok {σ' : Sg} {n : Nat} {G : Prop} (p : σ.ρ <+: σ'.ρ) (hn : σ.ρ.length = n) (C : Conf X rest σ' l H) (k : ∀ ρ', σ.ρ <+: ρ' → Conf X rest { σ' with ρ := ρ' } (sweepL n l H).1 (sweepL n l H).2 → G) : G := by
  unfold sweepL sweepK at k
  cases hb : ((H.take n).all (objBelow n) && nodupK (keepK n l) && (keepK n l).all (leafAt H)) with
  | false => rw [hb] at k; exact k σ'.ρ p C
  | true =>
    rw [hb] at k
    simp only [Bool.and_eq_true] at hb
    obtain ⟨⟨b1, b2⟩, b3⟩ := hb
    subst hn
    have e := take_pre p
    have hle : σ.ρ.length ≤ σ'.ρ.length := p.length_le
    have hg : ∀ k ∈ keepK σ.ρ.length l, σ.ρ.length ≤ k := fun k hm => by
      obtain ⟨q, _, h⟩ := List.mem_filterMap.mp hm
      exact (keepI_of h).2
    have hl : ∀ k ∈ keepK σ.ρ.length l, ∃ o, H[k]? = some o ∧ leafO o = true := fun k hm => by
      have := List.all_eq_true.mp b3 k hm
      unfold leafAt at this
      cases ho : H[k]? with
      | none => rw [ho] at this; exact no_bool this
      | some o => rw [ho] at this; exact ⟨o, rfl, this⟩
    refine k (keepR σ'.ρ σ.ρ.length (keepK σ.ρ.length l)) (by unfold keepR; rw [e]; exact List.prefix_append _ _) ⟨C.F, fun x y hx => ?_, C.C.kept b1 (nodupK_of b2) hg hl hle, C.co⟩
    obtain ⟨z, hz, rfl⟩ := lookup_map hx
    obtain ⟨u, h1, h2⟩ := C.R x z hz
    refine ⟨u, h1, ?_⟩
    unfold renK
    cases hk : keepI σ.ρ.length z with
    | none =>
      have := (h2.take (keepI_no hk)).mono (ρ' := keepR σ'.ρ σ.ρ.length (keepK σ.ρ.length l)) (List.prefix_append _ _)
      exact this
    | some i =>
      obtain ⟨rfl, hi⟩ := keepI_of hk
      obtain ⟨a, ha, rfl⟩ := h2
      obtain ⟨q, hq, hqe⟩ := lkp_in hz
      have hm : i ∈ keepK σ.ρ.length l := List.mem_filterMap.mpr ⟨q, hq, by rw [hqe]; exact hk⟩
      refine ⟨a, ?_, rfl⟩
      unfold keepR
      have lt : (σ'.ρ.take σ.ρ.length).length = σ.ρ.length := List.length_take.trans (Nat.min_eq_left hle)
      rw [List.getElem?_append_right (by rw [lt]; exact Nat.le_add_right _ _), lt, Nat.add_sub_cancel_left, List.getElem?_map, List.getElem?_eq_getElem (List.idxOf_lt_length_iff.mpr hm), List.getElem_idxOf]
      exact congrArg some (by show σ'.ρ.getD i 0 = a; rw [List.getD_eq_getElem?_getD, ha]; rfl)
noncomputable def RepP (Φ : Ph) (ρ : List Addr) : List (Str × Value) → List (Str × AV) → Prop
  | [], [] => True
  | p :: ps, q :: qs => p.1 = q.1 ∧ RepV Φ ρ p.2 q.2 ∧ RepP Φ ρ ps qs
  | _, _ => False
theorem RepP.append {Φ : Ph} {ρ : List Addr} : ∀ {a : List (Str × Value)} {b : List (Str × AV)} {c : List (Str × Value)} {d : List (Str × AV)}, RepP Φ ρ a b → RepP Φ ρ c d → RepP Φ ρ (a ++ c) (b ++ d)
  | [], [], _, _, _, h => h
  | _ :: _, _ :: _, _, _, h, k => ⟨h.1, h.2.1, h.2.2.append k⟩
  | [], _ :: _, _, _, h, _ => h.elim
  | _ :: _, [], _, _, h, _ => h.elim
theorem RepP.reverse {Φ : Ph} {ρ : List Addr} : ∀ {a : List (Str × Value)} {b : List (Str × AV)}, RepP Φ ρ a b → RepP Φ ρ a.reverse b.reverse
  | [], [], h => h
  | p :: ps, q :: qs, h => by
    rw [List.reverse_cons, List.reverse_cons]
    exact h.2.2.reverse.append ⟨h.1, h.2.1, trivial⟩
  | [], _ :: _, h => h.elim
  | _ :: _, [], h => h.elim
theorem RepP.lookup {Φ : Ph} {ρ : List Addr} {x : Str} : ∀ {a : List (Str × Value)} {b : List (Str × AV)}, RepP Φ ρ a b → ∀ y, b.lookup x = some y → ∃ u, a.lookup x = some u ∧ RepV Φ ρ u y
  | [], [], _, _, e => no_some e
  | p :: ps, q :: qs, h, y, e => by
    rw [List.lookup_cons] at e ⊢
    rw [h.1]
    cases hx : (x == q.1) with
    | true => rw [hx] at e; exact ⟨_, rfl, some_eq e ▸ h.2.1⟩
    | false => rw [hx] at e; exact h.2.2.lookup y e
  | [], _ :: _, h, _, _ => h.elim
  | _ :: _, [], h, _, _ => h.elim
theorem RepP.zip {Φ : Ph} {ρ : List Addr} : ∀ {ps : List Str} {vs : List Value} {xs : List AV}, RepVs Φ ρ vs xs → RepP Φ ρ (ps.zip vs) (ps.zip xs)
  | [], _, _, _ => trivial
  | _ :: _, [], [], _ => trivial
  | p :: ps, v :: vs, x :: xs, h => ⟨rfl, h.1, RepP.zip h.2⟩
  | _ :: _, [], _ :: _, h => h.elim
  | _ :: _, _ :: _, [], h => h.elim
theorem flow_rep {Φ : Ph} {ρ : List Addr} {fl : Flow} {z : AF} {y : AV} (r : RepF Φ ρ fl z) (h : retV z = some y) : RepV Φ ρ (match (generalizing := false) fl with | .ret v => v | _ => .none) y := by
  cases z with
  | next => obtain rfl := some_eq h; obtain rfl : fl = _ := r; rfl
  | ret x => obtain rfl := some_eq h; obtain ⟨v, rfl, rv⟩ := r; exact rv
  | _ => exact no_some h
noncomputable def Cx.in (X : Cx) (A : Around) (dp : Nat) (g : Heap) (L : Addr) (r : FnR) (d : FnD) (f : Addr) : Cx :=
  { X with A₀ := A, A := A.deeper (envOf d.qual r.scope L f d.cdv), g := g, outer := X.env :: X.outer, L := L, qual := d.qual, sc := r.scope, f := f, cdv := d.cdv, dp := dp, cs := none }
noncomputable def noCell : Obj := { cls := .type "cell", data := .cell none }
noncomputable def Sg.in (h : Heap) (tk : Nat) (ρ : List Addr) (binds : List (Str × Value)) (pt : Option (Addr × Obj)) : Sg := ⟨h, tk, ρ, fun y => binds.reverse.lookup y, noCell, pt⟩
theorem Cf.perm {Φ : Ph} {g h : Heap} {L : Addr} {rest rest' : List (Addr × Obj)} {ρ : List Addr} {H : HP} (C : Cf Φ g L rest h ρ H) (p : rest.Perm rest') : Cf Φ g L rest' h ρ H := by
  obtain ⟨c, N, nd, len, rp⟩ := C
  exact ⟨c, fun q hq => N q ((List.Perm.append_left _ p).mem_iff.mpr hq), (List.Perm.append_left _ (p.map _)).nodup_iff.mp nd, len, rp⟩
theorem not_cell {r : FnR} (h : ∀ x ∈ r.scope.names, x.2 ≠ .cell ∧ x.2 ≠ .free) (x : Str) : ¬(r.scope.names.lookup x = some .cell ∨ r.scope.names.lookup x = some .free) := fun e => e.elim (fun e => (h (x, .cell) (mem_of_lookup_some e)).1 rfl) (fun e => (h (x, .free) (mem_of_lookup_some e)).2 rfl)
theorem shift_perm {α : Type} (a b c : List α) : (a ++ b ++ c).Perm (b ++ (a ++ c)) := by
  rw [← List.append_assoc]; exact List.Perm.append_right _ List.perm_append_comm
theorem body_ok (S : Sound I F) (O : Fx I X) (C : Conf X rest σ l H) {A : Around} {dp : Nat} {f : Addr} {r : FnR} {d : FnD} {args : Args} {binds : List (Str × Value)} {ys : Loc} {σ0 : Sg} {H0 : HP} {R : Result → Shared → Prop} {news : List (Addr × Obj)}
    (D : FnAtK X.K f r d) (hA : A.frames = X.A.frames) (hA1 : A.handled = none) (hA2 : A.depth + 1 + dp < recursionLimit) (hA3 : A.units + 3 + 4 * dp + 100 < cLine) (hfz : ∀ q, X.fz = some q → dp < 20) (hB : Below X.A₀ X.base X.outer X.g)
    (F0 : Fr X.g X.L σ0.h σ.m) (C0 : Cf X.Φ X.g X.L (X.cells σ.co σ.pt ++ rest) σ0.h σ0.ρ H0)
    (hbind : BindsTo (X.st σ0) (fnOf d.name d.qual d.params r.body r.scope d.dV d.kV d.doc d.pm d.an d.cdv d.ct) args binds) (hl : ∀ y ∈ binds, y.1 ∈ r.names) (hy : RepP X.Φ σ0.ρ binds.reverse ys)
    (h : (F.xs dp r.scope r.body ys H0).All fun z => ∃ y, retV z.1 = some y ∧ ∀ σ' x, σ0.ρ <+: σ'.ρ → Le σ σ' → Conf X rest σ' l z.2.2 → RepV X.Φ σ'.ρ x y → R (.ok (.ret x)) (X.st σ')) (hp : σ.ρ <+: σ0.ρ) :
    codeAny X.M A (.call (.ref f) args) R (X.st σ0) := by
  obtain ⟨c, N, nod, len, rp⟩ := C0.perm (shift_perm (X.own σ.co) (X.tabs σ.pt) rest)
  have hK := O.O.inn.keeps F0.keep
  refine callX_plain (cl := []) (A := A) (env := X.env) hB F0 N O.O.lim (hA.trans O.O.frames) rfl O.O.kind (hK _ _ D.get) rfl (codeRec_of hK D.code) (by lia) hbind (fun y hy => D.loc _ (hl y hy)) (fun g' L' h₁ FG F' N' B' st _ => ?_) (fun x hx => (D.cell x hx).1) D.co D.gen D.kind
  have O' : Fx I (X.in A dp g' L' r d f) := ⟨⟨B', by show A.frames.map _ = _; rw [hA, O.O.frames]; rfl, O.O.inn.keeps st, O.O.lim.keeps st, hA2, D.kind, hA1, hA3, hfz, fun x e => absurd e (not_cell D.cell x)⟩, O.K⟩
  refine S.xs (σ := Sg.in h₁ _ σ0.ρ binds σ.pt) (rest := X.own σ.co ++ rest) O' ⟨F', fun x y e => ?_, ⟨c, N', nod, len, rp⟩, ⟨none, rfl⟩, C.co.2⟩ (T.all_mono (fun z hz σ2 fl p2 C2 r2 => ?_) h)
  · obtain ⟨u, h1, h2⟩ := hy.lookup y e
    refine ⟨u, ?_, h2⟩
    unfold Val
    split
    · rename_i hc; exact absurd (.inl hc) (not_cell D.cell x)
    · rename_i hc; exact absurd (.inr hc) (not_cell D.cell x)
    · exact h1
  · obtain ⟨c2, N2, nod2, len2, rp2⟩ := C2.C
    obtain ⟨y, hy, hz⟩ := hz
    exact leaveK_ C2.F N2 fun F3 N3 => hz { σ2 with m := σ.m, co := σ.co } _ p2 ⟨pre_trans hp p2, rfl, rfl⟩ ⟨F3, C.mono (pre_trans hp p2), Cf.perm ⟨c2, N3, nod2, len2, rp2⟩ (shift_perm (X.own σ.co) (X.tabs σ2.pt) rest).symm, C.co.1, C2.co.2⟩ (flow_rep r2 hy)
theorem clF_ok (S : Sound I F) (O : Fx I X) (C : Conf X rest σ l H) {k : Nat} {vs : List Value} {xs : List AV} {Q E : Value → Shared → Prop} (R : RepVs X.Φ σ.ρ vs xs) (h : (clF I F X.dp k xs H).All (Post X rest σ l Q)) : codeAny X.M X.A (.call (.ref (X.Φ.fn k)) ⟨vs, []⟩) (CallPost Q E) (X.st σ) := by
  cases hdp : X.dp with
  | zero => rw [hdp] at h; exact h.elim
  | succ dp =>
    rw [hdp] at h
    refine T.optE h fun r hr h1 => T.needE h1 fun hl h2 => ?_
    obtain ⟨d, D, hp, hd⟩ := O.K.fns _ _ hr
    have hlv : r.names.length = vs.length := R.length ▸ of_decide_eq_true hl
    have hroom := O.O.room
    have hunits := O.O.units
    refine body_ok S O C (σ0 := σ) (A := X.A) (dp := dp) (news := []) D rfl O.O.handled (by lia) (by lia) (fun q e => by have := O.O.fz q e; lia) O.O.below C.F C.C (BindsTo.of_eq (bind_plain hp hd hlv D.nodup)) (fun y hy => (List.of_mem_zip hy).1) (RepP.zip R).reverse
      (T.all_mono (fun z hz => T.optE hz fun y hy h3 => ⟨y, hy, fun σ' x p hv C' rx => ?_⟩) (T.all_bind h2)) (List.prefix_refl _)
    exact sweep_ok hv C.len C C' rx _ h3
end
end Mine.Internal
end
section
open PySem PySem.W PySem.Calls PyProof.Rows
namespace Mine.Internal
theorem three {as : List Arg} {a b c : Str} (ha : as.map (·.arg) = [a, b, c]) : ∃ a1 p1 a2 p2 a3 p3, as = [⟨a, a1, p1⟩, ⟨b, a2, p2⟩, ⟨c, a3, p3⟩] := by
  match as, ha with
  | [⟨n1, a1, p1⟩, ⟨n2, a2, p2⟩, ⟨n3, a3, p3⟩], ha =>
    obtain ⟨h1, ha⟩ := List.cons.inj ha
    obtain ⟨h2, ha⟩ := List.cons.inj ha
    obtain ⟨h3, _⟩ := List.cons.inj ha
    exact ⟨a1, p1, a2, p2, a3, p3, by rw [← h1, ← h2, ← h3]⟩
  | [], ha => cases ha
  | [_], ha => cases ha
  | [_, _], ha => cases ha
  | _ :: _ :: _ :: _ :: _, ha => cases ha
theorem fill_none {slots : List (Str × Value)} : ∀ {zs : List (Str × Value)}, (∀ z ∈ zs, (slots.lookup z.1).isNone = false) →
    (forIn zs slots fun (z : Str × Value) (r : List (Str × Value)) => if (r.lookup z.1).isNone = true then (pure (.yield (r ++ [(z.1, z.2)])) : Sem _) else pure (.yield r)) = pure slots
  | [], _ => rfl
  | z :: zs, h => by
    rw [List.forIn_cons, h z List.mem_cons_self]
    exact fill_none fun y hy => h y (List.mem_cons_of_mem _ hy)
noncomputable def iN : List Str := ["self", "memory", "pc"]
noncomputable def iS (x v1 v2 : Value) : List (Str × Value) := [("self", x), ("memory", v1), ("pc", v2)]
theorem iS_all {x v1 v2 : Value} : ∀ q ∈ iN, ((iS x v1 v2).lookup q).isNone = false := fun q hq => by
  unfold iN at hq
  simp only [List.mem_cons, List.not_mem_nil, or_false] at hq
  rcases hq with rfl | rfl | rfl <;> rfl
theorem iS_take {x v1 v2 : Value} (k : Nat) : (iN.take k).filter (fun y => ((iS x v1 v2).lookup y).isNone) = [] :=
  List.filter_eq_nil_iff.mpr fun y hy e => no_bool ((iS_all y (List.mem_of_mem_take hy)).symm.trans e)
theorem bind_init {s : Shared} {fd : FuncData} {as : List Arg} {df : List Expr} {x v1 v2 : Value} {T : Addr} {o : Obj} {items : Array Value} {n : Nat} (hp : fd.params = ⟨[], as, none, [], [], none, df⟩) (ha : as.map (·.arg) = iN)
    (hd : fd.defaults = .ref T) (ho : s.heap.get? T = some o) (hs : o.data = .seq items n) : BindsTo s fd ⟨[x], [("memory", v1), ("pc", v2)]⟩ (iS x v1 v2) := by
  obtain ⟨nm, qn, pp, body, sc, gl, clo, dflt, kwd, r1, r2, r3, r4, r5, r6⟩ := fd
  dsimp only at hp hd
  obtain ⟨a1, p1, a2, p2, a3, p3, rfl⟩ := three ha
  subst hp; subst hd
  refine BindsTo.of_defaults (k := ?k) rfl ho hs ?h1 ?h2
  case h1 => rfl
  case h2 =>
    refine (if_neg (c := (!((iN.take _).filter (fun y => ((iS x v1 v2).lookup y).isNone)).isEmpty) = true) (by rw [iS_take]; exact Bool.false_ne_true)).trans ?_
    exact Eq.trans (congrArg (fun z => z >>= _) (fill_none (slots := iS x v1 v2) fun z hz => iS_all _ (List.mem_of_mem_drop (List.of_mem_zip hz).1))) rfl
section
variable {X : Cx} {I : Ifc} {F : Fns} {rest : List (Addr × Obj)} {σ : Sg} {l : Loc} {H : HP} {E : Value → Shared → Prop}
theorem Cf.make {Φ : Ph} {g h' : Heap} {L : Addr} {ρ : List Addr} {x dx : Addr} {c : Addr → Obj} (N' : News g L h' ((x, instObj Φ.cls dx) :: (dx, emptyDict) :: (ledger ρ c ++ rest))) (nd : (ρ ++ rest.map (·.1)).Nodup) (len : ρ.length = H.length)
    (rp : ∀ (i : Nat) (a : Addr) (ao : AO), ρ[i]? = some a → H[i]? = some ao → RepO Φ ρ (c a) ao) (hD : ∀ p ∈ ledger ρ c ++ rest, p.1 < dx) (hx : dx < x) : Cf Φ g L rest h' (ρ ++ [dx] ++ [x]) (H ++ [.ns []] ++ [.inst H.length]) := by
  have C1 : Cf Φ g L rest h' (ρ ++ [dx]) (H ++ [.ns []]) := Cf.add (fun p hp => N' p (List.mem_cons_of_mem _ hp)) nd len rp (fun p hp => Nat.ne_of_lt (hD p hp)) (o := emptyDict) ⟨[], 0, rfl, trivial⟩
  obtain ⟨c2, N2, nd2, len2, rp2⟩ := C1
  refine Cf.add (fun p hp => (List.mem_cons.mp hp).elim (fun e => e ▸ N' _ List.mem_cons_self) (N2 p)) nd2 len2 rp2 (fun p hp => Nat.ne_of_lt ?_) ⟨dx, by rw [← len, List.getElem?_append_right (Nat.le_refl _), Nat.sub_self]; rfl, rfl⟩
  rcases List.mem_append.mp hp with q | q
  · obtain ⟨b, hb, rfl⟩ := List.mem_map.mp q
    rcases List.mem_append.mp hb with hb | hb
    · exact Nat.lt_trans (hD (b, c b) (List.mem_append_left _ (List.mem_map.mpr ⟨b, hb, rfl⟩))) hx
    · rw [List.mem_singleton.mp hb]; exact hx
  · exact Nat.lt_trans (hD p (List.mem_append_right _ q)) hx
theorem keeps_cls {K : Frag} {C : Addr} (h : makesIn K C = true) : keepIn K (.ref C) = true := by
  unfold makesIn at h
  unfold keepIn
  dsimp only
  split at h
  · rename_i e
    rw [e]
    simp only [Bool.and_eq_true] at h
    exact h.1.2
  · exact no_bool h
theorem make_ok (S : Sound I F) (O : Fx I X) (C : Conf X rest σ l H) {k1 k2 : Str} {v1 v2 : Value} {y1 y2 : AV} {Q : Value → Shared → Prop} (r1 : RepV X.Φ σ.ρ v1 y1) (r2 : RepV X.Φ σ.ρ v2 y2)
    (h : (makeI I F X.dp k1 k2 y1 y2 H).All (Post X rest σ l Q)) : wpAny X.M X.A (call (.ref X.Φ.cls) [] [(k1, v1), (k2, v2)]) Q E (X.st σ) := by
  unfold makeI at h
  have hroom := O.O.room
  have hunits := O.O.units
  match hdp : X.dp, h with
  | 0, h => exact h.elim
  | 1, h => exact h.elim
  | dp + 2, h =>
    refine T.needE h fun hc h1 => ?_
    simp only [Bool.and_eq_true, beq_iff_eq] at hc
    obtain ⟨⟨hn, rfl⟩, rfl⟩ := hc
    obtain ⟨fI, d, T0, oT, D, hfind, ⟨as, df, hpar, hnames⟩, hdV, hT, vs, n, hs⟩ := O.K.init
    obtain ⟨c, N, nod, len, rp⟩ := C.C
    refine wpAny_call (make_K (fI := fI) C.F N (C.In O.O) O.K.makes hfind (by show Option.map _ (List.lookup fI X.K) = _; rw [D.get]; rfl) fun x dx h1' F1 N1 lt1 lt2 => ?_)
    have pre : σ.ρ <+: σ.ρ ++ [dx] ++ [x] := List.IsPrefix.trans (List.prefix_append _ _) (List.prefix_append _ _)
    have rx : RepV X.Φ (σ.ρ ++ [dx] ++ [x]) (.ref x) (.obj (H.length + 1)) := ⟨x, by rw [← len, List.getElem?_append_right (by rw [List.length_append]; exact Nat.le_refl _), List.length_append]; simp, rfl⟩
    refine body_ok S O C (A := X.A.under (.builtin "type.__call__" ⟨.ref X.Φ.cls :: [], [("memory", v1), ("pc", v2)]⟩)) (dp := dp) (σ0 := ⟨h1', σ.tk, σ.ρ ++ [dx] ++ [x], σ.m, σ.co, σ.pt⟩) (binds := iS (.ref x) v1 v2) (news := []) D rfl O.O.handled
      (by show X.A.depth + 1 + 1 + dp < _; lia) (by show X.A.units + 1 + 3 + 4 * dp + 100 < _; lia) (fun q e => by have := O.O.fz q e; lia) O.O.below F1 (Cf.make N1 nod len rp lt1 lt2) (bind_init hpar (hnames.trans hn) hdV (O.O.inn.keeps F1.keep _ _ hT) hs)
      (fun y hy => by
        rw [hn]
        simp only [iS, List.mem_cons, List.not_mem_nil, or_false] at hy
        rcases hy with rfl | rfl | rfl <;> simp)
      (ys := [("pc", y2), ("memory", y1), ("self", .obj (H.length + 1))]) ⟨rfl, r2.mono pre, rfl, r1.mono pre, rfl, rx, trivial⟩ (T.all_mono (fun z hz => ?_) (T.all_bind h1)) pre
    obtain ⟨z1, z2, z3⟩ := z
    cases z1 with
    | next =>
      refine ⟨.none, rfl, fun σ' w p q C' rw_ => ?_⟩
      obtain rfl : w = _ := rw_
      exact ⟨rfl, hz σ' _ q C' (rx.mono p)⟩
    | _ => exact hz.elim
end
end Mine.Internal
end
section
open PySem PySem.W PySem.Calls PyProof.Rows
namespace Mine.Internal
section
variable {g h h' : Heap} {L : Addr} {ρ ρ3 : List Addr} {rest : List (Addr × Obj)} {c c2 : Addr → Obj}
noncomputable def others (ρ ρ3 : List Addr) (c : Addr → Obj) : List (Addr × Obj) := (ledger ρ c).filter fun p => decide (p.1 ∉ ρ3)
theorem sub_news (N : News g L h (ledger ρ c ++ rest)) (hs : ∀ b ∈ ρ3, b ∈ ρ) : News g L h (ledger ρ3 c ++ (rest ++ others ρ ρ3 c)) := fun p hp => N p <| by
  rcases List.mem_append.mp hp with q | q
  · obtain ⟨b, hb, rfl⟩ := List.mem_map.mp q
    exact List.mem_append_left _ (List.mem_map.mpr ⟨b, hs b hb, rfl⟩)
  · rcases List.mem_append.mp q with q | q
    · exact List.mem_append_right _ q
    · exact List.mem_append_left _ (List.mem_filter.mp q).1
theorem ledger_fst : (ledger ρ c).map (·.1) = ρ := by unfold ledger; rw [List.map_map]; exact List.map_id ρ
theorem sub_nodup (nd : (ρ ++ rest.map (·.1)).Nodup) (n3 : ρ3.Nodup) (hs : ∀ b ∈ ρ3, b ∈ ρ) : (ρ3 ++ (rest ++ others ρ ρ3 c).map (·.1)).Nodup := by
  obtain ⟨n1, n2, nx⟩ := List.nodup_append.mp nd
  have inO : ∀ b ∈ (others ρ ρ3 c).map (·.1), b ∈ ρ ∧ b ∉ ρ3 := fun b hb => by
    obtain ⟨p, hp, rfl⟩ := List.mem_map.mp hb
    obtain ⟨h1, h2⟩ := List.mem_filter.mp hp
    exact ⟨by rw [← ledger_fst (ρ := ρ) (c := c)]; exact List.mem_map.mpr ⟨p, h1, rfl⟩, of_decide_eq_true h2⟩
  rw [List.map_append]
  refine List.nodup_append.mpr ⟨n3, List.nodup_append.mpr ⟨n2, List.Nodup.sublist (List.Sublist.map _ List.filter_sublist) (by rw [ledger_fst]; exact n1), fun a ha b hb e => nx b (inO b hb).1 a ha e.symm⟩, fun a ha b hb e => ?_⟩
  rcases List.mem_append.mp hb with q | q
  · exact nx a (hs a ha) b q e
  · exact (inO b q).2 (e ▸ ha)
theorem back_nodup (nd : ρ.Nodup) (n2 : (ρ3 ++ (rest ++ others ρ ρ3 c).map (·.1)).Nodup) : (ρ ++ rest.map (·.1)).Nodup := by
  rw [List.map_append] at n2
  obtain ⟨_, n3, n4⟩ := List.nodup_append.mp n2
  obtain ⟨n5, _, n6⟩ := List.nodup_append.mp n3
  refine List.nodup_append.mpr ⟨nd, n5, fun a ha b hb => ?_⟩
  by_cases h : a ∈ ρ3
  · exact n4 a h b (List.mem_append_left _ hb)
  · refine Ne.symm (n6 b hb a (List.mem_map.mpr ⟨(a, c a), List.mem_filter.mpr ⟨List.mem_map.mpr ⟨a, ha, rfl⟩, decide_eq_true h⟩, rfl⟩))
theorem back_news (N : News g L h' (ledger ρ3 c2 ++ (rest ++ others ρ ρ3 c))) : News g L h' (ledger ρ (fun b => if b ∈ ρ3 then c2 b else c b) ++ rest) := fun p hp => by
  rcases List.mem_append.mp hp with q | q
  · obtain ⟨b, hb, rfl⟩ := List.mem_map.mp q
    dsimp only
    rcases List.instDecidableMemOfLawfulBEq b ρ3 with h3 | h3
    · rw [if_neg h3]
      exact N (b, c b) (List.mem_append_right _ (List.mem_append_right _ (List.mem_filter.mpr ⟨List.mem_map.mpr ⟨b, hb, rfl⟩, decide_eq_true h3⟩)))
    · rw [if_pos h3]
      exact N (b, c2 b) (List.mem_append_left _ (List.mem_map.mpr ⟨b, h3, rfl⟩))
  · exact N p (List.mem_append_right _ (List.mem_append_left _ q))
end
theorem selO {β : Type} {f : AO → Option β} {H : HP} {i : Nat} {b : β} (e : sel f H (.obj i) = some b) : ∃ ao, H[i]? = some ao ∧ f ao = some b := Option.bind_eq_some_iff.mp e
theorem renV_ok {Φ : Ph} {ρ ρ' : List Addr} {a b : Nat} {ad : Addr} (ha : ρ[a]? = some ad) (hb : ρ'[b]? = some ad) {v : Value} {x y : AV} (e : renV a b x = some y) (h : RepV Φ ρ v x) : RepV Φ ρ' v y := by
  unfold renV at e
  cases hx : x.obj? with
  | none =>
    rw [hx] at e
    obtain rfl := some_eq e
    cases x with
    | obj j => exact no_some hx.symm
    | _ => exact h
  | some j =>
    rw [hx] at e
    obtain rfl := obj?_of hx
    dsimp only at e
    cases hj : Nat.beq j a with
    | true =>
      rw [hj] at e
      obtain rfl := some_eq e
      obtain rfl := Nat.eq_of_beq_eq_true hj
      obtain ⟨ad', h1, h2⟩ := h
      obtain rfl := same_some ha h1
      exact ⟨_, hb, h2⟩
    | false => rw [hj] at e; exact no_some e
theorem renF_ok {Φ : Ph} {ρ ρ' : List Addr} {a b : Nat} {ad : Addr} (ha : ρ[a]? = some ad) (hb : ρ'[b]? = some ad) : ∀ {es : List DictEntry} {fs fs' : List (Str × AV)}, renF a b fs = some fs' → RepFs Φ ρ es fs → RepFs Φ ρ' es fs'
  | [], [], _, e, _ => some_eq e ▸ trivial
  | en :: es, p :: fs, fs', e, h => by
    obtain ⟨v, e1, e2⟩ := Option.bind_eq_some_iff.mp e
    obtain ⟨r', e3, rfl⟩ := Option.map_eq_some_iff.mp e2
    exact ⟨h.1, renV_ok ha hb e1 h.2.1, renF_ok ha hb e3 h.2.2⟩
  | [], _ :: _, _, _, h => h.elim
  | _ :: _, [], _, _, h => h.elim
section
variable {X : Cx} {I : Ifc} {F : Fns} {rest : List (Addr × Obj)} {σ : Sg} {l : Loc} {H : HP} {E : Value → Shared → Prop}
structure Inst3 (X : Cx) (σ : Sg) (H : HP) (c : Addr → Obj) (i d m : Nat) (fs : List (Str × AV)) (xs : List Int) (ai ad am : Addr) : Prop where
  hi : H[i]? = some (.inst d)
  hd : H[d]? = some (.ns fs)
  hm : H[m]? = some (.nums xs)
  pi : σ.ρ[i]? = some ai
  pd : σ.ρ[d]? = some ad
  pm : σ.ρ[m]? = some am
  ri : RepO X.Φ σ.ρ (c ai) (.inst d)
  rd : RepO X.Φ σ.ρ (c ad) (.ns fs)
  rm : RepO X.Φ σ.ρ (c am) (.nums xs)
theorem ne_of_kind {H : HP} {i j : Nat} {a b : AO} (h1 : H[i]? = some a) (h2 : H[j]? = some b) (ne : a ≠ b) : i ≠ j := fun e => ne (same_some h1 (e ▸ h2))
theorem cl3_ok (S : Sound I F) (O : Fx I X) (C : Conf X rest σ l H) {k i d : Nat} {fs : List (Str × AV)} {m : Nat} {v : Value} {Q : Value → Shared → Prop} (r : RepV X.Φ σ.ρ v (.obj i)) (hf : fld H (.obj i) = some (d, fs))
    (h : (cl3 F X.dp k i d m fs H).All (Post X rest σ l Q)) : codeAny X.M X.A (.call (.ref (X.Φ.fn k)) ⟨[v], []⟩) (CallPost Q E) (X.st σ) := by
  refine T.optE h fun xs hx h1 => T.optE h1 fun fs2 hr h2 => ?_
  obtain ⟨c, N, nd, len, rp⟩ := C.C
  obtain ⟨ai, ad, am, Z⟩ : ∃ ai ad am, Inst3 X σ H c i d m fs xs ai ad am := by
    obtain ⟨d', g1, g2⟩ := Option.bind_eq_some_iff.mp hf
    obtain ⟨fs', g3, g4⟩ := Option.map_eq_some_iff.mp g2
    obtain ⟨rfl, rfl⟩ := Prod.mk.inj g4
    obtain ⟨o1, e1, q1⟩ := selO g1
    obtain ⟨o2, e2, q2⟩ := selO g3
    obtain ⟨o3, e3, q3⟩ := selO hx
    obtain rfl := inst?_of q1
    obtain rfl := ns?_of q2
    obtain rfl := nums?_of q3
    have at_ : ∀ {j : Nat} {o : AO}, H[j]? = some o → ∃ a, σ.ρ[j]? = some a ∧ RepO X.Φ σ.ρ (c a) o := fun {j o} e => by
      have hj : j < σ.ρ.length := len ▸ (List.getElem?_eq_some_iff.mp e).1
      exact ⟨_, List.getElem?_eq_getElem hj, rp j _ _ (List.getElem?_eq_getElem hj) e⟩
    obtain ⟨a1, b1, c1⟩ := at_ e1
    obtain ⟨a2, b2, c2⟩ := at_ e2
    obtain ⟨a3, b3, c3⟩ := at_ e3
    exact ⟨a1, a2, a3, e1, e2, e3, b1, b2, b3, c1, c2, c3⟩
  obtain ⟨ndρ, _⟩ := List.nodup_append.mp nd
  have xid := nodup_ne ndρ Z.pi Z.pd (ne_of_kind Z.hi Z.hd (fun e => nomatch e))
  have xim := nodup_ne ndρ Z.pi Z.pm (ne_of_kind Z.hi Z.hm (fun e => nomatch e))
  have xdm := nodup_ne ndρ Z.pd Z.pm (ne_of_kind Z.hd Z.hm (fun e => nomatch e))
  have hs : ∀ b ∈ [ai, ad, am], b ∈ σ.ρ := fun b hb => by
    simp only [List.mem_cons, List.not_mem_nil, or_false] at hb
    rcases hb with rfl | rfl | rfl
    · exact List.mem_of_getElem? Z.pi
    · exact List.mem_of_getElem? Z.pd
    · exact List.mem_of_getElem? Z.pm
  obtain rfl : v = .ref ai := by obtain ⟨a, h1, rfl⟩ := r; rw [same_some h1 Z.pi]
  have C3 : Conf X (rest ++ others σ.ρ [ai, ad, am] c) { σ with ρ := [ai, ad, am] } [] [.inst 1, .ns fs2, .nums xs] := by
    refine ⟨C.F, fun x y e => no_some e, ?_, C.co⟩
    rw [← List.append_assoc]
    refine ⟨c, sub_news N hs, sub_nodup nd (List.nodup_cons.mpr ⟨by simp [xid, xim], List.nodup_cons.mpr ⟨by simp [xdm], List.nodup_cons.mpr ⟨by simp, List.nodup_nil⟩⟩⟩) hs, rfl, fun j b bo ej eo => ?_⟩
    match j, ej, eo with
    | 0, ej, eo =>
      obtain rfl := some_eq ej; obtain rfl := some_eq eo
      obtain ⟨q, q1, q2⟩ := Z.ri
      obtain rfl := same_some Z.pd q1
      exact ⟨_, rfl, q2⟩
    | 1, ej, eo =>
      obtain rfl := some_eq ej; obtain rfl := some_eq eo
      obtain ⟨es, n, q1, q2⟩ := Z.rd
      exact ⟨es, n, q1, renF_ok Z.pm (show ([ai, ad, am] : List Addr)[2]? = some am from rfl) hr q2⟩
    | 2, ej, eo => obtain rfl := some_eq ej; obtain rfl := some_eq eo; exact Z.rm
    | _ + 3, ej, _ => exact no_some ej
  refine S.cl (σ := { σ with ρ := [ai, ad, am] }) O C3 (xs := [.obj 0]) ⟨⟨ai, rfl, rfl⟩, trivial⟩ (T.all_mono (fun z hz σ2 v2 p2 C2 r2 => ?_) (T.all_bind h2))
  obtain ⟨z1, z2⟩ := z
  refine T.needE hz fun hz1 hz2 => T.optE hz2 fun k' hk1 hz3 => T.needE hz3 fun hk hz4 => T.optE hz4 fun fs3 hn hz5 => T.optE hz5 fun zs hzs hz6 => T.optE hz6 fun fs4 hr2 hz7 => ?_
  obtain ⟨o0, k0, q0⟩ := selO hk1
  obtain ⟨o1, k1, q1⟩ := selO hn
  obtain ⟨o2, k2, q2⟩ := selO hzs
  obtain rfl := inst?_of q0
  obtain rfl := ns?_of q1
  obtain rfl := nums?_of q2
  rw [Bool.and_eq_true] at hz1
  obtain ⟨h2', tk2, ρ2, m2, co2, pt2⟩ := σ2
  obtain ⟨⟨t, et⟩, em, eco⟩ := p2
  dsimp only at et em eco
  subst em; subst eco; subst et
  obtain rfl : t = [] := List.length_eq_zero_iff.mp (Nat.succ.inj (Nat.succ.inj (Nat.succ.inj (C2.len.trans (Nat.eq_of_beq_eq_true hz1.2)))))
  obtain rfl := Nat.eq_of_beq_eq_true hk
  obtain ⟨c2, N2, nd2, len2, rp2⟩ := C2.C
  have N2 : News X.g X.L h2' (ledger [ai, ad, am] c2 ++ ((X.cells σ.co pt2 ++ rest) ++ others σ.ρ [ai, ad, am] c)) := by rw [List.append_assoc (X.cells σ.co pt2)]; exact N2
  have hv : v2 = .ref ai := by
    have hz8 := hz1.1
    unfold isObj0 at hz8
    cases hz0 : z1.obj? with
    | none => rw [hz0] at hz8; exact no_bool hz8
    | some j =>
      rw [hz0] at hz8
      obtain rfl := Nat.eq_of_beq_eq_true hz8
      obtain rfl := obj?_of hz0
      obtain ⟨a, q1, q2⟩ := r2
      rw [q2, ← some_eq q1]
  rw [hv]
  refine hz7 ⟨h2', tk2, σ.ρ, σ.m, σ.co, pt2⟩ (.ref ai) ⟨List.prefix_refl _, rfl, rfl⟩ ⟨C2.F, C.R, ⟨_, back_news N2, back_nodup (List.nodup_append.mp nd).1 (by rw [List.append_assoc (X.cells σ.co pt2)]; exact nd2), by rw [List.length_set, List.length_set]; exact len, fun j b bo ej eo => ?_⟩, ⟨C.co.1, C2.co.2⟩⟩ ⟨ai, Z.pi, rfl⟩
  have hl : d < H.length := (List.getElem?_eq_some_iff.mp Z.hd).1
  have hl2 : m < H.length := (List.getElem?_eq_some_iff.mp Z.hm).1
  dsimp only
  rcases Nat.decEq m j with jm | jm
  · rw [List.getElem?_set_ne jm] at eo
    rcases Nat.decEq d j with jd | jd
    · rw [List.getElem?_set_ne jd] at eo
      rcases Nat.decEq i j with ji | ji
      · rw [if_neg (fun hb => ?_)]
        · exact rp j b bo ej eo
        · simp only [List.mem_cons, List.not_mem_nil, or_false] at hb
          rcases hb with rfl | rfl | rfl
          · exact nodup_ne ndρ ej Z.pi (Ne.symm ji) rfl
          · exact nodup_ne ndρ ej Z.pd (Ne.symm jd) rfl
          · exact nodup_ne ndρ ej Z.pm (Ne.symm jm) rfl
      · subst ji
        obtain rfl := same_some Z.pi ej
        obtain rfl := same_some Z.hi eo
        rw [if_pos List.mem_cons_self]
        obtain ⟨q, q1, q2⟩ := rp2 0 ai (.inst 1) rfl k0
        exact ⟨ad, Z.pd, (some_eq q1) ▸ q2⟩
    · subst jd
      rw [List.getElem?_set_self hl] at eo
      obtain rfl := some_eq eo
      obtain rfl := same_some Z.pd ej
      rw [if_pos (List.mem_cons_of_mem _ List.mem_cons_self)]
      obtain ⟨es, n, q1, q2⟩ := rp2 1 ad (.ns fs3) rfl k1
      exact ⟨es, n, q1, renF_ok (show ([ai, ad, am] ++ [] : List Addr)[2]? = some am from rfl) Z.pm hr2 q2⟩
  · subst jm
    rw [List.getElem?_set_self (by rw [List.length_set]; exact hl2)] at eo
    obtain rfl := some_eq eo
    obtain rfl := same_some Z.pm ej
    rw [if_pos (List.mem_cons_of_mem _ (List.mem_cons_of_mem _ List.mem_cons_self))]
    exact rp2 2 am (.nums zs) rfl k2
theorem clC_ok (S : Sound I F) (O : Fx I X) (C : Conf X rest σ l H) {nm : Str} {k : Nat} {vs : List Value} {xs : List AV} {Q : Value → Shared → Prop} (r : RepVs X.Φ σ.ρ vs xs)
    (h : (clC F X.dp nm k xs H).All (Post X rest σ l Q)) : codeAny X.M X.A (.call (.ref (X.Φ.fn k)) ⟨vs, []⟩) (CallPost Q E) (X.st σ) := by
  unfold clC at h
  cases hn : nm == ("step" : Str) with
  | false => rw [hn] at h; exact S.cl O C r h
  | true =>
    rw [hn] at h
    match xs, vs, r, h with
    | [], _, _, h => exact h.elim
    | x :: xs, vs, r, h =>
      refine T.needE h fun he h1 => T.optE h1 fun i hi h2 => T.optE h2 fun q hq h3 => T.optE h3 fun m _ h4 => ?_
      obtain rfl := obj?_of hi
      obtain rfl := List.isEmpty_iff.mp he
      match vs, r with
      | [v], r => exact cl3_ok S O C r.1 hq h4
      | [], r => exact r.elim
      | _ :: _ :: _, r => exact r.2.elim
end
end Mine.Internal
end
section
open PySem PySem.W PySem.Calls PyProof.Rows
namespace Mine.Internal
section
variable {X : Cx} {I : Ifc} {F : Fns} {rest : List (Addr × Obj)} {σ : Sg} {l : Loc} {H : HP} {E : Value → Shared → Prop}
theorem marks_of {op : CmpOp} {b : Expr} (h : noSet b = true) : behindInMarks op b = false := by
  cases b with
  | Set => exact no_bool h
  | _ => rfl
theorem folded_of {e : Expr} {env : Env} (h : noSet e = true) : ∀ x, foldedSetIterable e env x = pure x := by
  intro x
  cases e with
  | Set => exact no_bool h
  | _ => rfl
theorem evO_ok (S : Sound I F) (O : Fx I X) (C : Conf X rest σ l H) {e : Option Expr} {β : Type} {k : Option Int × HP → T β} {P : β → Prop} {Q : Value → Shared → Prop} (h : ((evO F X.dp X.sc e l H).bind k).All P)
    (go : ∀ r σ' v, (k r).All P → Le σ σ' → Conf X rest σ' l r.2 → IsPart v r.1 → Q v (X.st σ')) : wpAny X.M X.A (valueOrNone (evalOpt e X.env)) Q E (X.st σ) := by
  cases e with
  | none => exact wpAny_pure (go (none, H) σ _ h ⟨List.prefix_refl _, rfl, rfl⟩ C .none)
  | some e =>
    refine ev_then S O C (T.all_bind h) fun r σ1 v hr p1 C1 r1 => T.optE hr fun i hi h1 => T.needE h1 fun _ h2 => ?_
    rw [int?_of hi] at r1
    obtain ⟨t, rfl⟩ := r1
    exact go (some i, r.2) σ1 _ h2 p1 C1 (.int i t)
theorem cmpE_ok (S : Sound I F) (O : Fx I X) (C : Conf X rest σ l H) {a b : Expr} {op : CmpOp} {Q : Value → Shared → Prop} (h : (cmpE F X.dp X.sc a op b l H).All (PostC X rest σ l fun c => Q (.bool c))) :
    wpAny X.M X.A (eval a X.env) (fun v s1 => wpAny X.M X.A (eval b X.env) (fun u s2 => wpAny X.M X.A (compareOp op v u) Q E s2) E s1) E (X.st σ) :=
  ev_then S O C h fun r σ1 v hr p1 C1 r1 => ev_then S O C1 hr fun q σ2 u hq p2 C2 r2 =>
    cmpI_ok O.O C2 (r1.mono p2.pre) r2 (T.all_mono (fun c hc n => hc (σ2.tok n) (p1.trans ⟨p2.pre, p2.m, p2.co⟩) (C2.tok n)) (T.all_bind hq))
theorem tsAll_ok (S : Sound I F) (O : Fx I X) {op : BoolOp} : ∀ {es : List Expr} {σ : Sg} {H : HP} {Q : Bool → Shared → Prop}, Conf X rest σ l H → (tsAll F X.dp X.sc (isAnd op) es l H).All (PostC X rest σ l Q) → wpAny X.M X.A (allTrue op es X.env) Q E (X.st σ)
  | [], σ, H, Q, C, h => by
    rw [arm_allTrue_nil]
    have := h σ ⟨List.prefix_refl _, rfl, rfl⟩ C
    cases op with
    | And => exact wpAny_pure this
    | Or => exact wpAny_pure this
  | e :: es, σ, H, Q, C, h => by
    rw [arm_allTrue_cons]
    refine wpAny_bind (S.ts O C (T.all_mono (fun c hc σ1 p1 C1 => ?_) (T.all_bind h)))
    obtain ⟨c, H1⟩ := c
    have go : (c == isAnd op) = true → wpAny X.M X.A (allTrue op es X.env) Q E (X.st σ1) := fun e => tsAll_ok S O C1 (T.all_mono (fun _ hr σ2 p2 => hr σ2 (p1.trans p2)) (hc.1 e))
    have no : (c == isAnd op) = false → Q (!isAnd op) (X.st σ1) := fun e => hc.2 e σ1 p1 C1
    cases op with
    | And => cases c with
      | true => exact go rfl
      | false => exact wpAny_pure (no rfl)
    | Or => cases c with
      | true => exact wpAny_pure (no rfl)
      | false => exact go rfl
theorem tstV_ok (S : Sound I F) (O : Fx I X) (C : Conf X rest σ l H) {e : Expr} {Q : Bool → Shared → Prop} {V : Ex} (hv : IsX e V) (h : (tstV I F X.dp X.sc e l H V).All (PostC X rest σ l Q)) : wpAny X.M X.A (isTrue e X.env (eval e X.env)) Q E (X.st σ) := by
  have gen : ((F.ev X.dp X.sc e l H).bind fun r => (truI I r.1 r.2).bind fun c => .ret (c, r.2)).All (PostC X rest σ l Q) → wpAny X.M X.A (eval e X.env) (fun v s₁ => wpAny X.M X.A (truthy v) Q E s₁) E (X.st σ) := fun h =>
    ev_then S O C h fun r σ1 v hr p1 C1 r1 => truI_ok O.O O.K C1 r1 (T.all_mono (fun c hc n => hc (σ1.tok n) ⟨p1.pre, p1.m, p1.co⟩ (C1.tok n)) (T.all_bind hr))
  cases V with
  | cmp a op b =>
    obtain ⟨p, rfl, hb⟩ := hv
    refine wpAny_isTrue_Compare1 (wpAny_mono (cmpE_ok (E := E) (Q := fun v s => ∃ c, v = .bool c ∧ Q c s) S O C (T.all_mono (fun c hc σ' p C' => ⟨_, rfl, hc σ' p C'⟩) h)) (fun v s h => wpAny_mono h (fun u s h => wpAny_mono h (fun w s h => ?_) fun _ _ z => z) fun _ _ z => z) fun _ _ z => z) (marks_of hb)
    obtain ⟨c, rfl, hq⟩ := h
    exact wpAny_truthy_bool hq
  | bin a op b => obtain ⟨p, rfl⟩ := hv; exact isTrue_plain (gen h)
  | name x => obtain ⟨p, rfl⟩ := hv; exact isTrue_plain (gen h)
  | attr x a => obtain ⟨q, p, rfl⟩ := hv; exact isTrue_plain (gen h)
  | bool op es => obtain ⟨p, rfl⟩ := hv; exact tsAll_ok S O C h
  | _ => exact h.elim
theorem tst_ok (S : Sound I F) (O : Fx I X) (C : Conf X rest σ l H) {e : Expr} {Q : Bool → Shared → Prop} (h : (tstI I F X.dp X.sc e l H).All (PostC X rest σ l Q)) : wpAny X.M X.A (isTrue e X.env (eval e X.env)) Q E (X.st σ) := tstV_ok S O C (viewX_ok e) h
theorem bools_ok (S : Sound I F) (O : Fx I X) {pos : Pos} {b : Bool} : ∀ {es : List Expr} {σ : Sg} {H : HP} {Q : Value → Shared → Prop}, Conf X rest σ l H → (evBools F X.dp X.sc b es l H).All (Post X rest σ l Q) → wpAny X.M X.A (eval (.BoolOp (cond b .And .Or) es pos) X.env) Q E (X.st σ)
  | [], _, _, _, _, h => h.elim
  | [e], σ, H, Q, C, h => BoolOp_one (ev_then S O C h fun r σ1 v hr p1 C1 r1 => T.optE hr fun c hc h1 => by
      rw [bool?_of hc] at r1
      exact h1 σ1 v p1 C1 r1)
  | e :: e2 :: es, σ, H, Q, C, h => by
    have key : wpAny X.M X.A (eval e X.env) (fun v s₁ => ∃ c σ1, v = .bool c ∧ s₁ = X.st σ1 ∧ (c = !b → Q v s₁) ∧ (c = b → wpAny X.M X.A (eval (.BoolOp (cond b .And .Or) (e2 :: es) pos) X.env) Q E s₁)) E (X.st σ) :=
      ev_then S O C h fun r σ1 v hr p1 C1 r1 => T.optE hr fun c hc h1 => by
        rw [bool?_of hc] at r1
        obtain rfl : v = _ := r1
        refine ⟨c, σ1, rfl, rfl, fun e => ?_, fun e => bools_ok S O C1 (post_trans p1 (h1.1 (beq_iff_eq.mpr e)))⟩
        subst e
        exact h1.2 (by cases b <;> rfl) σ1 _ p1 C1 rfl
    cases b with
    | true =>
      refine BoolOp_and (wpAny_mono key (fun v s hq => ?_) fun _ _ z => z)
      obtain ⟨c, σ1, rfl, rfl, h1, h2⟩ := hq
      refine wpAny_truthy_bool ?_
      cases c with
      | true => rw [if_pos rfl]; exact h2 rfl
      | false => rw [if_neg Bool.false_ne_true]; exact h1 rfl
    | false =>
      refine BoolOp_or (wpAny_mono key (fun v s hq => ?_) fun _ _ z => z)
      obtain ⟨c, σ1, rfl, rfl, h1, h2⟩ := hq
      refine wpAny_truthy_bool ?_
      cases c with
      | true => rw [if_pos rfl]; exact h1 rfl
      | false => rw [if_neg Bool.false_ne_true]; exact h2 rfl
theorem isCls_of {v : AV} (h : isCls v = true) : v = .cls := by
  cases v with
  | cls => rfl
  | _ => exact no_bool h
theorem evV_ok (S : Sound I F) (O : Fx I X) (C : Conf X rest σ l H) {e : Expr} {Q : Value → Shared → Prop} {V : Ex} (hv : IsX e V) (h : (evV I F X.dp X.sc l H V).All (Post X rest σ l Q)) : wpAny X.M X.A (eval e X.env) Q E (X.st σ) := by
  cases V with
  | cst v =>
    cases v with
    | int i => obtain ⟨k, p, rfl⟩ := hv; exact wpAny_Constant_int (h (σ.tok (σ.tk + 1)) _ ⟨List.prefix_refl _, rfl, rfl⟩ (C.tok _) ⟨_, rfl⟩)
    | none => obtain ⟨k, p, rfl⟩ := hv; exact Constant_none (h σ _ ⟨List.prefix_refl _, rfl, rfl⟩ C rfl)
    | bool b => obtain ⟨k, p, rfl⟩ := hv; exact Constant_bool (h σ _ ⟨List.prefix_refl _, rfl, rfl⟩ C rfl)
    | str s => obtain ⟨k, p, rfl⟩ := hv; exact wpAny_Constant_str (h (σ.tok (σ.tk + 1)) _ ⟨List.prefix_refl _, rfl, rfl⟩ (C.tok _) ⟨_, rfl⟩)
    | _ => exact hv.elim
  | name x =>
    obtain ⟨p, rfl⟩ := hv
    exact T.optE h fun y hy h1 => nm_ok O C hy fun v rv => h1 σ v ⟨List.prefix_refl _, rfl, rfl⟩ C rv
  | attr x a =>
    obtain ⟨xp, p, rfl⟩ := hv
    exact T.optE h fun y hy h1 => Attribute_Name_ (nm_ok O C hy fun v rv => getA_ok O.O O.K C rv h1)
  | bin a op b =>
    obtain ⟨p, rfl⟩ := hv
    exact wpAny_BinOp (ev_then S O C h fun r σ1 v hr p1 C1 r1 => ev_then S O C1 hr fun q σ2 u hq p2 C2 r2 => binI_ok O.O O.K C2 (r1.mono p2.pre) r2 (post_trans (p1.trans p2) hq))
  | inv a =>
    obtain ⟨p, rfl⟩ := hv
    refine UnaryOp_ (ev_then S O C h fun r σ1 v hr p1 C1 r1 => T.optE hr fun i hi h1 => ?_)
    rw [int?_of hi] at r1
    obtain ⟨t, rfl⟩ := r1
    exact invert_int (h1 (σ1.tok _) _ ⟨p1.pre, p1.m, p1.co⟩ (C1.tok _) ⟨_, rfl⟩)
  | neg a =>
    obtain ⟨p, rfl⟩ := hv
    refine UnaryOp_ (ev_then S O C h fun r σ1 v hr p1 C1 r1 => T.optE hr fun i hi h1 => ?_)
    rw [int?_of hi] at r1
    obtain ⟨t, rfl⟩ := r1
    exact PySem.P.neg_int (h1 (σ1.tok _) _ ⟨p1.pre, p1.m, p1.co⟩ (C1.tok _) ⟨_, rfl⟩)
  | cmp a op b =>
    obtain ⟨p, rfl, hb⟩ := hv
    exact wpAny_Compare1 (cmpE_ok S O C (T.all_mono (fun c hc σ' p C' => hc σ' _ p C' rfl) (T.all_bind h))) (marks_of hb)
  | sub v i =>
    obtain ⟨p, rfl, hn⟩ := hv
    exact Subscript_ (ev_then S O C h fun r σ1 v hr p1 C1 r1 => ev_then S O C1 hr fun q σ2 u hq p2 C2 r2 => itemI_ok O.O O.K hn C2 (r1.mono p2.pre) r2 (post_trans (p1.trans p2) hq))
  | sli x lo hi =>
    obtain ⟨xp, sp, p, rfl⟩ := hv
    refine T.optE h fun y hy h1 => Subscript_ (nm_ok O C hy fun v rv => ?_)
    rw [arm_eval_Slice]
    refine wpAny_bind (evO_ok S O C h1 fun a σ1 va ha p1 C1 r1 => ?_)
    refine wpAny_bind (wpAny_holding (evO_ok S O C1 ha fun b σ2 vb hb p2 C2 r2 => ?_))
    refine wpAny_bind (wpAny_holding (wpAny_pure (wpAny_newObj_type ?_ (by size_fits))))
    exact sliceI_ok O.O O.K C2 (rv.mono (p1.trans p2).pre) r1 r2 (post_trans (p1.trans p2) hb)
  | rev x st =>
    obtain ⟨xp, sp, p, rfl⟩ := hv
    refine T.optE h fun y hy h1 => Subscript_ (nm_ok O C hy fun v rv => ?_)
    rw [arm_eval_Slice]
    refine wpAny_bind (wpAny_pure (wpAny_bind (wpAny_holding (wpAny_pure (wpAny_bind (wpAny_holding ?_))))))
    exact ev_then S O C h1 fun q σ1 u hq p1 C1 r1 => wpAny_newObj_type (revI_ok C1 (rv.mono p1.pre) r1 (post_trans p1 hq)) (by size_fits)
  | call f es =>
    obtain ⟨p, rfl, hs, hf⟩ := hv
    have key : wpAny X.M X.A (eval f X.env) (fun v s => wpAny X.M X.A (callWith p v [] (backTo p (starEach es X.env)) []) Q E s) E (X.st σ) :=
      ev_then S O C h fun r σ1 v hr p1 C1 r1 => callI_ok S O hs C1 r1 (post_trans p1 hr)
    rcases hf with ⟨x, xp, rfl⟩ | ⟨v, i, ip, rfl⟩
    · exact Call_ key
    · exact Call_ key
  | meth x m es =>
    obtain ⟨xp, ap, p, rfl, hm⟩ := hv
    have hs := (Bool.and_eq_true_iff.mp hm).2
    refine T.optE h fun y hy h1 => MethodCall_ (nm_ok O C hy fun v rv => ?_) (methodForm hm)
    refine getM_ok O.O O.K C rv (T.all_mono (fun k hk ⟨dd, fd, sl, hf⟩ => ?_) (T.all_bind h1))
    refine call_args (P := X.K.In) S O hs (keeps_K (by unfold keepIn; dsimp only; rw [hf])) C (T.all_mono (fun q hq σ1 vs p1 C1 r1 => ⟨C1.In O.O, wpAny_call ?_⟩) (T.all_bind hk))
    exact clC_ok S O C1 (vs := v :: vs) (xs := y :: q.1) ⟨rv.mono p1.pre, r1⟩ (post_trans p1 hq)
  | make x n1 e1 n2 e2 =>
    obtain ⟨xp, q1, q2, pos, rfl⟩ := hv
    refine T.optE h fun y hy h1 => T.needE h1 fun hc h2 => ?_
    obtain rfl := isCls_of hc
    rw [show eval (.Call (.Name x xp) [] [⟨some n1, e1, q1⟩, ⟨some n2, e2, q2⟩] pos) X.env = (do callWith pos (← eval (.Name x xp) X.env) [] (backTo pos (starEach [] X.env)) (backToKw pos (keywordEach [⟨some n1, e1, q1⟩, ⟨some n2, e2, q2⟩] X.env))) from rfl]
    refine wpAny_bind (nm_ok O C hy fun v rv => ?_)
    obtain rfl : v = _ := rv
    refine callWith_of (P := X.K.In) rfl (keeps_K (keeps_cls O.K.makes)) (evalArgs_kw2_nil rfl ?_)
    refine kwAll_cons (ev_then S O C h2 fun a σ1 v1 ha p1 C1 r1 => kwAll_cons (ev_then S O C1 ha fun b σ2 v2 hb p2 C2 r2 => kwAll_nil ⟨C2.In O.O, ?_⟩))
    exact make_ok S O C2 (r1.mono p2.pre) r2 (post_trans (p1.trans p2) hb)
  | list es =>
    obtain ⟨p, rfl, hs⟩ := hv
    exact wpAny_List_spliced (evs_ok S O hs C (T.all_mono (fun q hq σ1 vs p1 C1 r1 => dispI_ok (tup := false) C1 r1 (post_trans p1 hq)) (T.all_bind h)))
  | tup es =>
    obtain ⟨k, p, rfl, hs⟩ := hv
    exact wpAny_Tuple_spliced (evs_ok S O hs C (T.all_mono (fun q hq σ1 vs p1 C1 r1 => dispI_ok (tup := true) C1 r1 (post_trans p1 hq)) (T.all_bind h)))
  | dict0 =>
    obtain ⟨p, rfl⟩ := hv
    rw [eval_Dict_empty]
    refine wpAny_bind (wpAny_standAt ?_)
    unfold newDict
    exact wpAny_newObj_type (h (σ.push { cls := .type "dict", data := .dict #[] }) _ ⟨List.prefix_append _ _, rfl, rfl⟩ (C.push (ao := .tab []) ⟨#[], 0, rfl, rfl, fun e he => absurd he (Array.not_mem_empty e), Nat.le_refl _, fun k => rfl⟩) C.topV) (by size_fits)
  | bool op es =>
    obtain ⟨p, rfl⟩ := hv
    cases op with
    | And => exact bools_ok (b := true) S O C h
    | Or => exact bools_ok (b := false) S O C h
  | ife t a b =>
    obtain ⟨p, rfl⟩ := hv
    refine IfExp_ (tst_ok S O C (T.all_mono (fun r hr σ1 p1 C1 => ?_) (T.all_bind h)))
    obtain ⟨c, H'⟩ := r
    cases c with
    | true => rw [if_pos rfl]; exact S.ev O C1 (post_trans p1 (hr.1 rfl))
    | false => rw [if_neg Bool.false_ne_true]; exact S.ev O C1 (post_trans p1 (hr.2 rfl))
  | other => exact h.elim
theorem evI_ok (S : Sound I F) : SEv I (stepF I F) := fun O C h => evV_ok S O C (viewX_ok _) h
end
end Mine.Internal
end
section
open PySem PySem.W PySem.Calls PyProof.Rows
namespace Mine.Internal
theorem lookup_setF {x y : Str} {v : AV} : ∀ {l : List (Str × AV)}, (setF x v l).lookup y = if x = y then some v else l.lookup y
  | [] => lookup_cons_eq
  | (z, u) :: l => by
    unfold setF
    rcases instDecidableEqStr z x with h | h
    · rw [if_neg h, lookup_cons_eq, lookup_cons_eq, lookup_setF]
      rcases instDecidableEqStr z y with q | q
      · rw [if_neg q, if_neg q]
      · rw [if_pos q, if_pos q, if_neg (fun e => h (q.trans e.symm))]
    · rw [if_pos h, lookup_cons_eq, lookup_cons_eq]
      rcases instDecidableEqStr z y with q | q
      · rw [if_neg q, if_neg (fun e => q (h.trans e)), if_neg q]
      · rw [if_pos q, if_pos (h.symm.trans q)]
theorem lookup_no {y : Str} {b : AV} : ∀ {l : Loc}, (∀ q ∈ l, q.1 ≠ y) → List.lookup y l = some b → False
  | [], _, e => no_some e
  | p :: l, h, e => by
    rw [lookup_cons_eq, if_neg (h p List.mem_cons_self)] at e
    exact lookup_no (fun q hq => h q (List.mem_cons_of_mem _ hq)) e
theorem lookup_dropL {x y : Str} {b : AV} : ∀ {l : Loc}, (dropL x l).lookup y = some b → l.lookup y = some b
  | [], e => e
  | p :: l, e => by
    unfold dropL at e
    rw [List.filter_cons] at e
    rw [lookup_cons_eq]
    cases hp : (p.1 == x) with
    | true =>
      rw [hp] at e
      rw [if_neg (fun e2 => ?_)]
      · exact lookup_dropL e
      · refine lookup_no (l := dropL x l) (fun q hq e3 => ?_) e
        have := (List.mem_filter.mp hq).2
        rw [e3, ← e2, hp] at this
        exact no_bool this
    | false =>
      rw [hp] at e
      replace e : List.lookup y (p :: dropL x l) = some b := e
      rw [lookup_cons_eq] at e
      rcases instDecidableEqStr p.1 y with q | q
      · rw [if_neg q] at e ⊢; exact lookup_dropL e
      · rw [if_pos q] at e ⊢; exact e
section
variable {X : Cx} {I : Ifc} {F : Fns} {rest : List (Addr × Obj)} {σ : Sg} {l : Loc} {H : HP} {E : Value → Shared → Prop}
theorem Conf.sub (C : Conf X rest σ l H) {l' : Loc} (h : ∀ x y, l'.lookup x = some y → l.lookup x = some y) : Conf X rest σ l' H := ⟨C.F, fun x y e => C.R x y (h x y e), C.C, C.co⟩
theorem drop_fold {y : Str} {b : AV} : ∀ {ts : List Expr} {l : Loc}, (ts.foldl (fun l t => match nameOf t with | some x => dropL x l | none => l) l).lookup y = some b → l.lookup y = some b
  | [], _, e => e
  | t :: ts, l, e => by
    have e1 := drop_fold (ts := ts) e
    dsimp only at e1
    cases hn : nameOf t with
    | none => rw [hn] at e1; exact e1
    | some x => rw [hn] at e1; exact lookup_dropL e1
theorem lookup_dropT {t : Expr} {y : Str} {b : AV} (e : (dropT t l).lookup y = some b) : l.lookup y = some b := by
  unfold dropT at e
  cases hv : viewT t with
  | name x => rw [hv] at e; exact lookup_dropL e
  | tup ts => rw [hv] at e; exact drop_fold e
  | _ => rw [hv] at e; exact e
theorem hint_of (O : X.Ok) : (X.env.scope.kind == .class || (X.env.scope.kind == .module && X.env.locals != X.env.globals)) = false := by rw [show X.env.scope.kind = .function from O.kind]; rfl
theorem val_set {σ' : Sg} {x z : Str} {v u : Value} (hx : X.sc.names.lookup x = some .local) (hm : σ'.m = fun y => if y = x then some v else σ.m y) (hc : σ'.co = σ.co) (ne : x ≠ z) (h : Val X σ z u) : Val X σ' z u := by
  unfold Val at *
  rw [hm, hc]
  cases hk : X.sc.names.lookup z with
  | none => rw [hk] at h; dsimp only; rw [if_neg (Ne.symm ne)]; exact h
  | some k =>
    rw [hk] at h
    cases k with
    | cell => exact h
    | free => exact h
    | _ => dsimp only; rw [if_neg (Ne.symm ne)]; exact h
theorem store_ok (O : X.Ok) (C : Conf X rest σ l H) {x : Str} {v : Value} {y : AV} {Q : Unit → Shared → Prop} (hk : isVar (X.sc.names.lookup x) = true) (rv : RepV X.Φ σ.ρ v y) (h : ∀ σ', σ'.ρ = σ.ρ → Conf X rest σ' (setL x y l) H → Q () (X.st σ')) :
    wpAny X.M X.A (storeName X.env x v) Q E (X.st σ) := by
  cases hl : X.sc.names.lookup x with
  | none => rw [hl] at hk; exact no_bool hk
  | some k =>
    rw [hl] at hk
    cases k with
    | «local» =>
      refine wpAny_storeName_local hl C.F.ns (fun h2 hn hs => h ⟨h2, σ.tk + 1, σ.ρ, fun z => if z = x then some v else σ.m z, σ.co, σ.pt⟩ rfl ⟨C.F.set hn hs, fun z b e => ?_, C.C.set hs, C.co⟩) (hint_of O)
      unfold setL at e
      rw [lookup_setF] at e
      rcases instDecidableEqStr x z with q | q
      · rw [if_neg q] at e
        exact (C.R z b e).imp fun u w => ⟨val_set (σ := σ) hl rfl rfl q w.1, w.2⟩
      · rw [if_pos q] at e
        subst q
        exact ⟨v, by unfold Val; rw [hl]; exact if_pos rfl, some_eq e ▸ rv⟩
    | cell =>
      obtain ⟨c, hc⟩ := O.cell x (.inl hl)
      obtain ⟨v0, hv0⟩ := C.co.1
      refine wpAny_storeName_cell O.kind hl (c := c) (by show List.lookup x X.cs.toList = _; rw [hc]; show (match x == x with | true => some c | false => _) = _; rw [beq_self_eq_true]) ⟨σ.co, (cell_at C hc).1, hv0⟩ fun h' hv hs => ?_
      obtain ⟨o', ho', hd'⟩ := hv
      have ec : ∀ o, X.cells o σ.pt ++ rest = (c, o) :: (X.tabs σ.pt ++ rest) := fun o => by unfold Cx.cells Cx.own; rw [hc]; rfl
      have Ch := C.C
      rw [ec] at Ch
      obtain ⟨C', F'⟩ := Ch.turn C.F hs.extBut ho'
      refine h ⟨h', σ.tk, σ.ρ, σ.m, o', σ.pt⟩ rfl ⟨F', fun z b e => ?_, by rw [ec]; exact C', ⟨v, hd'⟩, C.co.2⟩
      unfold setL at e
      rw [lookup_setF] at e
      rcases instDecidableEqStr x z with q | q
      · rw [if_neg q] at e
        refine (C.R z b e).imp fun u w => ⟨?_, w.2⟩
        have w1 := w.1
        unfold Val at w1 ⊢
        cases hz : X.sc.names.lookup z with
        | none => rw [hz] at w1; exact w1
        | some k =>
          rw [hz] at w1
          cases k with
          | cell =>
            obtain ⟨c', hc'⟩ := O.cell z (.inl hz)
            exact absurd (congrArg Prod.fst (same_some hc hc')) q
          | free =>
            obtain ⟨c', hc'⟩ := O.cell z (.inr hz)
            exact absurd (congrArg Prod.fst (same_some hc hc')) q
          | _ => exact w1
      · rw [if_pos q] at e
        subst q
        exact ⟨v, by unfold Val; rw [hl]; exact hd', some_eq e ▸ rv⟩
    | _ => exact no_bool hk
noncomputable def PostA (X : Cx) (rest : List (Addr × Obj)) (σ : Sg) (Q : Unit → Shared → Prop) (r : Loc × HP) : Prop := ∀ σ', σ.ρ <+: σ'.ρ → Conf X rest σ' r.1 r.2 → Q () (X.st σ')
theorem postA_trans {σ' : Sg} {Q : Unit → Shared → Prop} {t : T (Loc × HP)} (p : σ.ρ <+: σ'.ρ) (h : t.All (PostA X rest σ Q)) : t.All (PostA X rest σ' Q) := T.all_mono (fun _ hr σ2 p2 => hr σ2 (pre_trans p p2)) h
theorem asgV_ok (S : Sound I F) (O : Fx I X) (C : Conf X rest σ l H) {t : Expr} {V : Tg} {v : Value} {y : AV} {Q : Unit → Shared → Prop} (hv : IsT t V) (rv : RepV X.Φ σ.ρ v y) (h : (asgV I F X.dp X.sc y l H V).All (PostA X rest σ Q)) :
    wpAny X.M X.A (assign t X.env v) Q E (X.st σ) := by
  cases V with
  | name x =>
    obtain ⟨p, rfl⟩ := hv
    exact T.needE (T.all_bind h) fun hk h1 => wpAny_assign_Name (store_ok O.O C hk rv fun σ' e C' => h1 σ' (e ▸ List.prefix_refl _) C')
  | attr x a =>
    obtain ⟨xp, p, rfl⟩ := hv
    rw [arm_assign_Attribute]
    refine T.optE h fun o ho h1 => wpAny_bind (wpAny_holding (nm_ok O C ho fun u ru => ?_))
    refine wpAny_bind (wpAny_standAt (wpAny_bind (wpAny_holding ?_)))
    exact setA_ok O.O O.K C ru rv (T.all_mono (fun H' h' h2 tk C' => wpAny_release (h' ((σ.hp h2).tok tk) (List.prefix_refl _) C')) (T.all_bind h1))
  | sub x i =>
    obtain ⟨p, rfl, hn⟩ := hv
    rw [arm_assign_Subscript]
    refine wpAny_bind (wpAny_holding (ev_then S O C h fun r0 σ0 u h1 p0 C0 ru => ?_))
    refine wpAny_bind (wpAny_holding (ev_then S O C0 h1 fun q σ1 w hq p1 C1 r1 => ?_))
    refine wpAny_bind (wpAny_standAt (wpAny_bind (wpAny_holding ?_)))
    exact setI_ok C1 (ru.mono p1.pre) r1 (rv.mono (p0.trans p1).pre) (T.all_mono (fun H' h' h2 tk C' => wpAny_release (h' ((σ1.hp h2).tok tk) (p0.trans p1).pre C')) (T.all_bind hq))
  | _ => exact h.elim
theorem eachOf {t : Expr} {ts : List Expr} {env : Env} (h : notStar t = true) : assignEach (t :: ts) env = (false, assign t env) :: assignEach ts env := by
  cases t with
  | Starred => exact no_bool h
  | _ => rfl
theorem eachAll {env : Env} : ∀ {ts : List Expr}, ts.all notStar = true → (assignEach ts env).length = ts.length ∧ (assignEach ts env).findIdx? (·.1) = none
  | [], _ => ⟨rfl, rfl⟩
  | t :: ts, h => by
    rw [List.all_cons, Bool.and_eq_true] at h
    obtain ⟨a, b⟩ := eachAll (env := env) h.2
    rw [eachOf h.1]
    refine ⟨by rw [List.length_cons, a, List.length_cons], ?_⟩
    rw [List.findIdx?_cons, b]
    rfl
theorem asgs_ok (S : Sound I F) (O : Fx I X) {Q : Unit → Shared → Prop} : ∀ {ts : List Expr} {vs : List Value} {ys : List AV} {σ : Sg} {l : Loc} {H : HP}, ts.all notStar = true → Conf X rest σ l H → RepVs X.Φ σ.ρ vs ys → (asgsI I F X.dp X.sc ts ys l H).All (PostA X rest σ Q) →
    wpAny X.M X.A (assignInOrder ((assignEach ts X.env).map (·.2)) vs) Q E (X.st σ)
  | [], [], [], σ, _, _, _, C, _, h => wpAny_pure (h σ (List.prefix_refl _) C)
  | t :: ts, v :: vs, y :: ys, σ, l, H, hs, C, rv, h => by
    rw [List.all_cons, Bool.and_eq_true] at hs
    rw [eachOf hs.1]
    exact wpAny_bind (wpAny_holding (asgV_ok S O C (viewT_ok t) rv.1 (T.all_mono (fun r hr σ' p' C' => asgs_ok S O hs.2 C' (rv.2.mono p') (postA_trans p' hr)) (T.all_bind h))))
  | [], [], _ :: _, _, _, _, _, _, rv, _ => rv.elim
  | [], _ :: _, [], _, _, _, _, _, rv, _ => rv.elim
  | [], _ :: _, _ :: _, _, _, _, _, _, _, h => h.elim
  | _ :: _, [], [], _, _, _, _, _, _, h => h.elim
  | _ :: _, [], _ :: _, _, _, _, _, _, rv, _ => rv.elim
  | _ :: _, _ :: _, [], _, _, _, _, _, rv, _ => rv.elim
theorem asgs_len {P : Loc × HP → Prop} {dp : Nat} {sc : Scope} : ∀ {ts : List Expr} {ys : List AV} {l : Loc} {H : HP}, (asgsI I F dp sc ts ys l H).All P → ts.length = ys.length
  | [], [], _, _, _ => rfl
  | _ :: ts, _ :: ys, _, _, h => (T.all_ex (T.all_bind h)).elim fun _ hr => congrArg (· + 1) (asgs_len hr)
  | [], _ :: _, _, _, h => h.elim
  | _ :: _, [], _, _, h => h.elim
theorem tup_at (O : Fx I X) (C : Conf X rest σ l H) {v : Value} {y : AV} {ys : List AV} {G : Prop} (rv : RepV X.Φ σ.ρ v y) (hy : tupV I y H = some ys)
    (k : ∀ a us, v = .ref a → (X.st σ).heap.IsTuple a us → RepVs X.Φ σ.ρ us.toList ys → G) : G := by
  unfold tupV at hy
  cases hl : y.lst? with
  | some j =>
    rw [hl] at hy
    obtain rfl := lst?_of hl
    obtain ⟨q, h1, h2⟩ := Option.bind_eq_some_iff.mp hy
    obtain ⟨t, zs⟩ := q
    cases t with
    | false => exact no_some h2
    | true =>
      obtain rfl := some_eq h2
      obtain ⟨vs, dd, n, sl, e, hr⟩ := O.K.lists _ _ h1
      exact k _ _ rv ⟨_, C.In O.O _ _ e, rfl, n, rfl⟩ (by rw [List.toList_toArray]; exact hr.mono List.nil_prefix)
  | none =>
    rw [hl] at hy
    obtain ⟨q, h1, h2⟩ := Option.bind_eq_some_iff.mp hy
    obtain ⟨t, zs⟩ := q
    cases t with
    | false => exact no_some h2
    | true =>
      obtain rfl := some_eq h2
      exact seqE C rv h1 fun i a vs n _ e2 _ e4 e5 => k a vs e2 ⟨_, e4, rfl, n, rfl⟩ e5
theorem asgTup_ok (S : Sound I F) (O : Fx I X) (C : Conf X rest σ l H) {ts : List Expr} {k : Nat} {p : Pos} {v : Value} {y : AV} {ys : List AV} {Q : Unit → Shared → Prop} (hs : ts.all notStar = true) (rv : RepV X.Φ σ.ρ v y) (hy : tupV I y H = some ys)
    (h : (asgsI I F X.dp X.sc ts ys l H).All (PostA X rest σ Q)) : wpAny X.M X.A (assign (.Tuple ts k p) X.env v) Q E (X.st σ) :=
  tup_at O C rv hy fun a us e hT hr => by
    rw [e]
    refine wpAny_assign_Tuple (items := us) O.O.handled hT ((eachAll hs).1.trans ((asgs_len h).trans (by rw [← Array.length_toList]; exact hr.length.symm))) (eachAll hs).2 fun h2 k2 => ?_
    exact asgs_ok (σ := σ.hp h2) S O hs (C.keeps fun b o e => k2 b o (Nat.ne_of_lt (Heap.lt_size e)) e) hr h
theorem RepVs.rev {Φ : Ph} {ρ : List Addr} : ∀ {vs ws : List Value} {ys zs : List AV}, RepVs Φ ρ vs ys → RepVs Φ ρ ws zs → RepVs Φ ρ (vs.reverse ++ ws) (ys.reverse ++ zs)
  | [], _, [], _, _, g => g
  | v :: vs, ws, y :: ys, zs, h, g => by
    rw [List.reverse_cons, List.reverse_cons, List.append_assoc, List.append_assoc]
    exact RepVs.rev h.2 ⟨h.1, g⟩
  | [], _, _ :: _, _, h, _ => h.elim
  | _ :: _, _, [], _, h, _ => h.elim
theorem bnds_ok (O : Fx I X) {Q : Unit → Shared → Prop} : ∀ {ns : List Str} {vs : List Value} {ys : List AV} {σ : Sg} {l : Loc}, Conf X rest σ l H → RepVs X.Φ σ.ρ vs ys → (bndsI X.sc ns ys l).All (fun l' => PostA X rest σ Q (l', H)) →
    wpAny X.M X.A (assignInOrder (ns.map fun n => bindName X.env n) vs) Q E (X.st σ)
  | [], [], [], σ, _, C, _, h => wpAny_pure (h σ (List.prefix_refl _) C)
  | x :: ns, v :: vs, y :: ys, σ, l, C, rv, h =>
    T.needE (T.all_bind h) fun hk h1 => wpAny_bind (wpAny_holding (wpAny_bindName (store_ok O.O C hk rv.1 fun σ' e C' => bnds_ok O C' (e ▸ rv.2) (T.all_mono (fun _ hr σ2 p2 => hr σ2 (by rw [← e]; exact p2)) h1))))
  | [], [], _ :: _, _, _, _, rv, _ => rv.elim
  | [], _ :: _, [], _, _, _, rv, _ => rv.elim
  | [], _ :: _, _ :: _, _, _, _, _, h => h.elim
  | _ :: _, [], [], _, _, _, _, h => h.elim
  | _ :: _, [], _ :: _, _, _, _, rv, _ => rv.elim
  | _ :: _, _ :: _, [], _, _, _, rv, _ => rv.elim
theorem asgT_ok (S : Sound I F) (O : Fx I X) (C : Conf X rest σ l H) {t : Expr} {v : Value} {y : AV} {Q : Unit → Shared → Prop} (rv : RepV X.Φ σ.ρ v y) (h : (asgT I F X.dp X.sc t y l H).All (PostA X rest σ Q)) : wpAny X.M X.A (assign t X.env v) Q E (X.st σ) := by
  unfold asgT at h
  have hv := viewT_ok t
  revert h hv
  cases viewT t with
  | tup ts => intro h hv; obtain ⟨k, p, rfl, hs⟩ := hv; exact T.optE h fun ys hy h1 => asgTup_ok S O C hs rv hy h1
  | name x => exact fun h hv => asgV_ok (V := .name x) S O C hv rv h
  | attr x a => exact fun h hv => asgV_ok (V := .attr x a) S O C hv rv h
  | sub x i => exact fun h hv => asgV_ok (V := .sub x i) S O C hv rv h
  | _ => exact fun h _ => h.elim
end
end Mine.Internal
end
section
open PySem PySem.W PySem.Calls PyProof.Rows
namespace Mine.Internal
section
variable {X : Cx} {I : Ifc} {F : Fns} {rest : List (Addr × Obj)} {σ : Sg} {l : Loc} {H : HP} {E : Value → Shared → Prop} {b : Addr} {o : Obj}
theorem Conf.front (C : Conf X ((b, o) :: rest) σ l H) : Cf X.Φ X.g X.L ((b, o) :: (X.cells σ.co σ.pt ++ rest)) σ.h σ.ρ H := C.C.perm List.perm_middle
theorem Conf.hid (C : Conf X ((b, o) :: rest) σ l H) : σ.h.get? b = some o ∧ b ≠ X.L ∧ X.g.get? b = none ∧ b ∉ σ.ρ ∧ b ∉ (X.cells σ.co σ.pt ++ rest).map (·.1) := C.front.hidden
theorem Conf.unhide (C : Conf X ((b, o) :: rest) σ l H) : Conf X rest σ l H := ⟨C.F, C.R, C.front.unhide, C.co⟩
theorem Conf.turn (C : Conf X ((b, o) :: rest) σ l H) {h' : Heap} {o' : Obj} (k : Heap.ExtBut b σ.h h') (e : h'.get? b = some o') : Conf X ((b, o') :: rest) (σ.hp h') l H :=
  ⟨(C.front.turn C.F k e).2, C.R, (C.front.turn C.F k e).1.perm List.perm_middle.symm, C.co⟩
theorem Conf.off (C : Conf X ((b, o) :: rest) σ l H) {h' : Heap} (k : Heap.ExtBut b σ.h h') : Conf X rest (σ.hp h') l H :=
  ⟨frOff C.F k C.hid.2.2.1 C.hid.2.1, C.R, C.front.unhide.off k C.hid.2.2.2.1 C.hid.2.2.2.2, C.co⟩
theorem Conf.hideNew (C : Conf X rest σ l H) (o : Obj) (hf : o.isFreed = false) : Conf X ((σ.h.objs.size, o) :: rest) (σ.hp (σ.h.push o)) l H := by
  obtain ⟨c, N, nd, len, r⟩ := C.C
  have N' := News.push C.F N o hf
  have q := N' _ List.mem_cons_self
  refine ⟨C.F.push o, C.R, (Cf.hide ⟨c, fun p hp => N' p (List.mem_cons_of_mem _ hp), nd, len, r⟩ q.1 q.2.2 q.2.1 (fun z => ?_) (fun z => ?_)).perm List.perm_middle.symm, C.co⟩
  · exact Nat.lt_irrefl _ (Heap.lt_size (N _ (List.mem_append_left _ (List.mem_map.mpr ⟨_, z, rfl⟩))).1)
  · obtain ⟨p, hp, e⟩ := List.mem_map.mp z
    have := Heap.lt_size (N _ (List.mem_append_right _ hp)).1
    rw [e] at this
    exact Nat.lt_irrefl _ this
structure Nexts (X : Cx) (rest : List (Addr × Obj)) (ρ₀ : List Addr) (it : Addr) (ItP : Nat → Obj → Prop) (v : Itr) : Prop where
  cls : ∀ {k o}, ItP k o → o.cls = .type "list_iterator" ∨ o.cls = .type "range_iterator"
  item : ∀ {k : Nat} {u : AV} {o : Obj} {σ : Sg} {l : Loc} {H : HP} {Q : Option Value → Shared → Prop} {E : Value → Shared → Prop}, ρ₀ <+: σ.ρ → ItP k o → Conf X ((it, o) :: rest) σ l H → nxI v k H = some (some u) →
    (∀ w σ' o', σ'.ρ = σ.ρ → RepV X.Φ σ'.ρ w u → ItP (k + 1) o' → Conf X ((it, o') :: rest) σ' l H → Q (some w) (X.st σ')) → wpAny X.M X.A (pyNext (.ref it)) Q E (X.st σ)
  done : ∀ {k : Nat} {o : Obj} {σ : Sg} {l : Loc} {H : HP} {Q : Option Value → Shared → Prop} {E : Value → Shared → Prop}, ρ₀ <+: σ.ρ → ItP k o → Conf X ((it, o) :: rest) σ l H → nxI v k H = some none →
    (∀ σ', σ'.ρ = σ.ρ → Conf X rest σ' l H → Q none (X.st σ')) → wpAny X.M X.A (pyNext (.ref it)) Q E (X.st σ)
theorem own_go {t : Expr} {v : Value} {it : Addr} {Q : Unit → Shared → Prop} {s : Shared} (ho : s.heap.get? it = some o) (hc : o.cls = .type "list_iterator" ∨ o.cls = .type "range_iterator") (h : Q () s) : wpAny X.M X.A (letOwnedTupleGo t (.ref it) v) Q E s := by
  have go : ∀ a : Addr, wpAny X.M X.A (do
    let o ← load it
    match o.cls, o.data with
    | .type n, .fields vs =>
      if ["enumerate", "zip", "dict_itemiterator", "dict_reverseitemiterator", "odict_iterator", "itertools.zip_longest", "itertools.pairwise"].contains n && vs[0]? == some (rawInt a) then
        rule "for.unpacks-the-owned-tuple"
        updateField it 0 .none
    | _, _ => pure ()) Q E s := fun a => wpAny_bind (wpAny_load ho (by
      rcases hc with hc | hc <;> (rw [hc]; cases o.data <;> exact wpAny_pure h)))
  cases t with
  | Tuple es k p => cases v with
    | ref a => exact go a
    | _ => exact wpAny_pure h
  | List es p => cases v with
    | ref a => exact go a
    | _ => exact wpAny_pure h
  | _ => exact wpAny_pure h
theorem forI_ok (S : Sound I F) (O : Fx I X) {t : Expr} {body : List Stmt} {it : Addr} {ItP : Nat → Obj → Prop} {v : Itr} {Q : Flow → Shared → Prop} {E' : Value → Shared → Prop}
    (W : Nexts X rest σ.ρ it ItP v) {n : Nat} (h0 : ItP 0 o) (C : Conf X ((it, o) :: rest) σ l H) (h : (forI I F X.dp X.sc t body v H.length n 0 l H).All (PostS X rest σ Q)) :
    codeAny X.M X.A (.forLoop t (.ref it) body [] X.env) (fun r s' => match r with | .ok f => Q f s' | .error e => E' e s') (X.st σ) := by
  refine codeAny_forLoop_any (fun n s' => ∃ σ' H' l' k o', s' = X.st σ' ∧ σ.ρ <+: σ'.ρ ∧ ItP k o' ∧ Conf X ((it, o') :: rest) σ' l' H' ∧ (forI I F X.dp X.sc t body v H.length n k l' H').All (PostS X rest σ Q)) ?_ n ⟨σ, H, l, 0, o, rfl, List.prefix_refl _, h0, C, h⟩
  rintro n _ ⟨σ1, H1, l1, k, o1, rfl, p1, hI, C1, hN⟩
  cases n with
  | zero => exact hN.elim
  | succ n =>
    refine T.optE hN fun nx hnx h1 => ?_
    cases nx with
    | none => exact W.done p1 hI C1 hnx fun σ2 e2 C2 => wpAny_execs_nil (h1 σ2 _ (e2 ▸ p1) (C2.sub fun _ _ => lookup_dropT) rfl)
    | some u =>
      refine W.item p1 hI C1 hnx fun w σ2 o2 e2 rw_ hI2 C2 => own_go C2.hid.1 (W.cls hI2) (asgT_ok S O C2 rw_ (T.all_mono (fun q hq σ3 p3 C3 => ?_) (T.all_bind h1)))
      refine S.xs O C3 (T.all_mono (fun z hz σ4 fl p4 C4 r4 => ?_) (T.all_bind hq))
      have p14 : σ.ρ <+: σ4.ρ := pre_trans (e2 ▸ p1) (pre_trans p3 p4)
      obtain ⟨z1, z2, z3⟩ := z
      have again : z1 ≠ .brk → (∀ v, z1 ≠ .ret v) → (forI I F X.dp X.sc t body v H.length n (k + 1) (sweepL H.length z2 z3).1 (sweepL H.length z2 z3).2).All (PostS X rest σ Q) →
          ∃ m, m < n + 1 ∧ ∃ σ' H' l' k o', X.st σ4 = X.st σ' ∧ σ.ρ <+: σ'.ρ ∧ ItP k o' ∧ Conf X ((it, o') :: rest) σ' l' H' ∧ (forI I F X.dp X.sc t body v H.length m k l' H').All (PostS X rest σ Q) := fun _ _ hx =>
        sweepL_ok (σ := σ) p14 C.len C4 fun ρ5 p5 C5 => ⟨n, Nat.lt_succ_self n, { σ4 with ρ := ρ5 }, _, _, k + 1, o2, rfl, p5, hI2, C5, hx⟩
      cases z1 with
      | next => obtain rfl : fl = _ := r4; exact again (fun e => nomatch e) (fun _ e => nomatch e) hz
      | cont => obtain rfl : fl = _ := r4; exact again (fun e => nomatch e) (fun _ e => nomatch e) hz
      | brk =>
        obtain rfl : fl = _ := r4
        exact sweepL_ok (σ := σ) p14 C.len (C4.unhide.sub fun _ _ => lookup_dropT) fun ρ5 p5 C5 => hz { σ4 with ρ := ρ5 } _ p5 C5 rfl
      | ret y => obtain ⟨u', rfl, ru⟩ := r4; exact hz σ4 _ p14 C4.unhide ⟨u', rfl, ru⟩
theorem nexts_list (O : X.Ok) {i : Nat} {la it : Addr} {ρ₀ : List Addr} (ha : ρ₀[i]? = some la) : Nexts X rest ρ₀ it (fun k o => o.cls = .type "list_iterator" ∧ o.data = .fields #[.ref la, .int k 0]) (.lst i) where
  cls h := .inl h.1
  item := by
    intro k u o σ l H Q E p hI C e h
    have hla : RepV X.Φ σ.ρ (.ref la) (.obj i) := ⟨la, pre_get p ha, rfl⟩
    have go : ∀ {us : Array Value} {w : Value}, (X.st σ).heap.IsList la us → us.toList[k]? = some w → RepV X.Φ σ.ρ w u → wpAny X.M X.A (pyNext (.ref it)) Q E (X.st σ) := fun {us w} hl hw rw_ => by
      refine wpAny_pyNext_list_item (items := us) ⟨o, C.hid.1, hI.1, hI.2⟩ hl (by rw [← Array.getElem?_toList]; exact hw) fun h' hit hs => ?_
      obtain ⟨o', e', c', d'⟩ := hit
      exact h w (σ.hp h') o' rfl rw_ ⟨c', by rw [d']⟩ (C.turn hs.extBut e')
    unfold nxI at e
    dsimp only at e
    cases hx : numsO H (.obj i) with
    | some xs =>
      rw [hx] at e
      obtain ⟨y, e1, rfl⟩ := Option.map_eq_some_iff.mp (some_eq e)
      refine numsE C hla hx fun j a us n _ e2 _ e4 e5 => ?_
      obtain rfl := Value.ref.inj e2
      obtain ⟨t, eu⟩ := ints_get e5 (List.getElem?_eq_some_iff.mp e1).1
      exact go ⟨_, e4, rfl, n, rfl⟩ eu ⟨t, by rw [show xs.getD k 0 = y from by rw [List.getD_eq_getElem?_getD, e1]; rfl]⟩
    | none =>
      rw [hx] at e
      obtain ⟨q, h1, h2⟩ := Option.bind_eq_some_iff.mp e
      obtain ⟨t, zs⟩ := q
      cases t with
      | true => exact no_some h2
      | false =>
        refine seqE C hla h1 fun j a us n _ e2 _ e4 e5 => ?_
        obtain rfl := Value.ref.inj e2
        obtain ⟨w, hw, rw_⟩ := e5.get (some_eq h2)
        exact go ⟨_, e4, rfl, n, rfl⟩ hw rw_
  done := by
    intro k o σ l H Q E p hI C e h
    have hla : RepV X.Φ σ.ρ (.ref la) (.obj i) := ⟨la, pre_get p ha, rfl⟩
    have go : ∀ {us : Array Value}, (X.st σ).heap.IsList la us → us.size ≤ k → wpAny X.M X.A (pyNext (.ref it)) Q E (X.st σ) := fun {us} hl hw =>
      wpAny_pyNext_list_end (items := us) O.handled ⟨o, C.hid.1, hI.1, hI.2⟩ hl (Array.getElem?_eq_none hw) fun h' k' => h (σ.hp h') rfl (C.off k')
    unfold nxI at e
    dsimp only at e
    cases hx : numsO H (.obj i) with
    | some xs =>
      rw [hx] at e
      refine numsE C hla hx fun j a us n _ e2 _ e4 e5 => ?_
      obtain rfl := Value.ref.inj e2
      exact go ⟨_, e4, rfl, n, rfl⟩ (size_eq e5 ▸ List.getElem?_eq_none_iff.mp (Option.map_eq_none_iff.mp (some_eq e)))
    | none =>
      rw [hx] at e
      obtain ⟨q, h1, h2⟩ := Option.bind_eq_some_iff.mp e
      obtain ⟨t, zs⟩ := q
      cases t with
      | true => exact no_some h2
      | false =>
        refine seqE C hla h1 fun j a us n _ e2 _ e4 e5 => ?_
        obtain rfl := Value.ref.inj e2
        exact go ⟨_, e4, rfl, n, rfl⟩ (by rw [← Array.length_toList, e5.length]; exact List.getElem?_eq_none_iff.mp (some_eq h2))
theorem nexts_range (O : X.Ok) {a b : Int} {it : Addr} {ρ₀ : List Addr} : Nexts X rest ρ₀ it (fun k o => o = { cls := .type "range_iterator", dict := none, data := .fields #[rawInt (a + (k : Int)), rawInt (b - a - (k : Int)), rawInt 1], slots := #[] }) (.rng a b) where
  cls h := .inr (h ▸ rfl)
  item := by
    intro k u o σ l H Q E p hI C e h
    subst hI
    rcases Int.decLt (a + (k : Int)) b with q | q
    · rw [show nxI (.rng a b) k H = some none from congrArg some (if_neg q)] at e; exact no_some (some_eq e)
    · rw [show nxI (.rng a b) k H = some (some (.int (a + (k : Int)))) from congrArg some (if_pos q)] at e
      obtain rfl := some_eq (some_eq e)
      refine wpAny_pyNext_range_item C.hid.1 (by lia) fun h' hit hs => ?_
      refine h _ ((σ.hp h').tok _) _ rfl ⟨_, rfl⟩ ?_ ((C.turn hs.extBut hit).tok _)
      rw [show a + ((k + 1 : Nat) : Int) = a + (k : Int) + 1 by lia, show b - a - ((k + 1 : Nat) : Int) = b - a - (k : Int) - 1 by lia]
  done := by
    intro k o σ l H Q E p hI C e h
    subst hI
    rcases Int.decLt (a + (k : Int)) b with q | q
    · exact wpAny_pyNext_range_end O.handled C.hid.1 (by lia) fun h' k' => h (σ.hp h') rfl (C.off k')
    · rw [show nxI (.rng a b) k H = some (some (.int (a + (k : Int)))) from congrArg some (if_pos q)] at e; exact no_some (some_eq e).symm
theorem for_ok (S : Sound I F) (O : Fx I X) (C : Conf X rest σ l H) {t e : Expr} {body : List Stmt} {p : Pos} {Q : Flow → Shared → Prop} (hn : noSet e = true)
    (h : ((F.ev X.dp X.sc e l H).bind fun r => T.opt (itrOf r.1 r.2) fun w => forI I F X.dp X.sc t body w r.2.length (lenI w r.2 + 1) 0 l r.2).All (PostS X rest σ Q)) : wpAny X.M X.A (exec (.For t e body [] p) X.env) Q E (X.st σ) := by
  refine wpAny_For (ev_then S O C h fun r σ1 v hr p1 C1 r1 => T.optE hr fun w hw h1 => ?_) (folded_of hn)
  have h1 := postS_trans p1.pre h1
  unfold itrOf at hw
  cases hq : sel AO.rng? r.2 r.1 with
  | some q =>
    rw [hq] at hw
    cases hc : (decide (0 ≤ q.1) && decide (q.1 ≤ q.2) && decide (q.2 ≤ 1000000)) with
    | false => dsimp only at hw; rw [hc] at hw; exact no_some hw
    | true =>
      dsimp only at hw
      rw [hc] at hw
      obtain rfl := some_eq hw
      simp only [Bool.and_eq_true, decide_eq_true_eq] at hc
      refine rngE C1 r1 hq fun i a t' u' w' _ e2 _ e4 => ?_
      rw [e2]
      refine wpAny_pyIter_range e4 (small_of hc.1.1 hc.1.2 hc.2).1 ?_
      rw [(small_of hc.1.1 hc.1.2 hc.2).2]
      exact forI_ok (σ := σ1.hp _) (H := r.2) S O (nexts_range O.O) (by rw [Int.natCast_zero, Int.add_zero, Int.sub_zero, show (((q.2 - q.1).toNat : Nat) : Int) = q.2 - q.1 by omega]) (C1.hideNew _ rfl) h1
  | none =>
    rw [hq] at hw
    obtain ⟨i, hi, hw⟩ := Option.bind_eq_some_iff.mp hw
    rw [obj?_of hi] at hw r1
    cases hc : listO r.2 (.obj i) with
    | false => rw [hc] at hw; exact no_some hw
    | true =>
      rw [hc] at hw
      obtain rfl := some_eq hw
      have go : ∀ {a : Addr} {us : Array Value}, v = .ref a → σ1.ρ[i]? = some a → (X.st σ1).heap.IsList a us → wpAny X.M X.A (pyIter v) (fun it s₂ => codeAny X.M X.A (.forLoop t it body [] X.env) (fun r s' => match r with | .ok f => Q f s' | .error e => cameBackBy X.M X.A X.env E e s') s₂) E (X.st σ1) := fun {a us} e2 e3 hl => by
        rw [e2]
        exact wpAny_pyIter_list (items := us) hl (forI_ok (σ := σ1.hp _) (H := r.2) S O (nexts_list O.O e3) ⟨rfl, rfl⟩ (C1.hideNew _ rfl) h1)
      unfold listO at hc
      cases hx : numsO r.2 (.obj i) with
      | some xs => exact numsE C1 r1 hx fun j a us n e1 e2 e3 e4 e5 => go e2 (obj_inj e1 ▸ e3) ⟨_, e4, rfl, n, rfl⟩
      | none =>
        rw [hx] at hc
        cases hs : sel AO.seq? r.2 (.obj i) with
        | none => rw [hs] at hc; exact no_bool hc
        | some q =>
          rw [hs] at hc
          obtain ⟨tt, zs⟩ := q
          cases tt with
          | true => exact no_bool hc
          | false => exact seqE C1 r1 hs fun j a us n e1 e2 e3 e4 e5 => go e2 (obj_inj e1 ▸ e3) ⟨_, e4, rfl, n, rfl⟩
end
end Mine.Internal
end
section
open PySem PySem.W PySem.Calls PyProof.Rows
namespace Mine.Internal
theorem arI_ok {X : Cx} {env : Env} {ν : Str → Option Int} {h : Heap} {E : Value → Shared → Prop} (ld : ∀ x i, ν x = some i → ∀ {p : Pos} {s : Shared} {Q : Value → Shared → Prop}, s.heap = h → (∀ t, Q (.int i t) s) → wpAny X.M X.A (eval (.Name x p) env) Q E s) (n : Nat) :
    ∀ {e : Expr} {s : Shared} {Q : Value → Shared → Prop}, s.heap = h → (arI ν n e).All (fun i => ∀ t tk, Q (.int i t) { s with toks := tk }) → wpAny X.M X.A (eval e env) Q E s := by
  induction n with
  | zero => exact fun _ h => h.elim
  | succ n ih =>
    intro e s Q hs hh
    unfold arI at hh
    have hv := viewX_ok e
    revert hh hv
    cases viewX e with
    | cst v =>
      intro hh hv
      cases v with
      | int i => obtain ⟨k, p, rfl⟩ := hv; exact wpAny_Constant_int (hh _ _)
      | _ => exact hh.elim
    | name x =>
      intro hh hv
      obtain ⟨p, rfl⟩ := hv
      exact T.optE hh fun i hi h1 => ld x i hi hs fun t => h1 t s.toks
    | bin a op b =>
      intro hh hv
      obtain ⟨p, rfl⟩ := hv
      refine wpAny_BinOp (ih hs (T.all_mono (fun x hx t tk => ?_) (T.all_bind hh)))
      refine ih (s := { s with toks := tk }) hs (T.all_mono (fun y hy t' tk' => ?_) (T.all_bind hx))
      exact (binN_ok (s := { s with toks := tk' }) (T.all_mono (fun z hz t2 => hz t2 (tk' + 1)) hy)).1
    | _ => exact fun hh _ => hh.elim
section
variable {X : Cx} {I : Ifc} {F : Fns} {rest : List (Addr × Obj)} {σ : Sg} {l : Loc} {H : HP} {E : Value → Shared → Prop}
theorem closure_loop {env : Env} {q0 : Str × Addr} (hc : env.cells.lookup q0.1 = some q0.2) : ∀ (ns : List (Str × NameKind)) (acc : List (Str × Addr)), (∀ p ∈ ns, p.2 = .free → p.1 = q0.1) → (∀ q ∈ acc, q = q0) → ∃ cl,
    (forIn ns acc fun (p : Str × NameKind) (r : List (Str × Addr)) => if (p.2 == NameKind.free) = true then (do let a ← cellOf env p.1; pure (.yield ((p.1, a) :: r))) else (pure (.yield r) : Sem _)) = pure cl ∧ (∀ q ∈ cl, q = q0) ∧ ((∃ p ∈ ns, p.2 = .free) ∨ acc ≠ [] → cl ≠ [])
  | [], acc, _, ha => ⟨acc, rfl, ha, fun h => h.elim (fun ⟨_, h, _⟩ => nomatch h) id⟩
  | p :: ns, acc, hn, ha => by
    rw [List.forIn_cons]
    have hn' := fun q hq => hn q (List.mem_cons_of_mem _ hq)
    cases hk : (p.2 == NameKind.free) with
    | false =>
      obtain ⟨cl, h1, h2, h3⟩ := closure_loop hc ns acc hn' ha
      refine ⟨cl, h1, h2, fun h => h3 (h.imp (fun ⟨q, hq, e⟩ => ⟨q, (List.mem_cons.mp hq).resolve_left (fun z => ?_), e⟩) id)⟩
      rw [z] at e
      rw [beq_iff_eq.mpr e] at hk
      exact no_bool hk.symm
    | true =>
      have e := hn p List.mem_cons_self (beq_iff_eq.mp hk)
      obtain ⟨cl, h1, h2, h3⟩ := closure_loop hc ns (q0 :: acc) hn' (fun q hq => (List.mem_cons.mp hq).elim id (ha q))
      refine ⟨cl, ?_, h2, fun _ => h3 (.inr (List.cons_ne_nil _ _))⟩
      rw [← h1, if_pos rfl, e]
      unfold cellOf
      rw [hc]
      rfl
theorem lookup_all_eq {q0 : Str × Addr} : ∀ {cl : List (Str × Addr)}, (∀ q ∈ cl, q = q0) → cl ≠ [] → cl.lookup q0.1 = some q0.2
  | [], _, h => absurd rfl h
  | q :: cl, h, _ => by
    rw [h q List.mem_cons_self, List.lookup_cons, beq_self_eq_true]
theorem lookup_relabel_free {env : Env} (hk : env.scope.kind = .function) : ∀ {names : List (Str × NameKind)} {x : Str}, names.lookup x = some .free → env.kindOf x = some .cell →
    (names.map fun (n, k) => if (k == NameKind.free && env.scope.kind == .function && env.kindOf n == some .cell) then (n, NameKind.cell) else (n, k)).lookup x = some .cell
  | [], _, h, _ => no_some h
  | (n, k) :: r, x, h, hc => by
    rw [List.map_cons]
    rw [lookup_cons_eq] at h
    rcases instDecidableEqStr n x with q | q
    · rw [if_neg q] at h
      have ih := lookup_relabel_free hk h hc
      dsimp only
      split
      · rw [lookup_cons_eq, if_neg q]; exact ih
      · rw [lookup_cons_eq, if_neg q]; exact ih
    · rw [if_pos q] at h
      obtain rfl : k = .free := some_eq h
      subst q
      dsimp only
      rw [hk, hc]
      exact (lookup_cons_eq (f := (n, NameKind.cell))).trans (if_pos rfl)
structure CompOk (X : Cx) (cs : Scope) (y : Str) : Prop where
  kind : cs.kind = .function
  cell : ∀ p ∈ cs.names, p.2 ≠ .cell
  loc : ∀ p ∈ cs.names, p.2 = .local → cs.names.lookup p.1 = some .local
  free : ∀ p ∈ cs.names, p.2 = .free → X.sc.names.lookup p.1 = some .cell
  own : cs.names.lookup y = some .local
theorem compOk_of {cs : Scope} {y : Str} (h : compOk X.sc cs y = true) : CompOk X cs y := by
  unfold compOk at h
  simp only [Bool.and_eq_true, beq_iff_eq, List.all_eq_true, bne_iff_ne, Bool.or_eq_true] at h
  obtain ⟨⟨h1, h2⟩, h3⟩ := h
  exact ⟨h1, fun p hp => (h2 p hp).1.1, fun p hp e => (h2 p hp).1.2.resolve_left fun n => n e, fun p hp e => (h2 p hp).2.resolve_left fun n => n e, h3⟩
theorem closure_ok (O : X.Ok) {cs : Scope} {y : Str} (K : CompOk X cs y) : ∃ cl, closureFor cs X.env = pure cl ∧ ∀ x, cs.names.lookup x = some .free → ∃ c, cl.lookup x = some c ∧ X.cs = some (x, c) := by
  have un : closureFor cs X.env = (forIn cs.names [] fun (p : Str × NameKind) (r : List (Str × Addr)) => if (p.2 == NameKind.free) = true then (do let a ← cellOf X.env p.1; pure (.yield ((p.1, a) :: r))) else (pure (.yield r) : Sem _)) := by
    unfold closureFor
    simp only [bind_pure]
  cases hc : X.cs with
  | none =>
    refine ⟨[], ?_, fun x hx => ?_⟩
    · refine closureFor_none fun p hp e => ?_
      obtain ⟨c, h⟩ := O.cell _ (.inl (K.free p hp e))
      rw [hc] at h; exact no_some h
    · obtain ⟨c, h⟩ := O.cell _ (.inl (K.free (x, .free) (mem_of_lookup_some hx) rfl))
      rw [hc] at h; exact no_some h
  | some q0 =>
    have hq : ∀ p ∈ cs.names, p.2 = .free → p.1 = q0.1 := fun p hp e => by
      obtain ⟨c, h⟩ := O.cell _ (.inl (K.free p hp e))
      exact (congrArg Prod.fst (same_some hc h)).symm
    obtain ⟨cl, h1, h2, h3⟩ := closure_loop (env := X.env) (q0 := q0) (by show X.cs.toList.lookup q0.1 = _; rw [hc]; show List.lookup q0.1 [q0] = _; rw [List.lookup_cons, beq_self_eq_true]) cs.names [] hq (fun q hq => nomatch hq)
    refine ⟨cl, un.trans h1, fun x hx => ?_⟩
    have hm := mem_of_lookup_some hx
    have e := hq _ hm rfl
    dsimp only at e
    subst e
    exact ⟨q0.2, lookup_all_eq h2 (h3 (.inl ⟨_, hm, rfl⟩)), rfl⟩
theorem off1_mem {D : Addr} : ∀ {l : List (Addr × Obj)}, LCg.Off1 D l → ∀ p ∈ l, p.1 ≠ D
  | [], _, _, h => nomatch h
  | _ :: _, x, p, h => (List.mem_cons.mp h).elim (fun e => e ▸ x.1) (off1_mem x.2 p)
theorem comp_rest (O : X.Ok) (C : Conf X rest σ l H) {cs : Scope} {y : Str} {cl : List (Str × Addr)} (K : CompOk X cs y) (hcl : ∀ x, cs.names.lookup x = some .free → ∃ c, cl.lookup x = some c ∧ X.cs = some (x, c)) {elt : Expr} {s : Shared} {S : List (Addr × Obj) → Prop} {P : Nat → Value → Prop} {Fin : List Value → List (Addr × Obj) → Prop} {news : List (Addr × Obj)}
    (hS : S news) (hcell : ∀ c, X.cs = some c → (c.2, σ.co) ∈ news) : ∀ (zs : List Int) (i : Nat) (ys : List Value) (done : List Int), (∀ j v, P (i + j) v → ∀ z, zs[j]? = some z → ∃ t, v = .int z t) → IntsAre ys done → (arM (compV cs y l) elt zs).All (fun q => ∀ ys', IntsAre ys' (done ++ q) → Fin ys' news) →
    LCg.CompRest X.prog X.w X.A X.g X.L σ.m X.env elt y cs cl s S P Fin zs.length i ys news
  | [], i, ys, done, _, hd, h => LCg.CompRest.zero (h ys (by rw [List.append_nil]; exact hd))
  | z :: zs, i, ys, done, hP, hd, h => by
    refine LCg.CompRest.succ fun v I' oI C' oC D m₂ h' tk E' hPv hNs hx F' N' off ne => ?_
    obtain ⟨t, rfl⟩ := hP 0 v hPv z rfl
    have kind : (compEnvC cs cl C' X.env).scope.kind = .function := K.kind
    refine arI_ok (h := h') (env := compEnvC cs cl C' X.env) (ν := compV cs y l z) (fun x j hj => ?_) 8 (s := { s with heap := h', toks := tk }) rfl (T.all_mono (fun w hw t2 tk2 => ?_) (T.all_bind h))
    · intro p s1 Q hs1 hq
      unfold compV at hj
      cases hxy : (x == y) with
      | true =>
        cases hdbg : (x == ("__debug__" : Str)) with
        | true => rw [hxy, hdbg] at hj; exact no_some hj
        | false =>
          rw [hxy, hdbg] at hj
          obtain rfl := some_eq hj
          obtain rfl := beq_iff_eq.mp hxy
          exact wpAny_Name (wpAny_loadName_local kind (lookup_relabel_local K.own) (m := m₂) (by rw [hs1]; exact hNs.ns (N' (C', oC) (List.mem_cons_of_mem _ List.mem_cons_self)).1) hx (hq t)) hdbg
      | false =>
        cases hdbg : (x == ("__debug__" : Str)) with
        | true => rw [hxy, hdbg] at hj; exact no_some hj
        | false =>
          rw [hxy, hdbg] at hj
          cases hk : cs.names.lookup x with
          | none => rw [hk] at hj; exact no_some hj
          | some k =>
            rw [hk] at hj
            cases k with
            | free =>
              obtain ⟨a, ha, hi⟩ := Option.bind_eq_some_iff.mp hj
              obtain rfl := int?_of hi
              obtain ⟨c, hc1, hc2⟩ := hcl x hk
              have hkx := K.free _ (mem_of_lookup_some hk) rfl
              obtain ⟨u, hu, t', rfl⟩ := C.R x _ ha
              unfold Val at hu
              dsimp only at hkx
              rw [hkx] at hu
              refine wpAny_Name (wpAny_loadName_cell kind (lookup_relabel_free O.kind hk hkx) hc1 ⟨σ.co, ?_, hu⟩ (hq t')) hdbg
              rw [hs1]
              exact (N' _ (List.mem_cons_of_mem _ (List.mem_cons_of_mem _ (List.mem_cons_of_mem _ (hcell _ hc2))))).1
            | _ => exact no_some hj
    · refine ⟨h', tk2, news, rfl, F', N', off, hS, comp_rest O C K hcl hS hcell zs (i + 1) _ (done ++ [w]) (fun j v hv z' hz' => hP (j + 1) v (by rw [show i + (j + 1) = i + 1 + j from by lia]; exact hv) z' hz') (IntsAre.append hd (.cons w t2 .nil)) (T.all_mono (fun q hq ys' hy => hq ys' ?_) (T.all_bind hw))⟩
      rw [List.append_assoc] at hy
      exact hy
end
end Mine.Internal
end
section
open PySem PySem.W PySem.Calls PyProof.Rows
namespace Mine.Internal
theorem wpP {M : Model} {A : Around} {E : Value → Shared → Prop} {α : Type} {c : Prop} [Decidable c] {t e : Sem α} {Q : α → Shared → Prop} {s : Shared} (hc : c) (h : wpAny M A t Q E s) : wpAny M A (if c then t else e) Q E s := by rw [if_pos hc]; exact h
theorem wpN {M : Model} {A : Around} {E : Value → Shared → Prop} {α : Type} {c : Prop} [Decidable c] {t e : Sem α} {Q : α → Shared → Prop} {s : Shared} (hc : ¬ c) (h : wpAny M A e Q E s) : wpAny M A (if c then t else e) Q E s := by rw [if_neg hc]; exact h
theorem mx0 (x : Int) : (max 0 x).toNat = x.toNat := by
  cases x with
  | ofNat k => exact congrArg Int.toNat (Int.max_eq_right (Int.natCast_nonneg k))
  | negSucc k => rw [Int.max_eq_left (Int.le_of_lt (Int.negSucc_lt_zero k))]; rfl
theorem mxN (a b : Int) : (max a b).toNat = max a.toNat b.toNat := by
  rcases Int.le_total a b with h | h
  · rw [Int.max_eq_right h, Nat.max_eq_right (Int.toNat_le_toNat h)]
  · rw [Int.max_eq_left h, Nat.max_eq_left (Int.toNat_le_toNat h)]
theorem bnd1 (i : Int) (n : Nat) : (max 0 (min (if i < 0 then i + n else i) (n : Int))).toNat = if i < 0 then n - (-i).toNat else min i.toNat n := by
  rw [mx0]
  cases i with
  | ofNat k =>
    show (min (if (k : Int) < 0 then (k : Int) + n else (k : Int)) (n : Int)).toNat = if (k : Int) < 0 then n - (-(k : Int)).toNat else min k n
    rw [if_neg (Int.not_lt.mpr (Int.natCast_nonneg k)), if_neg (Int.not_lt.mpr (Int.natCast_nonneg k))]
    show (min (k : Int) n).toNat = min k n
    rcases Nat.le_total k n with h | h
    · rw [Int.min_eq_left (Int.ofNat_le.mpr h), Nat.min_eq_left h]; rfl
    · rw [Int.min_eq_right (Int.ofNat_le.mpr h), Nat.min_eq_right h]; rfl
  | negSucc k =>
    have h := Int.add_le_add_right (Int.le_of_lt (Int.negSucc_lt_zero k)) (n : Int)
    rw [Int.zero_add] at h
    rw [if_pos (Int.negSucc_lt_zero k), if_pos (Int.negSucc_lt_zero k), Int.min_eq_left h, Int.add_comm]
    exact Int.toNat_sub n (k + 1)
theorem bnd_lo {lo hi : Option Int} {n : Nat} : (sliceBounds lo hi none n).1.toNat = loI lo n := by
  cases lo with
  | none => rfl
  | some i => exact bnd1 i n
theorem bnd_hi {lo hi : Option Int} {n : Nat} : (max (sliceBounds lo hi none n).1 (sliceBounds lo hi none n).2.1).toNat = max (loI lo n) (hiI hi n) := by
  have h1 : (sliceBounds lo hi none n).2.1.toNat = hiI hi n := by
    cases hi with
    | none => exact Int.toNat_natCast n
    | some i => exact bnd1 i n
  rw [mxN, bnd_lo, h1]
theorem cut_size {a b n u : Nat} (h : a ≤ b) : min a n - 0 + u + (min n n - b) ≤ n + u := by
  rw [Nat.min_self, Nat.sub_zero]
  rcases Nat.le_total b n with q | q
  · exact Nat.le_trans (Nat.add_le_add_right (Nat.add_le_add_right (Nat.le_trans (Nat.min_le_left _ _) h) u) _) (Nat.le_of_eq (by rw [Nat.add_right_comm, Nat.add_sub_of_le q]))
  · rw [Nat.sub_eq_zero_of_le q]; exact Nat.add_le_add_right (Nat.min_le_right _ _) u
theorem set_slice {X : Cx} {E : Value → Shared → Prop} {s : Shared} {a b S : Addr} {vs us : Array Value} {n n' : Nat} {vl vu : Value} {lo hi : Option Int} {Q : Unit → Shared → Prop} (ho : s.heap.get? a = some (listOf vs n)) (hb : s.heap.get? b = some (listOf us n')) (hab : a ≠ b)
    (hs : s.heap.IsSliceOf S vl vu .none) (pl : IsPart vl lo) (pu : IsPart vu hi) (hz : vs.size + us.size ≤ 2 ^ 24)
    (h : ∀ zs, zs.toList = vs.toList.take (loI lo vs.size) ++ us.toList ++ vs.toList.drop (max (loI lo vs.size) (hiI hi vs.size)) → ∀ h', Heap.SameBut a s.heap h' → (∃ n2, h'.get? a = some (listOf zs n2)) → Q () { s with heap := h' }) : wpAny X.M X.A (setItem (.ref a) (.ref S) (.ref b)) Q E s := by
  have hl : s.heap.IsList a vs := ⟨_, ho, rfl, n, rfl⟩
  have hsz : vs.size ≤ 16777216 := Nat.le_trans (Nat.le_add_right _ _) hz
  obtain ⟨os, hos, hcs, hds⟩ := id hs
  have hTs : s.TypeIs (.ref S) "slice" := ⟨os, hos, hcs⟩
  have hTb : s.TypeIs (.ref b) "list" := ⟨_, hb, rfl⟩
  unfold setItem
  refine wpAny_holding ?_
  refine wpAny_bind (wpAny_sequenceKey hl.typeIs (by decide) ?_)
  refine wpAny_bind (wpAny_callSpecial?_slot (name := Str.ofString "__setitem__") hl.typeIs PySem.F.slot_list_setitem (wpAny_call_entry PySem.F.slot_list_setitem hl.typeIs PySem.F.entry_list_setitem ?_ (PySem.F.args_list_setitem_3 _ _ _)))
  show wpAny _ _ (Builtin.List.listSubscript? (.ref S) >>= _) _ _ s
  refine wpAny_bind ?_
  unfold Builtin.List.listSubscript?
  refine wpAny_bind (wpAny_specialOf hTs slice_no_index ?_)
  refine wpP rfl ?_
  refine wpAny_pure ?_
  show wpAny _ _ (typeOf (.ref S) >>= _) _ _ s
  refine wpAny_bind (wpAny_typeOf hTs ?_)
  refine wpN (by decide) ?_
  rw [listSliceParts_eq]
  refine wpAny_bind (wpAny_bind (wpAny_field hos hds (x := .none) rfl (wpAny_bind (wpAny_listPart .none ?_))))
  refine wpN Bool.false_ne_true ?_
  refine wpAny_bind (wpAny_field hos hds (x := vl) rfl (wpAny_bind (wpAny_listPart pl ?_)))
  refine wpAny_bind (wpAny_field hos hds (x := vu) rfl (wpAny_bind (wpAny_listPart pu (wpAny_pure ?_))))
  have hne : Builtin.List.listSameRef (.ref a) (.ref b) = false := beq_eq_false_iff_ne.mpr hab
  dsimp only
  rw [hne]
  refine wpAny_bind (m := Builtin.List.listAllItems (.ref b) _) ?_
  unfold Builtin.List.listAllItems
  refine wpAny_bind (wpAny_typeOf hTb ?_)
  refine wpP rfl ?_
  unfold Builtin.List.listItems
  refine wpAny_bind (wpAny_seqItems hb rfl (wpAny_pure ?_))
  try refine wpAny_pure ?_
  refine wpAny_bind (wpAny_bind (wpAny_seqItems ho rfl (wpAny_pure ?_)))
  refine wpAny_bind (wpAny_of_eq (sliceIndices_raw lo hi none vs.size (fun e => nomatch e)) ?_)
  refine wpP rfl ?_
  refine wpAny_bind (wpAny_rule ?_)
  refine wpN (fun e => absurd (of_decide_eq_true e) (Nat.not_lt.mpr hz)) ?_
  refine wpAny_bind (wpAny_updateSeq ho rfl ?_ hsz (by
    show (vs.extract 0 _ ++ us ++ vs.extract _ vs.size).size ≤ sizeLine + 1
    rw [Array.size_append, Array.size_append, Array.size_extract, Array.size_extract]
    exact Nat.le_succ_of_le (Nat.le_trans (cut_size (by rw [mxN]; exact Nat.le_max_left _ _)) hz)))
  refine wpAny_bind (wpAny_letGo (wpAny_pure ⟨_, rfl, wpAny_pure ?_⟩))
  refine h _ ?_ _ (Heap.SameBut.update s.heap a _) ⟨_, Heap.get?_update_self (h := s.heap) (a := a) _ ho rfl⟩
  have ex : ∀ (l : List Value) (p q : Nat), l.extract p q = (l.drop p).take (q - p) := fun _ _ _ => rfl
  rw [Array.toList_append, Array.toList_append, Array.toList_extract, Array.toList_extract, bnd_lo, bnd_hi, ex, ex, List.drop_zero, Nat.sub_zero, List.take_of_length_le (l := List.drop _ _)]
  rw [List.length_drop, Array.length_toList]
  exact Nat.le_refl _
section
variable {X : Cx} {I : Ifc} {F : Fns} {rest : List (Addr × Obj)} {σ : Sg} {l : Loc} {H : HP} {E : Value → Shared → Prop}
theorem Conf.ne (C : Conf X rest σ l H) {i j : Nat} {a b : Addr} (e : σ.ρ[i]? = some a) (f : σ.ρ[j]? = some b) (h : i ≠ j) : a ≠ b := by
  obtain ⟨_, _, nd, _⟩ := C.C
  exact nodup_ne (List.nodup_append.mp nd).1 e f h
theorem ints_lay {vs us : List Value} {xs ys : List Int} {lo hi : Option Int} (e : IntsAre vs xs) (f : IntsAre us ys) : IntsAre (vs.take (loI lo xs.length) ++ us ++ vs.drop (max (loI lo xs.length) (hiI hi xs.length))) (layI xs lo hi ys) :=
  IntsAre.append (IntsAre.append (ints_take _ e) f) (ints_drop _ e)
theorem setS_ok {o v vl vu : Value} {x y : AV} {lo hi : Option Int} {S : Addr} {Q : Unit → Shared → Prop} (C : Conf X rest σ l H) (r : RepV X.Φ σ.ρ o x) (q : RepV X.Φ σ.ρ v y) (hs : σ.h.IsSliceOf S vl vu .none) (pl : IsPart vl lo) (pu : IsPart vu hi)
    (h : (setS x lo hi y H).All (fun H' => ∀ h', Conf X rest (σ.hp h') l H' → Q () (X.st (σ.hp h')))) : wpAny X.M X.A (setItem o (.ref S) v) Q E (X.st σ) := by
  refine T.optE h fun i hi0 h1 => T.optE h1 fun j hj h2 => T.optE h2 fun xs hx h3 => T.optE h3 fun ys hy h4 => T.needE h4 fun c h5 => numsE C r hx fun i' a vs n e1 e2 e3 e4 e5 => numsE C q hy fun j' b us n' f1 f2 f3 f4 f5 => ?_
  simp only [Bool.and_eq_true, decide_eq_true_eq, Bool.not_eq_true'] at c
  rw [obj?_of hi0] at e1
  rw [obj?_of hj] at f1
  obtain rfl := obj_inj e1
  obtain rfl := obj_inj f1
  rw [e2, f2]
  refine set_slice (s := X.st σ) e4 f4 (C.ne e3 f3 fun e => ?_) hs pl pu (by rw [size_eq e5, size_eq f5]; exact c.2) fun zs hz h' hs' ho => h5 h' ?_
  · rw [e, Nat.beq_refl] at c; exact no_bool c.1.symm
  · obtain ⟨n2, ho⟩ := ho
    exact C.upd e3 hs' ho (ao := .nums _) ⟨zs, n2, rfl, by rw [hz, size_eq e5]; exact ints_lay e5 f5⟩
end
end Mine.Internal
end
section
open PySem PySem.W PySem.Calls PyProof.Rows
namespace Mine.Internal
theorem cond_some {α : Type} {c : Bool} {x y : α} (h : cond c (some x) none = some y) : c = true := by
  cases c with
  | true => rfl
  | false => exact no_some h
theorem swaps_of {e : Expr} {t : Option Expr} {n : Nat} {env : Env} (h : plainE e = true) : swapsWith e t n env = pure false := by
  cases e with
  | ListComp => exact no_bool h
  | SetComp => exact no_bool h
  | DictComp => exact no_bool h
  | _ => rfl
theorem sole_of {e t : Expr} {n : Nat} {env : Env} (h : plainE e = true) : swapsWithSole [t] e n env = pure false := swaps_of (t := some t) (n := n) (env := env) h
theorem filterMap_lt {α β : Type} {f : α → Option β} : ∀ {xs : List α}, (xs.filterMap f).length ≤ xs.length ∧ ((∃ x ∈ xs, f x = none) → (xs.filterMap f).length < xs.length)
  | [] => ⟨Nat.le_refl _, fun ⟨_, h, _⟩ => nomatch h⟩
  | x :: xs => by
    obtain ⟨a, b⟩ := filterMap_lt (f := f) (xs := xs)
    rw [List.filterMap_cons]
    cases hx : f x with
    | none => exact ⟨Nat.le_succ_of_le a, fun _ => Nat.lt_succ_of_le a⟩
    | some y =>
      refine ⟨Nat.succ_le_succ a, fun ⟨z, hz, e⟩ => ?_⟩
      rcases List.mem_cons.mp hz with rfl | hz
      · rw [hx] at e; exact no_some e.symm
      · exact Nat.succ_lt_succ (b ⟨z, hz, e⟩)
theorem swapped_of {ts : List Expr} {e : Expr} {k : Nat} {tpos : Pos} {env : Env} (h : swapOk ts e = true) : swappedStores [.Tuple ts k tpos] e env = pure none := by
  cases e with
  | Tuple vs k' p' =>
    unfold swapOk at h
    unfold swappedStores
    rw [Bool.or_eq_true] at h
    dsimp only
    split
    · rfl
    · split
      · rfl
      · split
        · rfl
        · rename_i hn
          rcases h with h | h
          · refine absurd ?_ hn
            rw [Bool.or_eq_true]
            refine .inl (bne_iff_ne.mpr ?_)
            obtain ⟨t, ht, hk⟩ := List.any_eq_true.mp h
            refine Nat.ne_of_lt (filterMap_lt.2 ⟨t, ht, ?_⟩)
            cases t with
            | Name => exact no_bool hk
            | _ => rfl
          · rw [if_pos h]
  | _ => rfl
theorem swapped_names {X : Cx} (O : X.Ok) {ts : List Expr} {e : Expr} {k : Nat} {tpos : Pos} {ns : List Str} (h : swpN X.sc ts e = some ns) : swappedStores [.Tuple ts k tpos] e X.env = pure (some ns) := by
  obtain ⟨vs, h1, h2⟩ := Option.bind_eq_some_iff.mp h
  cases e with
  | Tuple vs' k' p' =>
    obtain rfl : vs' = vs := some_eq h1
    have c := cond_some h2
    dsimp only at h2
    rw [c] at h2
    simp only [Bool.and_eq_true, beq_iff_eq, Bool.not_eq_true'] at c
    obtain ⟨⟨⟨⟨⟨⟨c1, c2⟩, c3⟩, c4⟩, c5⟩, c6⟩, c7⟩ := c
    have e1 : (vs'.any fun x => match x with | .Starred .. => true | _ => false) = false := by
      rw [List.any_eq_false]
      intro x hx
      have := List.all_eq_true.mp c3 x hx
      cases x with
      | Starred => exact no_bool this
      | _ => exact Bool.false_ne_true
    have e2 : (ts.filterMap fun x => match x with | .Name id pos => if (X.env.kindOf id == some .local && pos.line == ((ts.head?.map (·.pos.line)).getD 0)) = true then some id else none | _ => none) = ts.filterMap (lineN X.sc ((ts.head?.map (·.pos.line)).getD 0)) :=
      congrArg (fun f => List.filterMap f ts) (funext fun x => by cases x <;> rfl)
    unfold swappedStores
    dsimp only
    refine (if_neg ?_).trans ((if_neg fun z => Bool.false_ne_true (e1.symm.trans z)).trans ?_)
    · rw [show X.env.blockKind = .function by unfold Env.blockKind; rw [show X.env.scope.kind = .function from O.kind]; rfl, c1, c2, bne_self_eq_false]
      exact Bool.false_ne_true
    · generalize hN : List.filterMap _ ts = N
      obtain rfl : N = _ := hN.symm.trans e2
      refine (if_neg ?_).trans ?_
      · exact fun z => ((Bool.or_eq_true _ _).mp z).elim (fun z => bne_iff_ne.mp z c4) (fun z => bne_iff_ne.mp z c5)
      · rw [c6, c7, ← some_eq h2]
        rfl
  | _ => exact no_some h1
theorem asg_gen {M : Model} {A : Around} {E : Value → Shared → Prop} {s : Shared} {env : Env} {t e : Expr} {p : Pos} {Q : Flow → Shared → Prop} (hp : plainE e = true) (hn : notStar t = true) (hw : swappedStores [t] e env = pure none)
    (h : wpAny M A (eval e env) (fun v s₁ => wpAny M A (assign t env v) (fun _ => Q .next) E s₁) E s) : wpAny M A (exec (.Assign [t] e p) env) Q E s := by
  rw [exec_Assign, show swapsWithSole [t] e p.line env = pure false from swaps_of (t := some t) hp, hw, eachOf hn]
  refine wpAny_bind (wpAny_standAt (wpAny_bind (wpAny_pure ?_)))
  rw [if_neg Bool.false_ne_true]
  refine wpAny_bind (wpAny_mono h (fun v s₁ h₁ => wpAny_bind (wpAny_pure ?_)) fun _ _ x => x)
  show wpAny M A (do assignAll v [assign t env]; pure .next) Q E s₁
  exact wpAny_bind (wpAny_mono h₁ (fun _ _ x => wpAny_pure x) fun _ _ x => x)
section
variable {X : Cx} {I : Ifc} {F : Fns} {rest : List (Addr × Obj)} {σ : Sg} {l : Loc} {H : HP} {E : Value → Shared → Prop}
theorem asgS_ok (S : Sound I F) (O : Fx I X) (C : Conf X rest σ l H) {t e : Expr} {V : Tg} {p : Pos} {Q : Flow → Shared → Prop} (hp : plainE e = true) (hv : IsT t V) (h : (asgS I F X.dp X.sc e l H V).All (PostS X rest σ Q)) :
    wpAny X.M X.A (exec (.Assign [t] e p) X.env) Q E (X.st σ) := by
  have one : ∀ {V : Tg}, notStar t = true → swappedStores [t] e X.env = pure none → IsT t V → ((F.ev X.dp X.sc e l H).bind fun r => (asgV I F X.dp X.sc r.1 l r.2 V).bind fun q => T.ret (AF.next, q.1, q.2)).All (PostS X rest σ Q) → wpAny X.M X.A (exec (.Assign [t] e p) X.env) Q E (X.st σ) := fun hn hw hv h =>
    asg_gen hp hn hw (ev_then S O C h fun r σ1 v hr p1 C1 r1 => asgV_ok S O C1 hv r1 (T.all_mono (fun z hz σ2 p2 C2 => hz σ2 .next (pre_trans p1.pre p2) C2 rfl) (T.all_bind hr)))
  cases V with
  | name x => exact (by obtain ⟨q, rfl⟩ := id hv; exact one (V := .name x) rfl rfl hv h)
  | attr x a => exact (by obtain ⟨xp, q, rfl⟩ := id hv; exact one (V := .attr x a) rfl rfl hv h)
  | sub x i => exact (by obtain ⟨q, rfl, _⟩ := id hv; exact one (V := .sub x i) rfl rfl hv h)
  | tup ts =>
    obtain ⟨k, q, rfl, hs⟩ := hv
    unfold asgS at h
    dsimp only at h
    cases hw : swapOk ts e with
    | true =>
      rw [hw] at h
      refine asg_gen hp rfl (swapped_of hw) (ev_then S O C h fun r σ1 v hr p1 C1 r1 => T.optE hr fun ys hy h2 => ?_)
      exact asgTup_ok S O C1 hs r1 hy (T.all_mono (fun z hz σ2 p2 C2 => hz σ2 .next (pre_trans p1.pre p2) C2 rfl) (T.all_bind h2))
    | false =>
      rw [hw] at h
      refine T.optE h fun ns hn h1 => Assign_Tuple_swapped (ev_then S O C h1 fun r σ1 v hr p1 C1 r1 => T.optE hr fun ys hy h2 => T.needE h2 fun hl h3 => ?_) (sole_of hp) (swapped_names O.O hn)
      refine tup_at O C1 r1 hy fun a us e hT hr2 => ?_
      rw [e, show ns.length = us.size by rw [beq_iff_eq.mp hl, ← Array.length_toList]; exact hr2.length.symm]
      refine wpAny_unpackItems_tuple O.O.handled hT fun h2 k2 => ?_
      have rr := RepVs.rev (ws := []) (zs := []) hr2 trivial
      rw [List.append_nil, List.append_nil] at rr
      exact bnds_ok (σ := σ1.hp h2) O (C1.keeps fun b o e => k2 b o (Nat.ne_of_lt (Heap.lt_size e)) e) rr (T.all_mono (fun z hz σ2 p2 C2 => hz σ2 .next (pre_trans p1.pre p2) C2 rfl) (T.all_bind h3))
  | sli x lo hi =>
    obtain ⟨xp, sp, q, rfl⟩ := hv
    refine asg_gen hp rfl rfl (ev_then S O C h fun r σ1 v hr p1 C1 r1 => ?_)
    rw [arm_assign_Subscript]
    refine T.optE hr fun o ho h1 => wpAny_bind (wpAny_holding (nm_ok O C1 ho fun u ru => ?_))
    rw [arm_eval_Slice]
    refine wpAny_bind (wpAny_holding (wpAny_bind (evO_ok S O C1 h1 fun a σ2 va ha p2 C2 r2 => ?_)))
    refine wpAny_bind (wpAny_holding (evO_ok S O C2 ha fun b σ3 vb hb p3 C3 r3 => ?_))
    refine wpAny_bind (wpAny_holding (wpAny_pure (wpAny_newObj_type ?_ (by size_fits))))
    refine wpAny_bind (wpAny_standAt (wpAny_bind (wpAny_holding ?_)))
    have p13 := p2.trans p3
    refine setS_ok (σ := σ3.hp _) (C3.keeps fun b o e => Heap.get?_push_of_some _ e) (ru.mono p13.pre) (r1.mono p13.pre) (Heap.IsSliceOf.new ..) r2 r3 (T.all_mono (fun H' h' h2 C' => ?_) (T.all_bind hb))
    exact wpAny_release (h' (σ3.hp h2) .next (p1.trans p13).pre C' rfl)
  | other => exact h.elim
theorem augV_ok (S : Sound I F) (O : Fx I X) (C : Conf X rest σ l H) {t e : Expr} {V : Tg} {op : Operator} {p : Pos} {Q : Flow → Shared → Prop} (hv : IsT t V) (h : (augV I F X.dp X.sc op e l H V).All (PostS X rest σ Q)) :
    wpAny X.M X.A (exec (.AugAssign t op e p) X.env) Q E (X.st σ) := by
  cases V with
  | name x =>
    obtain ⟨q, rfl⟩ := hv
    refine T.needE h fun hk h1 => T.optE h1 fun a ha h2 => ?_
    rw [Bool.and_eq_true] at hk
    refine wpAny_AugAssign_Name (load_var O.O C hk.1 ha fun u ru => ev_then S O C h2 fun r σ1 v hr p1 C1 r1 => ?_)
    cases hi : a.int? with
    | some i =>
      rw [hi] at hr
      rw [int?_of hi] at ru
      obtain ⟨t', rfl⟩ := ru
      refine T.optE hr fun b hb h3 => ?_
      rw [int?_of hb] at r1
      obtain ⟨t2, rfl⟩ := r1
      exact (binN_ok (T.all_mono (fun z hz t3 => store_ok (σ := σ1.tok (σ1.tk + 1)) (v := .int z t3) (y := .int z) O.O (C1.tok _) hk.1 ⟨t3, rfl⟩ fun σ' e C' => hz σ' .next (e ▸ p1.pre) C' rfl) (T.all_bind h3))).2
    | none =>
      rw [hi] at hr
      refine T.optE hr fun i hi h3 => ?_
      have ru' := ru.mono p1.pre
      rw [obj?_of hi] at ru'
      exact extI_ok C1 ru' r1 (T.all_mono (fun H' hz h' C' => store_ok (σ := σ1.hp h') O.O C' hk.1 ru' fun σ' e C2 => hz σ' .next (e ▸ p1.pre) C2 rfl) (T.all_bind h3))
  | attr x a =>
    obtain ⟨xp, q, rfl⟩ := hv
    refine T.optE h fun o ho h1 => wpAny_AugAssign_AttributeAny (nm_ok O C ho fun u ru => getA_ok O.O O.K C ru (T.all_mono (fun w hw σ1 v1 p1 C1 r1 => T.optE hw fun i hi h2 => ?_) (T.all_bind h1)))
    rw [int?_of hi] at r1
    obtain ⟨t', rfl⟩ := r1
    refine ev_then S O C1 h2 fun r σ2 v2 hr p2 C2 r2 => T.optE hr fun b hb h3 => ?_
    rw [int?_of hb] at r2
    obtain ⟨t2, rfl⟩ := r2
    refine (binN_ok (T.all_mono (fun z hz t3 => ?_) (T.all_bind h3))).2
    exact setA_ok (σ := σ2.tok (σ2.tk + 1)) (v := .int z t3) (x := .int z) O.O O.K (C2.tok _) (ru.mono (p1.trans p2).pre) ⟨t3, rfl⟩ (T.all_mono (fun H' h' h4 tk C' => h' (((σ2.tok (σ2.tk + 1)).hp h4).tok tk) .next (p1.trans p2).pre C' rfl) (T.all_bind hz))
  | _ => exact h.elim
end
end Mine.Internal
end
section
open PySem PySem.W PySem.Calls PyProof.Rows
namespace Mine.Internal
theorem upto_len : ∀ (n : Nat) (a : Int), (upto a n).length = n
  | 0, _ => rfl
  | n + 1, a => congrArg (· + 1) (upto_len n (a + 1))
theorem upto_get : ∀ (n : Nat) {a z : Int} {j : Nat}, (upto a n)[j]? = some z → a + (j : Int) = z
  | 0, _, _, _, h => no_some h
  | n + 1, a, z, 0, h => (Int.add_zero a).trans (some_eq h)
  | n + 1, a, z, j + 1, h => by
    have := upto_get n (a := a + 1) (z := z) (j := j) h
    rw [Int.natCast_add, Int.natCast_one]
    lia
section
variable {X : Cx} {I : Ifc} {F : Fns} {rest : List (Addr × Obj)} {σ : Sg} {l : Loc} {H : HP} {E : Value → Shared → Prop}
theorem comp_swaps (O : X.Ok) {x : Str} {xp cp : Pos} {n : Nat} {elt : Expr} {gs : List Comprehension} {cs : Scope} (hl : (xp.line == cp.line) = true) (h1 : X.sc.names.lookup x = some .local) (h2 : cs.names.lookup x = none) :
    swapsWith (.ListComp elt gs cs cp) (some (.Name x xp)) n X.env = pure true := by
  have k : cs.names.any (fun (q : Str × NameKind) => q.1 == x && (q.2 == .local || q.2 == .cell)) = false := by
    rw [List.any_eq_false]
    intro q hq e
    rw [Bool.and_eq_true] at e
    exact bne_iff_ne.mp ((List.lookup_eq_none_iff.mp h2) q hq) (beq_iff_eq.mp e.1).symm
  show (pure (X.env.blockKind == .function && X.env.kindOf x == some .local && xp.line == cp.line && !(cs.names.any fun (q : Str × NameKind) => q.1 == x && (q.2 == .local || q.2 == .cell))) : Sem Bool) = pure true
  rw [k, hl, show X.env.kindOf x = some .local from h1, show X.env.blockKind = .function by unfold Env.blockKind; rw [show X.env.scope.kind = .function from O.kind]; rfl]
  rfl
theorem comp_fin (C : Conf X rest σ l H) {c : Addr → Obj} {x : Str} {ys : List Value} {q : List Int} {s : Shared} {Q : Flow → Shared → Prop} (hk : X.sc.names.lookup x = some .local)
    (nd : (σ.ρ ++ (X.cells σ.co σ.pt ++ rest).map (·.1)).Nodup) (len : σ.ρ.length = H.length) (rp : ∀ (i : Nat) (a : Addr) (ao : AO), σ.ρ[i]? = some a → H[i]? = some ao → RepO X.Φ σ.ρ (c a) ao) (hy : IntsAre ys q) (es : ∃ g, s = { X.st σ with heap := g })
    (h : PostS X rest σ Q (.next, setL x (.obj H.length) l, H ++ [.nums q])) : LCg.FinA X.g X.L σ.m s x Q ys (ledger σ.ρ c ++ (X.cells σ.co σ.pt ++ rest)) := by
  intro D h' tk F' N' off
  obtain ⟨g, rfl⟩ := es
  refine h ⟨h', tk, σ.ρ ++ [D], _, σ.co, σ.pt⟩ .next (List.prefix_append _ _) ⟨F', fun z b e => ?_, Cf.add N' nd len rp (off1_mem off) ⟨ys.toArray, _, rfl, hy⟩, C.co⟩ rfl
  unfold setL at e
  rw [lookup_setF] at e
  rcases instDecidableEqStr x z with w | w
  · rw [if_neg w] at e
    exact (C.mono (List.prefix_append _ _) z b e).imp fun u k => ⟨val_set (σ := σ) hk rfl rfl w k.1, k.2⟩
  · rw [if_pos w] at e
    subst w
    exact ⟨.ref D, by unfold Val; rw [hk]; exact if_pos rfl, some_eq e ▸ C.topV⟩
theorem comp_ok (S : Sound I F) (O : Fx I X) (C : Conf X rest σ l H) {x y : Str} {xp yp cp p : Pos} {elt iter : Expr} {cs : Scope} {Q : Flow → Shared → Prop} (hn : noSet iter = true) (hl : (xp.line == cp.line) = true)
    (h : (compI F X.dp X.sc x elt y iter cs l H).All (PostS X rest σ Q)) : wpAny X.M X.A (exec (.Assign [.Name x xp] (.ListComp elt [⟨.Name y yp, iter, [], 0⟩] cs cp) p) X.env) Q E (X.st σ) := by
  refine T.needE h fun c h1 => ?_
  simp only [Bool.and_eq_true, beq_iff_eq, Option.isNone_iff_eq_none] at c
  obtain ⟨⟨c1, c2⟩, c3⟩ := c
  have K := compOk_of (X := X) c1
  obtain ⟨cl, hc, hcl⟩ := closure_ok O.O K
  refine LCg.Assign_ListComp_U C.F rfl (comp_swaps O.O hl c2 c3) hc K.cell K.kind K.loc K.own c2 (hint_of O.O) (ev_then S O C h1 fun r σ1 v hr p1 C1 r1 => T.optE hr fun zs hz h2 => T.needE h2 fun hlen h3 => ?_) (folded_of hn)
  have hs := Nat.le_trans (of_decide_eq_true hlen) (show 100000 ≤ sizeLine by decide)
  rw [← p1.m]
  have hcell : ∀ (k : Addr → Obj) c, X.cs = some c → (c.2, σ1.co) ∈ ledger σ1.ρ k ++ (X.cells σ1.co σ1.pt ++ rest) := fun k c e => List.mem_append_right _ (List.mem_append_left _ (List.mem_append_left _ (by unfold Cx.own; rw [e]; exact List.mem_singleton.mpr rfl)))
  have h4 := T.all_mono (fun _ w => fun σ' fl p => w σ' fl (pre_trans p1.pre p)) (T.all_bind h3)
  obtain ⟨k, N, nd, len, rp⟩ := id C1.C
  unfold srcI at hz
  cases hq : numsO r.2 r.1 with
  | some xs =>
    rw [hq] at hz
    obtain rfl := some_eq hz
    refine numsE C1 r1 hq fun i a vs n _ e2 e3 e4 e5 => ?_
    have hm := List.mem_append_left (X.cells σ1.co σ1.pt ++ rest) (mem_ledger (c := k) e3)
    rw [show k a = listOf vs n from same_some (N _ hm).1 e4] at hm
    have sz := size_eq e5
    rw [e2]
    refine LCg.CompSrc.ledger O.O.handled C1.F N hm (by rw [sz]; exact hs) fun g => ?_
    rw [sz]
    refine comp_rest O.O C1 K hcl (.inr ⟨_, hm, rfl, _, rfl⟩) (hcell k) xs 0 [] [] (fun j v hv z hz => ?_) .nil (T.all_mono (fun q hq ys hy => comp_fin C1 c2 nd len rp hy ⟨g, rfl⟩ hq) h4)
    rw [Nat.zero_add, ← Array.getElem?_toList] at hv
    obtain ⟨t, e⟩ := ints_get e5 (List.getElem?_eq_some_iff.mp hz).1
    rw [List.getD_eq_getElem?_getD, hz] at e
    exact ⟨t, same_some hv e⟩
  | none =>
    rw [hq] at hz
    obtain ⟨q, h5, h6⟩ := Option.bind_eq_some_iff.mp hz
    cases hc2 : (decide (0 ≤ q.1) && decide (q.1 ≤ q.2) && decide (q.2 ≤ 1000000)) with
    | false => rw [hc2] at h6; exact no_some h6
    | true =>
      rw [hc2] at h6
      obtain rfl := some_eq h6
      simp only [Bool.and_eq_true, decide_eq_true_eq] at hc2
      refine rngE C1 r1 h5 fun i a t u w _ e2 _ e4 => ?_
      rw [e2]
      have sm := small_of hc2.1.1 hc2.1.2 hc2.2
      rw [upto_len] at hs
      refine LCg.CompSrc.range O.O.handled C1.F N e4 sm.1 sm.2 hs fun g => ?_
      have go := comp_rest (s := { X.st σ1 with heap := g }) (P := fun i v => ∃ t, v = .int (q.1 + (i : Int)) t) O.O C1 K hcl (elt := elt) (S := fun _ => True) trivial (hcell k) (upto q.1 (q.2 - q.1).toNat) 0 [] [] (fun j v hv z hz => ?_) .nil (T.all_mono (fun q hq ys hy => comp_fin C1 c2 nd len rp hy ⟨g, rfl⟩ hq) h4)
      · rw [upto_len] at go
        exact go
      · obtain ⟨t, rfl⟩ := hv
        rw [Nat.zero_add, upto_get _ hz]
        exact ⟨t, rfl⟩
end
end Mine.Internal
end
section
open PySem PySem.W PySem.Calls PyProof.Rows
namespace Mine.Internal
section
variable {X : Cx} {I : Ifc} {F : Fns} {rest : List (Addr × Obj)} {σ : Sg} {l : Loc} {H : HP} {E : Value → Shared → Prop}
theorem inter_of (O : X.Ok) : interactive X.env = false := by
  show (X.sc.kind == .module && _) = false
  rw [O.kind]; rfl
theorem stV_ok (S : Sound I F) (O : Fx I X) (C : Conf X rest σ l H) {st : Stmt} {V : St} {Q : Flow → Shared → Prop} (hv : IsY st V) (h : (stV I F X.dp X.sc l H V).All (PostS X rest σ Q)) : wpAny X.M X.A (exec st X.env) Q E (X.st σ) := by
  cases V with
  | pass =>
    obtain ⟨p, rfl⟩ := hv
    exact wpAny_Pass (h σ _ (List.prefix_refl _) C rfl)
  | ret eo =>
    obtain ⟨p, rfl⟩ := hv
    cases eo with
    | some e => exact wpAny_Return_some (ev_then S O C h fun r σ1 v hr p1 C1 r1 => hr σ1 _ p1.pre C1 ⟨v, rfl, r1⟩)
    | none => exact wpAny_Return_none (h σ _ (List.prefix_refl _) C ⟨_, rfl, rfl⟩)
  | expr e =>
    obtain ⟨p, rfl, hp⟩ := hv
    rw [exec_Expr _ _ _ (inter_of O.O) (swaps_of hp)]
    exact wpAny_bind (wpAny_standAt (wpAny_bind (wpAny_mono (ev_then (Q := fun _ s' => Q .next s') S O C h fun r σ1 v hr p1 C1 r1 => hr σ1 _ p1.pre C1 rfl) (fun v s' hv => wpAny_dropValue hv) fun _ _ z => z)))
  | asg t e =>
    obtain ⟨p, rfl, hp⟩ := hv
    exact asgS_ok S O C hp (viewT_ok t) h
  | comp x elt y iter cs =>
    obtain ⟨xp, yp, cp, p, rfl, hn, hl⟩ := hv
    exact comp_ok S O C hn hl h
  | aug t op e =>
    obtain ⟨p, rfl⟩ := hv
    exact augV_ok S O C (viewT_ok t) h
  | ifs t b o =>
    obtain ⟨p, rfl⟩ := hv
    refine wpAny_If (tst_ok S O C (T.all_mono (fun r hr σ1 p1 C1 => ?_) (T.all_bind h)))
    have go : ∀ {ss : List Stmt}, (F.xs X.dp X.sc ss l r.2).All (PostS X rest σ Q) → wpAny X.M X.A (execs ss X.env) Q E (X.st σ1) := fun hx => S.xs O C1 (postS_trans p1.pre hx)
    obtain ⟨c, H1⟩ := r
    cases c with
    | true => exact go (hr.1 rfl)
    | false => exact go (hr.2 rfl)
  | brk =>
    obtain ⟨p, rfl⟩ := hv
    exact wpAny_Break (h σ _ (List.prefix_refl _) C rfl)
  | for_ t e b =>
    obtain ⟨p, rfl, hn⟩ := hv
    exact for_ok S O C hn h
  | whl t b =>
    obtain ⟨p, rfl⟩ := hv
    exact h.elim
  | other => exact h.elim
theorem xsI_ok (S : Sound I F) : SXs I (stepF I F) := by
  intro X rest σ l H ss Q E O C h
  replace h : (xsI I F X.dp X.sc ss l H).All _ := h
  cases ss with
  | nil => exact wpAny_execs_nil (h σ _ (List.prefix_refl _) C rfl)
  | cons st ss =>
    refine wpAny_execs_cons (stV_ok S O C (viewY_ok st) (T.all_mono (fun z hz σ1 fl p1 C1 r1 => ?_) (T.all_bind h)))
    obtain ⟨f, l1, H1⟩ := z
    cases f with
    | next =>
      obtain rfl : fl = _ := r1
      exact S.xs O C1 (postS_trans p1 hz)
    | ret x =>
      obtain ⟨v, rfl, r2⟩ := r1
      exact hz σ1 _ p1 C1 ⟨v, rfl, r2⟩
    | brk =>
      obtain rfl : fl = _ := r1
      exact hz σ1 _ p1 C1 rfl
    | cont =>
      obtain rfl : fl = _ := r1
      exact hz σ1 _ p1 C1 rfl
end
theorem clI_ok {I : Ifc} {F : Fns} (S : Sound I F) : SCl I (stepF I F) := by
  intro X rest σ l H k vs xs Q E O C R h
  replace h : (clI I F X.dp k xs H).All _ := h
  unfold clI at h
  cases hk : Nat.beq k 7 with
  | false => rw [hk] at h; exact clF_ok S O C R h
  | true => rw [hk] at h; exact h.elim
theorem sound (I : Ifc) : ∀ n, Sound I (fns I n)
  | 0 => ⟨fun _ _ h => h.elim, fun _ _ h => h.elim, fun _ _ _ h => h.elim, fun _ _ h => h.elim⟩
  | n + 1 => ⟨evI_ok (sound I n), xsI_ok (sound I n), clI_ok (sound I n), fun O C h => tst_ok (sound I n) O C h⟩
end Mine.Internal
end
section
open PySem PySem.W PySem.Calls PyProof.Rows PySem.Builtin
namespace Mine.Internal
noncomputable def firstDef : Nat := 15
noncomputable def defCount : Nat := 199
noncomputable def clsTab : List (Str × CAttr) := [(Str.ofString "memory", CAttr.field), (Str.ofString "pc", CAttr.field), (Str.ofString "p", CAttr.field), (Str.ofString "a", CAttr.field), (Str.ofString "x", CAttr.field), (Str.ofString "y", CAttr.field), (Str.ofString "sp", CAttr.field), (Str.ofString "addrMask", CAttr.field), (Str.ofString "byteMask", CAttr.field), (Str.ofString "addcycles", CAttr.field), (Str.ofString "excycles", CAttr.field), (Str.ofString "processorCycles", CAttr.field), (Str.ofString "addrHighMask", CAttr.field), (Str.ofString "spBase", CAttr.field), (Str.ofString "start_pc", CAttr.field), (Str.ofString "name", CAttr.field), (Str.ofString "instruct", CAttr.lst 0), (Str.ofString "cycletime", CAttr.lst 1), (Str.ofString "extracycles", CAttr.lst 2), (Str.ofString "RESET", CAttr.int 65532), (Str.ofString "NMI", CAttr.int 65530), (Str.ofString "IRQ", CAttr.int 65534), (Str.ofString "NEGATIVE", CAttr.int 128), (Str.ofString "OVERFLOW", CAttr.int 64), (Str.ofString "UNUSED", CAttr.int 32), (Str.ofString "BREAK", CAttr.int 16), (Str.ofString "DECIMAL", CAttr.int 8), (Str.ofString "INTERRUPT", CAttr.int 4), (Str.ofString "ZERO", CAttr.int 2), (Str.ofString "CARRY", CAttr.int 1), (Str.ofString "BYTE_WIDTH", CAttr.int 8), (Str.ofString "ADDR_WIDTH", CAttr.int 16), (Str.ofString "__init__", CAttr.fn 0), (Str.ofString "step", CAttr.fn 1), (Str.ofString "reset", CAttr.fn 2), (Str.ofString "irq", CAttr.fn 3), (Str.ofString "nmi", CAttr.fn 4), (Str.ofString "ByteAt", CAttr.fn 5), (Str.ofString "WordAt", CAttr.fn 6), (Str.ofString "WrapAt", CAttr.fn 7), (Str.ofString "ProgramCounter", CAttr.fn 8), (Str.ofString "ImmediateByte", CAttr.fn 9), (Str.ofString "ZeroPageAddr", CAttr.fn 10), (Str.ofString "ZeroPageXAddr", CAttr.fn 11), (Str.ofString "ZeroPageYAddr", CAttr.fn 12), (Str.ofString "IndirectXAddr", CAttr.fn 13), (Str.ofString "IndirectYAddr", CAttr.fn 14), (Str.ofString "AbsoluteAddr", CAttr.fn 15), (Str.ofString "AbsoluteXAddr", CAttr.fn 16), (Str.ofString "AbsoluteYAddr", CAttr.fn 17), (Str.ofString "BranchRelAddr", CAttr.fn 18), (Str.ofString "stPush", CAttr.fn 19), (Str.ofString "stPop", CAttr.fn 20), (Str.ofString "stPushWord", CAttr.fn 21), (Str.ofString "stPopWord", CAttr.fn 22), (Str.ofString "FlagsNZ", CAttr.fn 23), (Str.ofString "opORA", CAttr.fn 24), (Str.ofString "opASL", CAttr.fn 25), (Str.ofString "opLSR", CAttr.fn 26), (Str.ofString "opBCL", CAttr.fn 27), (Str.ofString "opBST", CAttr.fn 28), (Str.ofString "opCLR", CAttr.fn 29), (Str.ofString "opSET", CAttr.fn 30), (Str.ofString "opAND", CAttr.fn 31), (Str.ofString "opBIT", CAttr.fn 32), (Str.ofString "opROL", CAttr.fn 33), (Str.ofString "opEOR", CAttr.fn 34), (Str.ofString "opADC", CAttr.fn 35), (Str.ofString "opROR", CAttr.fn 36), (Str.ofString "opSTA", CAttr.fn 37), (Str.ofString "opSTY", CAttr.fn 38), (Str.ofString "opSTX", CAttr.fn 39), (Str.ofString "opCMPR", CAttr.fn 40), (Str.ofString "opSBC", CAttr.fn 41), (Str.ofString "opDECR", CAttr.fn 42), (Str.ofString "opINCR", CAttr.fn 43), (Str.ofString "opLDA", CAttr.fn 44), (Str.ofString "opLDY", CAttr.fn 45), (Str.ofString "opLDX", CAttr.fn 46), (Str.ofString "inst_not_implemented", CAttr.fn 47), (Str.ofString "inst_0x00", CAttr.fn 48), (Str.ofString "inst_0x01", CAttr.fn 49), (Str.ofString "inst_0x05", CAttr.fn 50), (Str.ofString "inst_0x06", CAttr.fn 51), (Str.ofString "inst_0x08", CAttr.fn 52), (Str.ofString "inst_0x09", CAttr.fn 53), (Str.ofString "inst_0x0a", CAttr.fn 54), (Str.ofString "inst_0x0d", CAttr.fn 55), (Str.ofString "inst_0x0e", CAttr.fn 56), (Str.ofString "inst_0x10", CAttr.fn 57), (Str.ofString "inst_0x11", CAttr.fn 58), (Str.ofString "inst_0x15", CAttr.fn 59), (Str.ofString "inst_0x16", CAttr.fn 60), (Str.ofString "inst_0x18", CAttr.fn 61), (Str.ofString "inst_0x19", CAttr.fn 62), (Str.ofString "inst_0x1d", CAttr.fn 63), (Str.ofString "inst_0x1e", CAttr.fn 64), (Str.ofString "inst_0x20", CAttr.fn 65), (Str.ofString "inst_0x21", CAttr.fn 66), (Str.ofString "inst_0x24", CAttr.fn 67), (Str.ofString "inst_0x25", CAttr.fn 68), (Str.ofString "inst_0x26", CAttr.fn 69), (Str.ofString "inst_0x28", CAttr.fn 70), (Str.ofString "inst_0x29", CAttr.fn 71), (Str.ofString "inst_0x2a", CAttr.fn 72), (Str.ofString "inst_0x2c", CAttr.fn 73), (Str.ofString "inst_0x2d", CAttr.fn 74), (Str.ofString "inst_0x2e", CAttr.fn 75), (Str.ofString "inst_0x30", CAttr.fn 76), (Str.ofString "inst_0x31", CAttr.fn 77), (Str.ofString "inst_0x35", CAttr.fn 78), (Str.ofString "inst_0x36", CAttr.fn 79), (Str.ofString "inst_0x38", CAttr.fn 80), (Str.ofString "inst_0x39", CAttr.fn 81), (Str.ofString "inst_0x3d", CAttr.fn 82), (Str.ofString "inst_0x3e", CAttr.fn 83), (Str.ofString "inst_0x40", CAttr.fn 84), (Str.ofString "inst_0x41", CAttr.fn 85), (Str.ofString "inst_0x45", CAttr.fn 86), (Str.ofString "inst_0x46", CAttr.fn 87), (Str.ofString "inst_0x48", CAttr.fn 88), (Str.ofString "inst_0x49", CAttr.fn 89), (Str.ofString "inst_0x4a", CAttr.fn 90), (Str.ofString "inst_0x4c", CAttr.fn 91), (Str.ofString "inst_0x4d", CAttr.fn 92), (Str.ofString "inst_0x4e", CAttr.fn 93), (Str.ofString "inst_0x50", CAttr.fn 94), (Str.ofString "inst_0x51", CAttr.fn 95), (Str.ofString "inst_0x55", CAttr.fn 96), (Str.ofString "inst_0x56", CAttr.fn 97), (Str.ofString "inst_0x58", CAttr.fn 98), (Str.ofString "inst_0x59", CAttr.fn 99), (Str.ofString "inst_0x5d", CAttr.fn 100), (Str.ofString "inst_0x5e", CAttr.fn 101), (Str.ofString "inst_0x60", CAttr.fn 102), (Str.ofString "inst_0x61", CAttr.fn 103), (Str.ofString "inst_0x65", CAttr.fn 104), (Str.ofString "inst_0x66", CAttr.fn 105), (Str.ofString "inst_0x68", CAttr.fn 106), (Str.ofString "inst_0x69", CAttr.fn 107), (Str.ofString "inst_0x6a", CAttr.fn 108), (Str.ofString "inst_0x6c", CAttr.fn 109), (Str.ofString "inst_0x6d", CAttr.fn 110), (Str.ofString "inst_0x6e", CAttr.fn 111), (Str.ofString "inst_0x70", CAttr.fn 112), (Str.ofString "inst_0x71", CAttr.fn 113), (Str.ofString "inst_0x75", CAttr.fn 114), (Str.ofString "inst_0x76", CAttr.fn 115), (Str.ofString "inst_0x78", CAttr.fn 116), (Str.ofString "inst_0x79", CAttr.fn 117), (Str.ofString "inst_0x7d", CAttr.fn 118), (Str.ofString "inst_0x7e", CAttr.fn 119), (Str.ofString "inst_0x81", CAttr.fn 120), (Str.ofString "inst_0x84", CAttr.fn 121), (Str.ofString "inst_0x85", CAttr.fn 122), (Str.ofString "inst_0x86", CAttr.fn 123), (Str.ofString "inst_0x88", CAttr.fn 124), (Str.ofString "inst_0x8a", CAttr.fn 125), (Str.ofString "inst_0x8c", CAttr.fn 126), (Str.ofString "inst_0x8d", CAttr.fn 127), (Str.ofString "inst_0x8e", CAttr.fn 128), (Str.ofString "inst_0x90", CAttr.fn 129), (Str.ofString "inst_0x91", CAttr.fn 130), (Str.ofString "inst_0x94", CAttr.fn 131), (Str.ofString "inst_0x95", CAttr.fn 132), (Str.ofString "inst_0x96", CAttr.fn 133), (Str.ofString "inst_0x98", CAttr.fn 134), (Str.ofString "inst_0x99", CAttr.fn 135), (Str.ofString "inst_0x9a", CAttr.fn 136), (Str.ofString "inst_0x9d", CAttr.fn 137), (Str.ofString "inst_0xa0", CAttr.fn 138), (Str.ofString "inst_0xa1", CAttr.fn 139), (Str.ofString "inst_0xa2", CAttr.fn 140), (Str.ofString "inst_0xa4", CAttr.fn 141), (Str.ofString "inst_0xa5", CAttr.fn 142), (Str.ofString "inst_0xa6", CAttr.fn 143), (Str.ofString "inst_0xa8", CAttr.fn 144), (Str.ofString "inst_0xa9", CAttr.fn 145), (Str.ofString "inst_0xaa", CAttr.fn 146), (Str.ofString "inst_0xac", CAttr.fn 147), (Str.ofString "inst_0xad", CAttr.fn 148), (Str.ofString "inst_0xae", CAttr.fn 149), (Str.ofString "inst_0xb0", CAttr.fn 150), (Str.ofString "inst_0xb1", CAttr.fn 151), (Str.ofString "inst_0xb4", CAttr.fn 152), (Str.ofString "inst_0xb5", CAttr.fn 153), (Str.ofString "inst_0xb6", CAttr.fn 154), (Str.ofString "inst_0xb8", CAttr.fn 155), (Str.ofString "inst_0xb9", CAttr.fn 156), (Str.ofString "inst_0xba", CAttr.fn 157), (Str.ofString "inst_0xbc", CAttr.fn 158), (Str.ofString "inst_0xbd", CAttr.fn 159), (Str.ofString "inst_0xbe", CAttr.fn 160), (Str.ofString "inst_0xc0", CAttr.fn 161), (Str.ofString "inst_0xc1", CAttr.fn 162), (Str.ofString "inst_0xc4", CAttr.fn 163), (Str.ofString "inst_0xc5", CAttr.fn 164), (Str.ofString "inst_0xc6", CAttr.fn 165), (Str.ofString "inst_0xc8", CAttr.fn 166), (Str.ofString "inst_0xc9", CAttr.fn 167), (Str.ofString "inst_0xca", CAttr.fn 168), (Str.ofString "inst_0xcc", CAttr.fn 169), (Str.ofString "inst_0xcd", CAttr.fn 170), (Str.ofString "inst_0xce", CAttr.fn 171), (Str.ofString "inst_0xd0", CAttr.fn 172), (Str.ofString "inst_0xd1", CAttr.fn 173), (Str.ofString "inst_0xd5", CAttr.fn 174), (Str.ofString "inst_0xd6", CAttr.fn 175), (Str.ofString "inst_0xd8", CAttr.fn 176), (Str.ofString "inst_0xd9", CAttr.fn 177), (Str.ofString "inst_0xdd", CAttr.fn 178), (Str.ofString "inst_0xde", CAttr.fn 179), (Str.ofString "inst_0xe0", CAttr.fn 180), (Str.ofString "inst_0xe1", CAttr.fn 181), (Str.ofString "inst_0xe4", CAttr.fn 182), (Str.ofString "inst_0xe5", CAttr.fn 183), (Str.ofString "inst_0xe6", CAttr.fn 184), (Str.ofString "inst_0xe8", CAttr.fn 185), (Str.ofString "inst_0xe9", CAttr.fn 186), (Str.ofString "inst_0xea", CAttr.fn 187), (Str.ofString "inst_0xec", CAttr.fn 188), (Str.ofString "inst_0xed", CAttr.fn 189), (Str.ofString "inst_0xee", CAttr.fn 190), (Str.ofString "inst_0xf0", CAttr.fn 191), (Str.ofString "inst_0xf1", CAttr.fn 192), (Str.ofString "inst_0xf5", CAttr.fn 193), (Str.ofString "inst_0xf6", CAttr.fn 194), (Str.ofString "inst_0xf8", CAttr.fn 195), (Str.ofString "inst_0xf9", CAttr.fn 196), (Str.ofString "inst_0xfd", CAttr.fn 197), (Str.ofString "inst_0xfe", CAttr.fn 198)]
noncomputable def lst0 : List LIt := [LIt.fn 48, LIt.fn 49, LIt.fn 47, LIt.fn 47, LIt.fn 47, LIt.fn 50, LIt.fn 51, LIt.fn 47, LIt.fn 52, LIt.fn 53, LIt.fn 54, LIt.fn 47, LIt.fn 47, LIt.fn 55, LIt.fn 56, LIt.fn 47, LIt.fn 57, LIt.fn 58, LIt.fn 47, LIt.fn 47, LIt.fn 47, LIt.fn 59, LIt.fn 60, LIt.fn 47, LIt.fn 61, LIt.fn 62, LIt.fn 47, LIt.fn 47, LIt.fn 47, LIt.fn 63, LIt.fn 64, LIt.fn 47, LIt.fn 65, LIt.fn 66, LIt.fn 47, LIt.fn 47, LIt.fn 67, LIt.fn 68, LIt.fn 69, LIt.fn 47, LIt.fn 70, LIt.fn 71, LIt.fn 72, LIt.fn 47, LIt.fn 73, LIt.fn 74, LIt.fn 75, LIt.fn 47, LIt.fn 76, LIt.fn 77, LIt.fn 47, LIt.fn 47, LIt.fn 47, LIt.fn 78, LIt.fn 79, LIt.fn 47, LIt.fn 80, LIt.fn 81, LIt.fn 47, LIt.fn 47, LIt.fn 47, LIt.fn 82, LIt.fn 83, LIt.fn 47, LIt.fn 84, LIt.fn 85, LIt.fn 47, LIt.fn 47, LIt.fn 47, LIt.fn 86, LIt.fn 87, LIt.fn 47, LIt.fn 88, LIt.fn 89, LIt.fn 90, LIt.fn 47, LIt.fn 91, LIt.fn 92, LIt.fn 93, LIt.fn 47, LIt.fn 94, LIt.fn 95, LIt.fn 47, LIt.fn 47, LIt.fn 47, LIt.fn 96, LIt.fn 97, LIt.fn 47, LIt.fn 98, LIt.fn 99, LIt.fn 47, LIt.fn 47, LIt.fn 47, LIt.fn 100, LIt.fn 101, LIt.fn 47, LIt.fn 102, LIt.fn 103, LIt.fn 47, LIt.fn 47, LIt.fn 47, LIt.fn 104, LIt.fn 105, LIt.fn 47, LIt.fn 106, LIt.fn 107, LIt.fn 108, LIt.fn 47, LIt.fn 109, LIt.fn 110, LIt.fn 111, LIt.fn 47, LIt.fn 112, LIt.fn 113, LIt.fn 47, LIt.fn 47, LIt.fn 47, LIt.fn 114, LIt.fn 115, LIt.fn 47, LIt.fn 116, LIt.fn 117, LIt.fn 47, LIt.fn 47, LIt.fn 47, LIt.fn 118, LIt.fn 119, LIt.fn 47, LIt.fn 47, LIt.fn 120, LIt.fn 47, LIt.fn 47, LIt.fn 121, LIt.fn 122, LIt.fn 123, LIt.fn 47, LIt.fn 124, LIt.fn 47, LIt.fn 125, LIt.fn 47, LIt.fn 126, LIt.fn 127, LIt.fn 128, LIt.fn 47, LIt.fn 129, LIt.fn 130, LIt.fn 47, LIt.fn 47, LIt.fn 131, LIt.fn 132, LIt.fn 133, LIt.fn 47, LIt.fn 134, LIt.fn 135, LIt.fn 136, LIt.fn 47, LIt.fn 47, LIt.fn 137, LIt.fn 47, LIt.fn 47, LIt.fn 138, LIt.fn 139, LIt.fn 140, LIt.fn 47, LIt.fn 141, LIt.fn 142, LIt.fn 143, LIt.fn 47, LIt.fn 144, LIt.fn 145, LIt.fn 146, LIt.fn 47, LIt.fn 147, LIt.fn 148, LIt.fn 149, LIt.fn 47, LIt.fn 150, LIt.fn 151, LIt.fn 47, LIt.fn 47, LIt.fn 152, LIt.fn 153, LIt.fn 154, LIt.fn 47, LIt.fn 155, LIt.fn 156, LIt.fn 157, LIt.fn 47, LIt.fn 158, LIt.fn 159, LIt.fn 160, LIt.fn 47, LIt.fn 161, LIt.fn 162, LIt.fn 47, LIt.fn 47, LIt.fn 163, LIt.fn 164, LIt.fn 165, LIt.fn 47, LIt.fn 166, LIt.fn 167, LIt.fn 168, LIt.fn 47, LIt.fn 169, LIt.fn 170, LIt.fn 171, LIt.fn 47, LIt.fn 172, LIt.fn 173, LIt.fn 47, LIt.fn 47, LIt.fn 47, LIt.fn 174, LIt.fn 175, LIt.fn 47, LIt.fn 176, LIt.fn 177, LIt.fn 47, LIt.fn 47, LIt.fn 47, LIt.fn 178, LIt.fn 179, LIt.fn 47, LIt.fn 180, LIt.fn 181, LIt.fn 47, LIt.fn 47, LIt.fn 182, LIt.fn 183, LIt.fn 184, LIt.fn 47, LIt.fn 185, LIt.fn 186, LIt.fn 187, LIt.fn 47, LIt.fn 188, LIt.fn 189, LIt.fn 190, LIt.fn 47, LIt.fn 191, LIt.fn 192, LIt.fn 47, LIt.fn 47, LIt.fn 47, LIt.fn 193, LIt.fn 194, LIt.fn 47, LIt.fn 195, LIt.fn 196, LIt.fn 47, LIt.fn 47, LIt.fn 47, LIt.fn 197, LIt.fn 198, LIt.fn 47]
noncomputable def lst1 : List LIt := [LIt.int 7, LIt.int 6, LIt.int 0, LIt.int 0, LIt.int 0, LIt.int 3, LIt.int 5, LIt.int 0, LIt.int 3, LIt.int 2, LIt.int 2, LIt.int 0, LIt.int 0, LIt.int 4, LIt.int 6, LIt.int 0, LIt.int 2, LIt.int 5, LIt.int 0, LIt.int 0, LIt.int 0, LIt.int 4, LIt.int 6, LIt.int 0, LIt.int 2, LIt.int 4, LIt.int 0, LIt.int 0, LIt.int 0, LIt.int 4, LIt.int 7, LIt.int 0, LIt.int 6, LIt.int 6, LIt.int 0, LIt.int 0, LIt.int 3, LIt.int 3, LIt.int 5, LIt.int 0, LIt.int 4, LIt.int 2, LIt.int 2, LIt.int 0, LIt.int 4, LIt.int 4, LIt.int 6, LIt.int 0, LIt.int 2, LIt.int 5, LIt.int 0, LIt.int 0, LIt.int 0, LIt.int 4, LIt.int 6, LIt.int 0, LIt.int 2, LIt.int 4, LIt.int 0, LIt.int 0, LIt.int 0, LIt.int 4, LIt.int 7, LIt.int 0, LIt.int 6, LIt.int 6, LIt.int 0, LIt.int 0, LIt.int 0, LIt.int 3, LIt.int 5, LIt.int 0, LIt.int 3, LIt.int 2, LIt.int 2, LIt.int 0, LIt.int 3, LIt.int 4, LIt.int 6, LIt.int 0, LIt.int 2, LIt.int 5, LIt.int 0, LIt.int 0, LIt.int 0, LIt.int 4, LIt.int 6, LIt.int 0, LIt.int 2, LIt.int 4, LIt.int 0, LIt.int 0, LIt.int 0, LIt.int 4, LIt.int 7, LIt.int 0, LIt.int 6, LIt.int 6, LIt.int 0, LIt.int 0, LIt.int 0, LIt.int 3, LIt.int 5, LIt.int 0, LIt.int 4, LIt.int 2, LIt.int 2, LIt.int 0, LIt.int 5, LIt.int 4, LIt.int 6, LIt.int 0, LIt.int 2, LIt.int 5, LIt.int 0, LIt.int 0, LIt.int 0, LIt.int 4, LIt.int 6, LIt.int 0, LIt.int 2, LIt.int 4, LIt.int 0, LIt.int 0, LIt.int 0, LIt.int 4, LIt.int 7, LIt.int 0, LIt.int 0, LIt.int 6, LIt.int 0, LIt.int 0, LIt.int 3, LIt.int 3, LIt.int 3, LIt.int 0, LIt.int 2, LIt.int 0, LIt.int 2, LIt.int 0, LIt.int 4, LIt.int 4, LIt.int 4, LIt.int 0, LIt.int 2, LIt.int 6, LIt.int 0, LIt.int 0, LIt.int 4, LIt.int 4, LIt.int 4, LIt.int 0, LIt.int 2, LIt.int 5, LIt.int 2, LIt.int 0, LIt.int 0, LIt.int 5, LIt.int 0, LIt.int 0, LIt.int 2, LIt.int 6, LIt.int 2, LIt.int 0, LIt.int 3, LIt.int 3, LIt.int 3, LIt.int 0, LIt.int 2, LIt.int 2, LIt.int 2, LIt.int 0, LIt.int 4, LIt.int 4, LIt.int 4, LIt.int 0, LIt.int 2, LIt.int 5, LIt.int 0, LIt.int 0, LIt.int 4, LIt.int 4, LIt.int 4, LIt.int 0, LIt.int 2, LIt.int 4, LIt.int 2, LIt.int 0, LIt.int 4, LIt.int 4, LIt.int 4, LIt.int 0, LIt.int 2, LIt.int 6, LIt.int 0, LIt.int 0, LIt.int 3, LIt.int 3, LIt.int 5, LIt.int 0, LIt.int 2, LIt.int 2, LIt.int 2, LIt.int 0, LIt.int 4, LIt.int 4, LIt.int 3, LIt.int 0, LIt.int 2, LIt.int 5, LIt.int 0, LIt.int 0, LIt.int 0, LIt.int 4, LIt.int 6, LIt.int 0, LIt.int 2, LIt.int 4, LIt.int 0, LIt.int 0, LIt.int 0, LIt.int 4, LIt.int 7, LIt.int 0, LIt.int 2, LIt.int 6, LIt.int 0, LIt.int 0, LIt.int 3, LIt.int 3, LIt.int 5, LIt.int 0, LIt.int 2, LIt.int 2, LIt.int 2, LIt.int 0, LIt.int 4, LIt.int 4, LIt.int 6, LIt.int 0, LIt.int 2, LIt.int 5, LIt.int 0, LIt.int 0, LIt.int 0, LIt.int 4, LIt.int 6, LIt.int 0, LIt.int 2, LIt.int 4, LIt.int 0, LIt.int 0, LIt.int 0, LIt.int 4, LIt.int 7, LIt.int 0]
noncomputable def lst2 : List LIt := [LIt.int 0, LIt.int 0, LIt.int 0, LIt.int 0, LIt.int 0, LIt.int 0, LIt.int 0, LIt.int 0, LIt.int 0, LIt.int 0, LIt.int 0, LIt.int 0, LIt.int 0, LIt.int 0, LIt.int 0, LIt.int 0, LIt.int 2, LIt.int 1, LIt.int 0, LIt.int 0, LIt.int 0, LIt.int 0, LIt.int 0, LIt.int 0, LIt.int 0, LIt.int 1, LIt.int 0, LIt.int 0, LIt.int 0, LIt.int 1, LIt.int 0, LIt.int 0, LIt.int 0, LIt.int 0, LIt.int 0, LIt.int 0, LIt.int 0, LIt.int 0, LIt.int 0, LIt.int 0, LIt.int 0, LIt.int 0, LIt.int 0, LIt.int 0, LIt.int 0, LIt.int 0, LIt.int 0, LIt.int 0, LIt.int 2, LIt.int 1, LIt.int 0, LIt.int 0, LIt.int 0, LIt.int 0, LIt.int 0, LIt.int 0, LIt.int 0, LIt.int 1, LIt.int 0, LIt.int 0, LIt.int 0, LIt.int 1, LIt.int 0, LIt.int 0, LIt.int 0, LIt.int 0, LIt.int 0, LIt.int 0, LIt.int 0, LIt.int 0, LIt.int 0, LIt.int 0, LIt.int 0, LIt.int 0, LIt.int 0, LIt.int 0, LIt.int 0, LIt.int 0, LIt.int 0, LIt.int 0, LIt.int 2, LIt.int 1, LIt.int 0, LIt.int 0, LIt.int 0, LIt.int 0, LIt.int 0, LIt.int 0, LIt.int 0, LIt.int 1, LIt.int 0, LIt.int 0, LIt.int 0, LIt.int 1, LIt.int 0, LIt.int 0, LIt.int 0, LIt.int 0, LIt.int 0, LIt.int 0, LIt.int 0, LIt.int 0, LIt.int 0, LIt.int 0, LIt.int 0, LIt.int 0, LIt.int 0, LIt.int 0, LIt.int 0, LIt.int 0, LIt.int 0, LIt.int 0, LIt.int 2, LIt.int 1, LIt.int 0, LIt.int 0, LIt.int 0, LIt.int 0, LIt.int 0, LIt.int 0, LIt.int 0, LIt.int 1, LIt.int 0, LIt.int 0, LIt.int 0, LIt.int 1, LIt.int 0, LIt.int 0, LIt.int 0, LIt.int 0, LIt.int 0, LIt.int 0, LIt.int 0, LIt.int 0, LIt.int 0, LIt.int 0, LIt.int 0, LIt.int 0, LIt.int 0, LIt.int 0, LIt.int 0, LIt.int 0, LIt.int 0, LIt.int 0, LIt.int 2, LIt.int 0, LIt.int 0, LIt.int 0, LIt.int 0, LIt.int 0, LIt.int 0, LIt.int 0, LIt.int 0, LIt.int 0, LIt.int 0, LIt.int 0, LIt.int 0, LIt.int 0, LIt.int 0, LIt.int 0, LIt.int 0, LIt.int 0, LIt.int 0, LIt.int 0, LIt.int 0, LIt.int 0, LIt.int 0, LIt.int 0, LIt.int 0, LIt.int 0, LIt.int 0, LIt.int 0, LIt.int 0, LIt.int 0, LIt.int 0, LIt.int 0, LIt.int 2, LIt.int 1, LIt.int 0, LIt.int 0, LIt.int 0, LIt.int 0, LIt.int 0, LIt.int 0, LIt.int 0, LIt.int 1, LIt.int 0, LIt.int 0, LIt.int 1, LIt.int 1, LIt.int 1, LIt.int 0, LIt.int 0, LIt.int 0, LIt.int 0, LIt.int 0, LIt.int 0, LIt.int 0, LIt.int 0, LIt.int 0, LIt.int 0, LIt.int 0, LIt.int 0, LIt.int 0, LIt.int 0, LIt.int 0, LIt.int 0, LIt.int 0, LIt.int 2, LIt.int 1, LIt.int 0, LIt.int 0, LIt.int 0, LIt.int 0, LIt.int 0, LIt.int 0, LIt.int 0, LIt.int 1, LIt.int 0, LIt.int 0, LIt.int 0, LIt.int 1, LIt.int 0, LIt.int 0, LIt.int 0, LIt.int 0, LIt.int 0, LIt.int 0, LIt.int 0, LIt.int 0, LIt.int 0, LIt.int 0, LIt.int 0, LIt.int 0, LIt.int 0, LIt.int 0, LIt.int 0, LIt.int 0, LIt.int 0, LIt.int 0, LIt.int 2, LIt.int 1, LIt.int 0, LIt.int 0, LIt.int 0, LIt.int 0, LIt.int 0, LIt.int 0, LIt.int 0, LIt.int 1, LIt.int 0, LIt.int 0, LIt.int 0, LIt.int 1, LIt.int 0, LIt.int 0]
noncomputable def fnOfStmt (s : Stmt) : Option FnR := (parsOf (dPars s)).map fun ns => ⟨ns, dBody s, dScope s⟩
noncomputable def clsStm (p : Program) (i : Nat) : Stmt := (cBody (nthS p 2)).getD i (.Pass default)
noncomputable def bltTab : List (Str × AV) := [("len", .bi "len"), ("divmod", .bi "divmod"), ("range", .ty "range"), ("enumerate", .ty "enumerate"), ("sum", .bi "sum"), ("max", .bi "max"), ("list", .ty "list")]
noncomputable def globTab : List (Str × AV) := ("MPU", .cls) :: bltTab
noncomputable def topGlob (k : Nat) : List (Stmt × Str) → List (Str × AV)
  | [] => []
  | d :: r => (d.2, .fn k) :: topGlob (k + 1) r
noncomputable def initOf (s : Stmt) : FnR := ⟨(dPars s).args.map (·.arg), dBody s, dScope s⟩
noncomputable def litAV : LIt → AV
  | .int i => .int i
  | .fn k => .fn k
structure Xt where
  gs : List (Str × AV)
  ls : List (Bool × List AV)
noncomputable def ifc (p : Program) (Y : Xt) (ds : List (Stmt × Str)) (xs : List Int) : Ifc where
  glob := fun x => (Y.gs ++ (topGlob defCount ds ++ globTab)).lookup x
  init := initOf (clsStm p firstDef)
  cls := fun x => clsTab.lookup x
  fns := fun k => match Nat.blt k defCount with | true => (match Nat.beq k 7 with | true => none | false => fnOfStmt (clsStm p (firstDef + k))) | false => (match ds[k - defCount]? with | some d => fnOfStmt d.1 | none => none)
  lst := fun k => match k with | 0 => some (false, lst0.map litAV) | 1 => some (false, lst1.map litAV) | 2 => some (false, lst2.map litAV) | 3 => some (false, xs.map .int) | k + 4 => Y.ls[k]?
  iLs := fun k => match k with | 3 => some xs | k + 4 => (Y.ls[k]?).bind fun q => cond q.1 none (isInts q.2) | _ => none
noncomputable def acV : Bool ⊕ Int → AV
  | .inl b => .bool b
  | .inr i => .int i
structure Cpu where
  exc : Int
  ac : Bool ⊕ Int
  cyc : Int
  start : Int
  pc : Int
  sp : Int
  a : Int
  x : Int
  y : Int
  p : Int
  mem : List Int
noncomputable def flds (c : Cpu) (m : Nat) : List (Str × AV) := [("name", .str "6502"), ("byteMask", .int 255), ("addrMask", .int 65535), ("addrHighMask", .int 65280), ("spBase", .int 256), ("excycles", .int c.exc), ("addcycles", acV c.ac), ("processorCycles", .int c.cyc), ("memory", .obj m), ("start_pc", .int c.start), ("pc", .int c.pc), ("sp", .int c.sp), ("a", .int c.a), ("x", .int c.x), ("y", .int c.y), ("p", .int c.p)]
noncomputable def hpC (c : Cpu) : HP := [.inst 1, .ns (flds c 2), .nums c.mem]
end Mine.Internal
end
section
open PySem PySem.W PySem.Calls PyProof.Rows PySem.Builtin
namespace Mine.Internal
noncomputable def inB (a : Int) (xs : List Int) : Bool := decide (0 ≤ a) && decide (a < 2 ^ 63) && decide (a.toNat < xs.length)
noncomputable def bAt (c : Cpu) (a : Int) : T Int := .need (inB a c.mem) (.ret (c.mem.getD a.toNat 0))
noncomputable def bSt (c : Cpu) (a v : Int) : T Cpu := .need (inB a c.mem) (.ret { c with mem := c.mem.set a.toNat v })
noncomputable abbrev bA := Builtin.bitAnd
noncomputable abbrev bO := Builtin.bitOr
noncomputable abbrev bX := Builtin.bitXor
noncomputable abbrev bN := Builtin.bitNot
noncomputable def shl (v n : Int) : T Int := .need (decide (0 ≤ n) && decide (n ≤ 1000000) && decide (v.natAbs < 2 ^ 64)) (.ret (v * 2 ^ n.toNat))
noncomputable def shr (v n : Int) : T Int := .need (decide (0 ≤ n)) (.ret (v.fdiv (2 ^ n.toNat)))
noncomputable def flagsNZ (v : Int) (c : Cpu) : T Cpu := .br (v == 0) (.ret { c with p := bO (bA c.p (bN (bO 2 128))) 2 }) (.ret { c with p := bO (bA c.p (bN (bO 2 128))) (bA v 128) })
noncomputable def adv (n : Int) (c : Cpu) : T Cpu := .ret { c with pc := c.pc + n }
noncomputable abbrev Mode := Cpu → T (Int × Cpu)
noncomputable def mImm : Mode := fun c => .ret (c.pc, c)
noncomputable def mZp : Mode := fun c => (bAt c c.pc).bind fun v => .ret (v, c)
noncomputable def opLDA (m : Mode) (c : Cpu) : T Cpu := (m c).bind fun r => (bAt r.2 r.1).bind fun v => flagsNZ v { r.2 with a := v }
noncomputable def opLDX (m : Mode) (c : Cpu) : T Cpu := (m c).bind fun r => (bAt r.2 r.1).bind fun v => flagsNZ v { r.2 with x := v }
noncomputable def opLDY (m : Mode) (c : Cpu) : T Cpu := (m c).bind fun r => (bAt r.2 r.1).bind fun v => flagsNZ v { r.2 with y := v }
noncomputable def opSTA (m : Mode) (c : Cpu) : T Cpu := (m c).bind fun r => bSt r.2 r.1 r.2.a
noncomputable def opSTX (m : Mode) (c : Cpu) : T Cpu := (m c).bind fun r => bSt r.2 r.1 r.2.x
noncomputable def mAbs : Mode := fun c => (bAt c c.pc).bind fun lo => (bAt c (c.pc + 1)).bind fun hi => (shl hi 8).bind fun h => .ret (lo + h, c)
noncomputable def opORA (m : Mode) (c : Cpu) : T Cpu := (m c).bind fun r => (bAt r.2 r.1).bind fun v => flagsNZ (bO c.a v) { r.2 with a := bO c.a v }
noncomputable def opAND (m : Mode) (c : Cpu) : T Cpu := (m c).bind fun r => (bAt r.2 r.1).bind fun v => flagsNZ (bA c.a v) { r.2 with a := bA c.a v }
noncomputable def opEOR (m : Mode) (c : Cpu) : T Cpu := (m c).bind fun r => (bAt r.2 r.1).bind fun v => flagsNZ (bX c.a v) { r.2 with a := bX c.a v }
noncomputable def orP (q : Int) (c : Cpu) : T Cpu := .ret { c with p := bO c.p q }
noncomputable def andP (q : Int) (c : Cpu) : T Cpu := .ret { c with p := bA c.p q }
noncomputable def when (b : Bool) (f : Cpu → T Cpu) (c : Cpu) : T Cpu := .br b (f c) (.ret c)
noncomputable def zn (t : Int) (c : Cpu) : T Cpu := .br (t != 0) (orP (bA t 128) c) (orP 2 c)
noncomputable def rmw (m : Option Mode) (f : Int → Cpu → T (Int × Cpu)) (c : Cpu) : T Cpu := match m with
  | none => (f c.a c).bind fun r => .ret { r.2 with a := r.1 }
  | some m => (m c).bind fun q => (bAt q.2 q.1).bind fun v => (f v q.2).bind fun r => bSt r.2 q.1 r.1
noncomputable def fASL (t : Int) (c : Cpu) : T (Int × Cpu) := (andP (bN (bO (bO 1 128) 2)) c).bind fun c => (when (bA t 128 != 0) (orP 1) c).bind fun c => (shl t 1).bind fun u => (zn (bA u 255) c).bind fun c => .ret (bA u 255, c)
noncomputable def fLSR (t : Int) (c : Cpu) : T (Int × Cpu) := (andP (bN (bO (bO 1 128) 2)) c).bind fun c => (orP (bA t 1) c).bind fun c => (shr t 1).bind fun u => (.br (u != 0) (.ret c) (orP 2 c) : T Cpu).bind fun c => .ret (u, c)
noncomputable def fROL (t : Int) (c : Cpu) : T (Int × Cpu) := (.br (bA c.p 1 != 0)
    ((.br (bA t 128 != 0) (.ret c) (andP (bN 1) c) : T Cpu).bind fun c => (shl t 1).bind fun u => .ret (bO u 1, c))
    ((when (bA t 128 != 0) (orP 1) c).bind fun c => (shl t 1).bind fun u => .ret (u, c)) : T (Int × Cpu)).bind fun r => (flagsNZ (bA r.1 255) r.2).bind fun c => .ret (bA r.1 255, c)
noncomputable def fROR (t : Int) (c : Cpu) : T (Int × Cpu) := (.br (bA c.p 1 != 0)
    ((.br (bA t 1 != 0) (.ret c) (andP (bN 1) c) : T Cpu).bind fun c => (shr t 1).bind fun u => .ret (bO u 128, c))
    ((when (bA t 1 != 0) (orP 1) c).bind fun c => (shr t 1).bind fun u => .ret (u, c)) : T (Int × Cpu)).bind fun r => (flagsNZ r.1 r.2).bind fun c => .ret (r.1, c)
noncomputable def fINC (d : Int) (t : Int) (c : Cpu) : T (Int × Cpu) := (andP (bN (bO 2 128)) c).bind fun c => (zn (bA (t + d) 255) c).bind fun c => .ret (bA (t + d) 255, c)
noncomputable def fDEC (t : Int) (c : Cpu) : T (Int × Cpu) := (andP (bN (bO 2 128)) c).bind fun c => (zn (bA (t - 1) 255) c).bind fun c => .ret (bA (t - 1) 255, c)
noncomputable def opADC (m : Mode) (c : Cpu) : T Cpu := (m c).bind fun q => (bAt q.2 q.1).bind fun d => let c := q.2; .br (bA c.p 8 != 0)
  (let n0 := bA d 15 + bA c.a 15 + bA c.p 1
   (.br (decide (n0 > 9)) (.ret (6, 1)) (.ret (0, 0)) : T (Int × Int)).bind fun h =>
   (shr d 4).bind fun d4 => (shr c.a 4).bind fun a4 => let n1 := bA d4 15 + bA a4 15 + h.2
   (.br (decide (n1 > 9)) (.ret (6, 1)) (.ret (0, 0)) : T (Int × Int)).bind fun g =>
   (shl (bA n1 15) 4).bind fun hi => let alu := hi + bA n0 15
   (andP (bN (bO (bO (bO 1 64) 128) 2)) c).bind fun c' =>
   (.br (alu == 0) (orP 2 c') (orP (bA alu 128) c') : T Cpu).bind fun c' => (when (g.2 == 1) (orP 1) c').bind fun c' =>
   (when (bA (bA (bN (bX c.a d)) (bX c.a alu)) 128 != 0) (orP 64) c').bind fun c' =>
   (shl (bA (bA n1 15 + g.1) 15) 4).bind fun hi' => .ret { c' with a := hi' + bA (bA n0 15 + h.1) 15 })
  ((.br (bA c.p 1 != 0) (.ret 1) (.ret 0) : T Int).bind fun t => let r := d + c.a + t
   (andP (bN (bO (bO (bO 1 64) 128) 2)) c).bind fun c' => (when (bA (bA (bN (bX c.a d)) (bX c.a r)) 128 != 0) (orP 64) c').bind fun c' =>
   (.br (decide (r > 255)) ((orP 1 c').bind fun c' => .ret (bA r 255, c')) (.ret (r, c')) : T (Int × Cpu)).bind fun s =>
   (.br (s.1 == 0) (orP 2 s.2) (orP (bA s.1 128) s.2) : T Cpu).bind fun c' => .ret { c' with a := s.1 })
noncomputable def opSBC (m : Mode) (c : Cpu) : T Cpu := (m c).bind fun q => (bAt q.2 q.1).bind fun d => let c := q.2; .br (bA c.p 8 != 0)
  (let n0 := bA c.a 15 + bA (bN d) 15 + bA c.p 1
   (.br (decide (n0 ≤ 15)) (.ret (0, 10)) (.ret (1, 0)) : T (Int × Int)).bind fun h =>
   (shr c.a 4).bind fun a4 => (shr (bN d) 4).bind fun d4 => let n1 := bA a4 15 + bA d4 15 + h.1
   (.br (decide (n1 ≤ 15)) ((shl 10 4).bind fun u => .ret u) (.ret 0) : T Int).bind fun g =>
   let al := c.a + bA (bN d) 255 + bA c.p 1
   (.br (decide (al > 255)) (.ret 1) (.ret 0) : T Int).bind fun dc => let alu := bA al 255
   (shr (alu + g) 4).bind fun hi =>
   (andP (bN (bO (bO (bO 1 2) 128) 64)) c).bind fun c' =>
   (.br (alu == 0) (orP 2 c') (orP (bA alu 128) c') : T Cpu).bind fun c' => (when (dc == 1) (orP 1) c').bind fun c' =>
   (when (bA (bA (bX c.a d) (bX c.a alu)) 128 != 0) (orP 64) c').bind fun c' =>
   (shl (bA hi 15) 4).bind fun hi' => .ret { c' with a := hi' + bA (alu + h.2) 15 })
  (let r := c.a + bA (bN d) 255 + bA c.p 1
   (andP (bN (bO (bO (bO 1 2) 64) 128)) c).bind fun c' => (when (bA (bA (bX c.a d) (bX c.a r)) 128 != 0) (orP 64) c').bind fun c' =>
   (when (bA r 255 == 0) (orP 2) c').bind fun c' => (when (decide (r > 255)) (orP 1) c').bind fun c' => (orP (bA (bA r 255) 128) c').bind fun c' => .ret { c' with a := bA r 255 })
noncomputable def opCMP (reg : Cpu → Int) (m : Mode) (c : Cpu) : T Cpu := let v := reg c; (m c).bind fun q => (bAt q.2 q.1).bind fun t => (andP (bN (bO (bO 1 2) 128)) q.2).bind fun c =>
  (.br (v == t) (orP (bO 1 2) c) (.br (decide (v > t)) (orP 1 c) (.ret c)) : T Cpu).bind fun c => orP (bA (v - t) 128) c
noncomputable def branch (c : Cpu) : T Cpu := (bAt c c.pc).bind fun o => let pc := c.pc + 1
  (.br (bA o 128 != 0) (.ret (pc - bX o 255 - 1)) (.ret (pc + o)) : T Int).bind fun ad =>
  (.br (bA pc 65280 != bA ad 65280) (.ret (c.exc + 1 + 1)) (.ret (c.exc + 1)) : T Int).bind fun e => .ret { c with pc := bA ad 65535, exc := e }
noncomputable def opBCL (x : Int) (c : Cpu) : T Cpu := .br (bA c.p x != 0) (adv 1 c) (branch c)
noncomputable def opBST (x : Int) (c : Cpu) : T Cpu := .br (bA c.p x != 0) (branch c) (adv 1 c)
noncomputable def push (z : Int) (c : Cpu) : T Cpu := (bSt c (c.sp + 256) (bA z 255)).bind fun c => .ret { c with sp := bA (c.sp - 1) 255 }
noncomputable def pop (c : Cpu) : T (Int × Cpu) := (bAt { c with sp := bA (c.sp + 1) 255 } (bA (c.sp + 1) 255 + 256)).bind fun v => .ret (v, { c with sp := bA (c.sp + 1) 255 })
noncomputable def opPHA (c : Cpu) : T Cpu := push c.a c
noncomputable def opPLA (c : Cpu) : T Cpu := (pop c).bind fun r => flagsNZ r.1 { r.2 with a := r.1 }
noncomputable def opTAX (c : Cpu) : T Cpu := flagsNZ c.a { c with x := c.a }
noncomputable def opTYA (c : Cpu) : T Cpu := flagsNZ c.y { c with a := c.y }
noncomputable def opINX (c : Cpu) : T Cpu := flagsNZ (bA (c.x + 1) 255) { c with x := bA (c.x + 1) 255 }
noncomputable def opINY (c : Cpu) : T Cpu := flagsNZ (bA (c.y + 1) 255) { c with y := bA (c.y + 1) 255 }
noncomputable def opDEX (c : Cpu) : T Cpu := flagsNZ (bA (c.x - 1) 255) { c with x := bA (c.x - 1) 255 }
noncomputable def opDEY (c : Cpu) : T Cpu := flagsNZ (bA (c.y - 1) 255) { c with y := bA (c.y - 1) 255 }
noncomputable def ex (cy xc : Int) (f : Cpu → T Cpu) (c : Cpu) : T Cpu :=
  (f { c with pc := bA (c.pc + 1) 65535, exc := 0, ac := .inr xc }).bind fun c => .ret { c with pc := bA c.pc 65535, cyc := c.cyc + (cy + c.exc) }
section
variable (p : Program) (Y : Xt) (ds : List (Stmt × Str)) (xs : List Int)
noncomputable def stepS : Stmt := clsStm p (firstDef + 1)
noncomputable def stepT (n : Nat) (op : Int) (c : Cpu) : T (AV × HP) := ((fns (ifc p Y ds xs) (n + 40)).xs 59 (dScope (stepS p)) ((dBody (stepS p)).drop 1) [("self", .obj 0), ("instructCode", .int op)] (hpC c)).bind fun r => .opt (retV r.1) fun v => .ret (sweep 3 v r.2.2)
noncomputable abbrev Spec (op : Int) (e : Cpu → T Cpu) : Prop := ∀ (n : Nat) (c : Cpu), T.run (stepT p Y ds xs n op c) = T.run ((e c).bind fun c' => .ret (.obj 0, hpC c'))
end
end Mine.Internal
end
section
open PySem PySem.W PySem.Calls PyProof.Rows PySem.Builtin
namespace Mine.Internal
noncomputable def e05 : Cpu → T Cpu := ex 3 0 fun c => (opORA mZp c).bind (adv 1)
noncomputable def e06 : Cpu → T Cpu := ex 5 0 fun c => (rmw (some mZp) fASL c).bind (adv 1)
noncomputable def e09 : Cpu → T Cpu := ex 2 0 fun c => (opORA mImm c).bind (adv 1)
noncomputable def e0D : Cpu → T Cpu := ex 4 0 fun c => (opORA mAbs c).bind (adv 2)
noncomputable def e0E : Cpu → T Cpu := ex 6 0 fun c => (rmw (some mAbs) fASL c).bind (adv 2)
noncomputable def e10 : Cpu → T Cpu := ex 2 2 fun c => opBCL 128 c
noncomputable def e18 : Cpu → T Cpu := ex 2 0 fun c => andP (bN 1) c
noncomputable def e25 : Cpu → T Cpu := ex 3 0 fun c => (opAND mZp c).bind (adv 1)
noncomputable def e26 : Cpu → T Cpu := ex 5 0 fun c => (rmw (some mZp) fROL c).bind (adv 1)
noncomputable def e29 : Cpu → T Cpu := ex 2 0 fun c => (opAND mImm c).bind (adv 1)
noncomputable def e2A : Cpu → T Cpu := ex 2 0 fun c => rmw none fROL c
noncomputable def e2D : Cpu → T Cpu := ex 4 0 fun c => (opAND mAbs c).bind (adv 2)
noncomputable def e2E : Cpu → T Cpu := ex 6 0 fun c => (rmw (some mAbs) fROL c).bind (adv 2)
noncomputable def e30 : Cpu → T Cpu := ex 2 2 fun c => opBST 128 c
noncomputable def e38 : Cpu → T Cpu := ex 2 0 fun c => orP 1 c
noncomputable def e45 : Cpu → T Cpu := ex 3 0 fun c => (opEOR mZp c).bind (adv 1)
noncomputable def e46 : Cpu → T Cpu := ex 5 0 fun c => (rmw (some mZp) fLSR c).bind (adv 1)
noncomputable def e48 : Cpu → T Cpu := ex 3 0 fun c => opPHA c
noncomputable def e49 : Cpu → T Cpu := ex 2 0 fun c => (opEOR mImm c).bind (adv 1)
noncomputable def e4D : Cpu → T Cpu := ex 4 0 fun c => (opEOR mAbs c).bind (adv 2)
noncomputable def e4E : Cpu → T Cpu := ex 6 0 fun c => (rmw (some mAbs) fLSR c).bind (adv 2)
noncomputable def e65 : Cpu → T Cpu := ex 3 0 fun c => (opADC mZp c).bind (adv 1)
noncomputable def e66 : Cpu → T Cpu := ex 5 0 fun c => (rmw (some mZp) fROR c).bind (adv 1)
noncomputable def e68 : Cpu → T Cpu := ex 4 0 fun c => opPLA c
noncomputable def e69 : Cpu → T Cpu := ex 2 0 fun c => (opADC mImm c).bind (adv 1)
noncomputable def e6A : Cpu → T Cpu := ex 2 0 fun c => rmw none fROR c
noncomputable def e6D : Cpu → T Cpu := ex 4 0 fun c => (opADC mAbs c).bind (adv 2)
noncomputable def e6E : Cpu → T Cpu := ex 6 0 fun c => (rmw (some mAbs) fROR c).bind (adv 2)
noncomputable def e70 : Cpu → T Cpu := ex 2 2 fun c => opBST 64 c
noncomputable def e85 : Cpu → T Cpu := ex 3 0 fun c => (opSTA mZp c).bind (adv 1)
noncomputable def e86 : Cpu → T Cpu := ex 3 0 fun c => (opSTX mZp c).bind (adv 1)
noncomputable def e88 : Cpu → T Cpu := ex 2 0 fun c => opDEY c
noncomputable def e8D : Cpu → T Cpu := ex 4 0 fun c => (opSTA mAbs c).bind (adv 2)
noncomputable def e8E : Cpu → T Cpu := ex 4 0 fun c => (opSTX mAbs c).bind (adv 2)
noncomputable def e90 : Cpu → T Cpu := ex 2 2 fun c => opBCL 1 c
noncomputable def e98 : Cpu → T Cpu := ex 2 0 fun c => opTYA c
noncomputable def eA0 : Cpu → T Cpu := ex 2 0 fun c => (opLDY mImm c).bind (adv 1)
noncomputable def eA2 : Cpu → T Cpu := ex 2 0 fun c => (opLDX mImm c).bind (adv 1)
noncomputable def eA4 : Cpu → T Cpu := ex 3 0 fun c => (opLDY mZp c).bind (adv 1)
noncomputable def eA5 : Cpu → T Cpu := ex 3 0 fun c => (opLDA mZp c).bind (adv 1)
noncomputable def eA9 : Cpu → T Cpu := ex 2 0 fun c => (opLDA mImm c).bind (adv 1)
noncomputable def eAA : Cpu → T Cpu := ex 2 0 fun c => opTAX c
noncomputable def eAC : Cpu → T Cpu := ex 4 0 fun c => (opLDY mAbs c).bind (adv 2)
noncomputable def eAD : Cpu → T Cpu := ex 4 0 fun c => (opLDA mAbs c).bind (adv 2)
noncomputable def eB0 : Cpu → T Cpu := ex 2 2 fun c => opBST 1 c
noncomputable def eB8 : Cpu → T Cpu := ex 2 0 fun c => andP (bN 64) c
noncomputable def eC6 : Cpu → T Cpu := ex 5 0 fun c => (rmw (some mZp) fDEC c).bind (adv 1)
noncomputable def eC8 : Cpu → T Cpu := ex 2 0 fun c => opINY c
noncomputable def eC9 : Cpu → T Cpu := ex 2 0 fun c => (opCMP (·.a) mImm c).bind (adv 1)
noncomputable def eCA : Cpu → T Cpu := ex 2 0 fun c => opDEX c
noncomputable def eCE : Cpu → T Cpu := ex 3 0 fun c => (rmw (some mAbs) fDEC c).bind (adv 2)
noncomputable def eE5 : Cpu → T Cpu := ex 3 0 fun c => (opSBC mZp c).bind (adv 1)
noncomputable def eE6 : Cpu → T Cpu := ex 5 0 fun c => (rmw (some mZp) (fINC 1) c).bind (adv 1)
noncomputable def eE8 : Cpu → T Cpu := ex 2 0 fun c => opINX c
noncomputable def eE9 : Cpu → T Cpu := ex 2 0 fun c => (opSBC mImm c).bind (adv 1)
noncomputable def eED : Cpu → T Cpu := ex 4 0 fun c => (opSBC mAbs c).bind (adv 2)
noncomputable def eEE : Cpu → T Cpu := ex 6 0 fun c => (rmw (some mAbs) (fINC 1) c).bind (adv 2)
noncomputable def stepW (tab : List (Int × (Cpu → T Cpu))) (c : Cpu) : Option Cpu := cond (inB c.pc c.mem) ((tab.lookup (c.mem.getD c.pc.toNat 0)).bind fun e => T.run (e c)) none
theorem lookup_in {α β : Type} [BEq α] [LawfulBEq α] {x : α} {b : β} : ∀ {t : List (α × β)}, t.lookup x = some b → (x, b) ∈ t
  | [], e => by cases e
  | p :: t, e => by
    rw [List.lookup_cons] at e
    cases hx : (x == p.1) with
    | true => rw [hx] at e; cases e; have := eq_of_beq hx; subst this; exact List.mem_cons_self
    | false => rw [hx] at e; exact List.mem_cons_of_mem _ (lookup_in e)
theorem T.run_bind {α β : Type} {f : α → T β} : ∀ {t : T α}, T.run (t.bind f) = (T.run t).bind fun a => T.run (f a)
  | .ret _ => rfl
  | .fail => rfl
  | .br true t _ => T.run_bind (t := t)
  | .br false _ e => T.run_bind (t := e)
theorem glue {γ : Type} {b : Bool} {tab : List (Int × (Cpu → T Cpu))} {op : Int} {c c' : Cpu} {sT : Int → T γ} {g : Cpu → γ} (h : cond b ((tab.lookup op).bind fun e => T.run (e c)) none = some c')
    (ok : ∀ q ∈ tab, T.run (sT q.1) = T.run ((q.2 c).bind fun c' => .ret (g c'))) : cond b (T.run (sT op)) none = some (g c') := by
  cases b with
  | false => cases h
  | true =>
    obtain ⟨e, h1, h2⟩ := Option.bind_eq_some_iff.mp (show ((tab.lookup op).bind fun e => T.run (e c)) = some c' from h)
    show T.run (sT op) = _
    rw [ok _ (lookup_in h1), T.run_bind]
    show (T.run (e c)).bind _ = _
    rw [h2]; rfl
end Mine.Internal
end
section
open PySem PySem.W PySem.Calls PyProof.Rows PySem.Builtin
namespace Mine.Internal
structure Fl where
  n : Bool
  v : Bool
  d : Bool
  i : Bool
  z : Bool
  c : Bool
noncomputable def b2 (b : Bool) (k : Int) : Int := cond b k 0
noncomputable def Fl.p (f : Fl) : Int := 48 + b2 f.c 1 + b2 f.z 2 + b2 f.i 4 + b2 f.d 8 + b2 f.v 64 + b2 f.n 128
structure Nc where
  exc : Int
  ac : Bool ⊕ Int
  cyc : Int
  start : Int
  pc : Nat
  sp : Nat
  a : Nat
  x : Nat
  y : Nat
  f : Fl
  mem : List Int
noncomputable def Nc.c (s : Nc) : Cpu := ⟨s.exc, s.ac, s.cyc, s.start, s.pc, s.sp, s.a, s.x, s.y, s.f.p, s.mem⟩
noncomputable abbrev At (m : List Int) (i v : Nat) : Prop := m[i]? = some ((v : Nat) : Int)
theorem rb {α β : Type} {t : T α} {k : α → T β} {x : α} {y : Option β} (h : T.run t = some x) (h2 : T.run (k x) = y) : T.run (t.bind k) = y := by rw [T.run_bind, h]; exact h2
theorem rt {α : Type} {b : Bool} {t e : T α} {y : Option α} (h : b = true) (h2 : T.run t = y) : T.run (.br b t e) = y := by subst h; exact h2
theorem rf {α : Type} {b : Bool} {t e : T α} {y : Option α} (h : b = false) (h2 : T.run e = y) : T.run (.br b t e) = y := by subst h; exact h2
theorem rc {α : Type} {b : Bool} {x y : α} : T.run (.br b (.ret x) (.ret y)) = some (cond b x y) := by cases b <;> rfl
theorem rn {α : Type} {b : Bool} {t : T α} {y : Option α} (h : b = true) (h2 : T.run t = y) : T.run (.need b t) = y := by subst h; exact h2
theorem fl_or : ∀ n v d i z c : Bool, bO (Fl.p ⟨n, v, d, i, z, c⟩) 1 = Fl.p ⟨n, v, d, i, z, true⟩ ∧ bO (Fl.p ⟨n, v, d, i, z, c⟩) 2 = Fl.p ⟨n, v, d, i, true, c⟩ ∧ bO (Fl.p ⟨n, v, d, i, z, c⟩) 8 = Fl.p ⟨n, v, true, i, z, c⟩ ∧
    bO (Fl.p ⟨n, v, d, i, z, c⟩) 64 = Fl.p ⟨n, true, d, i, z, c⟩ ∧ bO (Fl.p ⟨n, v, d, i, z, c⟩) 128 = Fl.p ⟨true, v, d, i, z, c⟩ ∧ bO (Fl.p ⟨n, v, d, i, z, c⟩) 0 = Fl.p ⟨n, v, d, i, z, c⟩ ∧ bO (Fl.p ⟨n, v, d, i, z, c⟩) (bO 1 2) = Fl.p ⟨n, v, d, i, true, true⟩ := by decide +kernel
theorem fl_and : ∀ n v d i z c : Bool, bA (Fl.p ⟨n, v, d, i, z, c⟩) (bN (bO 2 128)) = Fl.p ⟨false, v, d, i, false, c⟩ ∧ bA (Fl.p ⟨n, v, d, i, z, c⟩) (bN (bO (bO 1 128) 2)) = Fl.p ⟨false, v, d, i, false, false⟩ ∧ bA (Fl.p ⟨n, v, d, i, z, c⟩) (bN (bO (bO 1 2) 128)) = Fl.p ⟨false, v, d, i, false, false⟩ ∧
    bA (Fl.p ⟨n, v, d, i, z, c⟩) (bN (bO (bO (bO 1 64) 128) 2)) = Fl.p ⟨false, false, d, i, false, false⟩ ∧ bA (Fl.p ⟨n, v, d, i, z, c⟩) (bN (bO (bO (bO 1 2) 128) 64)) = Fl.p ⟨false, false, d, i, false, false⟩ ∧ bA (Fl.p ⟨n, v, d, i, z, c⟩) (bN (bO (bO (bO 1 2) 64) 128)) = Fl.p ⟨false, false, d, i, false, false⟩ ∧
    bA (Fl.p ⟨n, v, d, i, z, c⟩) (bN 1) = Fl.p ⟨n, v, d, i, z, false⟩ ∧ bA (Fl.p ⟨n, v, d, i, z, c⟩) (bN 64) = Fl.p ⟨n, false, d, i, z, c⟩ := by decide +kernel
theorem fl_is : ∀ n v d i z c : Bool, bA (Fl.p ⟨n, v, d, i, z, c⟩) 1 = b2 c 1 ∧ bA (Fl.p ⟨n, v, d, i, z, c⟩) 2 = b2 z 2 ∧ bA (Fl.p ⟨n, v, d, i, z, c⟩) 8 = b2 d 8 ∧ bA (Fl.p ⟨n, v, d, i, z, c⟩) 64 = b2 v 64 ∧ bA (Fl.p ⟨n, v, d, i, z, c⟩) 128 = b2 n 128 := by decide +kernel
section
variable {s : Nc} {b : Bool}
theorem b2_ne {k : Int} (hk : k ≠ 0) : (b2 b k != 0) = b := by
  cases b
  · rfl
  · exact bne_iff_ne.mpr hk
theorem is_c : (bA s.c.p 1 != 0) = s.f.c := by rw [show s.c.p = s.f.p from rfl, (fl_is s.f.n s.f.v s.f.d s.f.i s.f.z s.f.c).1]; exact b2_ne (by decide)
theorem is_d : (bA s.c.p 8 != 0) = s.f.d := by rw [show s.c.p = s.f.p from rfl, (fl_is s.f.n s.f.v s.f.d s.f.i s.f.z s.f.c).2.2.1]; exact b2_ne (by decide)
theorem is_v : (bA s.c.p 64 != 0) = s.f.v := by rw [show s.c.p = s.f.p from rfl, (fl_is s.f.n s.f.v s.f.d s.f.i s.f.z s.f.c).2.2.2.1]; exact b2_ne (by decide)
theorem is_n : (bA s.c.p 128 != 0) = s.f.n := by rw [show s.c.p = s.f.p from rfl, (fl_is s.f.n s.f.v s.f.d s.f.i s.f.z s.f.c).2.2.2.2]; exact b2_ne (by decide)
theorem is_c1 : bA s.c.p 1 = ((s.f.c.toNat : Nat) : Int) := by
  rw [show s.c.p = s.f.p from rfl, (fl_is s.f.n s.f.v s.f.d s.f.i s.f.z s.f.c).1]; cases s.f.c <;> rfl
noncomputable abbrev Nc.fl (s : Nc) (f : Fl) : Nc := { s with f := f }
theorem setp {s : Nc} {f : Fl} {p : Int} (h : p = f.p) : T.run (.ret { s.c with p := p }) = some (s.fl f).c := by subst h; rfl
theorem or_c : T.run (orP 1 s.c) = some (s.fl { s.f with c := true }).c := setp (fl_or ..).1
theorem or_z : T.run (orP 2 s.c) = some (s.fl { s.f with z := true }).c := setp (fl_or ..).2.1
theorem or_v : T.run (orP 64 s.c) = some (s.fl { s.f with v := true }).c := setp (fl_or ..).2.2.2.1
theorem or_cz : T.run (orP (bO 1 2) s.c) = some (s.fl { s.f with z := true, c := true }).c := setp (fl_or ..).2.2.2.2.2.2
theorem or_n : T.run (orP (b2 b 128) s.c) = some (s.fl { s.f with n := s.f.n || b }).c := by
  cases b
  · refine setp ?_
    rw [Bool.or_false]; exact (fl_or ..).2.2.2.2.2.1
  · refine setp ?_
    rw [Bool.or_true]; exact (fl_or ..).2.2.2.2.1
theorem an_nz : T.run (andP (bN (bO 2 128)) s.c) = some (s.fl { s.f with n := false, z := false }).c := setp (fl_and ..).1
theorem an_sh : T.run (andP (bN (bO (bO 1 128) 2)) s.c) = some (s.fl { s.f with n := false, z := false, c := false }).c := setp (fl_and ..).2.1
theorem an_cmp : T.run (andP (bN (bO (bO 1 2) 128)) s.c) = some (s.fl { s.f with n := false, z := false, c := false }).c := setp (fl_and ..).2.2.1
theorem an_adc : T.run (andP (bN (bO (bO (bO 1 64) 128) 2)) s.c) = some (s.fl { s.f with n := false, v := false, z := false, c := false }).c := setp (fl_and ..).2.2.2.1
theorem an_sbb : T.run (andP (bN (bO (bO (bO 1 2) 64) 128)) s.c) = some (s.fl { s.f with n := false, v := false, z := false, c := false }).c := setp (fl_and ..).2.2.2.2.2.1
theorem an_c : T.run (andP (bN 1) s.c) = some (s.fl { s.f with c := false }).c := setp (fl_and ..).2.2.2.2.2.2.1
theorem an_v : T.run (andP (bN 64) s.c) = some (s.fl { s.f with v := false }).c := setp (fl_and ..).2.2.2.2.2.2.2
theorem wh_c : T.run (when b (orP 1) s.c) = some (s.fl { s.f with c := s.f.c || b }).c := by
  cases b
  · rw [Bool.or_false]; rfl
  · rw [Bool.or_true]; exact or_c
theorem wh_v : T.run (when b (orP 64) s.c) = some (s.fl { s.f with v := s.f.v || b }).c := by
  cases b
  · rw [Bool.or_false]; rfl
  · rw [Bool.or_true]; exact or_v
theorem wh_z : T.run (when b (orP 2) s.c) = some (s.fl { s.f with z := s.f.z || b }).c := by
  cases b
  · rw [Bool.or_false]; rfl
  · rw [Bool.or_true]; exact or_z
theorem bit7 {v : Nat} (h : v < 256) : bA (v : Int) 128 = b2 (decide (128 ≤ v)) 128 := by
  have := kbt_bit (v : Int) 7
  rw [show ((2 : Int) ^ 7) = 128 from rfl] at this
  show bitAnd (v : Int) 128 = _
  rw [this]
  by_cases q : 128 ≤ v
  · rw [decide_eq_true q]; show _ = (128 : Int); omega
  · rw [decide_eq_false q]; show _ = (0 : Int); omega
theorem m255 {v : Nat} : bA (v : Int) 255 = ((v % 256 : Nat) : Int) := by show bitAnd (v : Int) 255 = _; rw [bitAnd_m8]; lia
theorem m65535 {v : Nat} : bA (v : Int) 65535 = ((v % 65536 : Nat) : Int) := by show bitAnd (v : Int) 65535 = _; rw [bitAnd_m16]; lia
noncomputable def Fl.nz (f : Fl) (v : Nat) : Fl := { f with n := decide (128 ≤ v), z := decide (v = 0) }
theorem int_eq0 {v : Nat} : ((v : Int) == 0) = decide (v = 0) := by
  rw [Bool.eq_iff_iff, beq_iff_eq, decide_eq_true_iff]; lia
theorem int_ne0 {v : Nat} : ((v : Int) != 0) = !decide (v = 0) := by
  rw [← int_eq0]; rfl
theorem flagsNZ_ok {v : Nat} (hv : v < 256) : T.run (flagsNZ (v : Int) s.c) = some (s.fl (s.f.nz v)).c := by
  unfold flagsNZ
  by_cases h0 : v = 0
  · subst h0
    refine rt rfl (setp (s := s) ?_)
    show bO (bA s.f.p (bN (bO 2 128))) 2 = _
    rw [show bA s.f.p (bN (bO 2 128)) = _ from (fl_and ..).1, (fl_or ..).2.1]; rfl
  · refine rf (by rw [int_eq0]; exact decide_eq_false h0) (setp (s := s) ?_)
    show bO (bA s.f.p (bN (bO 2 128))) (bA (v : Int) 128) = _
    rw [show bA s.f.p (bN (bO 2 128)) = _ from (fl_and ..).1, bit7 hv]
    unfold Fl.nz
    rw [decide_eq_false h0]
    by_cases q : 128 ≤ v
    · rw [decide_eq_true q]; exact (fl_or ..).2.2.2.2.1
    · rw [decide_eq_false q]; exact (fl_or ..).2.2.2.2.2.1
theorem zn_ok {v : Nat} (hv : v < 256) (hn : s.f.n = false) (hz : s.f.z = false) : T.run (zn (v : Int) s.c) = some (s.fl (s.f.nz v)).c := by
  unfold zn
  by_cases h0 : v = 0
  · subst h0
    refine rf rfl (or_z.trans ?_)
    unfold Fl.nz
    obtain ⟨_, _, _, _, _, _, _, _, _, ⟨n, v, d, i, z, c⟩, _⟩ := s
    cases hn; rfl
  · refine rt (by rw [int_ne0, decide_eq_false h0]; rfl) ?_
    rw [bit7 hv]
    refine or_n.trans ?_
    unfold Fl.nz
    obtain ⟨_, _, _, _, _, _, _, _, _, ⟨n, v, d, i, z, c⟩, _⟩ := s
    cases hn; cases hz
    rw [decide_eq_false h0]; simp
end
theorem inB_ok {m : List Int} {a v : Nat} (h : At m a v) (ha : a < 2 ^ 63) : inB (a : Int) m = true := by
  have hl : a < m.length := (List.getElem?_eq_some_iff.mp h).1
  unfold inB
  simp only [Bool.and_eq_true, decide_eq_true_eq]
  lia
theorem getD_ok {m : List Int} {a v : Nat} (h : At m a v) : m.getD (a : Int).toNat 0 = (v : Int) := by
  rw [Int.toNat_natCast, List.getD_eq_getElem?_getD, h]; rfl
theorem bAt_ok {c : Cpu} {a v : Nat} (h : At c.mem a v) (ha : a < 2 ^ 63) : T.run (bAt c (a : Int)) = some (v : Int) := by
  unfold bAt
  refine rn (inB_ok h ha) ?_
  rw [getD_ok h]; rfl
theorem bSt_ok {s : Nc} {a : Nat} {v : Int} (h : a < s.mem.length) (ha : a < 2 ^ 63) : T.run (bSt s.c (a : Int) v) = some ({ s with mem := s.mem.set a v }).c := by
  unfold bSt
  refine rn ?_ ?_
  · unfold inB
    simp only [Bool.and_eq_true, decide_eq_true_eq]
    exact ⟨⟨by lia, by lia⟩, by show (a : Int).toNat < s.mem.length; lia⟩
  · show some ({ s.c with mem := s.mem.set (a : Int).toNat v } : Cpu) = _
    rw [Int.toNat_natCast]; rfl
theorem shl_ok {v n : Nat} (hv : v < 2 ^ 64) (hn : n ≤ 1000000) : T.run (shl (v : Int) (n : Int)) = some ((v * 2 ^ n : Nat) : Int) := by
  unfold shl
  refine rn ?_ ?_
  · simp only [Bool.and_eq_true, decide_eq_true_eq]; lia
  · show some ((v : Int) * 2 ^ (n : Int).toNat) = _
    rw [Int.toNat_natCast]; push_cast; rfl
theorem shr_ok {v n : Nat} : T.run (shr (v : Int) (n : Int)) = some ((v / 2 ^ n : Nat) : Int) := by
  unfold shr
  refine rn (by simp) ?_
  show some ((v : Int).fdiv (2 ^ (n : Int).toNat)) = _
  rw [Int.toNat_natCast, Int.fdiv_eq_ediv_of_nonneg _ (by exact Int.le_of_lt (Int.pow_pos (by decide)))]; push_cast; rfl
end Mine.Internal
end
section
open PySem PySem.W PySem.Calls PyProof.Rows PySem.Builtin
namespace Mine.Internal
section
variable {s s' : Nc} {m : Mode} {ad v z : Nat} {b : Bool}
theorem imm_ok : T.run (mImm s.c) = some ((s.pc : Int), s.c) := rfl
theorem zp_ok (h : At s.mem s.pc z) (hp : s.pc < 2 ^ 63) : T.run (mZp s.c) = some ((z : Int), s.c) := rb (bAt_ok h hp) rfl
theorem abs_ok {lo hi : Nat} (h : At s.mem s.pc lo) (h2 : At s.mem (s.pc + 1) hi) (hp : s.pc + 1 < 2 ^ 63) (hh : hi < 256) : T.run (mAbs s.c) = some (((lo + hi * 256 : Nat) : Int), s.c) := by
  refine rb (bAt_ok h (by lia)) (rb (bAt_ok (a := s.pc + 1) h2 hp) (rb (shl_ok (n := 8) (by lia) (by decide)) ?_))
  show some (((lo : Int) + ((hi * 2 ^ 8 : Nat) : Int)), s.c) = _
  congr 2
theorem adv_ok {n : Nat} : T.run (adv (n : Int) s.c) = some ({ s with pc := s.pc + n }).c := rfl
theorem lda_ok (hm : T.run (m s.c) = some ((ad : Int), s'.c)) (h : At s'.mem ad v) (ha : ad < 2 ^ 63) (hv : v < 256) : T.run (opLDA m s.c) = some ({ s' with a := v, f := s'.f.nz v }).c :=
  rb hm (rb (bAt_ok h ha) (flagsNZ_ok (s := { s' with a := v }) hv))
theorem ldx_ok (hm : T.run (m s.c) = some ((ad : Int), s'.c)) (h : At s'.mem ad v) (ha : ad < 2 ^ 63) (hv : v < 256) : T.run (opLDX m s.c) = some ({ s' with x := v, f := s'.f.nz v }).c :=
  rb hm (rb (bAt_ok h ha) (flagsNZ_ok (s := { s' with x := v }) hv))
theorem ldy_ok (hm : T.run (m s.c) = some ((ad : Int), s'.c)) (h : At s'.mem ad v) (ha : ad < 2 ^ 63) (hv : v < 256) : T.run (opLDY m s.c) = some ({ s' with y := v, f := s'.f.nz v }).c :=
  rb hm (rb (bAt_ok h ha) (flagsNZ_ok (s := { s' with y := v }) hv))
theorem sta_ok (hm : T.run (m s.c) = some ((ad : Int), s'.c)) (h : ad < s'.mem.length) (ha : ad < 2 ^ 63) : T.run (opSTA m s.c) = some ({ s' with mem := s'.mem.set ad (s'.a : Int) }).c := rb hm (bSt_ok h ha)
theorem stx_ok (hm : T.run (m s.c) = some ((ad : Int), s'.c)) (h : ad < s'.mem.length) (ha : ad < 2 ^ 63) : T.run (opSTX m s.c) = some ({ s' with mem := s'.mem.set ad (s'.x : Int) }).c := rb hm (bSt_ok h ha)
theorem bc_ok {y : Option Cpu} {k : Int} (hk : (bA s.c.p k != 0) = b) (h1 : b = true → T.run (adv 1 s.c) = y) (h2 : b = false → T.run (branch s.c) = y) : T.run (opBCL k s.c) = y := by
  cases b
  · exact rf hk (h2 rfl)
  · exact rt hk (h1 rfl)
theorem bs_ok {y : Option Cpu} {k : Int} (hk : (bA s.c.p k != 0) = b) (h1 : b = false → T.run (adv 1 s.c) = y) (h2 : b = true → T.run (branch s.c) = y) : T.run (opBST k s.c) = y := by
  cases b
  · exact rf hk (h1 rfl)
  · exact rt hk (h2 rfl)
theorem bandB {a v : Nat} : bA (a : Int) (v : Int) = ((a &&& v : Nat) : Int) := by
  show bitAnd (a : Int) (v : Int) = _
  unfold bitAnd
  simp only [Int.natCast_nonneg, decide_true]
  rfl
theorem hiB {n : Nat} (h : n < 65536) : bA (n : Int) 65280 = ((n / 256 * 256 : Nat) : Int) := by
  rw [show (65280 : Int) = ((65280 : Nat) : Int) from rfl, bandB]
  have : n &&& 65280 = n / 256 * 256 := by
    have : n &&& 65280 = ((n / 256) &&& 255) * 256 := by
      apply Nat.eq_of_testBit_eq
      intro i
      rw [show ((n / 256) &&& 255) * 256 = ((n / 256) &&& 255) <<< 8 by rw [Nat.shiftLeft_eq], Nat.testBit_shiftLeft, Nat.testBit_and, Nat.testBit_and, show n / 256 = n >>> 8 by rw [Nat.shiftRight_eq_div_pow], Nat.testBit_shiftRight]
      rw [show (65280 : Nat) = 255 <<< 8 by rfl, Nat.testBit_shiftLeft]
      by_cases q : 8 ≤ i
      · simp only [q, decide_true, Bool.true_and]
        rw [show 8 + (i - 8) = i by lia]
      · simp [q]
    rw [this, show (n / 256) &&& 255 = n / 256 % 256 from Nat.and_two_pow_sub_one_eq_mod _ 8, Nat.mod_eq_of_lt (by lia)]
  rw [this]
theorem branch_fw {o : Nat} (h : At s.mem s.pc o) (ho : o < 128) (hp : s.pc + 1 + o < 65536) : T.run (branch s.c) = some ({ s with pc := s.pc + 1 + o, exc := if (s.pc + 1) / 256 = (s.pc + 1 + o) / 256 then s.exc + 1 else s.exc + 1 + 1 }).c := by
  have e1 : (bA (o : Int) 128 != 0) = false := by rw [bit7 (by lia), decide_eq_false (by lia)]; rfl
  refine rb (bAt_ok h (by lia)) (rb (rc (x := _) (y := _)) ?_)
  rw [e1]
  refine rb rc ?_
  show some ({ s.c with pc := bA ((s.pc : Int) + 1 + (o : Int)) 65535, exc := cond (bA ((s.pc : Int) + 1) 65280 != bA ((s.pc : Int) + 1 + (o : Int)) 65280) (s.exc + 1 + 1) (s.exc + 1) } : Cpu) = _
  rw [show ((s.pc : Int) + 1 + (o : Int)) = ((s.pc + 1 + o : Nat) : Int) by lia, show ((s.pc : Int) + 1) = ((s.pc + 1 : Nat) : Int) by lia, m65535, Nat.mod_eq_of_lt hp, hiB hp, hiB (Nat.lt_of_le_of_lt (Nat.le_add_right _ _) hp)]
  have ec : cond ((((s.pc + 1) / 256 * 256 : Nat) : Int) != (((s.pc + 1 + o) / 256 * 256 : Nat) : Int)) (s.exc + 1 + 1) (s.exc + 1) = if (s.pc + 1) / 256 = (s.pc + 1 + o) / 256 then s.exc + 1 else s.exc + 1 + 1 := by
    by_cases q : (s.pc + 1) / 256 = (s.pc + 1 + o) / 256
    · rw [if_pos q, q]; simp
    · rw [if_neg q]
      have : ((((s.pc + 1) / 256 * 256 : Nat) : Int) != (((s.pc + 1 + o) / 256 * 256 : Nat) : Int)) = true := bne_iff_ne.mpr (by lia)
      rw [this]; rfl
  rw [ec]; rfl
theorem ex_ok {cy xc : Int} {f : Cpu → T Cpu} (hp : s.pc + 1 < 65536) (h : T.run (f ({ s with pc := s.pc + 1, exc := 0, ac := .inr xc } : Nc).c) = some s'.c) (hp' : s'.pc < 65536) :
    T.run (ex cy xc f s.c) = some ({ s' with cyc := s'.cyc + (cy + s'.exc) }).c := by
  have e : bA ((s.pc : Int) + 1) 65535 = ((s.pc + 1 : Nat) : Int) := by rw [show ((s.pc : Int) + 1) = ((s.pc + 1 : Nat) : Int) by lia, m65535, Nat.mod_eq_of_lt hp]
  unfold ex
  refine rb (x := s'.c) ?_ ?_
  · show T.run (f { s.c with pc := bA ((s.pc : Int) + 1) 65535, exc := 0, ac := .inr xc }) = _
    rw [e]; exact h
  · show some ({ s'.c with pc := bA (s'.pc : Int) 65535, cyc := s'.cyc + (cy + s'.exc) } : Cpu) = _
    rw [m65535, Nat.mod_eq_of_lt hp']; rfl
theorem stepW_of {tab : List (Int × (Cpu → T Cpu))} {op : Nat} {e : Cpu → T Cpu} (h : At s.mem s.pc op) (hp : s.pc < 65536) (ht : tab.lookup (op : Int) = some e) (hs : T.run (e s.c) = some s'.c) : stepW tab s.c = some s'.c := by
  unfold stepW
  rw [show inB s.c.pc s.c.mem = true from inB_ok h (by lia), show s.c.mem.getD s.c.pc.toNat 0 = (op : Int) from getD_ok h, ht]
  exact hs
end
end Mine.Internal
end
section
open PySem PySem.W PySem.Calls PyProof.Rows PySem.Builtin
namespace Mine.Internal
noncomputable def ovA (a d r : Nat) : Bool := bA (bA (bN (bX (a : Int) d)) (bX (a : Int) r)) 128 != 0
noncomputable def ovS (a d r : Nat) : Bool := bA (bA (bX (a : Int) d) (bX (a : Int) r)) 128 != 0
section
variable {s s' : Nc} {m : Mode} {ad v d z : Nat} {b : Bool}
theorem z0_ok {v : Nat} (hv : v < 256) (hn : s.f.n = false) (hz : s.f.z = false) : T.run (.br ((v : Int) == 0) (orP 2 s.c) (orP (bA (v : Int) 128) s.c) : T Cpu) = some (s.fl (s.f.nz v)).c := by
  by_cases h0 : v = 0
  · subst h0
    refine rt rfl (or_z.trans ?_)
    unfold Fl.nz
    obtain ⟨_, _, _, _, _, _, _, _, _, ⟨n, v, d, i, z, c⟩, _⟩ := s
    cases hn; rfl
  · refine rf (by rw [int_eq0]; exact decide_eq_false h0) ?_
    rw [bit7 hv]
    refine or_n.trans ?_
    unfold Fl.nz
    obtain ⟨_, _, _, _, _, _, _, _, _, ⟨n, v, d, i, z, c⟩, _⟩ := s
    cases hn; cases hz
    rw [decide_eq_false h0]; simp
noncomputable def sN0 (a d c : Nat) : Nat := a % 16 + (15 - d % 16) + c
noncomputable def sH (a d c : Nat) : Bool := decide (sN0 a d c ≤ 15)
noncomputable def sN1 (a d c : Nat) : Nat := a / 16 % 16 + (15 - d / 16 % 16) + (!sH a d c).toNat
noncomputable def sAl (a d c : Nat) : Nat := a + (255 - d) + c
noncomputable def sAlu (a d c : Nat) : Nat := sAl a d c % 256
theorem bN255 {d : Nat} (h : d < 256) : bA (bN (d : Int)) 255 = ((255 - d : Nat) : Int) := by show bitAnd (bitNot (d : Int)) 255 = _; rw [bitAnd_m8]; unfold bitNot; lia
theorem bit7Z {x : Int} : bA x 128 = b2 (decide (128 ≤ x % 256)) 128 := by
  have := kbt_bit x 7
  rw [show ((2 : Int) ^ 7) = 128 from rfl] at this
  show bitAnd x 128 = _
  rw [this]
  by_cases q : 128 ≤ x % 256
  · rw [decide_eq_true q]; show _ = (128 : Int); lia
  · rw [decide_eq_false q]; show _ = (0 : Int); lia
theorem cmp_ok {reg : Cpu → Int} {v t : Nat} (hr : reg s.c = (v : Int)) (hm : T.run (m s.c) = some ((ad : Int), s'.c)) (h : At s'.mem ad t) (ha : ad < 2 ^ 63) :
    T.run (opCMP reg m s.c) = some ({ s' with f := { s'.f with n := decide ((128 : Int) ≤ ((v : Int) - t) % 256), z := decide (v = t), c := decide (t ≤ v) } }).c := by
  unfold opCMP
  dsimp only
  rw [hr]
  refine rb hm (rb (bAt_ok h ha) (rb an_cmp (rb (x := ({ s' with f := { s'.f with n := false, z := decide (v = t), c := decide (t ≤ v) } } : Nc).c) ?_ ?_)))
  · by_cases q : v = t
    · subst q
      refine rt (beq_self_eq_true _) ?_
      rw [decide_eq_true rfl, decide_eq_true (Nat.le_refl _)]
      exact or_cz
    · refine rf (beq_eq_false_iff_ne.mpr (by lia)) ?_
      by_cases q2 : t ≤ v
      · refine rt (decide_eq_true (by lia)) ?_
        rw [decide_eq_false q, decide_eq_true q2]
        exact or_c
      · refine rf (decide_eq_false (by lia)) ?_
        rw [decide_eq_false q, decide_eq_false q2]; rfl
  · dsimp only
    rw [bit7Z]
    exact or_n
theorem adcB_ok (hm : T.run (m s.c) = some ((ad : Int), s'.c)) (h : At s'.mem ad d) (ha : ad < 2 ^ 63) (hd : d < 256) (haa : s'.a < 256) (hD : s'.f.d = false) :
    T.run (opADC m s.c) = some ({ s' with a := (d + s'.a + s'.f.c.toNat) % 256, f := { s'.f with n := decide (128 ≤ (d + s'.a + s'.f.c.toNat) % 256), v := ovA s'.a d (d + s'.a + s'.f.c.toNat), z := decide ((d + s'.a + s'.f.c.toNat) % 256 = 0), c := decide (255 < d + s'.a + s'.f.c.toNat) } }).c := by
  generalize hc : s'.f.c.toNat = c
  have hc2 : c ≤ 1 := by rw [← hc]; cases s'.f.c <;> decide
  refine rb hm (rb (bAt_ok h ha) (rf (by rw [is_d]; exact hD) (rb (x := (c : Int)) ?_ ?_)))
  · refine rc.trans ?_
    rw [is_c, ← hc]; cases s'.f.c <;> rfl
  have e1 : (d : Int) + s'.c.a + (c : Int) = ((d + s'.a + c : Nat) : Int) := by show (d : Int) + (s'.a : Int) + c = _; lia
  refine rb an_adc (rb wh_v (rb (x := ((((d + s'.a + c) % 256 : Nat) : Int), ({ s' with f := { s'.f with n := false, v := ovA s'.a d (d + s'.a + c), z := false, c := decide (255 < d + s'.a + c) } } : Nc).c)) ?_ ?_))
  · dsimp only
    rw [e1]
    by_cases q : 255 < d + s'.a + c
    · refine rt (decide_eq_true (by lia)) (rb or_c ?_)
      rw [decide_eq_true q]
      show some (bA ((d + s'.a + c : Nat) : Int) 255, _) = _
      rw [m255]; rfl
    · refine rf (decide_eq_false (by lia)) ?_
      rw [decide_eq_false q, Nat.mod_eq_of_lt (by lia)]; rfl
  · refine rb (z0_ok (s := ({ s' with f := { s'.f with n := false, v := ovA s'.a d (d + s'.a + c), z := false, c := decide (255 < d + s'.a + c) } } : Nc)) (by lia) rfl rfl) rfl
theorem sbcB_ok (hm : T.run (m s.c) = some ((ad : Int), s'.c)) (h : At s'.mem ad d) (ha : ad < 2 ^ 63) (hd : d < 256) (haa : s'.a < 256) (hD : s'.f.d = false) :
    T.run (opSBC m s.c) = some ({ s' with a := sAl s'.a d s'.f.c.toNat % 256, f := { s'.f with n := decide (128 ≤ sAl s'.a d s'.f.c.toNat % 256), v := ovS s'.a d (sAl s'.a d s'.f.c.toNat), z := decide (sAl s'.a d s'.f.c.toNat % 256 = 0), c := decide (255 < sAl s'.a d s'.f.c.toNat) } }).c := by
  generalize hc : s'.f.c.toNat = c
  have e2 : s'.c.a + bA (bN (d : Int)) 255 + bA s'.c.p 1 = ((sAl s'.a d c : Nat) : Int) := by
    rw [is_c1, hc, bN255 hd, show s'.c.a = (s'.a : Int) from rfl]; unfold sAl; omega
  refine rb hm (rb (bAt_ok h ha) (rf (by rw [is_d]; exact hD) ?_))
  dsimp only
  rw [e2, m255]
  refine rb an_sbb (rb wh_v (rb wh_z (rb wh_c (rb (x := ({ s' with f := { s'.f with n := decide (128 ≤ sAl s'.a d c % 256), v := ovS s'.a d (sAl s'.a d c), z := decide (sAl s'.a d c % 256 = 0), c := decide (255 < sAl s'.a d c) } } : Nc).c) ?_ rfl))))
  rw [bit7 (by omega)]
  refine or_n.trans ?_
  rw [int_eq0, show decide (((sAl s'.a d c : Nat) : Int) > 255) = decide (255 < sAl s'.a d c) by rw [Bool.eq_iff_iff, decide_eq_true_iff, decide_eq_true_iff]; omega]
  rfl
end
end Mine.Internal
end
section
open PySem PySem.W PySem.Calls PyProof.Rows PySem.Builtin
namespace Mine.Internal
theorem frag_nsw {h : Heap} {ns : Addr} {m : Str → Option Value} (hn : h.Ns ns m) (x : Str) : nsIn (fragOf h) ns x = some (m x) := by
  obtain ⟨⟨c, d, dt, sl⟩, es, n, ho, hd, hk, hm⟩ := hn
  dsimp only at hd
  subst hd
  unfold nsIn
  rw [frag_lookup, ho]
  dsimp only
  rw [← hm x, ← find_nsFind]
  cases hf : es.toList.find? (·.key.isStr x) with
  | some e => rfl
  | none =>
    have hany : es.toList.any (·.refKey) = false := by
      rw [List.any_eq_false]; intro e he; obtain ⟨n, t, h⟩ := hk e (Array.mem_toList_iff.mp he); simp [DictEntry.refKey, h]
    rw [hany]; rfl
theorem frag_code {h : Heap} {cd : Value} {q : Str} (x : h.CodeRec cd q) : codeIn (fragOf h) cd q = true := by
  obtain ⟨c, ⟨oc, od, dt, sl⟩, vs, t, rfl, ho, hd, hv⟩ := x
  dsimp only at hd
  subst hd
  unfold codeIn
  dsimp only
  rw [frag_lookup, ho]
  dsimp only
  rw [← Array.getElem?_toList] at hv
  match vs.toList, hv with
  | _ :: .str n _ :: _, hv => cases hv; simp
noncomputable def addrOf : Option Value → Addr
  | some (.ref a) => a
  | _ => 0
noncomputable def phOf (C : Addr) (φ ψ : List Addr) (mg : Str → Option Value) (ds : List (Stmt × Str)) (la : Nat → Addr) (tb a : Addr) : Ph where
  cls := C
  fn := fun k => match Nat.blt k defCount with | true => φ.getD k 0 | false => (match ds[k - defCount]? with | some d => addrOf (mg d.2) | none => 0)
  lst := fun k => match Nat.beq k 3 with | true => a | false => (match Nat.blt k 3 with | true => ψ.getD k 0 | false => la k)
  tb := tb
noncomputable def endNames : List Str := ["__doc__", "__weakref__", "__dict__", "__qualname__", "__static_attributes__"]
theorem mcEnd_other {mc : Str → Option Value} {sa a1 a2 : Addr} {x : Str} (h : endNames.contains x = false) : mcEnd (mcSt mc sa) a1 a2 x = mc x := by
  have hn : ∀ y ∈ endNames, x ≠ y := fun y hy e => by rw [← e] at hy; rw [List.contains_iff_mem.mpr hy] at h; cases h
  unfold mcEnd mcSt
  simp only [hn "__doc__" (by simp [endNames]), hn "__weakref__" (by simp [endNames]), hn "__dict__" (by simp [endNames]), hn "__qualname__" (by simp [endNames]), hn "__static_attributes__" (by simp [endNames]), if_false]
noncomputable def chkA (st : CSt) (x : Str) : CAttr → Bool
  | .field => (st.tab.lookup x).isNone && !endNames.contains x && (fastBuiltinOwn "object" x).isNone
  | .int i => (match st.tab.lookup x with | some (.int j) => i == j | _ => false) && !endNames.contains x && !copiedNames.contains x
  | .fn k => (match st.tab.lookup x with | some (.fn j) => k == j | _ => false) && !endNames.contains x && !copiedNames.contains x && Nat.blt k defCount
  | .lst k => (match st.tab.lookup x with | some (.lst j) => k == j | _ => false) && !endNames.contains x && !copiedNames.contains x && Nat.blt k 3
noncomputable def okR (r : FnR) : Bool := decide r.names.Nodup && r.names.all (fun x => r.scope.names.lookup x == some .local) && !r.scope.isCoroutine && !r.scope.isGenerator && r.scope.kind == .function && r.scope.names.all (fun x => x.2 != .cell && x.2 != .free)
theorem okR_of {r : FnR} (h : okR r = true) : r.names.Nodup ∧ (∀ x ∈ r.names, r.scope.names.lookup x = some .local) ∧ r.scope.isCoroutine = false ∧ r.scope.isGenerator = false ∧ r.scope.kind = .function ∧ ∀ x ∈ r.scope.names, x.2 ≠ .cell ∧ x.2 ≠ .free := by
  unfold okR at h
  simp only [Bool.and_eq_true, decide_eq_true_eq, List.all_eq_true, beq_iff_eq, Bool.not_eq_true', bne_iff_ne] at h
  obtain ⟨⟨⟨⟨⟨h1, h2⟩, h3⟩, h4⟩, h5⟩, h6⟩ := h
  exact ⟨h1, h2, h3, h4, h5, h6⟩
structure XtOk (K : Frag) (Φ : Ph) (Y : Xt) : Prop where
  gs : ∀ x v, Y.gs.lookup x = some v → ∃ u, (nsIn K mainGlobals x = some (some u) ∨ (nsIn K mainGlobals x = some none ∧ nsIn K builtinsNs x = some (some u))) ∧ RepV Φ [] u v
  ls : ∀ (k : Nat) (q : Bool × List AV), Y.ls[k]? = some q → ∃ vs n, K.lookup (Φ.lst (k + 4)) = some { cls := .type (if q.1 then "tuple" else "list"), data := .seq (List.toArray vs) n } ∧ RepVs Φ [] vs q.2
  sz : ∀ (k : Nat) (q : Bool × List AV), Y.ls[k]? = some q → q.2.length ≤ 1048576
noncomputable def isFn0 : Option CV → Bool
  | some (.fn k) => Nat.beq k 0
  | _ => false
theorem isFn0_of : ∀ {o : Option CV}, isFn0 o = true → o = some (.fn 0)
  | some (.fn k), h => by rw [Nat.eq_of_beq_eq_true h]
  | some (.int _), h => no_bool h
  | some (.str _), h => no_bool h
  | some (.lst _), h => no_bool h
  | none, h => no_bool h
noncomputable def isPar (q : Arguments) : Bool := q.posonlyargs.isEmpty && (q.vararg.isNone && (q.kwonlyargs.isEmpty && (q.kw_defaults.isEmpty && (q.kwarg.isNone && !q.defaults.isEmpty))))
theorem isPar_of {q : Arguments} (h : isPar q = true) : ∃ as d0 df, q = ⟨[], as, none, [], [], none, d0 :: df⟩ := by
  obtain ⟨a, b, c, d, e, f, g⟩ := q
  unfold isPar at h
  simp only [Bool.and_eq_true] at h
  obtain ⟨h1, h2, h3, h4, h5, h6⟩ := h
  obtain rfl := List.isEmpty_iff.mp h1
  obtain rfl := Option.isNone_iff_eq_none.mp h2
  obtain rfl := List.isEmpty_iff.mp h3
  obtain rfl := List.isEmpty_iff.mp h4
  obtain rfl := Option.isNone_iff_eq_none.mp h5
  cases g with
  | nil => exact no_bool h6
  | cons d0 df => exact ⟨b, d0, df, rfl⟩
structure Chk (p : Program) (ds : List (Stmt × Str)) (st : CSt) : Prop where
  tab : (clsTab.all fun e => chkA st e.1 e.2) = true
  fns : st.fns.map (fun f => (f.params, f.body, f.scope)) = (List.range defCount).map fun k => (dPars (clsStm p (firstDef + k)), dBody (clsStm p (firstDef + k)), dScope (clsStm p (firstDef + k)))
  lsts : st.lsts = [lst0, lst1, lst2]
  okF : ((List.range (defCount + ds.length)).all fun k => match (ifc p ⟨[], []⟩ ds []).fns k with | some r => okR r | none => true) = true
  okI : okR (initOf (clsStm p firstDef)) = true
  ini : isFn0 (st.tab.lookup ("__init__" : Str)) = true
  non : ((["__getattribute__", "__getattr__", "__setattr__"] : List Str).all fun x => (st.tab.lookup x).isNone) = true
  par : isPar (dPars (clsStm p firstDef)) = true
  nm7 : (st.fns[7]?).map (·.name) = some ("WrapAt" : Str)
  glob : ((topGlob defCount ds).all fun e => !(["MPU", "len", "divmod", "range", "enumerate", "sum", "max", "list"] : List Str).contains e.1) = true
theorem lookup_all {α : Type} {t : List (Str × α)} {f : Str × α → Bool} {x : Str} {a : α} (h : t.all f = true) (e : t.lookup x = some a) : f (x, a) = true := by
  induction t with
  | nil => cases e
  | cons p t ih =>
    rw [List.all_cons, Bool.and_eq_true] at h
    rw [List.lookup_cons] at e
    cases hx : (x == p.1) with
    | true => rw [hx] at e; cases e; have := beq_iff_eq.mp hx; subst this; exact h.1
    | false => rw [hx] at e; exact ih h.2 e
theorem topGlob_at {x : Str} {v : AV} : ∀ {ds : List (Stmt × Str)} {k : Nat}, (topGlob k ds).lookup x = some v → ∃ i d, ds[i]? = some d ∧ d.2 = x ∧ v = .fn (k + i)
  | [], _, e => by cases e
  | d :: ds, k, e => by
    unfold topGlob at e
    rw [List.lookup_cons] at e
    cases hx : (x == d.2) with
    | true => rw [hx] at e; cases e; exact ⟨0, d, rfl, (beq_iff_eq.mp hx).symm, rfl⟩
    | false =>
      rw [hx] at e
      obtain ⟨i, d', h1, h2, rfl⟩ := topGlob_at e
      exact ⟨i + 1, d', h1, h2, by rw [Nat.add_right_comm, Nat.add_assoc]⟩
noncomputable def avBoot : AV → Option Value
  | .bi n => some (.builtin n)
  | .ty n => some (.type n)
  | _ => none
theorem boot_tab : bltTab.map (fun e => bootBuiltins e.1) = bltTab.map (fun e => avBoot e.2) := by kernel_rfl
theorem blt_names : (bltTab.all fun e => blNames.contains e.1 && !(e.1 == ("__name__" : Str)) && (avBoot e.2).isSome) = true := by decide +kernel
theorem avBoot_rep {Φ : Ph} {ρ : List Addr} {v : AV} {u : Value} (h : avBoot v = some u) : RepV Φ ρ u v := by cases v <;> cases h <;> rfl
theorem blt_of {x : Str} {v : AV} (e : bltTab.lookup x = some v) : x ∈ blNames ∧ (x == ("__name__" : Str)) = false ∧ ∃ u, avBoot v = some u ∧ bootBuiltins x = some u := by
  have m := mem_of_lookup e
  have a := List.all_eq_true.mp blt_names _ m
  have b := List.map_inj_left.mp boot_tab _ m
  simp only [Bool.and_eq_true, Bool.not_eq_true', List.contains_iff_mem] at a
  obtain ⟨⟨a1, a2⟩, a3⟩ := a
  obtain ⟨u, hu⟩ := Option.isSome_iff_exists.mp a3
  exact ⟨a1, a2, u, hu, b.trans hu⟩
theorem own_ga : fastBuiltinOwn "object" "__getattribute__" = some (.builtin "object.__getattribute__") ∧ fastBuiltinOwn "object" "__getattr__" = none ∧ fastBuiltinOwn "object" "__setattr__" = some (.builtin "object.__setattr__") := ⟨by kernel_rfl, by kernel_rfl, by kernel_rfl⟩
theorem find_tc : findIn [] (.type "type") "__call__" = some (some (.builtin "type.__call__")) := by kernel_rfl
theorem sub_tt : subIn [] (.type "type") (.type "type") = some true := by kernel_rfl
noncomputable def FnW (h : Heap) (a : Addr) (name qual : Str) (params : Arguments) (body : List Stmt) (scope : Scope) (dV : Value) : Prop :=
  ∃ pm c' doc, h.get? a = some { cls := .type "function", data := .func (defFd name qual params body scope mainGlobals dV .none none pm (.ref c') doc) } ∧ h.CodeRec (.ref c') qual
structure Rd (st : CSt) (h : Heap) (mg mb : Str → Option Value) (B : Nat) (C ns : Addr) (φ ψ : List Addr) (mc : Str → Option Value) (sa a1 a2 tb : Addr) : Prop where
  g : h.Ns mainGlobals mg
  b : h.Ns builtinsNs mb
  blt : ∀ x : Str, (x == "__name__") = false → mb x = bootBuiltins x
  sts : h.Ns cStatics (fun _ => none)
  cls : mg "MPU" = some (.ref C)
  oth : ∀ x ∈ blNames, mg x = none
  mcls : ∃ tn tq, h.get? C = some (clsO "MPU" "MPU" tn tq C ns)
  nd : NsD h ns (mcEnd (mcSt mc sa) a1 a2)
  tab : ∀ x, match st.tab.lookup x with | some cv => ∃ v, mc x = some v ∧ RepCV φ ψ v cv | none => mc x = none
  flen : φ.length = st.fns.length
  fn : ∀ (k : Nat) (a : Addr) (fi : FnI), φ[k]? = some a → st.fns[k]? = some fi → ∃ dV vs, FnW h a fi.name ("MPU" ++ "." ++ fi.name) fi.params fi.body fi.scope dV ∧ ConstVals fi.params.defaults vs ∧ h.DefaultsAt B vs dV
  llen : ψ.length = st.lsts.length
  lst : ∀ (k : Nat) (a : Addr) (its : List LIt), ψ[k]? = some a → st.lsts[k]? = some its → ∃ vs, B ≤ a ∧ h.get? a = some { cls := .type "list", data := .seq (List.toArray vs) } ∧ RepIL φ vs its
section
variable {p : Program} {Fin : Heap → (Str → Option Value) → Addr → Prop} {st : CSt} {h : Heap} {mg mb : Str → Option Value} {Pl B : Nat} {C ns : Addr} {φ ψ : List Addr} {mc : Str → Option Value} {sa a1 a2 tb : Addr} {ds : List (Stmt × Str)} {xs : List Int}
theorem Rd.clsAt (M : Rd st h mg mb B C ns φ ψ mc sa a1 a2 tb) : ClsAt h C ns (mcEnd (mcSt mc sa) a1 a2) := by
  obtain ⟨tn, tq, e⟩ := M.mcls
  exact ⟨⟨_, _, e, rfl, rfl, rfl, rfl⟩, M.nd⟩
theorem find_fn (M : Rd st h mg mb B C ns φ ψ mc sa a1 a2 tb) {x : Str} (hx : endNames.contains x = false) :
    findIn (fragOf h) (.ref C) x = some (match mc x with | some v => some v | none => fastBuiltinOwn "object" x) := by
  rw [M.clsAt.find x, mcEnd_other hx] <;> (cases mc x <;> rfl)
theorem at_fn (K : Chk p ds st) (M : Rd st h mg mb B C ns φ ψ mc sa a1 a2 tb) {k : Nat} (hk : Nat.blt k defCount = true) :
    ∃ a fi dV vs, φ[k]? = some a ∧ st.fns[k]? = some fi ∧ FnW h a fi.name ("MPU" ++ "." ++ fi.name) fi.params fi.body fi.scope dV ∧ ConstVals fi.params.defaults vs ∧ h.DefaultsAt B vs dV ∧
      fi.params = dPars (clsStm p (firstDef + k)) ∧ fi.body = dBody (clsStm p (firstDef + k)) ∧ fi.scope = dScope (clsStm p (firstDef + k)) := by
  have hk : k < defCount := Nat.blt_eq.mp hk
  have len : st.fns.length = defCount := by have := congrArg List.length K.fns; simpa using this
  have hf : k < st.fns.length := by rw [len]; exact hk
  have hp : k < φ.length := by rw [M.flen]; exact hf
  obtain ⟨dV, vs, h1, h2, h3⟩ := M.fn k φ[k] st.fns[k] (List.getElem?_eq_getElem hp) (List.getElem?_eq_getElem hf)
  have e := congrArg (fun l => l[k]?) K.fns
  simp only [List.getElem?_map, List.getElem?_eq_getElem hf, Option.map_some, List.getElem?_range hk, Option.some.injEq, Prod.mk.injEq] at e
  exact ⟨_, _, dV, vs, List.getElem?_eq_getElem hp, List.getElem?_eq_getElem hf, h1, h2, h3, e.1, e.2.1, e.2.2⟩
theorem repIts_of {φ : List Addr} {Φ : Ph} (hΦ : ∀ i ad, φ[i]? = some ad → Φ.fn i = ad) : ∀ {vs : List Value} {its : List LIt}, RepIL φ vs its → RepVs Φ [] vs (its.map litAV)
  | [], [], _ => trivial
  | v :: vs, .int i :: its, h => ⟨h.1, repIts_of hΦ h.2⟩
  | v :: vs, .fn k :: its, h => ⟨(by obtain ⟨ad, h1, rfl⟩ := h.1; show _ = Value.ref (Φ.fn k); rw [hΦ k ad h1]), repIts_of hΦ h.2⟩
  | [], _ :: _, h => h.elim
  | _ :: _, [], h => h.elim
theorem repIts_ints {Φ : Ph} : ∀ {vs : List Value} {xs : List Int}, IntsAre vs xs → RepVs Φ [] vs (xs.map .int)
  | _, _, .nil => trivial
  | _, _, .cons i t h => ⟨⟨t, rfl⟩, repIts_ints h⟩
theorem pars_nil {q : Arguments} {nm : List Str} (h : parsOf q = some nm) : q.defaults = [] := by
  have k := cond_some h
  simp only [Bool.and_eq_true, List.isEmpty_iff] at k
  exact k.2
theorem glob_ok (R : Rd st h mg mb B C ns φ ψ mc sa a1 a2 tb) (D : ∀ d ∈ ds, DefAt h mg Pl d.1 d.2) {la : Nat → Addr} {a : Addr} {x : Str} {v : AV} (e : (topGlob defCount ds ++ globTab).lookup x = some v) :
    ∃ u, (nsIn (fragOf h) mainGlobals x = some (some u) ∨ (nsIn (fragOf h) mainGlobals x = some none ∧ nsIn (fragOf h) builtinsNs x = some (some u))) ∧ RepV (phOf C φ ψ mg ds la tb a) [] u v := by
  rw [frag_nsw R.g, frag_nsw R.b]
  rw [List.lookup_append] at e
  cases ht : (topGlob defCount ds).lookup x with
  | some y =>
    rw [ht] at e; cases e
    obtain ⟨i, d, h1, rfl, rfl⟩ := topGlob_at ht
    obtain ⟨ad, _, _, h2, _⟩ := D d (List.mem_of_getElem? h1)
    refine ⟨.ref ad, .inl (by rw [h2]), ?_⟩
    show Value.ref ad = .ref (match Nat.blt (defCount + i) defCount with | true => φ.getD (defCount + i) 0 | false => (match ds[defCount + i - defCount]? with | some d => addrOf (mg d.2) | none => 0))
    have hb : Nat.blt (defCount + i) defCount = false := by
      cases hq : Nat.blt (defCount + i) defCount with
      | false => rfl
      | true => exact absurd (Nat.blt_eq.mp hq) (Nat.not_lt.mpr (Nat.le_add_right _ _))
    rw [hb, Nat.add_sub_cancel_left, h1]
    dsimp only
    rw [h2]; rfl
  | none =>
    rw [ht, Option.none_or] at e
    unfold globTab at e
    rw [List.lookup_cons] at e
    cases hx : (x == ("MPU" : Str)) with
    | true =>
      rw [hx] at e; cases e
      rw [beq_iff_eq.mp hx]
      exact ⟨.ref C, .inl (by rw [R.cls]), rfl⟩
    | false =>
      rw [hx] at e
      obtain ⟨n1, n2, u, h1, h2⟩ := blt_of e
      exact ⟨u, .inr ⟨by rw [R.oth _ n1], by rw [R.blt _ n2, h2]⟩, avBoot_rep h1⟩
theorem kok {Y : Xt} (R : Rd st h mg mb B C ns φ ψ mc sa a1 a2 tb) (K : Chk p ds st) (D : ∀ d ∈ ds, DefAt h mg Pl d.1 d.2) {la : Nat → Addr} {a : Addr} {o : Obj} {its : Array Value} {n : Nat} (Z : XtOk (fragOf h) (phOf C φ ψ mg ds la tb a) Y) (hlen : xs.length ≤ 1048576) (ha : h.get? a = some o) (hc : o.cls = .type "list") (hd : o.data = .seq its n) (hi : IntsAre its.toList xs) :
    KOk (fragOf h) (phOf C φ ψ mg ds la tb a) (ifc p Y ds xs) := by
  have M := R
  have S := R
  obtain ⟨tn, tq, hcls⟩ := M.mcls
  have tabOf : ∀ x ca, (ifc p Y ds xs).cls x = some ca → chkA st x ca = true := fun x ca e => lookup_all (f := fun e => chkA st e.1 e.2) K.tab e
  have noTab : ∀ x, (st.tab.lookup x).isNone = true → mc x = none := fun x e => by
    have := S.tab x
    rw [Option.isNone_iff_eq_none.mp e] at this
    exact this
  have none3 : ∀ x ∈ (["__getattribute__", "__getattr__", "__setattr__"] : List Str), mc x = none := fun x hx => noTab x (List.all_eq_true.mp K.non x hx)
  have t : typeIn (fragOf h) (.ref C) = some (.type "type") := by show Option.map _ (List.lookup C (fragOf h)) = _; rw [frag_lookup, hcls]; rfl
  have lenF : st.fns.length = defCount := by have := congrArg List.length K.fns; simpa using this
  refine ⟨?glob, ?makes, ?init, ?plain, ?hasD, ?setattr, ?over, ?field, ?int, ?lst, ?fn, ?lists, ?fns, ?iLs, ?sizes⟩
  case glob =>
    intro x v e
    replace e : (Y.gs ++ (topGlob defCount ds ++ globTab)).lookup x = some v := e
    rw [List.lookup_append] at e
    cases hg : Y.gs.lookup x with
    | some y => rw [hg] at e; cases e; exact Z.gs x v hg
    | none => rw [hg, Option.none_or] at e; exact glob_ok R D e
  case makes =>
    show makesIn (fragOf h) C = true
    have s1 : specialIn (fragOf h) (.ref C) "__call__" = some (some (.builtin "type.__call__")) := by unfold specialIn; rw [t]; exact find_tc
    have s2 : instIn (fragOf h) (.ref C) (.type "type") = some true := by unfold instIn; rw [t]; exact sub_tt
    unfold makesIn
    rw [frag_lookup, hcls]
    dsimp only
    rw [s1, s2]
    simp
  case init =>
    obtain ⟨ad, fi, dV, vs, f1, f2, ⟨pm, c', doc, hget, hcode⟩, hcv, hdef, e1, e2, e3⟩ := at_fn K M (k := 0) rfl
    have hmc : mc "__init__" = some (.ref ad) := by
      have q := S.tab "__init__"
      rw [isFn0_of K.ini] at q
      obtain ⟨v, h1, a', h2, rfl⟩ := q
      rw [f1] at h2; cases h2
      exact h1
    obtain ⟨k1, k2, k3, k4, k5, k6⟩ := okR_of K.okI
    obtain ⟨as, d0, df, hpar⟩ := isPar_of K.par
    have e1' : fi.params = dPars (clsStm p firstDef) := e1
    have e2' : fi.body = dBody (clsStm p firstDef) := e2
    have e3' : fi.scope = dScope (clsStm p firstDef) := e3
    rcases hdef with ⟨hv, _⟩ | ⟨hv, T, rfl, _, hT⟩
    · subst hv
      rw [e1', hpar] at hcv
      exact hcv.elim
    · have hg' := (frag_lookup h ad).trans hget
      have hT' := (frag_lookup h T).trans hT
      rw [e2', e3'] at hg'
      refine ⟨ad, ⟨none, #[], fi.name, _, fi.params, _, .none, doc, pm, none, .ref c', _⟩, T, _, ⟨hg', frag_code hcode, k1, k2, k3, k4, k5, k6⟩, ?_, ⟨as, d0 :: df, e1'.trans hpar, ?_⟩, rfl, hT', _, _, rfl⟩
      · show findIn (fragOf h) (.ref C) "__init__" = _
        rw [find_fn M (by decide), hmc]
      · show _ = (dPars (clsStm p firstDef)).args.map (·.arg)
        rw [hpar]
  case plain =>
    show plainGet (fragOf h) C "" = true
    unfold plainGet
    rw [find_fn M (by decide), find_fn M (by decide), none3 _ (by simp), none3 _ (by simp), own_ga.1, own_ga.2.1]
    rfl
  case hasD =>
    show hasDictIn (fragOf h) C = true
    unfold hasDictIn clsIn
    rw [frag_lookup, hcls]; rfl
  case setattr =>
    show findIn (fragOf h) (.ref C) "__setattr__" = _
    rw [find_fn M (by decide), none3 _ (by simp), own_ga.2.2]
  case over =>
    show plainOver (fragOf h) C = true
    unfold plainOver clsIn
    rw [frag_lookup, hcls]; rfl
  case field =>
    intro x e
    have k := tabOf x _ e
    unfold chkA at k
    simp only [Bool.and_eq_true, Bool.not_eq_true'] at k
    show findIn (fragOf h) (.ref C) x = _
    rw [find_fn M k.1.2, noTab x k.1.1, Option.isNone_iff_eq_none.mp k.2]
  case int =>
    intro x i e
    have k := tabOf x _ e
    unfold chkA at k
    simp only [Bool.and_eq_true, Bool.not_eq_true'] at k
    obtain ⟨⟨k1, k2⟩, k3⟩ := k
    refine ⟨?_, k3⟩
    show ∃ t, findIn (fragOf h) (.ref C) x = _
    have q := S.tab x
    split at k1
    · rename_i j hq
      rw [hq] at q
      obtain ⟨v, h1, tk, rfl⟩ := q
      have := beq_iff_eq.mp k1; subst this
      exact ⟨tk, by rw [find_fn M k2, h1]⟩
    · cases k1
  case lst =>
    intro x k e
    have kk := tabOf x _ e
    unfold chkA at kk
    simp only [Bool.and_eq_true, Bool.not_eq_true'] at kk
    obtain ⟨⟨⟨k1, k2⟩, k3⟩, k4⟩ := kk
    have q := S.tab x
    split at k1
    · rename_i j hq
      rw [hq] at q
      obtain ⟨v, h1, ad, h2, rfl⟩ := q
      have := beq_iff_eq.mp k1; subst this
      have hk3 : Nat.beq k 3 = false := by
        cases hq : Nat.beq k 3 with
        | false => rfl
        | true => have := Nat.eq_of_beq_eq_true hq; have := Nat.blt_eq.mp k4; lia
      have hl : (phOf C φ ψ mg ds la tb a).lst k = ad := by
        unfold phOf; dsimp only; rw [hk3]; dsimp only; rw [k4]; dsimp only
        rw [List.getD_eq_getElem?_getD, h2]; rfl
      have hk : k < st.lsts.length := by rw [K.lsts]; exact Nat.blt_eq.mp k4
      obtain ⟨vs, _, hg, _⟩ := S.lst k ad st.lsts[k] h2 (List.getElem?_eq_getElem hk)
      rw [hl]
      refine ⟨?_, k3, none, _, #[], by rw [frag_lookup, hg]⟩
      show findIn (fragOf h) (.ref C) x = _
      rw [find_fn M k2, h1]
    · cases k1
  case fn =>
    intro x k e
    have kk := tabOf x _ e
    unfold chkA at kk
    simp only [Bool.and_eq_true, Bool.not_eq_true'] at kk
    obtain ⟨⟨⟨k1, k2⟩, k3⟩, k4⟩ := kk
    have q := S.tab x
    split at k1
    · rename_i j hq
      rw [hq] at q
      obtain ⟨v, h1, ad, h2, rfl⟩ := q
      have := beq_iff_eq.mp k1; subst this
      obtain ⟨ad', fi, dV, vs, f1, f2, ⟨pm, c', doc, hget, hcode⟩, _⟩ := at_fn K M k4
      rw [h2] at f1; cases f1
      have hl : (phOf C φ ψ mg ds la tb a).fn k = ad := by
        unfold phOf; dsimp only; rw [k4]; dsimp only
        rw [List.getD_eq_getElem?_getD, h2]; rfl
      rw [hl]
      refine ⟨?_, k3, none, _, #[], by rw [frag_lookup, hget]⟩
      show findIn (fragOf h) (.ref C) x = _
      rw [find_fn M k2, h1]
    · cases k1
  case lists =>
    intro k ys e
    have old : ∀ {j : Nat} {zs : List LIt}, j < 3 → st.lsts[j]? = some zs → ∃ vs dd n sl, (fragOf h).lookup ((phOf C φ ψ mg ds la tb a).lst j) = some ⟨.type "list", dd, .seq (List.toArray vs) n, sl⟩ ∧ RepVs (phOf C φ ψ mg ds la tb a) [] vs (zs.map litAV) := by
      intro j zs hj hz
      have hp : j < ψ.length := by rw [S.llen, K.lsts]; exact hj
      obtain ⟨vs, _, hg, hr⟩ := S.lst j ψ[j] zs (List.getElem?_eq_getElem hp) hz
      have hj3 : Nat.beq j 3 = false := by
        cases hq : Nat.beq j 3 with
        | false => rfl
        | true => have := Nat.eq_of_beq_eq_true hq; lia
      have hl : (phOf C φ ψ mg ds la tb a).lst j = ψ[j] := by
        unfold phOf; dsimp only; rw [hj3]; dsimp only; rw [show Nat.blt j 3 = true from Nat.blt_eq.mpr hj]; dsimp only
        rw [List.getD_eq_getElem?_getD, List.getElem?_eq_getElem hp]; rfl
      rw [hl]
      exact ⟨vs, none, _, #[], by rw [frag_lookup, hg], repIts_of (fun i ad hi => (by
        have hi' : i < φ.length := (List.getElem?_eq_some_iff.mp hi).1
        have hb : Nat.blt i defCount = true := Nat.blt_eq.mpr (by rw [S.flen, lenF] at hi'; exact hi')
        unfold phOf; dsimp only; rw [hb]; dsimp only
        rw [List.getD_eq_getElem?_getD, hi]; rfl)) hr⟩
    unfold ifc at e
    dsimp only at e
    match k, e with
    | 0, e => cases e; exact old (by lia) (by rw [K.lsts]; rfl)
    | 1, e => cases e; exact old (by lia) (by rw [K.lsts]; rfl)
    | 2, e => cases e; exact old (by lia) (by rw [K.lsts]; rfl)
    | 3, e =>
      cases e
      obtain ⟨oc, od, dt, sl⟩ := o
      dsimp only at hc hd
      subst hc; subst hd
      exact ⟨its.toList, od, n, sl, by show (fragOf h).lookup a = _; rw [frag_lookup, ha]; rfl, repIts_ints hi⟩
    | j + 4, e =>
      obtain ⟨vs, n, h1, h2⟩ := Z.ls j ys e
      exact ⟨vs, _, n, _, h1, h2⟩
  case fns =>
    intro k r e
    have okr : okR r = true := by
      have hk : k < defCount + ds.length := by
        change (match Nat.blt k defCount with | true => (match Nat.beq k 7 with | true => none | false => fnOfStmt (clsStm p (firstDef + k))) | false => (match ds[k - defCount]? with | some d => fnOfStmt d.1 | none => none)) = some r at e
        cases hb : Nat.blt k defCount with
        | true => have := Nat.blt_eq.mp hb; lia
        | false =>
          rw [hb] at e; dsimp only at e
          cases hd : ds[k - defCount]? with
          | none => rw [hd] at e; cases e
          | some d =>
            have := (List.getElem?_eq_some_iff.mp hd).1
            have hn : ¬ k < defCount := fun z => by rw [Nat.blt_eq.mpr z] at hb; cases hb
            lia
      have q := List.all_eq_true.mp K.okF k (List.mem_range.mpr hk)
      have e' : (ifc p ⟨[], []⟩ ds []).fns k = some r := e
      rw [e'] at q
      exact q
    obtain ⟨k1, k2, k3, k4, k5, k6⟩ := okR_of okr
    change (match Nat.blt k defCount with | true => (match Nat.beq k 7 with | true => none | false => fnOfStmt (clsStm p (firstDef + k))) | false => (match ds[k - defCount]? with | some d => fnOfStmt d.1 | none => none)) = some r at e
    cases hb : Nat.blt k defCount with
    | true =>
      rw [hb] at e; dsimp only at e
      cases h7 : Nat.beq k 7 with
      | true => rw [h7] at e; cases e
      | false =>
      rw [h7] at e; dsimp only at e
      obtain ⟨nm, hn, rfl⟩ := Option.map_eq_some_iff.mp e
      obtain ⟨ad, fi, dV, vs, f1, f2, ⟨pm, c', doc, hget, hcode⟩, hcv, hdef, e1, e2, e3⟩ := at_fn K M hb
      have hl : (phOf C φ ψ mg ds la tb a).fn k = ad := by
        unfold phOf; dsimp only; rw [hb]; dsimp only
        rw [List.getD_eq_getElem?_getD, f1]; rfl
      have hdv : dV = .none := by
        rw [← e1] at hn
        have hnil : fi.params.defaults = [] := pars_nil hn
        rw [hnil] at hcv
        have hv : vs = [] := by cases vs with | nil => rfl | cons _ _ => exact hcv.elim
        subst hv
        rcases hdef with ⟨_, h2⟩ | ⟨h1, _⟩
        · exact h2
        · exact absurd rfl h1
      subst hdv
      have hg' := (frag_lookup h ad).trans hget
      rw [e2, e3, ← hl] at hg'
      exact ⟨⟨none, #[], fi.name, _, fi.params, .none, .none, doc, pm, none, .ref c', _⟩, ⟨hg', frag_code hcode, k1, k2, k3, k4, k5, k6⟩, by rw [e1]; exact hn, rfl⟩
    | false =>
      rw [hb] at e; dsimp only at e
      cases hd : ds[k - defCount]? with
      | none => rw [hd] at e; cases e
      | some d =>
        rw [hd] at e; dsimp only at e
        obtain ⟨nm, hn, rfl⟩ := Option.map_eq_some_iff.mp e
        obtain ⟨ad, c', pm, h2, hget, hcode, _⟩ := D d (List.mem_of_getElem? hd)
        have hl : (phOf C φ ψ mg ds la tb a).fn k = ad := by
          unfold phOf; dsimp only; rw [hb]; dsimp only
          rw [hd]; dsimp only; rw [h2]; rfl
        have hg' := (frag_lookup h ad).trans hget
        rw [← hl] at hg'
        exact ⟨⟨none, #[], d.2, _, dPars d.1, .none, .none, _, pm, none, .ref c', _⟩, ⟨hg', frag_code hcode, k1, k2, k3, k4, k5, k6⟩, hn, rfl⟩
  case iLs =>
    intro k ys e
    match k, e with
    | 3, e =>
      obtain rfl := some_eq e
      exact ⟨its, o, (frag_lookup h a).trans ha, hc, ⟨n, hd⟩, hi, fun z => no_bool z.symm⟩
    | 0, e => cases e
    | 1, e => cases e
    | 2, e => cases e
    | j + 4, e =>
      obtain ⟨q, h1, h2⟩ := Option.bind_eq_some_iff.mp e
      obtain ⟨vs, n, h3, h4⟩ := Z.ls j q h1
      obtain ⟨b, zs⟩ := q
      cases b with
      | true => exact no_some h2
      | false => exact ⟨vs.toArray, _, h3, rfl, ⟨n, rfl⟩, h4.ints h2, fun _ => ⟨n, rfl⟩⟩
  case sizes =>
    intro k ys e
    match k, e with
    | 3, e => obtain rfl := some_eq e; exact hlen
    | 0, e => cases e
    | 1, e => cases e
    | 2, e => cases e
    | j + 4, e =>
      obtain ⟨q, h1, h2⟩ := Option.bind_eq_some_iff.mp e
      obtain ⟨vs, n, h3, h4⟩ := Z.ls j q h1
      have hz := Z.sz j q h1
      obtain ⟨b, zs⟩ := q
      cases b with
      | true => exact no_some h2
      | false => rw [← (h4.ints h2).length, h4.length]; exact hz
end
end Mine.Internal
end
section
open PySem PySem.W PySem.Calls PyProof.Rows PySem.Builtin
namespace Mine.Internal
noncomputable def inQ (x : Str) (l : List Str) : Bool := l.any fun y => PySem.W.Fast.sEq x y
theorem contains_q {x : Str} {l : List Str} : l.contains x = inQ x l := by
  unfold inQ
  induction l with
  | nil => rfl
  | cons y r ih => rw [List.contains_cons, List.any_cons, ih, beq_q]
noncomputable def chkQ (tab : List (Str × CV)) (x : Str) : CAttr → Bool
  | .field => (qlk x tab).isNone && !inQ x endNames && (fastBuiltinOwn "object" x).isNone
  | .int i => (match qlk x tab with | some (.int j) => i == j | _ => false) && !inQ x endNames && !inQ x copiedNames
  | .fn k => (match qlk x tab with | some (.fn j) => k == j | _ => false) && !inQ x endNames && !inQ x copiedNames && Nat.blt k defCount
  | .lst k => (match qlk x tab with | some (.lst j) => k == j | _ => false) && !inQ x endNames && !inQ x copiedNames && Nat.blt k 3
theorem chkQ_eq {st : CSt} {x : Str} {a : CAttr} : chkA st x a = chkQ st.tab x a := by
  cases a <;> simp only [chkA, chkQ, lookup_q, contains_q] <;> rfl
noncomputable def tabQ (tab : List (Str × CV)) : Bool :=
  (Nat.ble tab.length 900 && banned.all (fun x => (qlk x tab).isNone) && (match qlk "__qualname__" tab with | some (.str x) => PySem.W.Fast.sEq x "MPU" | _ => false) && (match qlk "__module__" tab with | some (.str _) => true | _ => false)) &&
  ((clsTab.all fun e => chkQ tab e.1 e.2) && isFn0 (qlk "__init__" tab) && ((["__getattribute__", "__getattr__", "__setattr__"] : List Str).all fun x => (qlk x tab).isNone))
noncomputable def bools (st : CSt) : Bool := (clsTab.all fun e => chkA st e.1 e.2) && isFn0 (st.tab.lookup ("__init__" : Str)) && ((["__getattribute__", "__getattr__", "__setattr__"] : List Str).all fun x => (st.tab.lookup x).isNone)
theorem tabQ_of {st : CSt} (h : tabQ st.tab = true) : okCls st = true ∧ bools st = true := by
  unfold tabQ at h
  rw [Bool.and_eq_true] at h
  obtain ⟨h1, h2⟩ := h
  refine ⟨?_, ?_⟩
  · unfold okCls
    rw [Bool.and_eq_true, Bool.and_eq_true, Bool.and_eq_true] at h1 ⊢
    obtain ⟨⟨⟨a, b⟩, c⟩, d⟩ := h1
    refine ⟨⟨⟨decide_eq_true (Nat.le_of_ble_eq_true a), ?_⟩, ?_⟩, ?_⟩
    · simp only [lookup_q]; exact b
    · rw [lookup_q]; simp only [beq_q]; exact c
    · rw [lookup_q]; exact d
  · unfold bools
    simp only [chkQ_eq, lookup_q]
    exact h2
noncomputable abbrev fnsOf (p : Program) : List (Arguments × List Stmt × Scope) := (List.range defCount).map fun k => (dPars (clsStm p (firstDef + k)), dBody (clsStm p (firstDef + k)), dScope (clsStm p (firstDef + k)))
theorem st_of {p : Program} {nm : Str} {fl : Int} (h : (clsRun (cScope (nthS p 2)) (cBody (nthS p 2)) (st0 nm fl)).map (fun z => (tabQ z.tab, z.fns.map (fun f => (f.params, f.body, f.scope)), z.lsts, (z.fns[7]?).map (·.name))) = some (true, fnsOf p, [lst0, lst1, lst2], some ("WrapAt" : Str))) :
    ∃ st, clsRun (cScope (nthS p 2)) (cBody (nthS p 2)) (st0 nm fl) = some st ∧ okCls st = true ∧ bools st = true ∧ st.fns.map (fun f => (f.params, f.body, f.scope)) = fnsOf p ∧ st.lsts = [lst0, lst1, lst2] ∧ (st.fns[7]?).map (·.name) = some ("WrapAt" : Str) := by
  obtain ⟨z, hz, e⟩ := Option.map_eq_some_iff.mp h
  simp only [Prod.mk.injEq] at e
  obtain ⟨e1, e2, e3, e4⟩ := e
  have t := tabQ_of e1
  exact ⟨z, hz, t.1, t.2, e2, e3, e4⟩
theorem chk_of {p : Program} {ds : List (Stmt × Str)} {st : CSt} (h1 : bools st = true) (h2 : st.fns.map (fun f => (f.params, f.body, f.scope)) = fnsOf p) (h3 : st.lsts = [lst0, lst1, lst2]) (h4 : (st.fns[7]?).map (·.name) = some ("WrapAt" : Str))
    (okF : ((List.range (defCount + ds.length)).all fun k => match (ifc p ⟨[], []⟩ ds []).fns k with | some r => okR r | none => true) = true) (okI : okR (initOf (clsStm p firstDef)) = true)
    (par : isPar (dPars (clsStm p firstDef)) = true) (glob : ((topGlob defCount ds).all fun e => !(["MPU", "len", "divmod", "range", "enumerate", "sum", "max", "list"] : List Str).contains e.1) = true) : Chk p ds st := by
  unfold bools at h1
  rw [Bool.and_eq_true, Bool.and_eq_true] at h1
  exact ⟨h1.1.1, h2, h3, okF, okI, h1.1.2, h1.2, par, h4, glob⟩
end Mine.Internal
end
section
open PySem PySem.W PySem.Calls PyProof.Rows PySem.Builtin
set_option maxHeartbeats 8000000
namespace Mine.Internal
noncomputable abbrev pw : Program := PySem.Challenge.pw_lq0010_07
theorem told_nil : TablesWhole.wSs TablesWhole.gather pw.main.scope ⟨pw.main.scope, [], [], [], none⟩ pw.main.scope pw.main.body = [] := by
  refine List.isEmpty_iff.mp ?_
  rw [PySem.W.Fast.te16421684217811934046, PySem.W.Fast.te12652042256554560961]; kernel_rfl
theorem tab2 : TablesWhole.noTwice pw.main.scope = true := by rw [PySem.W.Fast.te8331962902438777018]; kernel_rfl
noncomputable def holdsQ : TablesWhole.Alg Bool := ⟨fun sc n _ => (qlk n sc.names).isSome, fun _ _ _ ok => ok, fun _ => true, true, false, fun a b => a && b⟩
theorem holds_q : TablesWhole.holds = holdsQ := by
  unfold holdsQ
  simp only [← lookup_q]; rfl
theorem tab1 : TablesWhole.wSs TablesWhole.holds pw.main.scope ⟨pw.main.scope, [], [], [], none⟩ pw.main.scope pw.main.body = true := by
  rw [holds_q, PySem.W.Fast.te16421684217811934046]; kernel_rfl
theorem wMod (m : Module) (h0 : TablesWhole.wSs TablesWhole.gather m.scope ⟨m.scope, [], [], [], none⟩ m.scope m.body = [])
    (h2 : TablesWhole.noTwice m.scope = true) (h1 : TablesWhole.wSs TablesWhole.holds m.scope ⟨m.scope, [], [], [], none⟩ m.scope m.body = true) :
    TablesWhole.wModule TablesWhole.holds m = true := by
  unfold TablesWhole.wModule
  rw [h0]
  simp only [TablesWhole.Alg.all, List.foldr]
  rw [h1]
  show (true && (TablesWhole.noTwice m.scope && (true && true))) = true
  rw [h2]; rfl
theorem tabP (p : Program) (hm : p.modules = []) (hp : p.parses = []) (hh : p.harvested = []) (h : TablesWhole.wModule TablesWhole.holds p.main = true) : p.tablesWhole = true := by
  unfold Program.tablesWhole TablesWhole.wProgram
  rw [h, hm, hp, hh]; rfl
theorem tab : pw.tablesWhole = true := tabP _ rfl rfl rfl (wMod pw.main told_nil tab2 tab1)
theorem bare : pw.bare := ⟨rfl, rfl, rfl, rfl, by kernel_rfl, tab⟩
theorem ws : PySem.Challenge.rw_lq0010_07.wellSaid = true := by rw [PySem.W.Fast.te9446332074065402090]; kernel_rfl
theorem how : opensWell pw = true := by decide +kernel
noncomputable def ds01 : List (Stmt × Str) := [(nthS pw 5, "_law_words"), (nthS pw 6, "law")]
theorem body01 : behindTheImports pw = nthS pw 0 :: nthS pw 1 :: nthS pw 2 :: nthS pw 3 :: nthS pw 4 :: ds01.map (·.1) := by kernel_rfl
theorem c1 : (hasAnns (nthS pw 0 :: nthS pw 1 :: nthS pw 2 :: nthS pw 3 :: nthS pw 4 :: ds01.map (·.1)) = false) ∧ (docOf (nthS pw 0 :: nthS pw 1 :: nthS pw 2 :: nthS pw 3 :: nthS pw 4 :: ds01.map (·.1)) = none) := ⟨by decide +kernel, by kernel_rfl⟩
theorem c2 : okDef pw (nthS pw 0) "_wall" = true := by decide +kernel
theorem c3 : isName (nthS pw 1) "py65.devices.mpu6502" = true := by decide +kernel
theorem c4 : okClass pw (nthS pw 2) = true := by decide +kernel
theorem c5 : isName (nthS pw 3) "law_lq0010_07" = true := by decide +kernel
theorem c6 : (((dPos (nthS pw 0)).line, (dPos (nthS pw 0)).col) == ((cPos (nthS pw 2)).line, (cPos (nthS pw 2)).col)) = false := by decide +kernel
end Mine.Internal
end
section
open PySem PySem.W PySem.Calls PyProof.Rows PySem.Builtin
namespace Mine.Internal
theorem noLimit_of {h : Heap} (x : h.Ns cStatics (fun _ => none)) : h.NoLimit := ⟨_, x, rfl⟩
structure LawOk (SL : Stmt) (cn : Str) : Prop where
  pars : parsOf (dPars SL) = some [("script" : Str)]
  script : (dScope SL).names.lookup ("script" : Str) = some .local
  co : (dScope SL).isCoroutine = false
  gen : (dScope SL).isGenerator = false
  kind : (dScope SL).kind = .function
  only : ((dScope SL).names.all fun q => (q.2 != .cell && q.2 != .free) || q.1 == cn) = true
  cells : ∀ n, cellsFrom n (dScope SL).names [] = [(cn, n)]
theorem hide_ne0 {h : Heap} {P : Addr} (e : h.get? P = some (tabObj #[])) (b : Addr) (o : Obj) (n : o ≠ tabObj #[]) (e2 : h.get? b = some o) : (h.hide P).get? b = some o :=
  (Heap.hide_ne h fun q : b = P => n (by subst q; rw [e] at e2; exact (Option.some.inj e2).symm)).trans e2
theorem code_ne0 {h h' : Heap} (k : ∀ b o, o ≠ tabObj #[] → h.get? b = some o → h'.get? b = some o) {cd : Value} {q : Str} (x : h.CodeRec cd q) : h'.CodeRec cd q := by
  obtain ⟨c, o, vs, t, e, ho, hd, hv⟩ := x
  refine ⟨c, o, vs, t, e, k c o (fun z => ?_) ho, hd, hv⟩
  rw [z] at hd
  obtain rfl := Data.fields.inj hd
  cases hv
theorem ns_ne0 {h h' : Heap} (k : ∀ b o, o ≠ tabObj #[] → h.get? b = some o → h'.get? b = some o) {a : Addr} {m : Str → Option Value} (x : h.Ns a m) : h'.Ns a m := by
  obtain ⟨o, es, ep, ho, hd, r⟩ := x
  exact ⟨o, es, ep, k a o (fun z => by rw [z] at hd; cases hd) ho, hd, r⟩
theorem cls_ne0 {o : Obj} {v : Value} (e : o.cls = v) (n : v ≠ .none) : o ≠ tabObj #[] := fun z => by rw [z] at e; exact n e.symm
theorem rd_of {p : Program} {ds : List (Stmt × Str)} {Fin : Heap → (Str → Option Value) → Addr → Prop} {st : CSt} {h : Heap} {mg mb : Str → Option Value} {Pl B : Nat} {C ns : Addr} {φ ψ : List Addr} {mc : Str → Option Value} {sa a1 a2 : Addr} (K : Chk p ds st)
    (R : Ready Fin st h mg mb Pl B C ns φ ψ mc sa a1 a2) : ∃ cw tb, h.TableAt cw tb #[] ∧ Rd st (h.hide tb) mg mb B C ns φ ψ mc sa a1 a2 tb := by
  obtain ⟨ps, S⟩ := R.made.sm
  obtain ⟨fi7, hf7, hn7⟩ := Option.map_eq_some_iff.mp K.nm7
  have h7 : 7 < φ.length := by rw [S.flen]; exact (List.getElem?_eq_some_iff.mp hf7).1
  obtain ⟨_, _, ⟨pm, cw, doc, _, _, g1, g2, tb, b3, g3, g4⟩, _⟩ := S.fn 7 φ[7] fi7 (List.getElem?_eq_getElem h7) hf7
  have k := hide_ne0 (h := h) (P := tb) g4.2
  refine ⟨cw, tb, g4, ⟨ns_ne0 k R.g, ns_ne0 k R.b, R.blt, ns_ne0 k R.sts, R.cls, R.oth, ?_, ?_, S.tab, S.flen, fun i a fi e1 e2 => ?_, S.llen, fun i a its e1 e2 => ?_⟩⟩
  · obtain ⟨tn, tq, e⟩ := R.made.cls
    exact ⟨tn, tq, k _ _ (cls_ne0 (v := .type "type") rfl (fun e => nomatch e)) e⟩
  · obtain ⟨es, n, e, r⟩ := R.made.nd
    exact ⟨es, n, k _ _ (cls_ne0 rfl (fun e => nomatch e)) e, r⟩
  · obtain ⟨dV, vs, ⟨pm', c', doc', _, _, e, r, _⟩, q1, q2⟩ := S.fn i a fi e1 e2
    refine ⟨dV, vs, ⟨pm', c', doc', k _ _ (cls_ne0 rfl (fun e => nomatch e)) e, code_ne0 k r⟩, q1, ?_⟩
    rcases q2 with q | ⟨q, T, t1, t2, t3⟩
    · exact .inl q
    · exact .inr ⟨q, T, t1, t2, k _ _ (cls_ne0 rfl (fun e => nomatch e)) t3⟩
  · obtain ⟨vs, b, e, r⟩ := S.lst i a its e1 e2
    exact ⟨vs, b, k _ _ (cls_ne0 rfl (fun e => nomatch e)) e, r⟩
theorem def_ne0 {h h' : Heap} (k : ∀ b o, o ≠ tabObj #[] → h.get? b = some o → h'.get? b = some o) {mg : Str → Option Value} {Pl : Addr} {s : Stmt} {n : Str} (x : DefAt h mg Pl s n) : DefAt h' mg Pl s n :=
  let ⟨a, c', pm, h1, h2, h3, h4, h5⟩ := x; ⟨a, c', pm, h1, k _ _ (cls_ne0 rfl (fun e => nomatch e)) h2, code_ne0 k h3, h4, h5⟩
theorem old_of {h0 h : Heap} {cw tb : Addr} (t : h0.TableAt cw tb #[]) (keep : ∀ b o, (h0.hide tb).get? b = some o → h.get? b = some o) {vs : Array Value} (e : h.get? tb = some (tabObj vs)) : OldK h0 h := by
  have main : ∀ b o, h0.get? b = some o → (b ≠ tb ∧ h.get? b = some o) ∨ (b = tb ∧ o = tabObj #[]) := fun b o g => by
    rcases instDecidableEqNat b tb with q | q
    · exact .inl ⟨q, keep b o ((Heap.hide_ne h0 q).trans g)⟩
    · subst q; exact .inr ⟨rfl, same_some g t.2⟩
  refine ⟨fun b o g => ?_, fun b o g => ?_⟩
  · rcases main b o g with q | ⟨rfl, rfl⟩
    · exact .inl q.2
    · exact .inr (.inl ⟨t.isCodeTable, rfl, #[], vs, rfl, by rw [e]; simp⟩)
  · rcases main b o g with q | ⟨rfl, rfl⟩
    · exact ⟨o, q.2⟩
    · exact ⟨_, e⟩
theorem duty_of {p : Program} {Fin : Heap → (Str → Option Value) → Addr → Prop} {st : CSt} {ds : List (Stmt × Str)} {SL : Stmt} {N : Nat} {cn : Str} {Y : Xt} (K : Chk p ds st) (hds : ∀ h mg Pl, Fin h mg Pl → ∀ d ∈ ds, DefAt h mg Pl d.1 d.2) (hsl : ∀ h mg Pl, Fin h mg Pl → DefAt h mg Pl SL "law")
    (hY : ∀ h mg Pl C φ ψ tb a, Fin h mg Pl → h.Ns mainGlobals mg → h.get? tb = some (tabObj #[]) → ∃ la, XtOk (fragOf (h.hide tb)) (phOf C φ ψ mg ds la tb a) Y) (J : LawOk SL cn)
    (run : ∀ xs : List Int, xs.length ≤ 1048576 → ∃ l H, T.run ((fns (ifc p Y ds xs) N).xs 60 (dScope SL) (dBody SL) [("script", .lst 3)] []) = some (.ret (.bool true), l, H)) : Duty p "law" Fin st := by
  intro w s mg mb Pl B C ns φ ψ mc sa a1 a2 R hg f a o its n xs hf ha hc hd hi hlen
  obtain ⟨ad, c', pm, e1, e2, e3, -, -⟩ := hsl _ _ _ R.fin
  rw [hf] at e1
  obtain rfl := Option.some.inj e1
  obtain ⟨l, H, hr⟩ := run xs hlen
  obtain ⟨cw, tb, ht, Rd⟩ := rd_of K R
  obtain ⟨la, Z⟩ := hY _ _ _ C φ ψ tb a R.fin R.g ht.2
  have kk := hide_ne0 (h := s.heap) (P := tb) ht.2
  have O := kok Rd K (fun d hd => def_ne0 kk (hds _ _ _ R.fin d hd)) Z hlen (kk _ _ (cls_ne0 hc (fun e => nomatch e)) ha) hc hd hi
  have hlim := noLimit_of R.sts
  refine wpAny_call (call_cellsN_ret (name := "law") (params := dPars SL) (body := dBody SL) (scope := dScope SL) (pm := pm) (cd := .ref c') (doc := .none) (binds := [("script", .ref a)]) (by show 1 + claimMargin < recursionLimit; decide +kernel) e2 rfl hlim e3
    (bind_plain (vs := [.ref a]) J.pars rfl rfl (List.nodup_cons.mpr ⟨List.not_mem_nil, List.nodup_nil⟩)) (fun y hy => ?_) (by rw [J.cells]; exact List.nodup_cons.mpr ⟨List.not_mem_nil, List.nodup_nil⟩) (fun h₁ tk cells F W A => ?_) J.co J.gen J.kind)
  · obtain rfl := List.mem_singleton.mp hy
    exact .inl J.script
  rw [J.cells] at A
  obtain ⟨co, rfl, hco⟩ := A.one
  let e0 : Env := { scope := dScope SL, locals := s.heap.objs.size, globals := mainGlobals, cells := [(cn, s.heap.objs.size + 1)], qual := "law" ++ ".<locals>.", func := some ad, code := .ref c', frame := some s.heap.objs.size, builtins := builtinsNs }
  have ee : envOfC "law" (dScope SL) s.heap.objs.size ad (.ref c') = e0 := by unfold envOfC; rw [J.cells]
  let X : Cx := { prog := p, w := w, K := fragOf (s.heap.hide tb), Φ := phOf C φ ψ mg ds la tb a, A₀ := callerA, A := callerA.deeper e0, base := s.heap.hide tb, g := s.heap.hide tb, outer := [], L := s.heap.objs.size, qual := "law", sc := dScope SL, f := ad, cdv := .ref c', dp := 60, cs := some (cn, s.heap.objs.size + 1), gens := s.gens, drawn := s.drawn, os := s.os, fz := none }
  have hcell : ∀ x, ((dScope SL).names.lookup x = some .cell ∨ (dScope SL).names.lookup x = some .free) → ∃ c, X.cs = some (x, c) := fun x e => by
    have e' : ∃ k, (x, k) ∈ (dScope SL).names ∧ (k = .cell ∨ k = .free) := e.elim (fun e => ⟨_, mem_of_lookup_some e, .inl rfl⟩) (fun e => ⟨_, mem_of_lookup_some e, .inr rfl⟩)
    obtain ⟨k, hm, hk⟩ := e'
    have q := List.all_eq_true.mp J.only _ hm
    have q2 : x = cn := by
      rcases hk with rfl | rfl
      · rw [show ((NameKind.cell != NameKind.cell && NameKind.cell != NameKind.free) : Bool) = false from rfl, Bool.false_or, beq_iff_eq] at q; exact q
      · rw [show ((NameKind.free != NameKind.cell && NameKind.free != NameKind.free) : Bool) = false from rfl, Bool.false_or, beq_iff_eq] at q; exact q
    exact ⟨_, congrArg (fun z => some (z, s.heap.objs.size + 1)) q2.symm⟩
  have O' : Fx (ifc p Y ds xs) X := ⟨⟨below_caller (s.heap.hide tb), rfl, frag_in _, noLimit_of Rd.sts, by show 1 + claimMargin + 1 + 60 < recursionLimit; decide +kernel, J.kind, rfl, by show 4 + 3 + 4 * 60 + 100 < cLine; decide +kernel, fun q e => (nomatch e), hcell⟩, O⟩
  have km : bindL (envOfC "law" (dScope SL) s.heap.objs.size ad (.ref c')).kindOf [("script", .ref a)] (fun _ => none) = fun y => if y = ("script" : Str) then some (.ref a) else none := if_pos J.script
  rw [km] at F
  rw [ee]
  have tlt : tb < s.heap.objs.size := Heap.lt_size ht.2
  have F2 : Fr (s.heap.hide tb) s.heap.objs.size h₁ (fun y => if y = ("script" : Str) then some (.ref a) else none) := ⟨F.ns, fun b o e => F.keep b o (Heap.of_hide e), by rw [Heap.hide_size]; exact Nat.le_refl _⟩
  have W0 := W (s.heap.objs.size + 1, co) List.mem_cons_self
  have N2 : News (s.heap.hide tb) s.heap.objs.size h₁ [(s.heap.objs.size + 1, co), (tb, tabObj #[])] := fun q hq => by
    rcases List.mem_cons.mp hq with rfl | hq
    · exact ⟨W0.1, W0.2.1, Heap.get?_none_of_le (by rw [Heap.hide_size]; exact Nat.le_succ _)⟩
    · obtain rfl := List.mem_singleton.mp hq
      exact ⟨F.keep _ _ ht.2, Nat.ne_of_lt tlt, Heap.hide_self _ _⟩
  refine (sound (ifc p Y ds xs) N).xs (X := X) (rest := []) (σ := ⟨h₁, tk, [], _, co, none⟩) (l := [("script", .lst 3)]) (H := []) O' ⟨F2, fun x y ey => ?_, ⟨fun _ => default, N2, ?_, rfl, fun i a ao e => no_some e⟩, ⟨_, hco⟩, fun q e => no_some e⟩ (T.all_of_run (fun σ2 fl p2 C2 r2 => ?_) hr)
  · rw [lookup_cons_eq] at ey
    rcases instDecidableEqStr ("script" : Str) x with q | q
    · rw [if_neg q] at ey; exact no_some ey
    · rw [if_pos q] at ey
      obtain rfl := some_eq ey
      subst q
      exact ⟨.ref a, by unfold Val; rw [show X.sc.names.lookup ("script" : Str) = some .local from J.script]; show (if ("script" : Str) = "script" then some (Value.ref a) else none) = _; exact if_pos rfl, rfl⟩
  · refine List.nodup_cons.mpr ⟨fun z => ?_, List.nodup_cons.mpr ⟨List.not_mem_nil, List.nodup_nil⟩⟩
    have e : s.heap.objs.size + 1 = tb := List.mem_singleton.mp z
    exact Nat.lt_irrefl _ (Nat.lt_trans (Nat.lt_succ_self _) (e ▸ tlt))
  · obtain ⟨v, rfl, rv⟩ := r2
    obtain rfl : v = .bool true := rv
    have tq : ∃ vs, σ2.h.get? tb = some (tabObj vs) := by
      obtain ⟨c0, N0, _⟩ := C2.C
      cases hp : σ2.pt with
      | none => exact ⟨_, (N0 (tb, tabObj #[]) (List.mem_append_right _ (List.mem_append_left _ (List.mem_append_right _ (by rw [hp]; exact List.mem_cons_self))))).1⟩
      | some q => exact ⟨_, (N0 (tb, tabObj #[rawInt 71, rawInt 15, .ref q.1]) (List.mem_append_right _ (List.mem_append_left _ (List.mem_append_right _ (by rw [hp]; exact List.mem_cons_self))))).1⟩
    obtain ⟨vs, hvs⟩ := tq
    exact ⟨rfl, old_of ht C2.F.keep hvs, rfl, by show AllBare s.gens; rw [hg]; exact AllBare.empty⟩
theorem xs_nil {I : Ifc} {n dp : Nat} {sc : Scope} {l : Loc} {H : HP} : T.run ((fns I (n + 1)).xs dp sc [] l H) = some (.next, l, H) := rfl
theorem T.run_bnd {α β : Type} {f : α → T β} : ∀ {t : T α}, T.run (t.bind f) = (T.run t).bind fun a => T.run (f a)
  | .ret _ => rfl
  | .fail => rfl
  | .br true t _ => T.run_bnd (t := t)
  | .br false _ e => T.run_bnd (t := e)
theorem xs_next {I : Ifc} {n dp : Nat} {sc : Scope} {s : Stmt} {r : List Stmt} {l l' : Loc} {H H' : HP} {z : Option (AF × Loc × HP)} (h : T.run (stI I (fns I n) dp sc s l H) = some (.next, l', H')) (k : T.run ((fns I n).xs dp sc r l' H') = z) :
    T.run ((fns I (n + 1)).xs dp sc (s :: r) l H) = z := by
  show T.run ((stI I (fns I n) dp sc s l H).bind _) = z
  rw [T.run_bnd, h]; exact k
theorem xs_ret {I : Ifc} {n dp : Nat} {sc : Scope} {s : Stmt} {r : List Stmt} {l l' : Loc} {H H' : HP} {v : AV} (h : T.run (stI I (fns I n) dp sc s l H) = some (.ret v, l', H')) :
    T.run ((fns I (n + 1)).xs dp sc (s :: r) l H) = some (.ret v, l', H') := by
  show T.run ((stI I (fns I n) dp sc s l H).bind _) = _
  rw [T.run_bnd, h]; rfl
theorem xs_brk {I : Ifc} {n dp : Nat} {sc : Scope} {s : Stmt} {r : List Stmt} {l l' : Loc} {H H' : HP} (h : T.run (stI I (fns I n) dp sc s l H) = some (.brk, l', H')) :
    T.run ((fns I (n + 1)).xs dp sc (s :: r) l H) = some (.brk, l', H') := by
  show T.run ((stI I (fns I n) dp sc s l H).bind _) = _
  rw [T.run_bnd, h]; rfl
end Mine.Internal
end
section
open PySem PySem.W PySem.Calls PyProof.Rows PySem.Builtin
set_option genInjectivity false
set_option genSizeOf false
set_option genSizeOfSpec false
namespace Mine.Internal
noncomputable def tcst (e : Expr) : Option Int := match viewX e with
  | .cst v => v.int?
  | _ => none
noncomputable def tnums : List Expr → Option (List Int)
  | [] => some []
  | e :: r => (tcst e).bind fun i => (tnums r).map (i :: ·)
noncomputable abbrev TRow := List Int × List Int
noncomputable def rowT : List Expr → Option TRow
  | [] => none
  | l :: r => (match viewX l with
    | .list ls => (tnums ls).bind fun a => (tnums r).map fun b => (a, b)
    | _ => none)
noncomputable def trow (e : Expr) : Option TRow := match viewX e with
  | .tup es => rowT es
  | _ => none
noncomputable def trows : List Expr → Option (List TRow)
  | [] => some []
  | e :: r => (trow e).bind fun p => (trows r).map (p :: ·)
noncomputable def ttab (e : Expr) : Option (List TRow) := match viewX e with
  | .list es => trows es
  | _ => none
theorem tcst_of {e : Expr} {i : Int} (h : tcst e = some i) : ∃ k p, e = .Constant (.int i) k p := by
  unfold tcst at h
  have v := viewX_ok e
  generalize viewX e = u at h v
  cases u with
  | cst u => obtain rfl := int?_of h; exact v
  | _ => exact no_some h
noncomputable def ObjAt (Φ : Ph) (h : Heap) (t : Addr) (q : Bool × List AV) : Prop := ∃ vs n, h.get? t = some { cls := .type (if q.1 then "tuple" else "list"), data := .seq (List.toArray vs) n } ∧ RepVs Φ [] vs q.2
noncomputable def RowAt (h : Heap) (t L : Addr) (p : TRow) : Prop := ∃ vs ws, h.get? t = some { cls := .type "tuple", data := .seq (List.toArray (.ref L :: ws)) } ∧ h.get? L = some { cls := .type "list", data := .seq (List.toArray vs) } ∧ IntsAre vs p.1 ∧ IntsAre ws p.2
noncomputable def RowsAt (B : Nat) (h : Heap) : List Addr → List Addr → List TRow → Prop
  | [], [], [] => True
  | t :: ts, L :: Ls, p :: r => B ≤ t ∧ B ≤ L ∧ RowAt h t L p ∧ RowsAt B h ts Ls r
  | _, _, _ => False
theorem RowAt.keep {h h' : Heap} {t L : Addr} {p : TRow} (k : ∀ o, h.get? t = some o → h'.get? t = some o) (k' : ∀ o, h.get? L = some o → h'.get? L = some o) (r : RowAt h t L p) : RowAt h' t L p :=
  let ⟨vs, ws, h1, h2, h3⟩ := r
  ⟨vs, ws, k _ h1, k' _ h2, h3⟩
theorem RowsAt.keep {B : Nat} {h h' : Heap} (k : ∀ b o, B ≤ b → h.get? b = some o → h'.get? b = some o) : ∀ {ts Ls : List Addr} {r : List TRow}, RowsAt B h ts Ls r → RowsAt B h' ts Ls r
  | [], [], [], _ => trivial
  | _ :: _, _ :: _, _ :: _, ⟨h1, h2, h3, h4⟩ => ⟨h1, h2, h3.keep (fun o => k _ o h1) (fun o => k _ o h2), h4.keep k⟩
section
variable {M : Model} {A : Around} {E : Value → Shared → Prop} {env : Env} {pos : Pos}
theorem nums_eval : ∀ {es : List Expr} {its : List Int} {s : Shared} {Q : List Value → Shared → Prop}, tnums es = some its → (∀ vs tk, IntsAre vs its → Q vs { s with toks := tk }) → wpAny M A (spliced (backTo pos (starEach es env))) Q E s
  | [], its, s, Q, e, h => by
    obtain rfl := some_eq e
    exact args_nil (h [] s.toks .nil)
  | e :: r, its, s, Q, he, h => by
    obtain ⟨i, h1, h2⟩ := Option.bind_eq_some_iff.mp he
    obtain ⟨is, h3, rfl⟩ := Option.map_eq_some_iff.mp h2
    obtain ⟨k, p, rfl⟩ := tcst_of h1
    exact args_cons (wpAny_Constant_int (nums_eval h3 fun vs tk q => h _ tk (.cons i _ q)))
theorem ints_len : ∀ {vs : List Value} {xs : List Int}, IntsAre vs xs → vs.length = xs.length
  | _, _, .nil => rfl
  | _, _, .cons _ _ h => congrArg (· + 1) (ints_len h)
theorem row_eval {e : Expr} {p : TRow} {s : Shared} {Q : Value → Shared → Prop} (he : trow e = some p) (hz : p.1.length ≤ 1000 ∧ p.2.length ≤ 1000)
    (h : ∀ h' tk t L, s.heap.objs.size ≤ t → s.heap.objs.size ≤ L → s.heap.objs.size ≤ h'.objs.size → RowAt h' t L p → (∀ b o, s.heap.get? b = some o → h'.get? b = some o) → Q (.ref t) { s with heap := h', toks := tk }) : wpAny M A (eval e env) Q E s := by
  unfold trow at he
  have v := viewX_ok e
  generalize viewX e = u at he v
  cases u with
  | tup es =>
    obtain ⟨k, q, rfl, hs⟩ := v
    cases es with
    | nil => exact no_some he
    | cons l r =>
      replace he : (match viewX l with | .list ls => (tnums ls).bind fun a => (tnums r).map fun b => (a, b) | _ => none) = some p := he
      have v2 := viewX_ok l
      generalize viewX l = u2 at he v2
      cases u2 with
      | list ls =>
        obtain ⟨q2, rfl, hs2⟩ := v2
        obtain ⟨a, h1, h2⟩ := Option.bind_eq_some_iff.mp he
        obtain ⟨b, h3, rfl⟩ := Option.map_eq_some_iff.mp h2
        refine Tuple_ (args_cons (List_ (nums_eval h1 fun vs tk va => ?_)))
        unfold newList
        refine wpAny_newObj_type ?_ (by show vs.toArray.size ≤ sizeLine; rw [List.size_toArray, ints_len va]; exact Nat.le_trans hz.1 (by decide))
        refine nums_eval h3 fun ws tk2 wa => ?_
        unfold newTuple
        refine wpAny_newObj_type ?_ (by show (Value.ref _ :: ws).toArray.size ≤ sizeLine; rw [List.size_toArray, List.length_cons, ints_len wa]; exact Nat.le_trans (Nat.succ_le_succ hz.2) (by decide))
        refine h _ _ _ s.heap.objs.size ?_ (Nat.le_refl _) (by rw [Heap.size_push, Heap.size_push]; exact Nat.le_succ_of_le (Nat.le_succ _)) ⟨vs, ws, Heap.get?_push_size _ rfl, Heap.get?_push_of_some _ (Heap.get?_push_size _ rfl), va, wa⟩ fun b o e => Heap.get?_push_of_some _ (Heap.get?_push_of_some _ e)
        show s.heap.objs.size ≤ (s.heap.push _).objs.size
        rw [Heap.size_push]; exact Nat.le_succ _
      | _ => exact no_some he
  | _ => exact no_some he
theorem rows_eval : ∀ {es : List Expr} {rs : List TRow} {s : Shared} {Q : List Value → Shared → Prop}, trows es = some rs → es.all notStar = true → (∀ p ∈ rs, p.1.length ≤ 1000 ∧ p.2.length ≤ 1000) → 
    (∀ h' tk ts Ls, s.heap.objs.size ≤ h'.objs.size → RowsAt s.heap.objs.size h' ts Ls rs → (∀ b o, s.heap.get? b = some o → h'.get? b = some o) → Q (ts.map .ref) { s with heap := h', toks := tk }) → wpAny M A (spliced (backTo pos (starEach es env))) Q E s
  | [], rs, s, Q, e, _, _, h => by
    obtain rfl := some_eq e
    exact args_nil (h s.heap s.toks [] [] (Nat.le_refl _) trivial fun _ _ e => e)
  | e :: r, rs, s, Q, he, hs, hz, h => by
    obtain ⟨p, h1, h2⟩ := Option.bind_eq_some_iff.mp he
    obtain ⟨ps, h3, rfl⟩ := Option.map_eq_some_iff.mp h2
    rw [List.all_cons, Bool.and_eq_true] at hs
    refine args_cons (row_eval h1 (hz p List.mem_cons_self) fun h' tk t L b1 b2 le ra k => ?_) (star_of hs.1)
    refine rows_eval h3 hs.2 (fun q hq => hz q (List.mem_cons_of_mem _ hq)) fun h2 tk2 ts Ls le2 rs' k2 => ?_
    have low : ∀ {ts Ls : List Addr} {q : List TRow}, RowsAt h'.objs.size h2 ts Ls q → RowsAt s.heap.objs.size h2 ts Ls q := by
      intro ts
      induction ts with
      | nil => intro Ls q h; cases Ls <;> cases q <;> first | exact trivial | exact h.elim
      | cons t ts ih => 
        intro Ls q h
        cases Ls with
        | nil => exact h.elim
        | cons L Ls =>
          cases q with
          | nil => exact h.elim
          | cons p q => exact ⟨Nat.le_trans le h.1, Nat.le_trans le h.2.1, h.2.2.1, ih h.2.2.2⟩
    exact h h2 tk2 (t :: ts) (L :: Ls) (Nat.le_trans le le2) ⟨b1, b2, ra.keep (fun o => k2 _ o) (fun o => k2 _ o), low rs'⟩ fun b o e => k2 b o (k b o e)
end
noncomputable def TabAt (x : Str) (rs : List TRow) (h : Heap) (mg : Str → Option Value) (Pl : Addr) : Prop := ∃ a B ts Ls, mg x = some (.ref a) ∧ Pl < B ∧ mainGlobals < B ∧ B ≤ a ∧ h.get? a = some { cls := .type "list", data := .seq (List.toArray (ts.map Value.ref)) } ∧ RowsAt B h ts Ls rs
theorem TabAt.keep {x : Str} {rs : List TRow} {h h' : Heap} {mg mg' : Str → Option Value} {Pl : Addr} (T : TabAt x rs h mg Pl) (k : ∀ b o, b ≠ Pl → b ≠ mainGlobals → h.get? b = some o → h'.get? b = some o) (e : mg' x = mg x) : TabAt x rs h' mg' Pl := by
  obtain ⟨a, B, ts, Ls, h1, h2, h3, h4, h5, h6⟩ := T
  have kk : ∀ b o, B ≤ b → h.get? b = some o → h'.get? b = some o := fun b o hb => k b o (Nat.ne_of_gt (Nat.lt_of_lt_of_le h2 hb)) (Nat.ne_of_gt (Nat.lt_of_lt_of_le h3 hb))
  exact ⟨a, B, ts, Ls, e.trans h1, h2, h3, h4, kk _ _ h4 h5, h6.keep kk⟩
section
variable {prog : Program} {w : World} {A : Around} {E : Value → Shared → Prop} {c Pl F : Addr} {h₀ : Heap} {mg₀ mb : Str → Option Value} {s : Shared}
theorem one_tab {x : Str} {e : Expr} {p1 pos : Pos} {rs : List TRow} {mg : Str → Option Value} {ps : Array Value} {pp : List (Nat × Nat)} {nms : List Str} {Q : Flow → Shared → Prop} (hr : ttab e = some rs) (hz : ∀ p ∈ rs, p.1.length ≤ 1000 ∧ p.2.length ≤ 1000) (hn : rs.length ≤ 1000) (hmod : prog.main.scope.kind = .module) (hloc : prog.main.scope.names.lookup x = some .local) (hb : (("__builtins__" : Str) == x) = false) (T : TopS h₀ s.heap mg₀ mg mb c Pl ps pp nms)
    (h : ∀ h' tk mg', TopS h₀ h' mg₀ mg' mb c Pl ps pp (x :: nms) → TabAt x rs h' mg' Pl → (∀ y, (y == x) = false → mg' y = mg y) → (∀ b o, b ≠ Pl → b ≠ mainGlobals → s.heap.get? b = some o → h'.get? b = some o) → Q .next { s with heap := h', toks := tk }) :
    wpAny (model prog w) A (exec (.Assign [.Name x p1] e pos) (mainEnv prog c F)) Q E s := by
  unfold ttab at hr
  have v := viewX_ok e
  generalize viewX e = u at hr v
  cases u with
  | list es =>
    obtain ⟨q, rfl, hs⟩ := v
    refine wpAny_Assign_Name (List_ (rows_eval hr hs hz fun h1 tk ts Ls hle ra k => ?_))
    unfold newList
    have rl : ∀ {B : Nat} {h : Heap} {ts Ls : List Addr} {r : List TRow}, RowsAt B h ts Ls r → ts.length = r.length := by
      intro B h ts
      induction ts with
      | nil => intro Ls r h; cases Ls <;> cases r <;> first | rfl | exact h.elim
      | cons t ts ih =>
        intro Ls r h
        cases Ls with
        | nil => exact h.elim
        | cons L Ls =>
          cases r with
          | nil => exact h.elim
          | cons p r => exact congrArg (· + 1) (ih h.2.2.2)
    refine wpAny_newObj_type ?_ (by show (ts.map Value.ref).toArray.size ≤ sizeLine; rw [List.size_toArray, List.length_map, rl ra]; exact Nat.le_trans hn (by decide))
    have k1 : ∀ b o, h1.get? b = some o → (h1.push { cls := .type "list", data := .seq (ts.map Value.ref).toArray }).get? b = some o := fun b o e => Heap.get?_push_of_some _ e
    have hp : Pl < s.heap.objs.size := T.main.code.lt.2
    have hg : mainGlobals < s.heap.objs.size := T.main.g.lt
    refine store_main (s := { s with heap := h1.push { cls := .type "list", data := .seq (ts.map Value.ref).toArray }, toks := tk }) hmod hloc hb (T.main.keeps fun b o e => k1 b o (k b o e)) fun h' hm' hs' => ?_
    have k2 : ∀ b o, b ≠ mainGlobals → (h1.push { cls := .type "list", data := .seq (ts.map Value.ref).toArray }).get? b = some o → h'.get? b = some o := fun b o n e => (hs'.2 b n).trans e
    refine h h' _ _ (T.step hm' T.pl (fun b o _ n e => k2 b o n (k1 b o (k b o e))) fun y hy => if_other hy) ⟨h1.objs.size, s.heap.objs.size, ts, Ls, if_pos rfl, hp, hg, hle, k2 _ _ (Nat.ne_of_gt (Nat.lt_of_lt_of_le hg hle)) (Heap.get?_push_size _ rfl), ra.keep fun b o hb e => k2 _ _ (Nat.ne_of_gt (Nat.lt_of_lt_of_le hg hb)) (k1 _ _ e)⟩ (fun y hy => if_other hy) fun b o _ n e => k2 b o n (k1 b o (k b o e))
  | _ => exact no_some hr
end
end Mine.Internal
end
section
open PySem PySem.W PySem.Calls PyProof.Rows PySem.Builtin
namespace Mine.Internal
noncomputable def tabS (S : Stmt) : Option (Str × Expr) := match viewS S with
  | .asg t v => (match viewE t with
    | .name x => some (x, v)
    | _ => none)
  | _ => none
noncomputable def tabR (S : Stmt) : Option (Str × List TRow) := (tabS S).bind fun q => (ttab q.2).map (q.1, ·)
theorem tabR_of {S : Stmt} {x : Str} {rs : List TRow} (h : tabR S = some (x, rs)) : ∃ p1 e pos, S = .Assign [.Name x p1] e pos ∧ ttab e = some rs := by
  obtain ⟨⟨y, e⟩, h1, h2⟩ := Option.bind_eq_some_iff.mp h
  obtain ⟨rs', h3, h4⟩ := Option.map_eq_some_iff.mp h2
  obtain rfl : y = x := congrArg Prod.fst h4
  obtain rfl : rs' = rs := congrArg Prod.snd h4
  unfold tabS at h1
  split at h1
  · rename_i t v hv
    obtain ⟨p, rfl⟩ := viewS_of hv
    split at h1
    · rename_i x hx
      obtain ⟨p1, rfl⟩ := viewE_of hx
      cases h1
      exact ⟨_, _, _, rfl, h3⟩
    · exact no_some h1
  · exact no_some h1
theorem walk_tab {prog : Program} {w : World} {S : Stmt} {x : Str} {rs : List TRow} {ds : List (Stmt × Str)} {pp : List (Nat × Nat)} (hS : tabR S = some (x, rs)) (hz : ∀ p ∈ rs, p.1.length ≤ 1000 ∧ p.2.length ≤ 1000) (hn : rs.length ≤ 1000) (hloc : prog.main.scope.names.lookup x = some .local) (hb : (("__builtins__" : Str) == x) = false)
    (hmod : prog.main.scope.kind = .module) (ok : (ds.all fun d => okDef prog d.1 d.2) = true) (np : decide ((pp ++ ds.map fun d => ((dPos d.1).line, (dPos d.1).col)).Nodup) = true) (nn : decide ((("MPU" : Str) :: x :: ds.map (·.2)).Nodup) = true) :
    Walk prog w (S :: ds.map (·.1)) pp ((ds.map (·.2)).reverse ++ (x :: [("__name__" : Str), "MPU", "__name__", "_wall"])) (fun h mg Pl => (∀ d ∈ ds, DefAt h mg Pl d.1 d.2) ∧ TabAt x rs h mg Pl) := by
  intro A E s c Pl F h₀ mg₀ mb mg ps Q T h
  obtain ⟨n1, n2⟩ := List.nodup_cons.mp (of_decide_eq_true nn)
  obtain ⟨n3, n4⟩ := List.nodup_cons.mp n2
  rw [List.mem_cons, not_or] at n1
  obtain ⟨p1, e, pos, rfl, he⟩ := tabR_of hS
  refine wpAny_execs_cons (one_tab he hz hn hmod hloc hb T fun h' tk mg' T' tab' s' k' => ?_)
  exact defs_ok hmod (fun d hd => List.all_eq_true.mp ok d hd) (of_decide_eq_true np) n4 T' fun h2 tk2 mg2 ps2 pp2 T2 D2 s2 k2 => h h2 tk2 mg2 ps2 pp2 T2 ⟨D2, tab'.keep k2 (s2 _ n3)⟩ (fun b o m1 m2 e => k2 b o m1 m2 (k' b o m1 m2 e)) ((s2 _ n1.2).trans (s' _ (beq_eq_false_iff_ne.mpr n1.1)))
noncomputable def lstsY : Nat → Nat → List AV
  | _, 0 => []
  | i, n + 1 => .lst (i + 1 + 4) :: lstsY (i + 1) n
noncomputable def tupsY (n : Nat) : Nat → List TRow → List (Bool × List AV)
  | _, [] => []
  | i, p :: r => (true, .lst (n + i + 1 + 4) :: p.2.map .int) :: tupsY n (i + 1) r
noncomputable def lsY (rs : List TRow) : List (Bool × List AV) := (false, lstsY 0 rs.length) :: (tupsY rs.length 0 rs ++ rs.map fun p => (false, p.1.map AV.int))
noncomputable def yOf (x : Str) (rs : List TRow) : Xt := ⟨[(x, .lst 4)], lsY rs⟩
section
variable {Φ : Ph} {h : Heap} {B : Nat}
noncomputable def AllAt (Φ : Ph) (h : Heap) (as : List Addr) (es : List (Bool × List AV)) : Prop := ∀ (k : Nat) (q : Bool × List AV), es[k]? = some q → ∃ t, as[k]? = some t ∧ ObjAt Φ h t q
theorem AllAt.nil : AllAt Φ h [] [] := fun _ _ e => no_some e
theorem AllAt.cons {a : Addr} {q : Bool × List AV} {as : List Addr} {es : List (Bool × List AV)} (h1 : ObjAt Φ h a q) (h2 : AllAt Φ h as es) : AllAt Φ h (a :: as) (q :: es)
  | 0, r, e => by obtain rfl := some_eq e; exact ⟨a, rfl, h1⟩
  | k + 1, r, e => h2 k r e
theorem AllAt.app : ∀ {as as' : List Addr} {es es' : List (Bool × List AV)}, as.length = es.length → AllAt Φ h as es → AllAt Φ h as' es' → AllAt Φ h (as ++ as') (es ++ es')
  | [], _, [], _, _, _, h2 => h2
  | [], _, _ :: _, _, e, _, _ => absurd e (Nat.succ_ne_zero _).symm
  | _ :: _, _, [], _, e, _, _ => absurd e (Nat.succ_ne_zero _)
  | a :: as, as', q :: es, es', e, h1, h2 => by
    obtain ⟨t, e1, e2⟩ := h1 0 q rfl
    obtain rfl := some_eq e1
    exact AllAt.cons e2 (AllAt.app (Nat.succ.inj e) (fun k r e => h1 (k + 1) r e) h2)
theorem reps_lsts : ∀ {ts : List Addr} {i n : Nat}, ts.length = n → (∀ j t, ts[j]? = some t → Φ.lst (i + j + 1 + 4) = t) → RepVs Φ [] (ts.map Value.ref) (lstsY i n)
  | [], _, 0, _, _ => trivial
  | [], _, _ + 1, e, _ => absurd e (Nat.succ_ne_zero _).symm
  | _ :: _, _, 0, e, _ => absurd e (Nat.succ_ne_zero _)
  | t :: ts, i, n + 1, e, k => ⟨congrArg Value.ref (k 0 t rfl).symm, reps_lsts (Nat.succ.inj e) fun j u z => by have := k (j + 1) u z; rwa [show i + (j + 1) = i + 1 + j by lia] at this⟩
theorem rows_len : ∀ {ts Ls : List Addr} {rs : List TRow}, RowsAt B h ts Ls rs → ts.length = rs.length ∧ Ls.length = rs.length
  | [], [], [], _ => ⟨rfl, rfl⟩
  | _ :: _, _ :: _, _ :: _, ⟨_, _, _, r⟩ => ⟨congrArg (· + 1) (rows_len r).1, congrArg (· + 1) (rows_len r).2⟩
theorem rows_tups {n : Nat} : ∀ {ts Ls : List Addr} {rs : List TRow} {i : Nat}, RowsAt B h ts Ls rs → (∀ j L, Ls[j]? = some L → Φ.lst (n + (i + j) + 1 + 4) = L) → AllAt Φ h ts (tupsY n i rs)
  | [], [], [], _, _, _ => AllAt.nil
  | t :: ts, L :: Ls, p :: rs, i, ⟨_, _, ⟨vs, ws, h1, _, _, h4⟩, r⟩, k => AllAt.cons ⟨Value.ref L :: ws, _, h1, congrArg Value.ref (k 0 L rfl).symm, repIts_ints h4⟩ (rows_tups r fun j u z => by have := k (j + 1) u z; rwa [show i + (j + 1) = i + 1 + j by lia] at this)
theorem rows_lists : ∀ {ts Ls : List Addr} {rs : List TRow}, RowsAt B h ts Ls rs → AllAt Φ h Ls (rs.map fun p => (false, p.1.map AV.int))
  | [], [], [], _ => AllAt.nil
  | _ :: _, _ :: _, _ :: _, ⟨_, _, ⟨vs, _, _, h2, h3, _⟩, r⟩ => AllAt.cons ⟨vs, _, h2, repIts_ints h3⟩ (rows_lists r)
theorem tups_len {n : Nat} : ∀ {rs : List TRow} {i : Nat}, (tupsY n i rs).length = rs.length
  | [], _ => rfl
  | _ :: _, _ => congrArg (· + 1) tups_len
theorem lsts_len : ∀ {n i : Nat}, (lstsY i n).length = n
  | 0, _ => rfl
  | _ + 1, _ => congrArg (· + 1) lsts_len
theorem tups_in {n : Nat} {q : Bool × List AV} : ∀ {rs : List TRow} {i : Nat}, q ∈ tupsY n i rs → ∃ p ∈ rs, q.2.length = p.2.length + 1
  | [], _, e => absurd e List.not_mem_nil
  | p :: rs, i, e => by
    rcases List.mem_cons.mp e with rfl | e
    · exact ⟨p, List.mem_cons_self, congrArg (· + 1) (List.length_map ..)⟩
    · obtain ⟨p', h1, h2⟩ := tups_in e
      exact ⟨p', List.mem_cons_of_mem _ h1, h2⟩
end
theorem xt_of {x : Str} {rs : List TRow} {h : Heap} {mg : Str → Option Value} {Pl C : Addr} {φ ψ : List Addr} {ds : List (Stmt × Str)} {tb a : Addr} (hz : ∀ p ∈ rs, p.1.length ≤ 1000 ∧ p.2.length ≤ 1000) (hn : rs.length ≤ 1000) (T : TabAt x rs h mg Pl) (hg : h.Ns mainGlobals mg) (ht : h.get? tb = some (tabObj #[])) :
    ∃ la, XtOk (fragOf (h.hide tb)) (phOf C φ ψ mg ds la tb a) (yOf x rs) := by
  obtain ⟨l, B, ts, Ls, h1, _, _, _, h5, h6⟩ := T
  refine ⟨fun k => (l :: (ts ++ Ls)).getD (k - 4) 0, ?_⟩
  generalize hΦ : phOf C φ ψ mg ds (fun k => (l :: (ts ++ Ls)).getD (k - 4) 0) tb a = Φ
  have lst : ∀ k, Φ.lst (k + 4) = (l :: (ts ++ Ls)).getD k 0 := fun k => by rw [← hΦ]; rfl
  obtain ⟨l1, l2⟩ := rows_len h6
  have ats : ∀ j t, ts[j]? = some t → Φ.lst (j + 1 + 4) = t := fun j t e => by
    rw [lst, List.getD_eq_getElem?_getD, List.getElem?_cons_succ, List.getElem?_append_left (List.getElem?_eq_some_iff.mp e).1, e]; rfl
  have aLs : ∀ j L, Ls[j]? = some L → Φ.lst (rs.length + j + 1 + 4) = L := fun j t e => by
    rw [lst, List.getD_eq_getElem?_getD, List.getElem?_cons_succ, List.getElem?_append_right (by lia), show rs.length + j - ts.length = j by lia, e]; rfl
  have all : AllAt Φ h (l :: (ts ++ Ls)) (lsY rs) := AllAt.cons ⟨ts.map Value.ref, _, h5, reps_lsts l1 fun j t e => by rw [Nat.zero_add]; exact ats j t e⟩
    (AllAt.app (by rw [tups_len, l1]) (rows_tups h6 fun j L e => by rw [Nat.zero_add]; exact aLs j L e) (rows_lists h6))
  have kk := hide_ne0 (h := h) (P := tb) ht
  refine ⟨fun y v e => ?_, fun k q e => ?_, fun k q e => ?_⟩
  · replace e : ([(x, AV.lst 4)] : List (Str × AV)).lookup y = some v := e
    rw [List.lookup_cons] at e
    cases hy : y == x with
    | false => rw [hy] at e; exact no_some e
    | true =>
      rw [hy] at e
      obtain rfl := some_eq e
      obtain rfl := beq_iff_eq.mp hy
      refine ⟨.ref l, .inl ?_, congrArg Value.ref (lst 0).symm⟩
      rw [frag_nsw (ns_ne0 kk hg), h1]
  · obtain ⟨t, e1, vs, n, e2, e3⟩ := all k q e
    refine ⟨vs, n, ?_, e3⟩
    rw [lst, List.getD_eq_getElem?_getD, e1]
    show (fragOf (h.hide tb)).lookup t = _
    rw [frag_lookup]
    refine kk _ _ (cls_ne0 rfl ?_) e2
    cases q.1 <;> exact fun z => nomatch z
  · rcases List.mem_cons.mp (List.mem_of_getElem? e) with rfl | m
    · show (lstsY 0 rs.length).length ≤ _
      rw [lsts_len]; lia
    · rcases List.mem_append.mp m with m | m
      · obtain ⟨p, m1, m2⟩ := tups_in m
        have := (hz p m1).2
        lia
      · obtain ⟨p, m1, rfl⟩ := List.mem_map.mp m
        have := (hz p m1).1
        show (p.1.map AV.int).length ≤ _
        rw [List.length_map]; lia
end Mine.Internal
end
section
open PySem PySem.W PySem.Calls PyProof.Rows PySem.Builtin
set_option maxHeartbeats 1000000
namespace Mine.Internal
theorem run01' : (clsRun (cScope (nthS pw 2)) (cBody (nthS pw 2)) (st0 "py65.devices.mpu6502" (cPos (nthS pw 2)).line)).map (fun z => (tabQ z.tab, z.fns.map (fun f => (f.params, f.body, f.scope)), z.lsts, (z.fns[7]?).map (·.name))) = some (true, fnsOf pw, [lst0, lst1, lst2], some ("WrapAt" : Str)) := by kernel_rfl
noncomputable def st01 : CSt := (clsRun (cScope (nthS pw 2)) (cBody (nthS pw 2)) (st0 "py65.devices.mpu6502" (cPos (nthS pw 2)).line)).getD ⟨[], [], [], 0⟩
theorem c8' : clsRun (cScope (nthS pw 2)) (cBody (nthS pw 2)) (st0 "py65.devices.mpu6502" (cPos (nthS pw 2)).line) = some st01 ∧ okCls st01 = true ∧ bools st01 = true ∧ st01.fns.map (fun f => (f.params, f.body, f.scope)) = fnsOf pw ∧ st01.lsts = [lst0, lst1, lst2] ∧ (st01.fns[7]?).map (·.name) = some ("WrapAt" : Str) := by
  obtain ⟨st, e, h⟩ := st_of run01'
  have : st01 = st := by unfold st01; rw [e]; rfl
  rw [this]; exact ⟨e, h⟩
theorem c8 : clsRun (cScope (nthS pw 2)) (cBody (nthS pw 2)) (st0 "py65.devices.mpu6502" (cPos (nthS pw 2)).line) = some st01 ∧ okCls st01 = true := ⟨c8'.1, c8'.2.1⟩
theorem c9 : (ds01.all fun d => okDef pw d.1 d.2) = true := by decide +kernel
theorem c10 : decide (([((dPos (nthS pw 0)).line, (dPos (nthS pw 0)).col), ((cPos (nthS pw 2)).line, (cPos (nthS pw 2)).col)] ++ ds01.map fun d => ((dPos d.1).line, (dPos d.1).col)).Nodup) = true := by decide +kernel
theorem c11 : decide ((("MPU" : Str) :: "_law_pairs" :: ds01.map (·.2)).Nodup) = true := by decide +kernel
theorem c12 : pw.theDef "law" = some (dPars (nthS pw 6), dBody (nthS pw 6), dScope (nthS pw 6)) := by kernel_rfl
theorem promised : PySem.Challenge.rw_lq0010_07.row.toRowW.promised := ⟨[.list []], by decide +kernel, by decide +kernel⟩
noncomputable def rs07 : List TRow := ((tabR (nthS pw 4)).map (·.2)).getD []
theorem c13 : (tabR (nthS pw 4)).map (·.1) = some ("_law_pairs" : Str) := by kernel_rfl
theorem c14 : tabR (nthS pw 4) = some (("_law_pairs" : Str), rs07) := by
  obtain ⟨q, h1, h2⟩ := Option.map_eq_some_iff.mp c13
  unfold rs07
  rw [h1, ← h2]; rfl
theorem c15 : (rs07.all fun p => decide (p.1.length ≤ 1000) && decide (p.2.length ≤ 1000)) = true ∧ rs07.length = 34 := ⟨by kernel_rfl, by kernel_rfl⟩
theorem c16 : ∀ p ∈ rs07, p.1.length ≤ 1000 ∧ p.2.length ≤ 1000 := fun p hp => by
  have := List.all_eq_true.mp c15.1 p hp
  rw [Bool.and_eq_true] at this
  exact ⟨of_decide_eq_true this.1, of_decide_eq_true this.2⟩
theorem c17 : rs07.length ≤ 1000 := by rw [c15.2]; decide
theorem c18 : pw.main.scope.names.lookup ("_law_pairs" : Str) = some .local := by kernel_rfl
theorem c19 : pw.main.scope.kind = .module := by kernel_rfl
theorem c20 : (("__builtins__" : Str) == ("_law_pairs" : Str)) = false := by decide +kernel
end Mine.Internal
end
section
open PySem PySem.W PySem.Calls PyProof.Rows PySem.Builtin
set_option maxHeartbeats 1000000
namespace Mine.Internal
theorem walk1 (w : World) : Walk pw w (nthS pw 4 :: ds01.map (·.1)) [((dPos (nthS pw 0)).line, (dPos (nthS pw 0)).col), ((cPos (nthS pw 2)).line, (cPos (nthS pw 2)).col)] ((ds01.map (·.2)).reverse ++ (("_law_pairs" : Str) :: [("__name__" : Str), "MPU", "__name__", "_wall"])) (fun h mg Pl => (∀ d ∈ ds01, DefAt h mg Pl d.1 d.2) ∧ TabAt "_law_pairs" rs07 h mg Pl) :=
  @walk_tab pw w (nthS pw 4) "_law_pairs" rs07 ds01 [((dPos (nthS pw 0)).line, (dPos (nthS pw 0)).col), ((cPos (nthS pw 2)).line, (cPos (nthS pw 2)).col)] c14 c16 c17 c18 c20 c19 c9 c10 c11
theorem ep : (PySem.Challenge.rw_lq0010_07).prog = pw := rfl
noncomputable abbrev Fin07 (h : Heap) (mg : Str → Option Value) (Pl : Addr) : Prop := (∀ d ∈ ds01, DefAt h mg Pl d.1 d.2) ∧ TabAt "_law_pairs" rs07 h mg Pl
theorem walk2 : ∀ w : World, Walk (PySem.Challenge.rw_lq0010_07).prog w (nthS pw 4 :: ds01.map (·.1)) [((dPos (nthS pw 0)).line, (dPos (nthS pw 0)).col), ((cPos (nthS pw 2)).line, (cPos (nthS pw 2)).col)] ((ds01.map (·.2)).reverse ++ (("_law_pairs" : Str) :: [("__name__" : Str), "MPU", "__name__", "_wall"])) (fun h mg Pl => (∀ d ∈ ds01, DefAt h mg Pl d.1 d.2) ∧ TabAt "_law_pairs" rs07 h mg Pl) := by
  rw [ep]
  exact @walk1
theorem law01 (duty : Duty pw "law" Fin07 st01) : PySem.Challenge.rw_lq0010_07.Holds :=
  law_holds (l := PySem.Challenge.rw_lq0010_07) (SL := nthS pw 6) (st := st01) (Fin := fun h mg Pl => (∀ d ∈ ds01, DefAt h mg Pl d.1 d.2) ∧ TabAt "_law_pairs" rs07 h mg Pl) (nms := (ds01.map (·.2)).reverse ++ (("_law_pairs" : Str) :: [("__name__" : Str), "MPU", "__name__", "_wall"])) ws bare how promised rfl (by kernel_rfl) rfl (fun s => by kernel_rfl) body01 c1.1 c1.2 (by kernel_rfl) c2 c3 c4 c5 c6 c8.1 c8.2
    @walk2 (by decide +kernel) (by decide +kernel) (by decide +kernel) (by decide +kernel) (fun h h' mg Pl x k => ⟨fun d hd => (x.1 d hd).keep (fun b o _ _ e => k b o e) rfl, x.2.keep (fun b o _ _ e => k b o e) rfl⟩) (fun h mg Pl x => x.1 (nthS pw 6, "law") (by simp [ds01])) c12 (List.all_eq_true.mp c9 (nthS pw 6, "law") (by simp [ds01])) duty
end Mine.Internal
end
section
open PySem PySem.W PySem.Calls PyProof.Rows PySem.Builtin
namespace Mine.Internal
theorem sA9 (Y : Xt) (ds : List (Stmt × Str)) (xs : List Int) : Spec pw Y ds xs 169 eA9 := fun n c => by kernel_rfl
theorem sA2 (Y : Xt) (ds : List (Stmt × Str)) (xs : List Int) : Spec pw Y ds xs 162 eA2 := fun n c => by kernel_rfl
theorem sA0 (Y : Xt) (ds : List (Stmt × Str)) (xs : List Int) : Spec pw Y ds xs 160 eA0 := fun n c => by kernel_rfl
theorem s69 (Y : Xt) (ds : List (Stmt × Str)) (xs : List Int) : Spec pw Y ds xs 105 e69 := fun n c => by kernel_rfl
theorem sE9 (Y : Xt) (ds : List (Stmt × Str)) (xs : List Int) : Spec pw Y ds xs 233 eE9 := fun n c => by kernel_rfl
theorem s29 (Y : Xt) (ds : List (Stmt × Str)) (xs : List Int) : Spec pw Y ds xs 41 e29 := fun n c => by kernel_rfl
theorem s09 (Y : Xt) (ds : List (Stmt × Str)) (xs : List Int) : Spec pw Y ds xs 9 e09 := fun n c => by kernel_rfl
theorem s49 (Y : Xt) (ds : List (Stmt × Str)) (xs : List Int) : Spec pw Y ds xs 73 e49 := fun n c => by kernel_rfl
theorem sC9 (Y : Xt) (ds : List (Stmt × Str)) (xs : List Int) : Spec pw Y ds xs 201 eC9 := fun n c => by kernel_rfl
theorem s65 (Y : Xt) (ds : List (Stmt × Str)) (xs : List Int) : Spec pw Y ds xs 101 e65 := fun n c => by kernel_rfl
theorem s6D (Y : Xt) (ds : List (Stmt × Str)) (xs : List Int) : Spec pw Y ds xs 109 e6D := fun n c => by kernel_rfl
theorem sE5 (Y : Xt) (ds : List (Stmt × Str)) (xs : List Int) : Spec pw Y ds xs 229 eE5 := fun n c => by kernel_rfl
theorem sED (Y : Xt) (ds : List (Stmt × Str)) (xs : List Int) : Spec pw Y ds xs 237 eED := fun n c => by kernel_rfl
theorem s25 (Y : Xt) (ds : List (Stmt × Str)) (xs : List Int) : Spec pw Y ds xs 37 e25 := fun n c => by kernel_rfl
theorem s2D (Y : Xt) (ds : List (Stmt × Str)) (xs : List Int) : Spec pw Y ds xs 45 e2D := fun n c => by kernel_rfl
theorem s05 (Y : Xt) (ds : List (Stmt × Str)) (xs : List Int) : Spec pw Y ds xs 5 e05 := fun n c => by kernel_rfl
theorem s0D (Y : Xt) (ds : List (Stmt × Str)) (xs : List Int) : Spec pw Y ds xs 13 e0D := fun n c => by kernel_rfl
theorem s45 (Y : Xt) (ds : List (Stmt × Str)) (xs : List Int) : Spec pw Y ds xs 69 e45 := fun n c => by kernel_rfl
theorem s4D (Y : Xt) (ds : List (Stmt × Str)) (xs : List Int) : Spec pw Y ds xs 77 e4D := fun n c => by kernel_rfl
theorem sE6 (Y : Xt) (ds : List (Stmt × Str)) (xs : List Int) : Spec pw Y ds xs 230 eE6 := fun n c => by kernel_rfl
theorem sEE (Y : Xt) (ds : List (Stmt × Str)) (xs : List Int) : Spec pw Y ds xs 238 eEE := fun n c => by kernel_rfl
theorem sC6 (Y : Xt) (ds : List (Stmt × Str)) (xs : List Int) : Spec pw Y ds xs 198 eC6 := fun n c => by kernel_rfl
theorem sCE (Y : Xt) (ds : List (Stmt × Str)) (xs : List Int) : Spec pw Y ds xs 206 eCE := fun n c => by kernel_rfl
theorem s26 (Y : Xt) (ds : List (Stmt × Str)) (xs : List Int) : Spec pw Y ds xs 38 e26 := fun n c => by kernel_rfl
theorem s2E (Y : Xt) (ds : List (Stmt × Str)) (xs : List Int) : Spec pw Y ds xs 46 e2E := fun n c => by kernel_rfl
theorem s66 (Y : Xt) (ds : List (Stmt × Str)) (xs : List Int) : Spec pw Y ds xs 102 e66 := fun n c => by kernel_rfl
theorem s6E (Y : Xt) (ds : List (Stmt × Str)) (xs : List Int) : Spec pw Y ds xs 110 e6E := fun n c => by kernel_rfl
theorem s06 (Y : Xt) (ds : List (Stmt × Str)) (xs : List Int) : Spec pw Y ds xs 6 e06 := fun n c => by kernel_rfl
theorem s0E (Y : Xt) (ds : List (Stmt × Str)) (xs : List Int) : Spec pw Y ds xs 14 e0E := fun n c => by kernel_rfl
theorem s46 (Y : Xt) (ds : List (Stmt × Str)) (xs : List Int) : Spec pw Y ds xs 70 e46 := fun n c => by kernel_rfl
theorem s4E (Y : Xt) (ds : List (Stmt × Str)) (xs : List Int) : Spec pw Y ds xs 78 e4E := fun n c => by kernel_rfl
theorem s85 (Y : Xt) (ds : List (Stmt × Str)) (xs : List Int) : Spec pw Y ds xs 133 e85 := fun n c => by kernel_rfl
theorem s8D (Y : Xt) (ds : List (Stmt × Str)) (xs : List Int) : Spec pw Y ds xs 141 e8D := fun n c => by kernel_rfl
theorem sA5 (Y : Xt) (ds : List (Stmt × Str)) (xs : List Int) : Spec pw Y ds xs 165 eA5 := fun n c => by kernel_rfl
theorem sAD (Y : Xt) (ds : List (Stmt × Str)) (xs : List Int) : Spec pw Y ds xs 173 eAD := fun n c => by kernel_rfl
theorem s86 (Y : Xt) (ds : List (Stmt × Str)) (xs : List Int) : Spec pw Y ds xs 134 e86 := fun n c => by kernel_rfl
theorem s8E (Y : Xt) (ds : List (Stmt × Str)) (xs : List Int) : Spec pw Y ds xs 142 e8E := fun n c => by kernel_rfl
theorem sA4 (Y : Xt) (ds : List (Stmt × Str)) (xs : List Int) : Spec pw Y ds xs 164 eA4 := fun n c => by kernel_rfl
theorem sAC (Y : Xt) (ds : List (Stmt × Str)) (xs : List Int) : Spec pw Y ds xs 172 eAC := fun n c => by kernel_rfl
theorem s2A (Y : Xt) (ds : List (Stmt × Str)) (xs : List Int) : Spec pw Y ds xs 42 e2A := fun n c => by kernel_rfl
theorem s6A (Y : Xt) (ds : List (Stmt × Str)) (xs : List Int) : Spec pw Y ds xs 106 e6A := fun n c => by kernel_rfl
theorem sE8 (Y : Xt) (ds : List (Stmt × Str)) (xs : List Int) : Spec pw Y ds xs 232 eE8 := fun n c => by kernel_rfl
theorem sCA (Y : Xt) (ds : List (Stmt × Str)) (xs : List Int) : Spec pw Y ds xs 202 eCA := fun n c => by kernel_rfl
theorem s88 (Y : Xt) (ds : List (Stmt × Str)) (xs : List Int) : Spec pw Y ds xs 136 e88 := fun n c => by kernel_rfl
theorem sC8 (Y : Xt) (ds : List (Stmt × Str)) (xs : List Int) : Spec pw Y ds xs 200 eC8 := fun n c => by kernel_rfl
theorem s18 (Y : Xt) (ds : List (Stmt × Str)) (xs : List Int) : Spec pw Y ds xs 24 e18 := fun n c => by kernel_rfl
theorem s38 (Y : Xt) (ds : List (Stmt × Str)) (xs : List Int) : Spec pw Y ds xs 56 e38 := fun n c => by kernel_rfl
theorem sB8 (Y : Xt) (ds : List (Stmt × Str)) (xs : List Int) : Spec pw Y ds xs 184 eB8 := fun n c => by kernel_rfl
theorem sAA (Y : Xt) (ds : List (Stmt × Str)) (xs : List Int) : Spec pw Y ds xs 170 eAA := fun n c => by kernel_rfl
theorem s98 (Y : Xt) (ds : List (Stmt × Str)) (xs : List Int) : Spec pw Y ds xs 152 e98 := fun n c => by kernel_rfl
theorem s48 (Y : Xt) (ds : List (Stmt × Str)) (xs : List Int) : Spec pw Y ds xs 72 e48 := fun n c => by kernel_rfl
theorem s68 (Y : Xt) (ds : List (Stmt × Str)) (xs : List Int) : Spec pw Y ds xs 104 e68 := fun n c => by kernel_rfl
theorem s90 (Y : Xt) (ds : List (Stmt × Str)) (xs : List Int) : Spec pw Y ds xs 144 e90 := fun n c => by kernel_rfl
theorem sB0 (Y : Xt) (ds : List (Stmt × Str)) (xs : List Int) : Spec pw Y ds xs 176 eB0 := fun n c => by kernel_rfl
theorem s30 (Y : Xt) (ds : List (Stmt × Str)) (xs : List Int) : Spec pw Y ds xs 48 e30 := fun n c => by kernel_rfl
theorem s10 (Y : Xt) (ds : List (Stmt × Str)) (xs : List Int) : Spec pw Y ds xs 16 e10 := fun n c => by kernel_rfl
theorem s70 (Y : Xt) (ds : List (Stmt × Str)) (xs : List Int) : Spec pw Y ds xs 112 e70 := fun n c => by kernel_rfl
theorem fetch (Y : Xt) (ds : List (Stmt × Str)) (xs : List Int) (n : Nat) (c : Cpu) : T.run ((fns (ifc pw Y ds xs) (n + 42)).cl 60 1 [.obj 0] (hpC c)) = cond (inB c.pc c.mem) (T.run (stepT pw Y ds xs n (c.mem.getD c.pc.toNat 0) c)) none := by kernel_rfl
noncomputable def tabL : List (Int × (Cpu → T Cpu)) := [(169, eA9), (162, eA2), (160, eA0), (105, e69), (233, eE9), (41, e29), (9, e09), (73, e49), (201, eC9), (101, e65), (109, e6D), (229, eE5), (237, eED), (37, e25), (45, e2D), (5, e05), (13, e0D), (69, e45), (77, e4D), (230, eE6), (238, eEE), (198, eC6), (206, eCE), (38, e26), (46, e2E), (102, e66), (110, e6E), (6, e06), (14, e0E), (70, e46), (78, e4E), (133, e85), (141, e8D), (165, eA5), (173, eAD), (134, e86), (142, e8E), (164, eA4), (172, eAC), (42, e2A), (106, e6A), (232, eE8), (202, eCA), (136, e88), (200, eC8), (24, e18), (56, e38), (184, eB8), (170, eAA), (152, e98), (72, e48), (104, e68), (144, e90), (176, eB0), (48, e30), (16, e10), (112, e70)]
theorem tabOk (Y : Xt) (ds : List (Stmt × Str)) (xs : List Int) : ∀ q ∈ tabL, Spec pw Y ds xs q.1 q.2 :=
  List.forall_mem_cons.mpr ⟨sA9 Y ds xs, List.forall_mem_cons.mpr ⟨sA2 Y ds xs, List.forall_mem_cons.mpr ⟨sA0 Y ds xs, List.forall_mem_cons.mpr ⟨s69 Y ds xs, List.forall_mem_cons.mpr ⟨sE9 Y ds xs, List.forall_mem_cons.mpr ⟨s29 Y ds xs, List.forall_mem_cons.mpr ⟨s09 Y ds xs, List.forall_mem_cons.mpr ⟨s49 Y ds xs, List.forall_mem_cons.mpr ⟨sC9 Y ds xs, List.forall_mem_cons.mpr ⟨s65 Y ds xs, List.forall_mem_cons.mpr ⟨s6D Y ds xs, List.forall_mem_cons.mpr ⟨sE5 Y ds xs, List.forall_mem_cons.mpr ⟨sED Y ds xs, List.forall_mem_cons.mpr ⟨s25 Y ds xs, List.forall_mem_cons.mpr ⟨s2D Y ds xs, List.forall_mem_cons.mpr ⟨s05 Y ds xs, List.forall_mem_cons.mpr ⟨s0D Y ds xs, List.forall_mem_cons.mpr ⟨s45 Y ds xs, List.forall_mem_cons.mpr ⟨s4D Y ds xs, List.forall_mem_cons.mpr ⟨sE6 Y ds xs, List.forall_mem_cons.mpr ⟨sEE Y ds xs, List.forall_mem_cons.mpr ⟨sC6 Y ds xs, List.forall_mem_cons.mpr ⟨sCE Y ds xs, List.forall_mem_cons.mpr ⟨s26 Y ds xs, List.forall_mem_cons.mpr ⟨s2E Y ds xs, List.forall_mem_cons.mpr ⟨s66 Y ds xs, List.forall_mem_cons.mpr ⟨s6E Y ds xs, List.forall_mem_cons.mpr ⟨s06 Y ds xs, List.forall_mem_cons.mpr ⟨s0E Y ds xs, List.forall_mem_cons.mpr ⟨s46 Y ds xs, List.forall_mem_cons.mpr ⟨s4E Y ds xs, List.forall_mem_cons.mpr ⟨s85 Y ds xs, List.forall_mem_cons.mpr ⟨s8D Y ds xs, List.forall_mem_cons.mpr ⟨sA5 Y ds xs, List.forall_mem_cons.mpr ⟨sAD Y ds xs, List.forall_mem_cons.mpr ⟨s86 Y ds xs, List.forall_mem_cons.mpr ⟨s8E Y ds xs, List.forall_mem_cons.mpr ⟨sA4 Y ds xs, List.forall_mem_cons.mpr ⟨sAC Y ds xs, List.forall_mem_cons.mpr ⟨s2A Y ds xs, List.forall_mem_cons.mpr ⟨s6A Y ds xs, List.forall_mem_cons.mpr ⟨sE8 Y ds xs, List.forall_mem_cons.mpr ⟨sCA Y ds xs, List.forall_mem_cons.mpr ⟨s88 Y ds xs, List.forall_mem_cons.mpr ⟨sC8 Y ds xs, List.forall_mem_cons.mpr ⟨s18 Y ds xs, List.forall_mem_cons.mpr ⟨s38 Y ds xs, List.forall_mem_cons.mpr ⟨sB8 Y ds xs, List.forall_mem_cons.mpr ⟨sAA Y ds xs, List.forall_mem_cons.mpr ⟨s98 Y ds xs, List.forall_mem_cons.mpr ⟨s48 Y ds xs, List.forall_mem_cons.mpr ⟨s68 Y ds xs, List.forall_mem_cons.mpr ⟨s90 Y ds xs, List.forall_mem_cons.mpr ⟨sB0 Y ds xs, List.forall_mem_cons.mpr ⟨s30 Y ds xs, List.forall_mem_cons.mpr ⟨s10 Y ds xs, List.forall_mem_cons.mpr ⟨s70 Y ds xs, fun _ h => absurd h List.not_mem_nil⟩⟩⟩⟩⟩⟩⟩⟩⟩⟩⟩⟩⟩⟩⟩⟩⟩⟩⟩⟩⟩⟩⟩⟩⟩⟩⟩⟩⟩⟩⟩⟩⟩⟩⟩⟩⟩⟩⟩⟩⟩⟩⟩⟩⟩⟩⟩⟩⟩⟩⟩⟩⟩⟩⟩⟩⟩
noncomputable abbrev stepC (c : Cpu) : Option Cpu := stepW tabL c
theorem stepC_ok (Y : Xt) (ds : List (Stmt × Str)) (xs : List Int) (n : Nat) {c c' : Cpu} (h : stepC c = some c') : T.run ((fns (ifc pw Y ds xs) (n + 42)).cl 60 1 [.obj 0] (hpC c)) = some (.obj 0, hpC c') :=
  (fetch Y ds xs n c).trans (glue (sT := fun op => stepT pw Y ds xs n op c) (g := fun c' => (.obj 0, hpC c')) h fun q hq => tabOk Y ds xs q hq n c)
end Mine.Internal
end
section
open PySem PySem.W PySem.Calls PyProof.Rows PySem.Builtin
set_option genInjectivity false
set_option genSizeOf false
set_option genSizeOfSpec false
namespace Mine.Internal
structure Vw where
  sp : Nat
  a : Nat
  x : Nat
  y : Nat
  f : Fl
structure Oth where
  exc : Int
  ac : Bool ⊕ Int
  cyc : Int
  start : Int
noncomputable def mkN (w : Vw) (pc : Nat) (m : List Int) (o : Oth) : Nc := ⟨o.exc, o.ac, o.cyc, o.start, pc, w.sp, w.a, w.x, w.y, w.f, m⟩
structure Vw.Ok (w : Vw) : Prop where
  a : w.a < 256
  x : w.x < 256
  y : w.y < 256
noncomputable abbrev Bd (f : Cpu → T Cpu) (w : Vw) (pc : Nat) (m : List Int) (w' : Vw) (pc' : Nat) (m' : List Int) : Prop := ∀ o, T.run (f (mkN w pc m o).c) = some (mkN w' pc' m' o).c
noncomputable def Do (E : Cpu → T Cpu) (w : Vw) (pc : Nat) (m : List Int) (w' : Vw) (pc' : Nat) (m' : List Int) : Prop := ∀ o, ∃ o', T.run (E (mkN w pc m o).c) = some (mkN w' pc' m' o').c
theorem do_of {cy xc : Int} {f : Cpu → T Cpu} {w w' : Vw} {pc pc' : Nat} {m m' : List Int} (hp : pc < 3000) (hp' : pc' < 65536) (h : ∀ cyc st, ∃ e ac, T.run (f (mkN w (pc + 1) m ⟨0, .inr xc, cyc, st⟩).c) = some (mkN w' pc' m' ⟨e, ac, cyc, st⟩).c) : Do (ex cy xc f) w pc m w' pc' m' := fun o => by
  obtain ⟨e, ac, h1⟩ := h o.cyc o.start
  exact ⟨⟨e, ac, o.cyc + (cy + e), o.start⟩, ex_ok (s := mkN w pc m o) (s' := mkN w' pc' m' ⟨e, ac, o.cyc, o.start⟩) (by show pc + 1 < 65536; lia) h1 hp'⟩
theorem do_b {cy xc : Int} {f : Cpu → T Cpu} {w w' : Vw} {pc pc' : Nat} {m m' : List Int} (hp : pc < 3000) (hp' : pc' < 65536) (h : Bd f w (pc + 1) m w' pc' m') : Do (ex cy xc f) w pc m w' pc' m' := do_of hp hp' fun cyc st => ⟨_, _, h _⟩
noncomputable abbrev Md (md : Mode) (w : Vw) (pc : Nat) (m : List Int) (i : Nat) : Prop := ∀ o, T.run (md (mkN w pc m o).c) = some ((i : Int), (mkN w pc m o).c)
section
variable {w w' : Vw} {pc v i : Nat} {m m' : List Int} {md : Mode}
theorem do_imm {cy xc : Int} {f : Mode → Cpu → T Cpu} (hp : pc < 3000) (h : Md mImm w (pc + 1) m (pc + 1) → Bd (f mImm) w (pc + 1) m w' (pc + 1) m') : Do (ex cy xc fun c => (f mImm c).bind (adv 1)) w pc m w' (pc + 2) m' :=
  do_b hp (by lia) fun o => rb (h (fun _ => imm_ok) o) adv_ok
theorem do_zp {cy xc : Int} {f : Mode → Cpu → T Cpu} (hp : pc < 3000) (h1 : At m (pc + 1) i) (h : Md mZp w (pc + 1) m i → Bd (f mZp) w (pc + 1) m w' (pc + 1) m') : Do (ex cy xc fun c => (f mZp c).bind (adv 1)) w pc m w' (pc + 2) m' :=
  do_b hp (by lia) fun o => rb (h (fun o => zp_ok (s := mkN w (pc + 1) m o) h1 (by show pc + 1 < 2 ^ 63; lia)) o) adv_ok
theorem do_abs {cy xc : Int} {f : Mode → Cpu → T Cpu} {lo hi : Nat} (hp : pc < 3000) (h1 : At m (pc + 1) lo) (h2 : At m (pc + 2) hi) (hh : hi < 256) (e : lo + hi * 256 = i) (h : Md mAbs w (pc + 1) m i → Bd (f mAbs) w (pc + 1) m w' (pc + 1) m') : Do (ex cy xc fun c => (f mAbs c).bind (adv 2)) w pc m w' (pc + 3) m' := by
  subst e
  exact do_b hp (by lia) fun o => rb (h (fun o => abs_ok (s := mkN w (pc + 1) m o) h1 h2 (by show pc + 1 + 1 < 2 ^ 63; lia) hh) o) adv_ok
end
theorem band_nat {a v : Nat} : bA (a : Int) (v : Int) = ((a &&& v : Nat) : Int) := bandB
theorem bor_nat {a v : Nat} : bO (a : Int) (v : Int) = ((a ||| v : Nat) : Int) := by
  have nn : ∀ x : Nat, (bitNot (bitNot (x : Int))).toNat = x := fun x => by unfold bitNot; lia
  have ng : ∀ x : Nat, decide (0 ≤ bitNot (x : Int)) = false := fun x => decide_eq_false (by unfold bitNot; lia)
  have e : bitAnd (bitNot (a : Int)) (bitNot (v : Int)) = bitNot (((bitNot (bitNot (a : Int))).toNat ||| (bitNot (bitNot (v : Int))).toNat : Nat) : Int) := by
    show (match decide (0 ≤ bitNot (a : Int)), decide (0 ≤ bitNot (v : Int)) with | true, true => _ | true, false => _ | false, true => _ | false, false => _) = _
    rw [ng, ng]
  show bitNot (bitAnd (bitNot (a : Int)) (bitNot (v : Int))) = _
  rw [e, nn, nn]
  unfold bitNot
  lia
theorem or_add_and (a v : Nat) : (a ||| v) + (a &&& v) = a + v := by
  have e : bO (a : Int) (v : Int) = (a : Int) + v - bA (a : Int) (v : Int) := bitOr_and _ _
  rw [bor_nat, band_nat] at e
  lia
noncomputable def xorN (a v : Nat) : Nat := (a ||| v) - (a &&& v)
theorem and_le_or {a v : Nat} : a &&& v ≤ a ||| v := Nat.le_trans Nat.and_le_left Nat.left_le_or
theorem bxor_nat {a v : Nat} : bX (a : Int) (v : Int) = ((xorN a v : Nat) : Int) := by
  show bO (a : Int) (v : Int) - bA (a : Int) (v : Int) = _
  rw [bor_nat, band_nat]
  exact (Int.ofNat_sub and_le_or).symm
theorem xor_lt {a v : Nat} (ha : a < 256) (hv : v < 256) : xorN a v < 256 := Nat.lt_of_le_of_lt (Nat.sub_le _ _) (Nat.or_lt_two_pow (n := 8) ha hv)
section
variable {w : Vw} {pc v i : Nat} {m : List Int} {md : Mode}
noncomputable abbrev Vw.na (w : Vw) (v : Nat) : Vw := { w with a := v, f := w.f.nz v }
noncomputable abbrev Vw.nx (w : Vw) (v : Nat) : Vw := { w with x := v, f := w.f.nz v }
noncomputable abbrev Vw.ny (w : Vw) (v : Nat) : Vw := { w with y := v, f := w.f.nz v }
noncomputable abbrev Vw.fl (w : Vw) (f : Fl) : Vw := { w with f := f }
theorem f_clc : Bd (fun c => andP (bN 1) c) w pc m (w.fl { w.f with c := false }) pc m := fun o => an_c (s := mkN w pc m o)
theorem f_sec : Bd (fun c => orP 1 c) w pc m (w.fl { w.f with c := true }) pc m := fun o => or_c (s := mkN w pc m o)
theorem f_clv : Bd (fun c => andP (bN 64) c) w pc m (w.fl { w.f with v := false }) pc m := fun o => an_v (s := mkN w pc m o)
theorem inc_e : bA ((v : Int) + 1) 255 = (((v + 1) % 256 : Nat) : Int) := m255 (v := v + 1)
theorem dec_e : bA ((v : Int) - 1) 255 = (((v + 255) % 256 : Nat) : Int) := by show bitAnd _ 255 = _; rw [bitAnd_m8]; lia
theorem f_inx : Bd opINX w pc m (w.nx ((w.x + 1) % 256)) pc m := fun o => by
  show T.run (flagsNZ (bA ((w.x : Int) + 1) 255) { (mkN w pc m o).c with x := bA ((w.x : Int) + 1) 255 }) = _
  rw [inc_e]; exact flagsNZ_ok (s := mkN { w with x := (w.x + 1) % 256 } pc m o) (Nat.mod_lt _ (by decide))
theorem f_dex : Bd opDEX w pc m (w.nx ((w.x + 255) % 256)) pc m := fun o => by
  show T.run (flagsNZ (bA ((w.x : Int) - 1) 255) { (mkN w pc m o).c with x := bA ((w.x : Int) - 1) 255 }) = _
  rw [dec_e]; exact flagsNZ_ok (s := mkN { w with x := (w.x + 255) % 256 } pc m o) (Nat.mod_lt _ (by decide))
theorem f_iny : Bd opINY w pc m (w.ny ((w.y + 1) % 256)) pc m := fun o => by
  show T.run (flagsNZ (bA ((w.y : Int) + 1) 255) { (mkN w pc m o).c with y := bA ((w.y : Int) + 1) 255 }) = _
  rw [inc_e]; exact flagsNZ_ok (s := mkN { w with y := (w.y + 1) % 256 } pc m o) (Nat.mod_lt _ (by decide))
theorem f_dey : Bd opDEY w pc m (w.ny ((w.y + 255) % 256)) pc m := fun o => by
  show T.run (flagsNZ (bA ((w.y : Int) - 1) 255) { (mkN w pc m o).c with y := bA ((w.y : Int) - 1) 255 }) = _
  rw [dec_e]; exact flagsNZ_ok (s := mkN { w with y := (w.y + 255) % 256 } pc m o) (Nat.mod_lt _ (by decide))
theorem f_tax (h : w.Ok) : Bd opTAX w pc m (w.nx w.a) pc m := fun o => flagsNZ_ok (s := mkN { w with x := w.a } pc m o) h.a
theorem f_tya (h : w.Ok) : Bd opTYA w pc m (w.na w.y) pc m := fun o => flagsNZ_ok (s := mkN { w with a := w.y } pc m o) h.y
theorem f_lda (hm : Md md w pc m i) (h : At m i v) (hi : i < 3000) (hv : v < 256) : Bd (opLDA md) w pc m (w.na v) pc m := fun o => lda_ok (s := mkN w pc m o) (s' := mkN w pc m o) (hm o) h (by lia) hv
theorem f_ldx (hm : Md md w pc m i) (h : At m i v) (hi : i < 3000) (hv : v < 256) : Bd (opLDX md) w pc m (w.nx v) pc m := fun o => ldx_ok (s := mkN w pc m o) (s' := mkN w pc m o) (hm o) h (by lia) hv
theorem f_ldy (hm : Md md w pc m i) (h : At m i v) (hi : i < 3000) (hv : v < 256) : Bd (opLDY md) w pc m (w.ny v) pc m := fun o => ldy_ok (s := mkN w pc m o) (s' := mkN w pc m o) (hm o) h (by lia) hv
theorem f_sta (hm : Md md w pc m i) (h : i < m.length) (hi : i < 3000) : Bd (opSTA md) w pc m w pc (m.set i (w.a : Int)) := fun o => sta_ok (s := mkN w pc m o) (s' := mkN w pc m o) (hm o) h (by lia)
theorem f_stx (hm : Md md w pc m i) (h : i < m.length) (hi : i < 3000) : Bd (opSTX md) w pc m w pc (m.set i (w.x : Int)) := fun o => stx_ok (s := mkN w pc m o) (s' := mkN w pc m o) (hm o) h (by lia)
theorem f_and (hm : Md md w pc m i) (h : At m i v) (hi : i < 3000) (hw : w.Ok) : Bd (opAND md) w pc m (w.na (w.a &&& v)) pc m := fun o => rb (hm o) (rb (bAt_ok h (by lia)) (by
  show T.run (flagsNZ (bA (w.a : Int) (v : Int)) { (mkN w pc m o).c with a := bA (w.a : Int) (v : Int) }) = _
  rw [band_nat]; exact flagsNZ_ok (s := mkN { w with a := w.a &&& v } pc m o) (Nat.lt_of_le_of_lt Nat.and_le_left hw.a)))
theorem f_ora (hm : Md md w pc m i) (h : At m i v) (hi : i < 3000) (hw : w.Ok) (hv : v < 256) : Bd (opORA md) w pc m (w.na (w.a ||| v)) pc m := fun o => rb (hm o) (rb (bAt_ok h (by lia)) (by
  show T.run (flagsNZ (bO (w.a : Int) (v : Int)) { (mkN w pc m o).c with a := bO (w.a : Int) (v : Int) }) = _
  rw [bor_nat]; exact flagsNZ_ok (s := mkN { w with a := w.a ||| v } pc m o) (Nat.or_lt_two_pow (n := 8) hw.a hv)))
theorem f_eor (hm : Md md w pc m i) (h : At m i v) (hi : i < 3000) (hw : w.Ok) (hv : v < 256) : Bd (opEOR md) w pc m (w.na (xorN w.a v)) pc m := fun o => rb (hm o) (rb (bAt_ok h (by lia)) (by
  show T.run (flagsNZ (bX (w.a : Int) (v : Int)) { (mkN w pc m o).c with a := bX (w.a : Int) (v : Int) }) = _
  rw [bxor_nat]; exact flagsNZ_ok (s := mkN { w with a := xorN w.a v } pc m o) (xor_lt hw.a hv)))
noncomputable def Vw.cmp (w : Vw) (v : Nat) : Vw := { w with f := { w.f with n := decide ((128 : Int) ≤ ((w.a : Int) - v) % 256), z := decide (w.a = v), c := decide (v ≤ w.a) } }
theorem f_cmp (hm : Md md w pc m i) (h : At m i v) (hi : i < 3000) : Bd (opCMP (·.a) md) w pc m (w.cmp v) pc m := fun o => cmp_ok (s := mkN w pc m o) (s' := mkN w pc m o) (v := w.a) rfl (hm o) h (by lia)
noncomputable def Vw.adc (w : Vw) (d : Nat) : Vw := { w with a := (d + w.a + w.f.c.toNat) % 256, f := { w.f with n := decide (128 ≤ (d + w.a + w.f.c.toNat) % 256), v := ovA w.a d (d + w.a + w.f.c.toNat), z := decide ((d + w.a + w.f.c.toNat) % 256 = 0), c := decide (255 < d + w.a + w.f.c.toNat) } }
theorem f_adc (hm : Md md w pc m i) (h : At m i v) (hi : i < 3000) (hw : w.Ok) (hv : v < 256) (hd : w.f.d = false) : Bd (opADC md) w pc m (w.adc v) pc m := fun o => adcB_ok (s := mkN w pc m o) (s' := mkN w pc m o) (hm o) h (by lia) hv hw.a hd
noncomputable def Vw.sbc (w : Vw) (d : Nat) : Vw := { w with a := sAl w.a d w.f.c.toNat % 256, f := { w.f with n := decide (128 ≤ sAl w.a d w.f.c.toNat % 256), v := ovS w.a d (sAl w.a d w.f.c.toNat), z := decide (sAl w.a d w.f.c.toNat % 256 = 0), c := decide (255 < sAl w.a d w.f.c.toNat) } }
theorem f_sbc (hm : Md md w pc m i) (h : At m i v) (hi : i < 3000) (hw : w.Ok) (hv : v < 256) (hd : w.f.d = false) : Bd (opSBC md) w pc m (w.sbc v) pc m := fun o => sbcB_ok (s := mkN w pc m o) (s' := mkN w pc m o) (hm o) h (by lia) hv hw.a hd
noncomputable abbrev Tn (g : Int → Cpu → T (Int × Cpu)) (w : Vw) (v r : Nat) (f : Fl) : Prop := ∀ pc m o, T.run (g (v : Int) (mkN w pc m o).c) = some ((r : Int), (mkN (w.fl f) pc m o).c)
theorem f_rmw {g : Int → Cpu → T (Int × Cpu)} {r : Nat} {f : Fl} (hm : Md md w pc m i) (h : At m i v) (hi : i < 3000) (ht : Tn g w v r f) : Bd (rmw (some md) g) w pc m (w.fl f) pc (m.set i (r : Int)) := fun o =>
  rb (hm o) (rb (bAt_ok h (by lia)) (rb (ht pc m o) (bSt_ok (s := mkN (w.fl f) pc m o) (List.getElem?_eq_some_iff.mp h).1 (by lia))))
theorem f_acc {g : Int → Cpu → T (Int × Cpu)} {r : Nat} {f : Fl} (ht : Tn g w w.a r f) : Bd (fun c => rmw none g c) w pc m { w with a := r, f := f } pc m := fun o => rb (ht pc m o) rfl
theorem t_inc (hv : v < 256) : Tn (fINC 1) w v ((v + 1) % 256) (w.f.nz ((v + 1) % 256)) := fun pc m o => by
  refine rb an_nz (rb (x := (mkN (w.fl (w.f.nz ((v + 1) % 256))) pc m o).c) ?_ ?_)
  · rw [inc_e]; exact zn_ok (s := mkN (w.fl { w.f with n := false, z := false }) pc m o) (Nat.mod_lt _ (by decide)) rfl rfl
  · rw [inc_e]; rfl
theorem t_dec (hv : v < 256) : Tn fDEC w v ((v + 255) % 256) (w.f.nz ((v + 255) % 256)) := fun pc m o => by
  refine rb an_nz (rb (x := (mkN (w.fl (w.f.nz ((v + 255) % 256))) pc m o).c) ?_ ?_)
  · rw [dec_e]; exact zn_ok (s := mkN (w.fl { w.f with n := false, z := false }) pc m o) (Nat.mod_lt _ (by decide)) rfl rfl
  · rw [dec_e]; rfl
noncomputable def rolV (v : Nat) (c : Bool) : Nat := (2 * v + c.toNat) % 256
theorem rol_or : ∀ v : Fin 256, bA (bO ((v.val * 2 ^ 1 : Nat) : Int) 1) 255 = (((2 * v.val + 1) % 256 : Nat) : Int) := by decide +kernel
theorem b7_ne {v : Nat} (h : v < 256) : (bA (v : Int) 128 != 0) = decide (128 ≤ v) := by rw [bit7 h]; exact b2_ne (by decide)
theorem t_rol (hv : v < 256) : Tn fROL w v (rolV v w.f.c) (({ w.f with c := decide (128 ≤ v) } : Fl).nz (rolV v w.f.c)) := fun pc m o => by
  have hr : rolV v w.f.c < 256 := Nat.mod_lt _ (by decide)
  have fin : ∀ {r : Int}, bA r 255 = ((rolV v w.f.c : Nat) : Int) → T.run ((flagsNZ (bA r 255) (mkN (w.fl { w.f with c := decide (128 ≤ v) }) pc m o).c).bind fun c => .ret (bA r 255, c)) = some (((rolV v w.f.c : Nat) : Int), (mkN (w.fl (({ w.f with c := decide (128 ≤ v) } : Fl).nz (rolV v w.f.c))) pc m o).c) := fun {r} e => by
    rw [e]
    exact rb (flagsNZ_ok (s := mkN (w.fl { w.f with c := decide (128 ≤ v) }) pc m o) hr) rfl
  cases hc : w.f.c with
  | true =>
    rw [← hc]
    refine rb (x := (bO ((v * 2 ^ 1 : Nat) : Int) 1, (mkN (w.fl { w.f with c := decide (128 ≤ v) }) pc m o).c)) (rt (by rw [is_c]; exact hc) (rb (x := (mkN (w.fl { w.f with c := decide (128 ≤ v) }) pc m o).c) ?_ (rb (shl_ok (n := 1) (by lia) (by decide)) rfl))) (fin ?_)
    · by_cases q : 128 ≤ v
      · refine rt (by rw [b7_ne hv]; exact decide_eq_true q) ?_
        rw [decide_eq_true q, ← hc]; rfl
      · refine rf (by rw [b7_ne hv]; exact decide_eq_false q) ?_
        rw [decide_eq_false q]; exact an_c (s := mkN w pc m o)
    · exact (rol_or ⟨v, hv⟩).trans (by unfold rolV; rw [hc]; rfl)
  | false =>
    rw [← hc]
    refine rb (x := (((v * 2 ^ 1 : Nat) : Int), (mkN (w.fl { w.f with c := decide (128 ≤ v) }) pc m o).c)) (rf (by rw [is_c]; exact hc) (rb (x := (mkN (w.fl { w.f with c := decide (128 ≤ v) }) pc m o).c) ?_ (rb (shl_ok (n := 1) (by lia) (by decide)) rfl))) (fin ?_)
    · have := wh_c (s := mkN w pc m o) (b := decide (128 ≤ v))
      rw [show (mkN w pc m o).f.c = false from hc, Bool.false_or] at this
      rw [b7_ne hv]; exact this
    · rw [m255]; unfold rolV; rw [hc]; show ((v * 2 ^ 1 % 256 : Nat) : Int) = (((2 * v + 0) % 256 : Nat) : Int); congr 1; lia
noncomputable def rorV (v : Nat) (c : Bool) : Nat := v / 2 + 128 * c.toNat
theorem ror_or : ∀ v : Fin 256, bO ((v.val / 2 ^ 1 : Nat) : Int) 128 = ((v.val / 2 + 128 : Nat) : Int) ∧ (bA ((v.val : Nat) : Int) 1 != 0) = decide (v.val % 2 = 1) := by decide +kernel
theorem rorV_lt {c : Bool} (hv : v < 256) : rorV v c < 256 := by unfold rorV; cases c <;> simp <;> omega
theorem t_ror (hv : v < 256) : Tn fROR w v (rorV v w.f.c) (({ w.f with c := decide (v % 2 = 1) } : Fl).nz (rorV v w.f.c)) := fun pc m o => by
  have hr : rorV v w.f.c < 256 := rorV_lt hv
  have b1 : (bA (v : Int) 1 != 0) = decide (v % 2 = 1) := (ror_or ⟨v, hv⟩).2
  have fin : ∀ {r : Int}, r = ((rorV v w.f.c : Nat) : Int) → T.run ((flagsNZ r (mkN (w.fl { w.f with c := decide (v % 2 = 1) }) pc m o).c).bind fun c => .ret (r, c)) = some (((rorV v w.f.c : Nat) : Int), (mkN (w.fl (({ w.f with c := decide (v % 2 = 1) } : Fl).nz (rorV v w.f.c))) pc m o).c) := fun {r} e => by
    rw [e]
    exact rb (flagsNZ_ok (s := mkN (w.fl { w.f with c := decide (v % 2 = 1) }) pc m o) hr) rfl
  cases hc : w.f.c with
  | true =>
    rw [← hc]
    refine rb (x := (bO ((v / 2 ^ 1 : Nat) : Int) 128, (mkN (w.fl { w.f with c := decide (v % 2 = 1) }) pc m o).c)) (rt (by rw [is_c]; exact hc) (rb (x := (mkN (w.fl { w.f with c := decide (v % 2 = 1) }) pc m o).c) ?_ (rb (shr_ok (n := 1)) rfl))) (fin ?_)
    · by_cases q : v % 2 = 1
      · refine rt (by rw [b1]; exact decide_eq_true q) ?_
        rw [decide_eq_true q, ← hc]; rfl
      · refine rf (by rw [b1]; exact decide_eq_false q) ?_
        rw [decide_eq_false q]; exact an_c (s := mkN w pc m o)
    · exact (ror_or ⟨v, hv⟩).1.trans (by unfold rorV; rw [hc]; rfl)
  | false =>
    rw [← hc]
    refine rb (x := (((v / 2 ^ 1 : Nat) : Int), (mkN (w.fl { w.f with c := decide (v % 2 = 1) }) pc m o).c)) (rf (by rw [is_c]; exact hc) (rb (x := (mkN (w.fl { w.f with c := decide (v % 2 = 1) }) pc m o).c) ?_ (rb (shr_ok (n := 1)) rfl))) (fin ?_)
    · have := wh_c (s := mkN w pc m o) (b := decide (v % 2 = 1))
      rw [show (mkN w pc m o).f.c = false from hc, Bool.false_or] at this
      rw [b1]; exact this
    · unfold rorV; rw [hc]; show ((v / 2 ^ 1 : Nat) : Int) = ((v / 2 + 128 * 0 : Nat) : Int); congr 1
theorem t_asl (hv : v < 256) : Tn fASL w v (2 * v % 256) (({ w.f with c := decide (128 ≤ v) } : Fl).nz (2 * v % 256)) := fun pc m o => by
  have e : bA ((v * 2 ^ 1 : Nat) : Int) 255 = ((2 * v % 256 : Nat) : Int) := by rw [m255]; congr 1; lia
  refine rb an_sh (rb (x := (mkN (w.fl { w.f with n := false, z := false, c := decide (128 ≤ v) }) pc m o).c) ?_ (rb (shl_ok (n := 1) (by lia) (by decide)) (rb (x := (mkN (w.fl (({ w.f with c := decide (128 ≤ v) } : Fl).nz (2 * v % 256))) pc m o).c) ?_ ?_)))
  · rw [b7_ne hv]
    have := wh_c (s := mkN (w.fl { w.f with n := false, z := false, c := false }) pc m o) (b := decide (128 ≤ v))
    rw [show (mkN (w.fl { w.f with n := false, z := false, c := false }) pc m o).f.c = false from rfl, Bool.false_or] at this
    exact this
  · rw [e]; exact zn_ok (s := mkN (w.fl { w.f with n := false, z := false, c := decide (128 ≤ v) }) pc m o) (Nat.mod_lt _ (by decide)) rfl rfl
  · rw [e]; rfl
theorem or_b {b : Bool} : ∀ n v d i z : Bool, bO (Fl.p ⟨n, v, d, i, z, false⟩) (b2 b 1) = Fl.p ⟨n, v, d, i, z, b⟩ := by
  cases b <;> decide +kernel
theorem t_lsr (hv : v < 256) : Tn fLSR w v (v / 2) (({ w.f with c := decide (v % 2 = 1) } : Fl).nz (v / 2)) := fun pc m o => by
  have e1 : bA (v : Int) 1 = b2 (decide (v % 2 = 1)) 1 := by
    show bitAnd (v : Int) 1 = _
    rw [bitAnd_m1]
    by_cases q : v % 2 = 1
    · rw [decide_eq_true q]; show _ = (1 : Int); lia
    · rw [decide_eq_false q]; show _ = (0 : Int); lia
  refine rb an_sh (rb (x := (mkN (w.fl { w.f with n := false, z := false, c := decide (v % 2 = 1) }) pc m o).c) ?_ (rb (shr_ok (n := 1)) (rb (x := (mkN (w.fl (({ w.f with c := decide (v % 2 = 1) } : Fl).nz (v / 2))) pc m o).c) ?_ rfl)))
  · rw [e1]
    exact setp (s := mkN (w.fl { w.f with n := false, z := false, c := false }) pc m o) (f := { w.f with n := false, z := false, c := decide (v % 2 = 1) }) (or_b ..)
  · have h7 : decide (128 ≤ v / 2) = false := decide_eq_false (by lia)
    by_cases h0 : v / 2 = 0
    · refine rf (by rw [int_ne0]; show (!decide (v / 2 ^ 1 = 0)) = false; rw [decide_eq_true h0]; rfl) (or_z.trans ?_)
      unfold Fl.nz
      rw [h7, decide_eq_true h0]; rfl
    · refine rt (by rw [int_ne0]; show (!decide (v / 2 ^ 1 = 0)) = true; rw [decide_eq_false h0]; rfl) ?_
      unfold Fl.nz
      rw [h7, decide_eq_false h0]; rfl
end
end Mine.Internal
end
section
open PySem PySem.W PySem.Calls PyProof.Rows PySem.Builtin
set_option genInjectivity false
set_option genSizeOf false
set_option genSizeOfSpec false
namespace Mine.Internal
noncomputable def hib (x : Int) : Bool := decide (128 ≤ x % 256)
theorem and_half {x y : Int} : bA x y / 2 = bA (x / 2) (y / 2) := by
  have h := kbt_halves x y
  show bitAnd x y / 2 = bitAnd (x / 2) (y / 2)
  split at h <;> lia
theorem xor_half {x y : Int} : bX x y / 2 = bX (x / 2) (y / 2) := by
  have h := kbt_halves x y
  show bitXor x y / 2 = bitXor (x / 2) (y / 2)
  rw [bitXor_and, bitXor_and]
  split at h <;> lia
theorem b7_of (x : Int) : hib x = decide (x / 2 / 2 / 2 / 2 / 2 / 2 / 2 % 2 = 1) := by
  rw [Int.ediv_ediv_of_nonneg (by decide), Int.ediv_ediv_of_nonneg (by decide), Int.ediv_ediv_of_nonneg (by decide), Int.ediv_ediv_of_nonneg (by decide), Int.ediv_ediv_of_nonneg (by decide), Int.ediv_ediv_of_nonneg (by decide)]
  unfold hib
  show _ = decide (x / 128 % 2 = 1)
  rw [Bool.eq_iff_iff, decide_eq_true_iff, decide_eq_true_iff]
  lia
theorem odd_and {x y : Int} : decide (bA x y % 2 = 1) = (decide (x % 2 = 1) && decide (y % 2 = 1)) := by
  have h := kbt_halves x y
  show decide (bitAnd x y % 2 = 1) = _
  rw [← Bool.decide_and]
  split at h <;> (rw [Bool.eq_iff_iff, decide_eq_true_iff, decide_eq_true_iff]; lia)
theorem odd_xor {x y : Int} : decide (bX x y % 2 = 1) = Bool.xor (decide (x % 2 = 1)) (decide (y % 2 = 1)) := by
  show decide (bitXor x y % 2 = 1) = _
  rw [bitXor_and]
  by_cases h1 : x % 2 = 1 <;> by_cases h2 : y % 2 = 1 <;> simp only [h1, h2, decide_true, decide_false, Bool.xor_self, Bool.xor_true, Bool.xor_false, Bool.not_false, Bool.not_true, decide_eq_true_iff, decide_eq_false_iff_not] <;> lia
theorem b7_and {x y : Int} : hib (bA x y) = (hib x && hib y) := by
  rw [b7_of, b7_of, b7_of, and_half, and_half, and_half, and_half, and_half, and_half, and_half, odd_and]
theorem b7_xor {x y : Int} : hib (bX x y) = Bool.xor (hib x) (hib y) := by
  rw [b7_of, b7_of, b7_of, xor_half, xor_half, xor_half, xor_half, xor_half, xor_half, xor_half, odd_xor]
theorem b7_not {x : Int} : hib (bN x) = !hib x := by
  unfold hib
  show decide (128 ≤ (-x - 1) % 256) = _
  by_cases h : 128 ≤ x % 256
  · rw [decide_eq_true h]; exact decide_eq_false (by omega)
  · rw [decide_eq_false h]; exact decide_eq_true (by omega)
theorem b7_ne128 {x : Int} : (bA x 128 != 0) = hib x := by rw [bit7Z]; exact b2_ne (by decide)
theorem ovA_b {a d r : Nat} : ovA a d r = (!(Bool.xor (hib a) (hib d)) && Bool.xor (hib a) (hib r)) := by
  unfold ovA
  rw [b7_ne128, b7_and, b7_not, b7_xor, b7_xor]
theorem ovS_b {a d r : Nat} : ovS a d r = (Bool.xor (hib a) (hib d) && Bool.xor (hib a) (hib r)) := by
  unfold ovS
  rw [b7_ne128, b7_and, b7_xor, b7_xor]
theorem b7_cpl {x y : Nat} (h : (x + y) % 256 = 255) : hib (y : Int) = !hib (x : Int) := by
  unfold hib
  by_cases q : (128 : Int) ≤ (x : Int) % 256
  · rw [decide_eq_true q]; exact decide_eq_false (by omega)
  · rw [decide_eq_false q]; exact decide_eq_true (by omega)
theorem ovA_cpl {a d r a' d' r' : Nat} (h1 : (a + a') % 256 = 255) (h2 : (d + d') % 256 = 255) (h3 : (r + r') % 256 = 255) : ovA a' d' r' = ovA a d r := by
  rw [ovA_b, ovA_b, b7_cpl h1, b7_cpl h2, b7_cpl h3]
  cases hib (a : Int) <;> cases hib (d : Int) <;> cases hib (r : Int) <;> rfl
theorem ovS_cpl {a d r a' d' r' : Nat} (h1 : (a + a') % 256 = 255) (h2 : (d + d') % 256 = 255) (h3 : (r + r') % 256 = 255) : ovS a' d' r' = ovS a d r := by
  rw [ovS_b, ovS_b, b7_cpl h1, b7_cpl h2, b7_cpl h3]
  cases hib (a : Int) <;> cases hib (d : Int) <;> cases hib (r : Int) <;> rfl
section
variable {a u a' u' : Nat}
theorem bv_nat {a : Nat} (h : a < 256) : (BitVec.ofNat 8 a).toNat = a := (BitVec.toNat_ofNat a 8).trans (Nat.mod_eq_of_lt h)
theorem bv_not {a a' : Nat} (h : a + a' = 255) : (~~~BitVec.ofNat 8 a).toNat = a' := by
  rw [BitVec.toNat_not, bv_nat (by lia)]; show 256 - 1 - a = a'; lia
theorem or_and8 (ha : a + a' = 255) (hu : u + u' = 255) : (a &&& u) + (a' ||| u') = 255 := by
  have h : (~~~(BitVec.ofNat 8 a &&& BitVec.ofNat 8 u)).toNat = (~~~BitVec.ofNat 8 a ||| ~~~BitVec.ofNat 8 u).toNat := congrArg _ BitVec.not_and
  rw [BitVec.toNat_not, BitVec.toNat_and, BitVec.toNat_or, bv_nat (by lia), bv_nat (by lia), bv_not ha, bv_not hu] at h
  have l : a &&& u ≤ 255 := Nat.le_trans Nat.and_le_left (by lia)
  rw [← h]
  exact Nat.add_sub_of_le l
theorem and_or8 (ha : a + a' = 255) (hu : u + u' = 255) : (a ||| u) + (a' &&& u') = 255 := (Nat.add_comm _ _).trans (or_and8 ((Nat.add_comm _ _).trans ha) ((Nat.add_comm _ _).trans hu))
theorem cpl_of {x y : Nat} (h : x + y = 255) : y = 255 - x := by lia
theorem sub_swap {x y : Nat} (l : x ≤ 255) : 255 - y - (255 - x) = x - y := by omega
theorem xor_xor8 (ha : a + a' = 255) (hu : u + u' = 255) : xorN a' u' = xorN a u := by
  have h1 := cpl_of (or_and8 ha hu)
  have h2 := cpl_of (and_or8 ha hu)
  have l : a ||| u ≤ 255 := (and_or8 ha hu) ▸ Nat.le_add_right _ _
  unfold xorN
  rw [h1, h2]
  exact sub_swap l
theorem and_split (ha : a + a' = 255) (hu : u < 256) : (a &&& u) + (a' &&& u) = u := by
  have e : (BitVec.ofNat 8 a &&& BitVec.ofNat 8 u) ||| (~~~BitVec.ofNat 8 a &&& BitVec.ofNat 8 u) = BitVec.ofNat 8 u := by
    rw [← BitVec.and_or_distrib_right, BitVec.or_not_self, BitVec.allOnes_and]
  have z : (BitVec.ofNat 8 a &&& BitVec.ofNat 8 u) &&& (~~~BitVec.ofNat 8 a &&& BitVec.ofNat 8 u) = 0#8 := by
    rw [BitVec.and_assoc, BitVec.and_comm (BitVec.ofNat 8 u), BitVec.and_assoc, BitVec.and_self, ← BitVec.and_assoc, BitVec.and_not_self]
    exact BitVec.zero_and
  have e' := congrArg BitVec.toNat e
  have z' := congrArg BitVec.toNat z
  rw [BitVec.toNat_or, BitVec.toNat_and, BitVec.toNat_and, bv_nat (by lia), bv_nat hu, bv_not ha] at e'
  rw [BitVec.toNat_and, BitVec.toNat_and, BitVec.toNat_and, bv_nat (by lia), bv_nat hu, bv_not ha] at z'
  have s := or_add_and (a &&& u) (a' &&& u)
  rw [e', z'] at s
  exact s.symm
theorem xor_one8 (ha : a + a' = 255) (hu : u < 256) : xorN a u + xorN a' u = 255 := by
  have h := and_split ha hu
  have o1 := or_add_and a u
  have o2 := or_add_and a' u
  have q1 := and_le_or (a := a) (v := u)
  have q2 := and_le_or (a := a') (v := u)
  unfold xorN
  generalize (a &&& u) = n1 at *
  generalize (a' &&& u) = n2 at *
  generalize (a ||| u) = x1 at *
  generalize (a' ||| u) = x2 at *
  lia
theorem xor_255 (ha : a < 256) : xorN a 255 = 255 - a := by
  have : a &&& 255 = a := by rw [show (255 : Nat) = 2 ^ 8 - 1 from rfl, Nat.and_two_pow_sub_one_eq_mod, Nat.mod_eq_of_lt ha]
  have o := or_add_and a 255
  rw [this, Nat.add_comm] at o
  unfold xorN
  rw [this, Nat.add_left_cancel o]
end
structure RW (d : Nat) (w1 w2 : Vw) : Prop where
  a : w1.a + w2.a = 255
  x : w1.x + w2.x = 255
  y : w1.y + w2.y = 255
  s1 : w1.sp = 255 - d
  s2 : w2.sp = 255 - d
  n : w2.f.n = !w1.f.n
  c : w2.f.c = !w1.f.c
  v : w2.f.v = w1.f.v
  i : w2.f.i = w1.f.i
  d1 : w1.f.d = false
  d2 : w2.f.d = false
section
variable {d : Nat} {w1 w2 : Vw} {u v : Nat}
theorem RW.o1 (R : RW d w1 w2) : w1.Ok := by have a := R.a; have x := R.x; have y := R.y; exact ⟨by omega, by omega, by omega⟩
theorem RW.o2 (R : RW d w1 w2) : w2.Ok := by have a := R.a; have x := R.x; have y := R.y; exact ⟨by omega, by omega, by omega⟩
theorem n_cpl (h : u + v = 255) : decide (128 ≤ v) = !decide (128 ≤ u) := by
  by_cases q : 128 ≤ u
  · rw [decide_eq_true q]; exact decide_eq_false (by lia)
  · rw [decide_eq_false q]; exact decide_eq_true (by lia)
theorem RW.na (R : RW d w1 w2) (h : u + v = 255) : RW d (w1.na u) (w2.na v) := ⟨h, R.x, R.y, R.s1, R.s2, n_cpl h, R.c, R.v, R.i, R.d1, R.d2⟩
theorem RW.nx (R : RW d w1 w2) (h : u + v = 255) : RW d (w1.nx u) (w2.nx v) := ⟨R.a, h, R.y, R.s1, R.s2, n_cpl h, R.c, R.v, R.i, R.d1, R.d2⟩
theorem RW.ny (R : RW d w1 w2) (h : u + v = 255) : RW d (w1.ny u) (w2.ny v) := ⟨R.a, R.x, h, R.s1, R.s2, n_cpl h, R.c, R.v, R.i, R.d1, R.d2⟩
theorem RW.nzc (R : RW d w1 w2) {b : Bool} (h : u + v = 255) : RW d (w1.fl (({ w1.f with c := b } : Fl).nz u)) (w2.fl (({ w2.f with c := !b } : Fl).nz v)) := ⟨R.a, R.x, R.y, R.s1, R.s2, n_cpl h, rfl, R.v, R.i, R.d1, R.d2⟩
theorem RW.nz (R : RW d w1 w2) (h : u + v = 255) : RW d (w1.fl (w1.f.nz u)) (w2.fl (w2.f.nz v)) := ⟨R.a, R.x, R.y, R.s1, R.s2, n_cpl h, R.c, R.v, R.i, R.d1, R.d2⟩
theorem RW.ac (R : RW d w1 w2) {f1 f2 : Fl} (R' : RW d (w1.fl f1) (w2.fl f2)) (h : u + v = 255) : RW d { w1 with a := u, f := f1 } { w2 with a := v, f := f2 } := ⟨h, R.x, R.y, R.s1, R.s2, R'.n, R'.c, R'.v, R'.i, R'.d1, R'.d2⟩
theorem tn {b : Bool} : b.toNat + (!b).toNat = 1 := by cases b <;> rfl
theorem RW.adc (R : RW d w1 w2) (h : u + v = 255) : RW d (w1.adc u) (w2.adc v) := by
  have ha := R.a
  have hc := tn (b := w1.f.c)
  rw [← R.c] at hc
  have hr : (u + w1.a + w1.f.c.toNat) + (v + w2.a + w2.f.c.toNat) = 511 := by lia
  unfold Vw.adc
  generalize hr1 : u + w1.a + w1.f.c.toNat = r1 at *
  generalize hr2 : v + w2.a + w2.f.c.toNat = r2 at *
  have hm : r1 % 256 + r2 % 256 = 255 := by lia
  refine ⟨hm, R.x, R.y, R.s1, R.s2, n_cpl hm, ?_, ovA_cpl (by lia) (by lia) (by lia), R.i, R.d1, R.d2⟩
  show decide (255 < r2) = !decide (255 < r1)
  by_cases q : 255 < r1
  · rw [decide_eq_true q]; exact decide_eq_false (by lia)
  · rw [decide_eq_false q]; exact decide_eq_true (by lia)
theorem RW.sbc (R : RW d w1 w2) (h : u + v = 255) : RW d (w1.sbc u) (w2.sbc v) := by
  have ha := R.a
  have hc := tn (b := w1.f.c)
  rw [← R.c] at hc
  have hr : sAl w1.a u w1.f.c.toNat + sAl w2.a v w2.f.c.toNat = 511 := by unfold sAl; lia
  unfold Vw.sbc
  generalize sAl w1.a u w1.f.c.toNat = r1 at *
  generalize sAl w2.a v w2.f.c.toNat = r2 at *
  have hm : r1 % 256 + r2 % 256 = 255 := by lia
  refine ⟨hm, R.x, R.y, R.s1, R.s2, n_cpl hm, ?_, ovS_cpl (by lia) (by lia) (by lia), R.i, R.d1, R.d2⟩
  show decide (255 < r2) = !decide (255 < r1)
  by_cases q : 255 < r1
  · rw [decide_eq_true q]; exact decide_eq_false (by lia)
  · rw [decide_eq_false q]; exact decide_eq_true (by lia)
theorem RW.cmp (R : RW d w1 w2) (h : u + v = 256) (h1 : 0 < u) : RW d (w1.cmp u) (w2.cmp v) := by
  have ha := R.a
  refine ⟨R.a, R.x, R.y, R.s1, R.s2, ?_, ?_, R.v, R.i, R.d1, R.d2⟩
  · show decide ((128 : Int) ≤ ((w2.a : Int) - v) % 256) = !decide ((128 : Int) ≤ ((w1.a : Int) - u) % 256)
    by_cases q : (128 : Int) ≤ ((w1.a : Int) - u) % 256
    · rw [decide_eq_true q]; exact decide_eq_false (by lia)
    · rw [decide_eq_false q]; exact decide_eq_true (by lia)
  · show decide (v ≤ w2.a) = !decide (u ≤ w1.a)
    by_cases q : u ≤ w1.a
    · rw [decide_eq_true q]; exact decide_eq_false (by lia)
    · rw [decide_eq_false q]; exact decide_eq_true (by lia)
theorem ge128 {u v : Nat} (h : u + v = 255) : decide (128 ≤ v) = !decide (128 ≤ u) := n_cpl h
theorem odd_cpl {u v : Nat} (h : u + v = 255) : decide (v % 2 = 1) = !decide (u % 2 = 1) := by
  by_cases q : u % 2 = 1
  · rw [decide_eq_true q]; exact decide_eq_false (by lia)
  · rw [decide_eq_false q]; exact decide_eq_true (by lia)
theorem rol_cpl {b : Bool} (h : u + v = 255) : rolV u b + rolV v (!b) = 255 := by
  have := tn (b := b)
  unfold rolV; lia
theorem ror_cpl {b : Bool} (h : u + v = 255) : rorV u b + rorV v (!b) = 255 := by
  have := tn (b := b)
  unfold rorV; lia
end
end Mine.Internal
end
section
open PySem PySem.W PySem.Calls PyProof.Rows PySem.Builtin
namespace Mine.Internal
noncomputable def dsF : List (Stmt × Str) := [(nthS pw 5, "_law_words")]
theorem k4 : ((List.range (defCount + dsF.length)).all fun k => match (ifc pw ⟨[], []⟩ dsF []).fns k with | some r => okR r | none => true) = true := by decide +kernel
theorem k5 : okR (initOf (clsStm pw firstDef)) = true := by decide +kernel
theorem k8 : isPar (dPars (clsStm pw firstDef)) = true := by kernel_rfl
theorem k9 : ((topGlob defCount dsF).all fun e => !(["MPU", "len", "divmod", "range", "enumerate", "sum", "max", "list"] : List Str).contains e.1) = true := by decide +kernel
theorem chk01 : Chk pw dsF st01 := chk_of c8'.2.2.1 c8'.2.2.2.1 c8'.2.2.2.2.1 c8'.2.2.2.2.2 k4 k5 k8 k9
end Mine.Internal
end
section
open PySem PySem.W PySem.Calls PyProof.Rows PySem.Builtin
set_option genInjectivity false
set_option genSizeOf false
set_option genSizeOfSpec false
namespace Mine.Internal
noncomputable abbrev SL : Stmt := nthS pw 6
noncomputable def lb (i : Nat) : Stmt := (dBody SL).getD i (.Pass default)
noncomputable abbrev lsc : Scope := dScope SL
noncomputable abbrev Y7 : Xt := yOf "_law_pairs" rs07
noncomputable abbrev I7 (xs : List Int) : Ifc := ifc pw Y7 dsF xs
noncomputable abbrev nx (l : Loc) (H : HP) : AF × Loc × HP := (.next, l, H)
noncomputable abbrev lst (xs : List Int) (n : Nat) (i : Nat) (l : Loc) (H : HP) : T (AF × Loc × HP) := stI (I7 xs) (fns (I7 xs) n) 60 lsc (lb i) l H
theorem lawOk : LawOk SL "seed" := ⟨by kernel_rfl, by kernel_rfl, by kernel_rfl, by kernel_rfl, by kernel_rfl, by decide +kernel, fun n => by kernel_rfl⟩
noncomputable abbrev dr (xs : List Int) : List Int := pickI xs none (some 10)
noncomputable abbrev l0 : Loc := [("script", .lst 3)]
noncomputable abbrev l1 : Loc := [("script", .lst 3), ("drawn", .obj 0)]
theorem L0 (xs : List Int) : T.run (lst xs 119 0 l0 []) = T.run (.need (decide (xs.length ≤ 2 ^ 24)) (.ret (nx l1 [.nums (dr xs)]))) := by kernel_rfl
noncomputable abbrev l2 (s : Int) : Loc := [("script", .lst 3), ("drawn", .obj 0), ("seed", .int s)]
theorem L1 (xs zs : List Int) : T.run (lst xs 118 1 l1 [.nums zs]) = some (nx (l2 (zs.sum.fmod 65536)) [.nums zs]) := by kernel_rfl
noncomputable abbrev tabN (k s : Int) (n : Nat) : List Int := (upto 0 n).map fun z => (k * z + s).fmod 256
noncomputable abbrev l3 (s : Int) : Loc := [("script", .lst 3), ("drawn", .obj 0), ("seed", .int s), ("row", .obj 2)]
theorem L2 (xs zs : List Int) (s : Int) : T.run (lst xs 117 2 (l2 s) [.nums zs]) = some (nx (l3 s) [.nums zs, .rng 0 64, .nums (tabN 23 s 64)]) := by kernel_rfl
noncomputable abbrev neg (l : List Int) : List Int := l.map fun x => 255 - x
noncomputable abbrev l4 (s : Int) : Loc := [("script", .lst 3), ("drawn", .obj 0), ("seed", .int s), ("row", .obj 2), ("other", .obj 3)]
theorem L3 (xs zs : List Int) (s : Int) : T.run (lst xs 116 3 (l3 s) [.nums zs, .rng 0 64, .nums (tabN 23 s 64)]) = some (nx (l4 s) [.nums zs, .rng 0 64, .nums (tabN 23 s 64), .nums (neg (tabN 23 s 64))]) := by kernel_rfl
noncomputable abbrev flat (n : Nat) (l : List Int) : List Int := (List.replicate n l).flatten
noncomputable abbrev memJ (ro : List Int) : List AO := [.nums [0], .nums (flat 576 [0]), .nums (ro ++ flat 576 [0]), .nums ro.reverse, .nums (flat 2 ro.reverse), .nums (ro ++ flat 576 [0] ++ flat 2 ro.reverse), .nums [234], .nums (flat 256 [234])]
noncomputable abbrev mem7 (ro : List Int) : List Int := ro ++ flat 576 [0] ++ flat 2 ro.reverse ++ flat 256 [234]
noncomputable abbrev needM {α : Type} (ro : List Int) (t : T α) : T α := .need (decide (ro.length + (flat 576 [0]).length ≤ 2 ^ 24)) (.need (decide (ro.length ≤ 2 ^ 24)) (.need (decide (ro.reverse.length * 2 ≤ 2 ^ 24)) (.need (decide ((ro ++ flat 576 [0]).length + (flat 2 ro.reverse).length ≤ 2 ^ 24)) (.need (decide ((ro ++ flat 576 [0] ++ flat 2 ro.reverse).length + (flat 256 [234]).length ≤ 2 ^ 24)) t))))
noncomputable abbrev h4 (zs ro ot : List Int) : HP := [.nums zs, .rng 0 64, .nums ro, .nums ot]
noncomputable abbrev l5 (s : Int) : Loc := [("script", .lst 3), ("drawn", .obj 0), ("seed", .int s), ("row", .obj 2), ("other", .obj 3), ("memory", .obj 12)]
theorem L4 (xs zs ro ot : List Int) (s : Int) : T.run (lst xs 115 4 (l4 s) (h4 zs ro ot)) = T.run (needM ro (.ret (nx (l5 s) (h4 zs ro ot ++ memJ ro ++ [.nums (mem7 ro)])))) := by kernel_rfl
noncomputable abbrev l6 (s : Int) : Loc := [("script", .lst 3), ("drawn", .obj 0), ("seed", .int s), ("row", .obj 2), ("other", .obj 3), ("memory", .obj 12), ("against", .obj 21)]
noncomputable abbrev h6 (zs ro ot m1 m2 : List Int) : HP := h4 zs ro ot ++ memJ ro ++ [.nums m1] ++ memJ ot ++ [.nums m2]
theorem L5 (xs zs ro ot m1 : List Int) (s : Int) : T.run (lst xs 114 5 (l5 s) (h4 zs ro ot ++ memJ ro ++ [.nums m1])) = T.run (needM ot (.ret (nx (l6 s) (h6 zs ro ot m1 (mem7 ot))))) := by kernel_rfl
noncomputable abbrev l7 (s : Int) : Loc := l6 s ++ ([("depth", .int 0), ("far", .obj 23), ("near", .obj 22)] : Loc)
noncomputable abbrev nf (ne fa : List Int) : HP := [.nums ne, .nums fa, .seq true [.obj 22, .obj 23, .int 0]]
theorem L6 (xs zs ro ot m1 m2 : List Int) (s : Int) : T.run (lst xs 113 6 (l6 s) (h6 zs ro ot m1 m2)) = some (nx (l7 s) (h6 zs ro ot m1 m2 ++ nf [] [])) := by kernel_rfl
noncomputable abbrev lD (s d : Int) (e : Loc) : Loc := l6 s ++ (([("depth", .int d), ("far", .obj 23), ("near", .obj 22), ("marks", .obj 26), ("stops", .obj 25)] : Loc) ++ e)
noncomputable abbrev h8 (zs ro ot m1 m2 ne fa : List Int) (st mk : List (Int × Int)) (R : HP) : HP := h6 zs ro ot m1 m2 ++ nf ne fa ++ ([.tab st, .tab mk, .seq true [.obj 25, .obj 26]] : HP) ++ R
theorem L7 (xs zs ro ot m1 m2 : List Int) (s : Int) : T.run (lst xs 112 7 (l7 s) (h6 zs ro ot m1 m2 ++ nf [] [])) = some (nx (lD s 0 []) (h8 zs ro ot m1 m2 [] [] [] [] [])) := by kernel_rfl
end Mine.Internal
end
section
open PySem PySem.W PySem.Calls PyProof.Rows PySem.Builtin
namespace Mine.Internal
section
variable {I : Ifc} {F : Fns} {dp : Nat} {sc : Scope} {t e : Expr} {s : Stmt} {body : List Stmt} {w : Itr} {n0 m k : Nat} {l l1 l2 l3 : Loc} {H H1 H2 H3 : HP}
theorem last_at {A : HP} {o : AO} : (A ++ [o])[A.length]? = some o := by rw [List.getElem?_append_right (Nat.le_refl _), Nat.sub_self]; rfl
theorem last_nums {A : HP} {xs : List Int} : numsO (A ++ [.nums xs]) (.obj A.length) = some xs := by
  show ((A ++ [AO.nums xs])[A.length]?).bind AO.nums? = _
  rw [last_at]; rfl
theorem last_tab {A : HP} {xs : List Int} : tabO (A ++ [.nums xs]) (.obj A.length) = none := by
  show ((A ++ [AO.nums xs])[A.length]?).bind AO.tab? = _
  rw [last_at]; rfl
theorem last_tup {A : HP} {vs : List AV} : tupV I (.obj A.length) (A ++ [.seq true vs]) = some vs := by
  show (((A ++ [AO.seq true vs])[A.length]?).bind AO.seq?).bind _ = _
  rw [last_at]; rfl
theorem nums_app {A B : HP} {i : Nat} {xs : List Int} (h : numsO A (.obj i) = some xs) : numsO (A ++ B) (.obj i) = some xs := by
  replace h : (A[i]?).bind AO.nums? = some xs := h
  obtain ⟨o, h1, h2⟩ := Option.bind_eq_some_iff.mp h
  show ((A ++ B)[i]?).bind AO.nums? = _
  rw [List.getElem?_append_left (List.getElem?_eq_some_iff.mp h1).1, h1]; exact h2
theorem okIx_nat {i n : Nat} (h : i < n) (hn : n ≤ 100000) : okIx (i : Int) n = true := by
  unfold okIx
  rw [Bool.and_eq_true, Bool.and_eq_true]
  exact ⟨⟨decide_eq_true (Int.natCast_nonneg i), decide_eq_true (Int.lt_trans (Int.ofNat_lt.mpr (Nat.lt_of_lt_of_le h hn)) (by decide))⟩, decide_eq_true h⟩
theorem run_bind {α β : Type} {t : T α} {f : α → T β} {a : α} {z : Option β} (h : T.run t = some a) (k : T.run (f a) = z) : T.run (t.bind f) = z := by rw [T.run_bnd, h]; exact k
theorem run_opt {α β : Type} {o : Option α} {f : α → T β} {a : α} {z : Option β} (h : o = some a) (k : T.run (f a) = z) : T.run (.opt o f) = z := by rw [h]; exact k
theorem run_nd {α : Type} {c : Bool} {t : T α} {z : Option α} (h : c = true) (k : T.run t = z) : T.run (.need c t) = z := by rw [h]; exact k
theorem ev_l2 {e1 e2 : Expr} {a b : Int} (hv : viewX e = .list [e1, e2]) (h1 : T.run (F.ev dp sc e1 l H) = some (.int a, H1)) (h2 : T.run (F.ev dp sc e2 l H1) = some (.int b, H2)) : T.run (evI I F dp sc e l H) = some (.obj H2.length, H2 ++ [.nums [a, b]]) := by
  unfold evI
  rw [hv]
  exact run_bind (run_bind h1 (run_bind (run_bind h2 (run_bind (t := .ret ([], H2)) rfl rfl)) rfl)) rfl
theorem ev_at {v i : Expr} {j : Nat} {k : Int} {xs : List Int} (hv : viewX e = .sub v i) (h1 : T.run (F.ev dp sc v l H) = some (.obj j, H1)) (h2 : T.run (F.ev dp sc i l H1) = some (.int k, H2)) (h3 : tabO H2 (.obj j) = none) (h4 : numsO H2 (.obj j) = some xs) (h5 : okIx k xs.length = true) :
    T.run (evI I F dp sc e l H) = some (.int (xs.getD k.toNat 0), H2) := by
  unfold evI
  rw [hv]
  refine run_bind h1 (run_bind h2 ?_)
  show T.run (match tabO H2 (.obj j) with | some kvs => _ | none => T.opt (numsO H2 (.obj j)) _) = _
  rw [h3]
  exact run_opt h4 (run_nd h5 rfl)
theorem st_aug {op : Operator} {x : Str} {a j : Nat} {xs ys : List Int} (hs : viewY s = .aug t op e) (ht : viewT t = .name x) (hx : (isVar (sc.names.lookup x) && !(x == ("__debug__" : Str))) = true) (hop : isAdd op = true) (hl : l.lookup x = some (.obj a))
    (he : T.run (F.ev dp sc e l H) = some (.obj j, H1)) (h1 : numsO H1 (.obj a) = some xs) (h2 : numsO H1 (.obj j) = some ys) (hn : a ≠ j) (hy : ys.isEmpty = false) (hz : xs.length + ys.length ≤ 1000) :
    T.run (stI I F dp sc s l H) = some (.next, setL x (.obj a) l, H1.set a (.nums (xs ++ ys))) := by
  unfold stI
  rw [hs]
  show T.run (augV I F dp sc op e l H (viewT t)) = _
  rw [ht]
  refine run_nd hx (run_opt hl (run_bind he ?_))
  refine run_opt (a := a) rfl (run_bind (a := H1.set a (.nums (xs ++ ys))) ?_ rfl)
  refine run_opt h1 (run_opt (a := j) rfl (run_opt h2 (run_nd ?_ rfl)))
  rw [hop, hy]
  have : Nat.beq a j = false := by
    cases q : Nat.beq a j with
    | false => rfl
    | true => exact absurd (Nat.eq_of_beq_eq_true q) hn
  rw [this]
  exact decide_eq_true (Nat.le_trans hz (by decide))
theorem st_if {b o : List Stmt} {c : Bool} {z : Option (AF × Loc × HP)} (hs : viewY s = .ifs t b o) (ht : T.run (tstI I F dp sc t l H) = some (c, H1)) (hz : cond c (T.run (F.xs dp sc b l H1)) (T.run (F.xs dp sc o l H1)) = z) : T.run (stI I F dp sc s l H) = z := by
  unfold stI
  rw [hs]
  refine run_bind ht ?_
  cases c with
  | true => exact hz
  | false => exact hz
theorem st_ifT {b o : List Stmt} {z : Option (AF × Loc × HP)} (hs : viewY s = .ifs t b o) (ht : T.run (tstI I F dp sc t l H) = some (true, H1)) (hz : T.run (F.xs dp sc b l H1) = z) : T.run (stI I F dp sc s l H) = z := st_if hs ht hz
theorem st_ifF {b o : List Stmt} {z : Option (AF × Loc × HP)} (hs : viewY s = .ifs t b o) (ht : T.run (tstI I F dp sc t l H) = some (false, H1)) (hz : T.run (F.xs dp sc o l H1) = z) : T.run (stI I F dp sc s l H) = z := st_if hs ht hz
theorem ts_in {a b : Expr} {x : Int} {j : Nat} {xs : List Int} (hv : viewX e = .cmp a .In b) (h1 : T.run (F.ev dp sc a l H) = some (.int x, H1)) (h2 : T.run (F.ev dp sc b l H1) = some (.obj j, H2)) (h3 : tabO H2 (.obj j) = none) (h4 : numsO H2 (.obj j) = some xs) : T.run (tstI I F dp sc e l H) = some (xs.any (· == x), H2) := by
  unfold tstI
  rw [hv]
  refine run_bind h1 (run_bind h2 (run_bind (a := xs.any (· == x)) ?_ rfl))
  show T.run (match tabO H2 (.obj j) with | some kvs => _ | none => T.opt (numsO H2 (.obj j)) _) = _
  rw [h3]
  exact run_opt h4 rfl
theorem ts_or {a b : Expr} {c d : Bool} (hv : viewX e = .bool .Or [a, b]) (h1 : T.run (F.ts dp sc a l H) = some (c, H1)) (h2 : c = false → T.run (F.ts dp sc b l H1) = some (d, H2)) : T.run (tstI I F dp sc e l H) = some (cond c (true, H1) (d, H2)) := by
  unfold tstI
  rw [hv]
  refine run_bind h1 ?_
  cases c with
  | true => rfl
  | false =>
    refine run_bind (h2 rfl) ?_
    cases d with
    | true => rfl
    | false => rfl
theorem ts_and {a b : Expr} {c d : Bool} (hv : viewX e = .bool .And [a, b]) (h1 : T.run (F.ts dp sc a l H) = some (c, H1)) (h2 : c = true → T.run (F.ts dp sc b l H1) = some (d, H2)) : T.run (tstI I F dp sc e l H) = some (cond c (d, H2) (false, H1)) := by
  unfold tstI
  rw [hv]
  refine run_bind h1 ?_
  cases c with
  | false => rfl
  | true =>
    refine run_bind (h2 rfl) ?_
    cases d with
    | true => rfl
    | false => rfl
theorem st_tup {ts : List Expr} {v : AV} {vs : List AV} {z : Loc × HP} (hs : viewY s = .asg t e) (ht : viewT t = .tup ts) (hw : swapOk ts e = true) (he : T.run (F.ev dp sc e l H) = some (v, H1)) (hv : tupV I v H1 = some vs) (h : T.run (asgsI I F dp sc ts vs l H1) = some z) : T.run (stI I F dp sc s l H) = some (.next, z.1, z.2) := by
  unfold stI
  rw [hs]
  show T.run (asgS I F dp sc e l H (viewT t)) = _
  rw [ht]
  show T.run (match swapOk ts e with | true => _ | false => _) = _
  rw [hw]
  exact run_bind he (run_opt hv (run_bind h rfl))
theorem st_swp {ts : List Expr} {ns : List Str} {v : AV} {vs : List AV} {z : Loc} (hs : viewY s = .asg t e) (ht : viewT t = .tup ts) (hw : swapOk ts e = false) (hn : swpN sc ts e = some ns) (he : T.run (F.ev dp sc e l H) = some (v, H1)) (hv : tupV I v H1 = some vs) (hl : (ns.length == vs.length) = true) (h : T.run (bndsI sc ns.reverse vs.reverse l) = some z) : T.run (stI I F dp sc s l H) = some (.next, z, H1) := by
  unfold stI
  rw [hs]
  show T.run (asgS I F dp sc e l H (viewT t)) = _
  rw [ht]
  show T.run (match swapOk ts e with | true => _ | false => _) = _
  rw [hw]
  exact run_opt hn (run_bind he (run_opt hv (run_nd hl (run_bind h rfl))))
theorem bin_ll {a b : Expr} {u v : AV} {xs ys : List Int} (hv : viewX e = .bin a .Add b) (h1 : T.run (F.ev dp sc a l H) = some (u, H1)) (h2 : T.run (F.ev dp sc b l H1) = some (v, H2)) (hu : u.int? = none) (hw : v.int? = none) (h3 : numsX I H2 u = some xs) (h4 : numsX I H2 v = some ys) (hz : xs.length + ys.length ≤ 1000) :
    T.run (evI I F dp sc e l H) = some (.obj H2.length, H2 ++ [.nums (xs ++ ys)]) := by
  unfold evI
  rw [hv]
  refine run_bind h1 (run_bind h2 ?_)
  show T.run (match u.int? with | some x => _ | none => binL I .Add u v H2) = _
  rw [hu]
  refine run_opt h3 ?_
  show T.run (match v.int? with | some k => _ | none => _) = _
  rw [hw]
  exact run_opt h4 (run_nd (decide_eq_true (Nat.le_trans hz (by decide))) rfl)
theorem forI_step {u : AV} (hn : nxI w k H = some (some u)) (ha : T.run (asgT I F dp sc t u l H) = some (l1, H1)) (hb : T.run (F.xs dp sc body l1 H1) = some (.next, l2, H2)) (hs : sweepL n0 l2 H2 = (l3, H3)) :
    T.run (forI I F dp sc t body w n0 (m + 1) k l H) = T.run (forI I F dp sc t body w n0 m (k + 1) l3 H3) := by
  show T.run (T.opt (nxI w k H) _) = _
  rw [hn]
  show T.run ((asgT I F dp sc t u l H).bind _) = _
  rw [T.run_bnd, ha]
  show T.run ((F.xs dp sc body l1 H1).bind _) = _
  rw [T.run_bnd, hb]
  show T.run (forI I F dp sc t body w n0 m (k + 1) (sweepL n0 l2 H2).1 (sweepL n0 l2 H2).2) = _
  rw [hs]
theorem forI_brk {u : AV} (hn : nxI w k H = some (some u)) (ha : T.run (asgT I F dp sc t u l H) = some (l1, H1)) (hb : T.run (F.xs dp sc body l1 H1) = some (.brk, l2, H2)) (hs : sweepL n0 (dropT t l2) H2 = (l3, H3)) :
    T.run (forI I F dp sc t body w n0 (m + 1) k l H) = some (.next, l3, H3) := by
  show T.run (T.opt (nxI w k H) _) = _
  rw [hn]
  show T.run ((asgT I F dp sc t u l H).bind _) = _
  rw [T.run_bnd, ha]
  show T.run ((F.xs dp sc body l1 H1).bind _) = _
  rw [T.run_bnd, hb]
  show some (nxtL (sweepL n0 (dropT t l2) H2)) = _
  rw [hs]; rfl
theorem forI_end (hn : nxI w k H = some none) : T.run (forI I F dp sc t body w n0 (m + 1) k l H) = some (.next, dropT t l, H) := by
  show T.run (T.opt (nxI w k H) _) = _
  rw [hn]; rfl
end
end Mine.Internal
end
section
open PySem PySem.W PySem.Calls PyProof.Rows PySem.Builtin
set_option maxHeartbeats 1000000
namespace Mine.Internal
noncomputable def kndL : List (List Int × Int × Int × Nat) := [([], 169, 169, 1), ([], 162, 162, 1), ([], 160, 160, 1), ([], 105, 105, 1), ([], 233, 233, 1), ([], 41, 9, 1), ([], 9, 41, 1), ([], 73, 73, 2), ([], 201, 201, 3), ([], 101, 101, 4), ([], 229, 229, 4), ([], 37, 5, 4), ([], 5, 37, 4), ([], 69, 69, 4), ([], 230, 198, 4), ([], 198, 230, 4), ([], 38, 38, 4), ([], 102, 102, 4), ([], 42, 42, 0), ([], 106, 106, 0), ([56], 6, 38, 4), ([56], 70, 102, 4), ([], 133, 133, 4), ([], 165, 165, 4), ([], 134, 134, 4), ([], 164, 164, 4), ([], 232, 202, 0), ([], 136, 200, 0), ([], 24, 56, 0), ([], 184, 184, 0), ([], 170, 170, 0), ([], 152, 152, 0), ([], 72, 72, 0), ([], 104, 104, 0)]
noncomputable def knd (K : Nat) : List Int × Int × Int × Nat := kndL.getD K ([], 104, 104, 0)
noncomputable abbrev wsc : Scope := dScope (nthS pw 5)
noncomputable def wb (i : Nat) : Stmt := (dBody (nthS pw 5)).getD i (.Pass default)
theorem wbody : dBody (nthS pw 5) = [wb 0, wb 1, wb 2, wb 3, wb 4, wb 5, wb 6, wb 7] := by kernel_rfl
noncomputable abbrev wxs (xs : List Int) (n : Nat) (ss : List Stmt) (l : Loc) (H : HP) : T (AF × Loc × HP) := (fns (I7 xs) n).xs 59 wsc ss l H
noncomputable abbrev wl (v K : Int) (j : Nat) (c g : Int) (w : Int) : Loc := [("value", .int v), ("kind", .int K), ("before", .lst j), ("code", .int c), ("negative", .int g), ("way", .int w)]
noncomputable abbrev wret (v : AV) (l : Loc) (H : HP) : AF × Loc × HP := (.ret v, l, H)
noncomputable abbrev two (a b : List Int) (H : HP) : HP := H ++ [.nums a] ++ [.nums b] ++ [.seq true [.obj H.length, .obj (H ++ [AO.nums a]).length]]
noncomputable abbrev two' (a b : List Int) (H : HP) : AV := .obj (H ++ [AO.nums a] ++ [AO.nums b]).length
theorem wA0 (xs : List Int) (v : Int) (H : HP) : T.run (wxs xs 100 (dBody (nthS pw 5)) [("value", .int v), ("kind", .int 0)] H) = some (wret (two' [169, v] [169, 255 - v] H) (wl v 0 39 169 169 1) (two [169, v] [169, 255 - v] H)) := by kernel_rfl
theorem wA1 (xs : List Int) (v : Int) (H : HP) : T.run (wxs xs 100 (dBody (nthS pw 5)) [("value", .int v), ("kind", .int 1)] H) = some (wret (two' [162, v] [162, 255 - v] H) (wl v 1 40 162 162 1) (two [162, v] [162, 255 - v] H)) := by kernel_rfl
theorem wA2 (xs : List Int) (v : Int) (H : HP) : T.run (wxs xs 100 (dBody (nthS pw 5)) [("value", .int v), ("kind", .int 2)] H) = some (wret (two' [160, v] [160, 255 - v] H) (wl v 2 41 160 160 1) (two [160, v] [160, 255 - v] H)) := by kernel_rfl
theorem wA3 (xs : List Int) (v : Int) (H : HP) : T.run (wxs xs 100 (dBody (nthS pw 5)) [("value", .int v), ("kind", .int 3)] H) = some (wret (two' [105, v] [105, 255 - v] H) (wl v 3 42 105 105 1) (two [105, v] [105, 255 - v] H)) := by kernel_rfl
theorem wA4 (xs : List Int) (v : Int) (H : HP) : T.run (wxs xs 100 (dBody (nthS pw 5)) [("value", .int v), ("kind", .int 4)] H) = some (wret (two' [233, v] [233, 255 - v] H) (wl v 4 43 233 233 1) (two [233, v] [233, 255 - v] H)) := by kernel_rfl
theorem wA5 (xs : List Int) (v : Int) (H : HP) : T.run (wxs xs 100 (dBody (nthS pw 5)) [("value", .int v), ("kind", .int 5)] H) = some (wret (two' [41, v] [9, 255 - v] H) (wl v 5 44 41 9 1) (two [41, v] [9, 255 - v] H)) := by kernel_rfl
theorem wA6 (xs : List Int) (v : Int) (H : HP) : T.run (wxs xs 100 (dBody (nthS pw 5)) [("value", .int v), ("kind", .int 6)] H) = some (wret (two' [9, v] [41, 255 - v] H) (wl v 6 45 9 41 1) (two [9, v] [41, 255 - v] H)) := by kernel_rfl
theorem wA7 (xs : List Int) (v : Int) (H : HP) : T.run (wxs xs 100 (dBody (nthS pw 5)) [("value", .int v), ("kind", .int 7)] H) = some (wret (two' [73, v] [73, v] H) (wl v 7 46 73 73 2) (two [73, v] [73, v] H)) := by kernel_rfl
theorem wA8 (xs : List Int) (v : Int) (H : HP) : T.run (wxs xs 100 (dBody (nthS pw 5)) [("value", .int v), ("kind", .int 8)] H) = some (wret (two' [201, (if v < 1 then 1 else v)] [201, 256 - (if v < 1 then 1 else v)] H) (wl (if v < 1 then 1 else v) 8 47 201 201 3) (two [201, (if v < 1 then 1 else v)] [201, 256 - (if v < 1 then 1 else v)] H)) := by kernel_rfl
theorem wA18 (xs : List Int) (v : Int) (H : HP) : T.run (wxs xs 100 (dBody (nthS pw 5)) [("value", .int v), ("kind", .int 18)] H) = some (wret (two' [42] [42] H) (wl v 18 57 42 42 0) (two [42] [42] H)) := by kernel_rfl
theorem wA19 (xs : List Int) (v : Int) (H : HP) : T.run (wxs xs 100 (dBody (nthS pw 5)) [("value", .int v), ("kind", .int 19)] H) = some (wret (two' [106] [106] H) (wl v 19 58 106 106 0) (two [106] [106] H)) := by kernel_rfl
theorem wA26 (xs : List Int) (v : Int) (H : HP) : T.run (wxs xs 100 (dBody (nthS pw 5)) [("value", .int v), ("kind", .int 26)] H) = some (wret (two' [232] [202] H) (wl v 26 65 232 202 0) (two [232] [202] H)) := by kernel_rfl
theorem wA27 (xs : List Int) (v : Int) (H : HP) : T.run (wxs xs 100 (dBody (nthS pw 5)) [("value", .int v), ("kind", .int 27)] H) = some (wret (two' [136] [200] H) (wl v 27 66 136 200 0) (two [136] [200] H)) := by kernel_rfl
theorem wA28 (xs : List Int) (v : Int) (H : HP) : T.run (wxs xs 100 (dBody (nthS pw 5)) [("value", .int v), ("kind", .int 28)] H) = some (wret (two' [24] [56] H) (wl v 28 67 24 56 0) (two [24] [56] H)) := by kernel_rfl
theorem wA29 (xs : List Int) (v : Int) (H : HP) : T.run (wxs xs 100 (dBody (nthS pw 5)) [("value", .int v), ("kind", .int 29)] H) = some (wret (two' [184] [184] H) (wl v 29 68 184 184 0) (two [184] [184] H)) := by kernel_rfl
theorem wA30 (xs : List Int) (v : Int) (H : HP) : T.run (wxs xs 100 (dBody (nthS pw 5)) [("value", .int v), ("kind", .int 30)] H) = some (wret (two' [170] [170] H) (wl v 30 69 170 170 0) (two [170] [170] H)) := by kernel_rfl
theorem wA31 (xs : List Int) (v : Int) (H : HP) : T.run (wxs xs 100 (dBody (nthS pw 5)) [("value", .int v), ("kind", .int 31)] H) = some (wret (two' [152] [152] H) (wl v 31 70 152 152 0) (two [152] [152] H)) := by kernel_rfl
theorem wA32 (xs : List Int) (v : Int) (H : HP) : T.run (wxs xs 100 (dBody (nthS pw 5)) [("value", .int v), ("kind", .int 32)] H) = some (wret (two' [72] [72] H) (wl v 32 71 72 72 0) (two [72] [72] H)) := by kernel_rfl
theorem wA33 (xs : List Int) (v : Int) (H : HP) : T.run (wxs xs 100 (dBody (nthS pw 5)) [("value", .int v), ("kind", .int 33)] H) = some (wret (two' [104] [104] H) (wl v 33 72 104 104 0) (two [104] [104] H)) := by kernel_rfl
end Mine.Internal
end
section
open PySem PySem.W PySem.Calls PyProof.Rows PySem.Builtin
set_option maxHeartbeats 1000000
namespace Mine.Internal
theorem wB (xs : List Int) (v : Int) (H : HP) (r : List Stmt) : ∀ K : Nat, K ∈ [9, 10, 11, 12, 13, 14, 15, 16, 17, 20, 21, 22, 23, 24, 25] → T.run (wxs xs 100 (wb 0 :: wb 1 :: wb 2 :: wb 3 :: wb 4 :: r) [("value", .int v), ("kind", .int (K : Int))] H) = T.run (wxs xs 95 r (wl v (K : Int) (39 + K) (knd K).2.1 (knd K).2.2.1 4) H) := by
  intro K hK
  simp only [List.mem_cons, List.not_mem_nil, or_false] at hK
  rcases hK with rfl | rfl | rfl | rfl | rfl | rfl | rfl | rfl | rfl | rfl | rfl | rfl | rfl | rfl | rfl
  · kernel_rfl
  · kernel_rfl
  · kernel_rfl
  · kernel_rfl
  · kernel_rfl
  · kernel_rfl
  · kernel_rfl
  · kernel_rfl
  · kernel_rfl
  · kernel_rfl
  · kernel_rfl
  · kernel_rfl
  · kernel_rfl
  · kernel_rfl
  · kernel_rfl
theorem wpre (xs : List Int) : ∀ K : Nat, K ∈ [9, 10, 11, 12, 13, 14, 15, 16, 17, 20, 21, 22, 23, 24, 25] → (I7 xs).iLs (39 + K) = some (knd K).1 := by
  intro K hK
  simp only [List.mem_cons, List.not_mem_nil, or_false] at hK
  rcases hK with rfl | rfl | rfl | rfl | rfl | rfl | rfl | rfl | rfl | rfl | rfl | rfl | rfl | rfl | rfl
  · kernel_rfl
  · kernel_rfl
  · kernel_rfl
  · kernel_rfl
  · kernel_rfl
  · kernel_rfl
  · kernel_rfl
  · kernel_rfl
  · kernel_rfl
  · kernel_rfl
  · kernel_rfl
  · kernel_rfl
  · kernel_rfl
  · kernel_rfl
  · kernel_rfl
section
variable {I : Ifc} {F : Fns} {dp : Nat} {sc : Scope} {e : Expr} {l : Loc} {H H1 H2 : HP}
theorem ev_t2 {e1 e2 : Expr} {i j : Nat} (hv : viewX e = .tup [e1, e2]) (h1 : T.run (F.ev dp sc e1 l H) = some (.obj i, H1)) (h2 : T.run (F.ev dp sc e2 l H1) = some (.obj j, H2)) : T.run (evI I F dp sc e l H) = some (.obj H2.length, H2 ++ [.seq true [.obj i, .obj j]]) := by
  unfold evI
  rw [hv]
  exact run_bind (run_bind h1 (run_bind (run_bind h2 (run_bind (t := .ret ([], H2)) rfl rfl)) rfl)) rfl
end
noncomputable def exL : Ex → List Expr
  | .list es => es
  | .tup es => es
  | .bool _ es => es
  | .bin a _ b => [a, b]
  | .cmp a _ b => [a, b]
  | .sub v i => [v, i]
  | _ => []
noncomputable def stP : St → Expr × Expr × List Stmt × List Stmt
  | .ifs t b o => (t, t, b, o)
  | .asg t e => (t, e, [], [])
  | .aug t _ e => (t, e, [], [])
  | .for_ t e b => (t, e, b, [])
  | _ => (.Name "" default, .Name "" default, [], [])
noncomputable def kids (e : Expr) : List Expr := exL (viewX e)
noncomputable abbrev kid (e : Expr) (i : Nat) : Expr := (kids e).getD i (.Name "" default)
noncomputable abbrev ifT (s : Stmt) : Expr := (stP (viewY s)).1
noncomputable abbrev ifB (s : Stmt) : List Stmt := (stP (viewY s)).2.2.1
noncomputable abbrev ifE (s : Stmt) : List Stmt := (stP (viewY s)).2.2.2
noncomputable abbrev asT (s : Stmt) : Expr := (stP (viewY s)).1
noncomputable abbrev asV (s : Stmt) : Expr := (stP (viewY s)).2.1
noncomputable abbrev tupL (e : Expr) : List Expr := kids e
noncomputable abbrev binR (e : Expr) : Expr := kid e 1
noncomputable abbrev binL' (e : Expr) : Expr := kid e 0
noncomputable def sLo : Stmt := (ifB (wb 5)).getD 0 (.Pass default)
noncomputable def sHi : Stmt := (ifE (wb 5)).getD 0 (.Pass default)
theorem w5v : viewY (wb 5) = .ifs (ifT (wb 5)) [sLo] [sHi] := by kernel_rfl
end Mine.Internal
end
section
open PySem PySem.W PySem.Calls PyProof.Rows PySem.Builtin
set_option maxHeartbeats 1000000
namespace Mine.Internal
noncomputable def nth (l : List Expr) (i : Nat) : Expr := l.getD i (.Name "" default)
noncomputable abbrev four (a b c : List Int) (H : HP) : HP := H ++ [.nums a] ++ [.nums b] ++ [.nums c]
noncomputable abbrev five (a b c : List Int) (H : HP) : HP := four a b c H ++ [.seq true [.obj H.length, .obj (H ++ [AO.nums a] ++ [AO.nums b]).length]]
noncomputable abbrev wl2 (v K : Int) (j : Nat) (c g : Int) (t p : Nat) : Loc := wl v K j c g 4 ++ ([("turned", .obj t), ("plain", .obj p)] : Loc)
section
variable {xs : List Int} {v K c g : Int} {j : Nat} {pre : List Int} {H : HP}
theorem lo_ok (hj : numsX (I7 xs) (H ++ [.nums [c, v.fmod 64]] ++ [.nums [g, v.fmod 64]]) (.lst j) = some pre) (hp : pre.length ≤ 10) :
    T.run (stI (I7 xs) (fns (I7 xs) 93) 59 wsc sLo (wl v K j c g 4) H) = some (.next, wl2 v K j c g (H ++ [AO.nums [c, v.fmod 64]] ++ [AO.nums [g, v.fmod 64]]).length H.length, five [c, v.fmod 64] [g, v.fmod 64] (pre ++ [g, v.fmod 64]) H) := by
  have eb : T.run (evI (I7 xs) (fns (I7 xs) 91) 59 wsc (nth (tupL (asV sLo)) 1) (wl v K j c g 4) (H ++ [AO.nums [c, v.fmod 64]])) = some (.obj (H ++ [AO.nums [c, v.fmod 64]] ++ [AO.nums [g, v.fmod 64]]).length, four [c, v.fmod 64] [g, v.fmod 64] (pre ++ [g, v.fmod 64]) H) :=
    bin_ll (a := binL' (nth (tupL (asV sLo)) 1)) (b := binR (nth (tupL (asV sLo)) 1)) (u := .lst j) (v := .obj (H ++ [AO.nums [c, v.fmod 64]]).length) (ys := [g, v.fmod 64]) (H1 := H ++ [AO.nums [c, v.fmod 64]]) (H2 := H ++ [AO.nums [c, v.fmod 64]] ++ [AO.nums [g, v.fmod 64]]) (by kernel_rfl) (by kernel_rfl) (by kernel_rfl) rfl rfl hj last_nums (Nat.le_trans (Nat.add_le_add_right hp 2) (by decide))
  have ea : T.run (evI (I7 xs) (fns (I7 xs) 92) 59 wsc (asV sLo) (wl v K j c g 4) H) = some (.obj (four [c, v.fmod 64] [g, v.fmod 64] (pre ++ [g, v.fmod 64]) H).length, five [c, v.fmod 64] [g, v.fmod 64] (pre ++ [g, v.fmod 64]) H) :=
    ev_t2 (e1 := nth (tupL (asV sLo)) 0) (e2 := nth (tupL (asV sLo)) 1) (H1 := H ++ [AO.nums [c, v.fmod 64]]) (by kernel_rfl) (by kernel_rfl) eb
  exact st_swp (t := asT sLo) (e := asV sLo) (ts := tupL (asT sLo)) (ns := ["plain", "turned"]) (by kernel_rfl) (by kernel_rfl) (by kernel_rfl) (by kernel_rfl) ea last_tup rfl (by kernel_rfl)
theorem hi_ok (hj : numsX (I7 xs) (H ++ [.nums [c + 8, v, 2]] ++ [.nums [g + 8, v, 2]]) (.lst j) = some pre) (hp : pre.length ≤ 10) :
    T.run (stI (I7 xs) (fns (I7 xs) 93) 59 wsc sHi (wl v K j c g 4) H) = some (.next, wl2 v K j c g (H ++ [AO.nums [c + 8, v, 2]] ++ [AO.nums [g + 8, v, 2]]).length H.length, five [c + 8, v, 2] [g + 8, v, 2] (pre ++ [g + 8, v, 2]) H) := by
  have eb : T.run (evI (I7 xs) (fns (I7 xs) 91) 59 wsc (nth (tupL (asV sHi)) 1) (wl v K j c g 4) (H ++ [AO.nums [c + 8, v, 2]])) = some (.obj (H ++ [AO.nums [c + 8, v, 2]] ++ [AO.nums [g + 8, v, 2]]).length, four [c + 8, v, 2] [g + 8, v, 2] (pre ++ [g + 8, v, 2]) H) :=
    bin_ll (a := binL' (nth (tupL (asV sHi)) 1)) (b := binR (nth (tupL (asV sHi)) 1)) (u := .lst j) (v := .obj (H ++ [AO.nums [c + 8, v, 2]]).length) (ys := [g + 8, v, 2]) (H1 := H ++ [AO.nums [c + 8, v, 2]]) (H2 := H ++ [AO.nums [c + 8, v, 2]] ++ [AO.nums [g + 8, v, 2]]) (by kernel_rfl) (by kernel_rfl) (by kernel_rfl) rfl rfl hj last_nums (Nat.le_trans (Nat.add_le_add_right hp 3) (by decide))
  have ea : T.run (evI (I7 xs) (fns (I7 xs) 92) 59 wsc (asV sHi) (wl v K j c g 4) H) = some (.obj (four [c + 8, v, 2] [g + 8, v, 2] (pre ++ [g + 8, v, 2]) H).length, five [c + 8, v, 2] [g + 8, v, 2] (pre ++ [g + 8, v, 2]) H) :=
    ev_t2 (e1 := nth (tupL (asV sHi)) 0) (e2 := nth (tupL (asV sHi)) 1) (H1 := H ++ [AO.nums [c + 8, v, 2]]) (by kernel_rfl) (by kernel_rfl) eb
  exact st_swp (t := asT sHi) (e := asV sHi) (ts := tupL (asT sHi)) (ns := ["plain", "turned"]) (by kernel_rfl) (by kernel_rfl) (by kernel_rfl) (by kernel_rfl) ea last_tup rfl (by kernel_rfl)
noncomputable abbrev wPl (v c : Int) : List Int := match decide (v < 128) with | true => [c, v.fmod 64] | false => [c + 8, v, 2]
theorem w5_ok (hj : (I7 xs).iLs j = some pre) (h3 : Nat.beq j 3 = false) (hp : pre.length ≤ 10) :
    T.run (stI (I7 xs) (fns (I7 xs) 94) 59 wsc (wb 5) (wl v K j c g 4) H) = some (.next, wl2 v K j c g (H ++ [AO.nums (wPl v c)] ++ [AO.nums (wPl v g)]).length H.length, five (wPl v c) (wPl v g) (pre ++ wPl v g) H) := by
  have hx : ∀ H', numsX (I7 xs) H' (.lst j) = some pre := fun H' => by
    show cond (Nat.beq j 3) none ((I7 xs).iLs j) = some pre
    rw [h3]; exact hj
  refine st_if w5v (c := decide (v < 128)) (H1 := H) (by kernel_rfl) ?_
  cases hd : decide (v < 128) with
  | true =>
    have e : ∀ c, wPl v c = [c, v.fmod 64] := fun c => by unfold wPl; rw [hd]
    rw [e, e]
    exact xs_next (lo_ok (hx _) hp) xs_nil
  | false =>
    have e : ∀ c, wPl v c = [c + 8, v, 2] := fun c => by unfold wPl; rw [hd]
    rw [e, e]
    exact xs_next (hi_ok (hx _) hp) xs_nil
theorem w6_no {p t : Nat} (h : (K == 13) = false) : T.run (stI (I7 xs) (fns (I7 xs) 93) 59 wsc (wb 6) (wl2 v K j c g t p) H) = some (.next, wl2 v K j c g t p, H) := by
  refine st_if (t := ifT (wb 6)) (b := ifB (wb 6)) (o := []) (c := K == 13) (H1 := H) (by kernel_rfl) (by kernel_rfl) ?_
  rw [h]; exact (rfl : T.run (wxs xs 93 [] (wl2 v K j c g t p) H) = _)
noncomputable def s6 : Stmt := (ifB (wb 6)).getD 0 (.Pass default)
theorem s6v : viewX (asV s6) = .bin (.Name "turned" (binL' (asV s6)).pos) .Add (binR (asV s6)) := by kernel_rfl
theorem w6_yes {p t : Nat} {tu : List Int} (ht : numsO H (.obj t) = some tu) (hl : tu.length ≤ 10) (h : (K == 13) = true) : T.run (stI (I7 xs) (fns (I7 xs) 93) 59 wsc (wb 6) (wl2 v K j c g t p) H) = some (.next, wl2 v K j c g (H ++ [AO.nums [73, 255]]).length p, H ++ [.nums [73, 255]] ++ [.nums (tu ++ [73, 255])]) := by
  refine st_if (t := ifT (wb 6)) (b := [s6]) (o := []) (c := K == 13) (H1 := H) (by kernel_rfl) (by kernel_rfl) ?_
  rw [h]
  have e : T.run (evI (I7 xs) (fns (I7 xs) 91) 59 wsc (asV s6) (wl2 v K j c g t p) H) = some (.obj (H ++ [AO.nums [73, 255]]).length, H ++ [.nums [73, 255]] ++ [.nums (tu ++ [73, 255])]) :=
    bin_ll (u := .obj t) (v := .obj H.length) (H1 := H) s6v (by kernel_rfl) (by kernel_rfl) rfl rfl (nums_app ht) last_nums (Nat.le_trans (Nat.add_le_add_right hl 2) (by decide))
  refine xs_next (l' := wl2 v K j c g (H ++ [AO.nums [73, 255]]).length p) (H' := H ++ [.nums [73, 255]] ++ [.nums (tu ++ [73, 255])]) ?_ xs_nil
  have q : T.run (stI (I7 xs) (fns (I7 xs) 92) 59 wsc s6 (wl2 v K j c g t p) H) = T.run (((fns (I7 xs) 92).ev 59 wsc (asV s6) (wl2 v K j c g t p) H).bind fun r => (asgV (I7 xs) (fns (I7 xs) 92) 59 wsc r.1 (wl2 v K j c g t p) r.2 (.name "turned")).bind fun q => .ret (.next, q.1, q.2)) := by kernel_rfl
  rw [q]
  exact run_bind e (by kernel_rfl)
theorem w7_ok {p t : Nat} : T.run (stI (I7 xs) (fns (I7 xs) 92) 59 wsc (wb 7) (wl2 v K j c g t p) H) = some (.ret (.obj H.length), wl2 v K j c g t p, H ++ [.seq true [.obj p, .obj t]]) := by kernel_rfl
noncomputable def plainW (K : Nat) (v : Int) : List Int := match (knd K).2.2.2 with
  | 0 => [(knd K).2.1]
  | 1 => [(knd K).2.1, v]
  | 2 => [(knd K).2.1, v]
  | 3 => [(knd K).2.1, if v < 1 then 1 else v]
  | _ => wPl v (knd K).2.1
noncomputable def turnW (K : Nat) (v : Int) : List Int := match (knd K).2.2.2 with
  | 0 => [(knd K).2.2.1]
  | 1 => [(knd K).2.2.1, 255 - v]
  | 2 => [(knd K).2.2.1, v]
  | 3 => [(knd K).2.2.1, 256 - if v < 1 then 1 else v]
  | _ => (knd K).1 ++ wPl v (knd K).2.2.1 ++ (match Nat.beq K 13 with | true => [73, 255] | false => [])
structure Words (H H' : HP) (r : AV) (pl tu : List Int) : Prop where
  ex : ∃ j p t, r = .obj j ∧ H.length ≤ j ∧ H.length ≤ p ∧ H.length ≤ t ∧ p ≠ t ∧ tupV (I7 []) (.obj j) H' = some [.obj p, .obj t] ∧ numsO H' (.obj p) = some pl ∧ numsO H' (.obj t) = some tu
  pre : ∃ E, H' = H ++ E
theorem words_two {a b : List Int} : Words H (two a b H) (two' a b H) a b :=
  ⟨⟨(H ++ [AO.nums a] ++ [AO.nums b]).length, H.length, (H ++ [AO.nums a]).length, rfl, by rw [List.length_append, List.length_append]; lia, Nat.le_refl _, by rw [List.length_append]; lia, by rw [List.length_append]; show H.length ≠ H.length + 1; lia, last_tup, nums_app (nums_app last_nums), nums_app last_nums⟩, ⟨[.nums a, .nums b, .seq true [.obj H.length, .obj (H ++ [AO.nums a]).length]], by show H ++ [AO.nums a] ++ [AO.nums b] ++ _ = _; rw [List.append_assoc, List.append_assoc]; rfl⟩⟩
end
end Mine.Internal
end
section
open PySem PySem.W PySem.Calls PyProof.Rows PySem.Builtin
set_option maxHeartbeats 1000000
namespace Mine.Internal
theorem sweep_keep {n j : Nat} {H : HP} (h : n ≤ j) : sweep n (.obj j) H = (.obj j, H) := by
  unfold sweep
  rw [show allBelow n (.obj j) = false from decide_eq_false (Nat.not_lt.mpr h), Bool.false_and]
theorem cl_of {xs : List Int} {v K : Int} {l' : Loc} {H H' : HP} {j : Nat} (h : T.run (wxs xs 100 (dBody (nthS pw 5)) [("value", .int v), ("kind", .int K)] H) = some (wret (.obj j) l' H')) (hj : H.length ≤ j) : T.run ((fns (I7 xs) 101).cl 60 defCount [.int K, .int v] H) = some (.obj j, H') := by
  have q : T.run ((fns (I7 xs) 101).cl 60 defCount [.int K, .int v] H) = T.run ((wxs xs 100 (dBody (nthS pw 5)) [("value", .int v), ("kind", .int K)] H).bind fun z => .opt (retV z.1) fun v => .ret (sweep H.length v z.2.2)) := by kernel_rfl
  rw [q]
  exact run_bind h (congrArg some (sweep_keep hj))
theorem tup_any {I J : Ifc} {H : HP} {j : Nat} : tupV I (.obj j) H = tupV J (.obj j) H := rfl
theorem words_B {xs : List Int} {v : Int} {H : HP} {K : Nat} (hK : K ∈ [9, 10, 11, 12, 13, 14, 15, 16, 17, 20, 21, 22, 23, 24, 25]) : ∃ r H', T.run ((fns (I7 xs) 101).cl 60 defCount [.int (K : Int), .int v] H) = some (r, H') ∧ Words H H' r (wPl v (knd K).2.1) ((knd K).1 ++ wPl v (knd K).2.2.1 ++ (match Nat.beq K 13 with | true => [73, 255] | false => [])) := by
  have hp : (knd K).1.length ≤ 1 := by
    simp only [List.mem_cons, List.not_mem_nil, or_false] at hK
    rcases hK with rfl | rfl | rfl | rfl | rfl | rfl | rfl | rfl | rfl | rfl | rfl | rfl | rfl | rfl | rfl <;> exact Nat.le_of_ble_eq_true rfl
  have e0 := wB xs v H [wb 5, wb 6, wb 7] K hK
  rw [← wbody] at e0
  have e5 := w5_ok (v := v) (K := (K : Int)) (c := (knd K).2.1) (g := (knd K).2.2.1) (H := H) (wpre xs K hK) (by rw [Nat.add_comm]; rfl) (Nat.le_trans hp (by decide))
  have pl : (wPl v (knd K).2.2.1).length ≤ 3 := by unfold wPl; split <;> exact Nat.le_of_ble_eq_true rfl
  generalize wPl v (knd K).2.1 = a at *
  generalize wPl v (knd K).2.2.1 = b at *
  generalize (knd K).1 = pre at *
  generalize (knd K).2.1 = c at *
  generalize (knd K).2.2.1 = g at *
  have hT : numsO (five a b (pre ++ b) H) (.obj (H ++ [AO.nums a] ++ [AO.nums b]).length) = some (pre ++ b) := nums_app last_nums
  have hP : numsO (five a b (pre ++ b) H) (.obj H.length) = some a := nums_app (nums_app (nums_app last_nums))
  cases h13 : Nat.beq K 13 with
  | false =>
    have e6 := w6_no (xs := xs) (v := v) (K := (K : Int)) (j := 39 + K) (c := c) (g := g) (H := five a b (pre ++ b) H) (t := (H ++ [AO.nums a] ++ [AO.nums b]).length) (p := H.length) (beq_eq_false_iff_ne.mpr fun z => by
      obtain rfl : K = 13 := by lia
      exact no_bool h13.symm)
    have e7 := w7_ok (xs := xs) (v := v) (K := (K : Int)) (j := 39 + K) (c := c) (g := g) (H := five a b (pre ++ b) H) (t := (H ++ [AO.nums a] ++ [AO.nums b]).length) (p := H.length)
    have e := e0.trans (xs_next e5 (xs_next e6 (xs_ret e7)))
    refine ⟨_, _, cl_of e ?_, ⟨⟨_, _, _, rfl, ?_, Nat.le_refl _, ?_, ?_, last_tup, nums_app hP, ?_⟩, ?_⟩⟩
    · simp only [List.length_append]; lia
    · simp only [List.length_append]; lia
    · simp only [List.length_append]; lia
    · simp only [List.length_append, List.length_cons, List.length_nil]; lia
    · rw [List.append_nil]; exact nums_app hT
    · exact ⟨_, by show H ++ _ ++ _ ++ _ ++ _ ++ _ = _; rw [List.append_assoc, List.append_assoc, List.append_assoc, List.append_assoc]⟩
  | true =>
    obtain rfl := Nat.eq_of_beq_eq_true h13
    have e6 := w6_yes (xs := xs) (v := v) (K := ((13 : Nat) : Int)) (j := 39 + 13) (c := c) (g := g) (H := five a b (pre ++ b) H) (t := (H ++ [AO.nums a] ++ [AO.nums b]).length) (p := H.length) hT (by rw [List.length_append]; lia) rfl
    have e7 := w7_ok (xs := xs) (v := v) (K := ((13 : Nat) : Int)) (j := 39 + 13) (c := c) (g := g) (H := five a b (pre ++ b) H ++ [AO.nums [73, 255]] ++ [AO.nums (pre ++ b ++ [73, 255])]) (t := (five a b (pre ++ b) H ++ [AO.nums [73, 255]]).length) (p := H.length)
    have e := e0.trans (xs_next e5 (xs_next e6 (xs_ret e7)))
    refine ⟨_, _, cl_of e ?_, ⟨⟨_, _, _, rfl, ?_, Nat.le_refl _, ?_, ?_, last_tup, nums_app (nums_app (nums_app hP)), nums_app last_nums⟩, ?_⟩⟩
    · simp only [List.length_append]; lia
    · simp only [List.length_append]; lia
    · simp only [List.length_append]; lia
    · simp only [List.length_append, List.length_cons, List.length_nil]; lia
    · exact ⟨_, by show H ++ _ ++ _ ++ _ ++ _ ++ _ ++ _ ++ _ = _; rw [List.append_assoc, List.append_assoc, List.append_assoc, List.append_assoc, List.append_assoc, List.append_assoc]⟩
theorem two_len {H : HP} {a b : List Int} : H.length ≤ (H ++ [AO.nums a] ++ [AO.nums b]).length := by rw [List.append_assoc, List.length_append]; exact Nat.le_add_right _ _
theorem words_ok (xs : List Int) (v : Int) (H : HP) : ∀ K : Nat, K < 34 → ∃ r H', T.run ((fns (I7 xs) 101).cl 60 defCount [.int (K : Int), .int v] H) = some (r, H') ∧ Words H H' r (plainW K v) (turnW K v)
  | 0, _ => ⟨_, _, cl_of (wA0 xs v H) two_len, words_two⟩
  | 1, _ => ⟨_, _, cl_of (wA1 xs v H) two_len, words_two⟩
  | 2, _ => ⟨_, _, cl_of (wA2 xs v H) two_len, words_two⟩
  | 3, _ => ⟨_, _, cl_of (wA3 xs v H) two_len, words_two⟩
  | 4, _ => ⟨_, _, cl_of (wA4 xs v H) two_len, words_two⟩
  | 5, _ => ⟨_, _, cl_of (wA5 xs v H) two_len, words_two⟩
  | 6, _ => ⟨_, _, cl_of (wA6 xs v H) two_len, words_two⟩
  | 7, _ => ⟨_, _, cl_of (wA7 xs v H) two_len, words_two⟩
  | 8, _ => ⟨_, _, cl_of (wA8 xs v H) two_len, words_two⟩
  | 9, _ => words_B (K := 9) (by decide)
  | 10, _ => words_B (K := 10) (by decide)
  | 11, _ => words_B (K := 11) (by decide)
  | 12, _ => words_B (K := 12) (by decide)
  | 13, _ => words_B (K := 13) (by decide)
  | 14, _ => words_B (K := 14) (by decide)
  | 15, _ => words_B (K := 15) (by decide)
  | 16, _ => words_B (K := 16) (by decide)
  | 17, _ => words_B (K := 17) (by decide)
  | 18, _ => ⟨_, _, cl_of (wA18 xs v H) two_len, words_two⟩
  | 19, _ => ⟨_, _, cl_of (wA19 xs v H) two_len, words_two⟩
  | 20, _ => words_B (K := 20) (by decide)
  | 21, _ => words_B (K := 21) (by decide)
  | 22, _ => words_B (K := 22) (by decide)
  | 23, _ => words_B (K := 23) (by decide)
  | 24, _ => words_B (K := 24) (by decide)
  | 25, _ => words_B (K := 25) (by decide)
  | 26, _ => ⟨_, _, cl_of (wA26 xs v H) two_len, words_two⟩
  | 27, _ => ⟨_, _, cl_of (wA27 xs v H) two_len, words_two⟩
  | 28, _ => ⟨_, _, cl_of (wA28 xs v H) two_len, words_two⟩
  | 29, _ => ⟨_, _, cl_of (wA29 xs v H) two_len, words_two⟩
  | 30, _ => ⟨_, _, cl_of (wA30 xs v H) two_len, words_two⟩
  | 31, _ => ⟨_, _, cl_of (wA31 xs v H) two_len, words_two⟩
  | 32, _ => ⟨_, _, cl_of (wA32 xs v H) two_len, words_two⟩
  | 33, _ => ⟨_, _, cl_of (wA33 xs v H) two_len, words_two⟩
  | n + 34, h => absurd h (by lia)
end Mine.Internal
end
section
open PySem PySem.W PySem.Calls PyProof.Rows PySem.Builtin
set_option genInjectivity false
set_option genSizeOf false
set_option genSizeOfSpec false
namespace Mine.Internal
noncomputable abbrev fb (s : Stmt) : List Stmt := (stP (viewY s)).2.2.1
noncomputable abbrev ft (s : Stmt) : Expr := (stP (viewY s)).1
noncomputable def bs (i j : Nat) : Stmt := (fb (lb i)).getD j (.Pass default)
noncomputable abbrev bst (xs : List Int) (n i j : Nat) (l : Loc) (H : HP) : T (AF × Loc × HP) := stI (I7 xs) (fns (I7 xs) n) 60 lsc (bs i j) l H
noncomputable abbrev bxs (xs : List Int) (n : Nat) (ss : List Stmt) (l : Loc) (H : HP) : T (AF × Loc × HP) := (fns (I7 xs) n).xs 60 lsc ss l H
structure B7 where
  zs : List Int
  ro : List Int
  ot : List Int
  m1 : List Int
  m2 : List Int
  s : Int
structure S7 where
  ne : List Int
  fa : List Int
  st : List (Int × Int)
  mr : List (Int × Int)
  d : Int
noncomputable abbrev hT (b : B7) (q : S7) (R : HP) : HP := h8 b.zs b.ro b.ot b.m1 b.m2 q.ne q.fa q.st q.mr (.rng 0 b.zs.length :: R)
theorem hT_app {b : B7} {q : S7} {R R' : HP} : hT b q R ++ R' = hT b q (R ++ R') := by kernel_rfl
theorem hT_app2 {b : B7} {q : S7} {R R' R2 : HP} : hT b q R ++ R' ++ R2 = hT b q (R ++ (R' ++ R2)) := (List.append_assoc _ _ _).trans hT_app
theorem fb8 : fb (lb 8) = [bs 8 0, bs 8 1, bs 8 2, bs 8 3, bs 8 4, bs 8 5, bs 8 6, bs 8 7, bs 8 8, bs 8 9, bs 8 10, bs 8 11, bs 8 12, bs 8 13, bs 8 14] := by kernel_rfl
structure Prev where
  x : Int
  K : Int
  f : Int
  v : Int
  pp : List Int
  tt : List Int
noncomputable abbrev eA (k : Int) : Option Prev → Loc
  | none => [("place", .int k)]
  | some z => [("place", .int k), ("number", .int z.x), ("kind", .int z.K), ("form", .int z.f), ("value", .int z.v), ("plain", .obj 29), ("turned", .obj 30)]
noncomputable abbrev eP : Option Prev → Loc
  | none => []
  | some _ => [("plain", .obj 29), ("turned", .obj 30)]
noncomputable abbrev eB (k x K f v : Int) (o : Option Prev) : Loc := ([("place", .int k), ("number", .int x), ("kind", .int K), ("form", .int f), ("value", .int v)] : Loc) ++ eP o
noncomputable abbrev eC (k x K f v : Int) (p t : Nat) : Loc := [("place", .int k), ("number", .int x), ("kind", .int K), ("form", .int f), ("value", .int v), ("plain", .obj p), ("turned", .obj t)]
noncomputable abbrev R0 : Option Prev → HP
  | none => []
  | some z => [.nums z.pp, .nums z.tt]
noncomputable abbrev kX (x : Int) : Int := x.fmod 34
noncomputable abbrev fX (x : Int) : Int := (x.fdiv 34).fmod 5
noncomputable abbrev vX (x k : Int) : Int := (x.fdiv 170 + 50 * k).fmod 256
section
variable (xs : List Int) (b : B7) (q : S7) (R : HP) (k x K f v : Int)
theorem b03 (r : List Stmt) : ∀ o : Option Prev, T.run (bxs xs 111 (bs 8 0 :: bs 8 1 :: bs 8 2 :: bs 8 3 :: r) (lD b.s q.d (eA k o)) (hT b q R)) = T.run (.need (okIx k b.zs.length) (bxs xs 107 r (lD b.s q.d (eB k (b.zs.getD k.toNat 0) (kX (b.zs.getD k.toNat 0)) (fX (b.zs.getD k.toNat 0)) (vX (b.zs.getD k.toNat 0) k) o)) (hT b q R)))
  | none => by kernel_rfl
  | some _ => by kernel_rfl
theorem b4 : ∀ o : Option Prev, T.run (bst xs 106 8 4 (lD b.s q.d (eB k x K f v o)) (hT b q R)) = T.run (.br ((K == 33) == true) (.br ((q.d == 0) == true) (.ret (nx (lD b.s q.d (eB k x 32 f v o)) (hT b q R))) (.ret (nx (lD b.s q.d (eB k x K f v o)) (hT b q R)))) (.ret (nx (lD b.s q.d (eB k x K f v o)) (hT b q R))))
  | none => by kernel_rfl
  | some _ => by kernel_rfl
theorem b6 : ∀ o : Option Prev, T.run (bst xs 104 8 6 (lD b.s q.d (eB k x K f v o)) (hT b q R)) = T.run (.br (K == 32) (.ret (nx (lD b.s (q.d + 1) (eB k x K f v o)) (hT b q R))) (.ret (nx (lD b.s q.d (eB k x K f v o)) (hT b q R))))
  | none => by kernel_rfl
  | some _ => by kernel_rfl
theorem b7 : ∀ o : Option Prev, T.run (bst xs 103 8 7 (lD b.s q.d (eB k x K f v o)) (hT b q R)) = T.run (.br (K == 33) (.ret (nx (lD b.s (q.d - 1) (eB k x K f v o)) (hT b q R))) (.ret (nx (lD b.s q.d (eB k x K f v o)) (hT b q R))))
  | none => by kernel_rfl
  | some _ => by kernel_rfl
noncomputable abbrev tL (s : Stmt) : List Expr := kids (ifT s)
noncomputable abbrev tR (s : Stmt) : List Expr := kids (nth (tL s) 1)
noncomputable abbrev cmR (e : Expr) : Expr := kid e 1
noncomputable abbrev cmL (e : Expr) : Expr := kid e 0
theorem v5 : viewY (bs 8 5) = .ifs (ifT (bs 8 5)) (ifB (bs 8 5)) [] := by kernel_rfl
theorem v5o : viewX (ifT (bs 8 5)) = .bool .Or [nth (tL (bs 8 5)) 0, nth (tL (bs 8 5)) 1] := by kernel_rfl
theorem v5a : viewX (nth (tL (bs 8 5)) 1) = .bool .And [nth (tR (bs 8 5)) 0, nth (tR (bs 8 5)) 1] := by kernel_rfl
noncomputable def noF (K f : Int) : Bool := ([32, 33] : List Int).any (· == K) || (f == 3 && ([1, 26, 30] : List Int).any (· == K))
theorem b5 (o : Option Prev) : ∃ R', T.run (bst xs 105 8 5 (lD b.s q.d (eB k x K f v o)) (hT b q R)) = some (nx (lD b.s q.d (eB k x K (cond (noF K f) 0 f) v o)) (hT b q (R ++ R'))) := by
  have t1 : T.run ((fns (I7 xs) 105).ts 60 lsc (nth (tL (bs 8 5)) 0) (lD b.s q.d (eB k x K f v o)) (hT b q R)) = some (([32, 33] : List Int).any (· == K), hT b q R ++ [.nums [32, 33]]) := by
    have h : viewX (nth (tL (bs 8 5)) 0) = .cmp (cmL (nth (tL (bs 8 5)) 0)) .In (cmR (nth (tL (bs 8 5)) 0)) := by kernel_rfl
    cases o with
    | none => exact ts_in (I := I7 xs) (F := fns (I7 xs) 104) (H1 := hT b q R) h (by kernel_rfl) (by kernel_rfl) last_tab last_nums
    | some z => exact ts_in (I := I7 xs) (F := fns (I7 xs) 104) (H1 := hT b q R) h (by kernel_rfl) (by kernel_rfl) last_tab last_nums
  have t2 : T.run ((fns (I7 xs) 104).ts 60 lsc (nth (tR (bs 8 5)) 0) (lD b.s q.d (eB k x K f v o)) (hT b q R ++ [.nums [32, 33]])) = some (f == 3, hT b q R ++ [.nums [32, 33]]) := by
    cases o with
    | none => kernel_rfl
    | some z => kernel_rfl
  have t3 : T.run ((fns (I7 xs) 104).ts 60 lsc (nth (tR (bs 8 5)) 1) (lD b.s q.d (eB k x K f v o)) (hT b q R ++ [.nums [32, 33]])) = some (([1, 26, 30] : List Int).any (· == K), hT b q R ++ [.nums [32, 33]] ++ [.nums [1, 26, 30]]) := by
    have h : viewX (nth (tR (bs 8 5)) 1) = .cmp (cmL (nth (tR (bs 8 5)) 1)) .In (cmR (nth (tR (bs 8 5)) 1)) := by kernel_rfl
    cases o with
    | none => exact ts_in (I := I7 xs) (F := fns (I7 xs) 103) (H1 := hT b q R ++ [.nums [32, 33]]) h (by kernel_rfl) (by kernel_rfl) last_tab last_nums
    | some z => exact ts_in (I := I7 xs) (F := fns (I7 xs) 103) (H1 := hT b q R ++ [.nums [32, 33]]) h (by kernel_rfl) (by kernel_rfl) last_tab last_nums
  have t4 : T.run ((fns (I7 xs) 105).ts 60 lsc (nth (tL (bs 8 5)) 1) (lD b.s q.d (eB k x K f v o)) (hT b q R ++ [.nums [32, 33]])) = some (cond (f == 3) (([1, 26, 30] : List Int).any (· == K), hT b q R ++ [.nums [32, 33]] ++ [.nums [1, 26, 30]]) (false, hT b q R ++ [.nums [32, 33]])) := ts_and (I := I7 xs) (F := fns (I7 xs) 104) v5a t2 fun _ => t3
  have z0 : ∀ R', T.run (bxs xs 105 (ifB (bs 8 5)) (lD b.s q.d (eB k x K f v o)) (hT b q R')) = some (nx (lD b.s q.d (eB k x K 0 v o)) (hT b q R')) := fun R' => by
    cases o with
    | none => kernel_rfl
    | some z => kernel_rfl
  have fin : ∀ (c : Bool) (R' : HP), T.run (tstI (I7 xs) (fns (I7 xs) 105) 60 lsc (ifT (bs 8 5)) (lD b.s q.d (eB k x K f v o)) (hT b q R)) = some (c, hT b q (R ++ R')) → T.run (bst xs 105 8 5 (lD b.s q.d (eB k x K f v o)) (hT b q R)) = some (nx (lD b.s q.d (eB k x K (cond c 0 f) v o)) (hT b q (R ++ R'))) := fun c R' t => by
    cases c with
    | true => exact st_ifT v5 t (z0 (R ++ R'))
    | false => exact st_ifF v5 t xs_nil
  have t5 := ts_or (I := I7 xs) (F := fns (I7 xs) 105) v5o t1 fun _ => t4
  rw [hT_app2, hT_app] at t5
  unfold noF
  generalize (f == 3) = f3 at t5 ⊢
  generalize ([32, 33] : List Int).any (· == K) = c1 at t5 ⊢
  generalize ([1, 26, 30] : List Int).any (· == K) = c2 at t5 ⊢
  cases f3 with
  | false =>
    refine ⟨[.nums [32, 33]], ?_⟩
    cases c1 with
    | true => exact fin true _ t5
    | false => exact fin false _ t5
  | true =>
    cases c1 with
    | true => exact ⟨[.nums [32, 33]], fin true _ t5⟩
    | false => exact ⟨[AO.nums [32, 33]] ++ [AO.nums [1, 26, 30]], fin c2 ([AO.nums [32, 33]] ++ [AO.nums [1, 26, 30]]) t5⟩
end
end Mine.Internal
end
section
open PySem PySem.W PySem.Calls PyProof.Rows PySem.Builtin
namespace Mine.Internal
theorem hT_len {b : B7} {q : S7} {R : HP} : 29 ≤ (hT b q R).length := Nat.le_add_left 29 R.length
theorem hT_ne {b : B7} {q : S7} {R : HP} {l : List Int} : (hT b q R).set 22 (.nums l) = hT b ⟨l, q.fa, q.st, q.mr, q.d⟩ R := by kernel_rfl
theorem hT_fa {b : B7} {q : S7} {R : HP} {l : List Int} : (hT b q R).set 23 (.nums l) = hT b ⟨q.ne, l, q.st, q.mr, q.d⟩ R := by kernel_rfl
theorem n22 {b : B7} {q : S7} {R : HP} : numsO (hT b q R) (.obj 22) = some q.ne := by kernel_rfl
theorem n23 {b : B7} {q : S7} {R : HP} : numsO (hT b q R) (.obj 23) = some q.fa := by kernel_rfl
section
variable {xs : List Int} {b : B7} {q : S7} {R : HP} {k x K f v : Int} {p t : Nat} {pl tu : List Int}
structure At2 (H : HP) (p t : Nat) (pl tu : List Int) : Prop where
  hp : numsO H (.obj p) = some pl
  ht : numsO H (.obj t) = some tu
  p29 : 29 ≤ p
  t29 : 29 ≤ t
  ne : p ≠ t
theorem At2.app {H E : HP} (h : At2 H p t pl tu) : At2 (H ++ E) p t pl tu := ⟨nums_app h.hp, nums_app h.ht, h.p29, h.t29, h.ne⟩
theorem At2.hT (h : At2 (hT b q R) p t pl tu) (R' : HP) : At2 (hT b q (R ++ R')) p t pl tu := by rw [← hT_app]; exact h.app
theorem nums_hi {q' : S7} {i : Nat} {l : List Int} (hi : 29 ≤ i) (h : numsO (hT b q R) (.obj i) = some l) : numsO (Mine.Internal.hT b q' R) (.obj i) = some l := by
  replace h : (((h6 b.zs b.ro b.ot b.m1 b.m2 ++ nf q.ne q.fa ++ ([.tab q.st, .tab q.mr, .seq true [.obj 25, .obj 26]] : HP)) ++ (.rng 0 b.zs.length :: R))[i]?).bind AO.nums? = some l := h
  show (((h6 b.zs b.ro b.ot b.m1 b.m2 ++ nf q'.ne q'.fa ++ ([.tab q'.st, .tab q'.mr, .seq true [.obj 25, .obj 26]] : HP)) ++ (.rng 0 b.zs.length :: R))[i]?).bind AO.nums? = some l
  rw [List.getElem?_append_right (show 28 ≤ i by lia)] at h ⊢
  exact h
theorem At2.set {q' : S7} (h : At2 (Mine.Internal.hT b q R) p t pl tu) : At2 (Mine.Internal.hT b q' R) p t pl tu := ⟨nums_hi h.p29 h.hp, nums_hi h.t29 h.ht, h.p29, h.t29, h.ne⟩
noncomputable abbrev lC (b : B7) (d : Int) (k x K f v : Int) (p t : Nat) : Loc := lD b.s d (eC k x K f v p t)
theorem b8 {K : Nat} (hK : K < 34) (o : Option Prev) : ∃ R' p t, T.run (bst xs 102 8 8 (lD b.s q.d (eB k x K f v o)) (Mine.Internal.hT b q R)) = some (nx (lC b q.d k x K f v p t) (Mine.Internal.hT b q (R ++ R'))) ∧ At2 (Mine.Internal.hT b q (R ++ R')) p t (plainW K v) (turnW K v) := by
  obtain ⟨r, H', e, ⟨⟨j, p, t, rfl, _, h2, h3, h4, h5, h6, h7⟩, ⟨E, rfl⟩⟩⟩ := words_ok xs v (Mine.Internal.hT b q R) K hK
  rw [hT_app] at e h5 h6 h7
  have he : T.run ((fns (I7 xs) 102).ev 60 lsc (asV (bs 8 8)) (lD b.s q.d (eB k x K f v o)) (Mine.Internal.hT b q R)) = T.run ((fns (I7 xs) 101).cl 60 defCount [.int (K : Int), .int v] (Mine.Internal.hT b q R)) := by
    cases o with
    | none => kernel_rfl
    | some z => kernel_rfl
  refine ⟨E, p, t, ?_, h6, h7, Nat.le_trans hT_len h2, Nat.le_trans hT_len h3, h4⟩
  have ha : ∀ H, T.run (asgsI (I7 xs) (fns (I7 xs) 102) 60 lsc (tupL (asT (bs 8 8))) [.obj p, .obj t] (lD b.s q.d (eB k x K f v o)) H) = some (lC b q.d k x K f v p t, H) := fun H => by
    cases o with
    | none => kernel_rfl
    | some z => kernel_rfl
  exact st_tup (I := I7 xs) (s := bs 8 8) (t := asT (bs 8 8)) (e := asV (bs 8 8)) (ts := tupL (asT (bs 8 8))) (by kernel_rfl) (by kernel_rfl) (by kernel_rfl) (he.trans e) (tup_any.trans h5) (ha _)
noncomputable abbrev auV (s : Stmt) : Expr := (stP (viewY s)).2.1
noncomputable abbrev auT (s : Stmt) : Expr := (stP (viewY s)).1
noncomputable abbrev lsL (e : Expr) : List Expr := kids e
noncomputable abbrev sbV (e : Expr) : Expr := kid e 0
noncomputable abbrev sbI (e : Expr) : Expr := kid e 1
noncomputable def at9 (i : Nat) : Stmt := (ifB (bs 8 9)).getD i (.Pass default)
theorem len_lt {l : List Int} (h : l.length ≤ 1000) : decide (l.length < 2 ^ 62) = true := decide_eq_true (Nat.lt_of_le_of_lt h (by decide))
theorem slN : setL "near" (.obj 22) (lC b q.d k x K f v p t) = lC b q.d k x K f v p t := by kernel_rfl
theorem slF : setL "far" (.obj 23) (lC b q.d k x K f v p t) = lC b q.d k x K f v p t := by kernel_rfl
theorem lkNe : (lC b q.d k x K f v p t).lookup ("near" : Str) = some (AV.obj 22) := by kernel_rfl
theorem lkFa : (lC b q.d k x K f v p t).lookup ("far" : Str) = some (AV.obj 23) := by kernel_rfl
theorem vrN : (isVar (lsc.names.lookup ("near" : Str)) && !(("near" : Str) == ("__debug__" : Str))) = true := by decide +kernel
theorem vrF : (isVar (lsc.names.lookup ("far" : Str)) && !(("far" : Str) == ("__debug__" : Str))) = true := by decide +kernel
theorem augN {F : Fns} {s : Stmt} {tg e : Expr} {R' : HP} {j : Nat} {ys : List Int} (hs : viewY s = .aug tg .Add e) (ht : viewT tg = .name "near") (he : T.run (F.ev 60 lsc e (lC b q.d k x K f v p t) (Mine.Internal.hT b q R)) = some (.obj j, Mine.Internal.hT b q R')) (hj : numsO (Mine.Internal.hT b q R') (.obj j) = some ys) (h29 : 29 ≤ j) (hy : ys.isEmpty = false) (hz : q.ne.length + ys.length ≤ 1000) :
    T.run (stI (I7 xs) F 60 lsc s (lC b q.d k x K f v p t) (Mine.Internal.hT b q R)) = some (nx (lC b q.d k x K f v p t) (Mine.Internal.hT b ⟨q.ne ++ ys, q.fa, q.st, q.mr, q.d⟩ R')) := by
  have h := st_aug (I := I7 xs) (F := F) hs ht vrN rfl lkNe he n22 hj (Nat.ne_of_lt (Nat.lt_of_lt_of_le (by decide) h29)) hy hz
  rw [slN, hT_ne] at h
  exact h
theorem augF {F : Fns} {s : Stmt} {tg e : Expr} {R' : HP} {j : Nat} {ys : List Int} (hs : viewY s = .aug tg .Add e) (ht : viewT tg = .name "far") (he : T.run (F.ev 60 lsc e (lC b q.d k x K f v p t) (Mine.Internal.hT b q R)) = some (.obj j, Mine.Internal.hT b q R')) (hj : numsO (Mine.Internal.hT b q R') (.obj j) = some ys) (h29 : 29 ≤ j) (hy : ys.isEmpty = false) (hz : q.fa.length + ys.length ≤ 1000) :
    T.run (stI (I7 xs) F 60 lsc s (lC b q.d k x K f v p t) (Mine.Internal.hT b q R)) = some (nx (lC b q.d k x K f v p t) (Mine.Internal.hT b ⟨q.ne, q.fa ++ ys, q.st, q.mr, q.d⟩ R')) := by
  have h := st_aug (I := I7 xs) (F := F) hs ht vrF rfl lkFa he n23 hj (Nat.ne_of_lt (Nat.lt_of_lt_of_le (by decide) h29)) hy hz
  rw [slF, hT_fa] at h
  exact h
theorem b9n (A : At2 (Mine.Internal.hT b q R) p t pl tu) (hf : okIx (f.fdiv 2) 3 = true) (hn : q.ne.length ≤ 800) (hp : pl.length ≤ 10) : ∃ R', T.run (stI (I7 xs) (fns (I7 xs) 100) 60 lsc (at9 0) (lC b q.d k x K f v p t) (Mine.Internal.hT b q R)) = some (nx (lC b q.d k x K f v p t) (Mine.Internal.hT b ⟨q.ne ++ [([144, 48, 112] : List Int).getD (f.fdiv 2).toNat 0, (pl.length : Int)], q.fa, q.st, q.mr, q.d⟩ (R ++ R'))) := by
  have e1 : T.run (evI (I7 xs) (fns (I7 xs) 98) 60 lsc (nth (lsL (auV (at9 0))) 0) (lC b q.d k x K f v p t) (Mine.Internal.hT b q R)) = some (.int (([144, 48, 112] : List Int).getD (f.fdiv 2).toNat 0), Mine.Internal.hT b q R ++ [.nums [144, 48, 112]]) :=
    ev_at (v := sbV (nth (lsL (auV (at9 0))) 0)) (i := sbI (nth (lsL (auV (at9 0))) 0)) (j := (Mine.Internal.hT b q R).length) (H1 := Mine.Internal.hT b q R ++ [.nums [144, 48, 112]]) (by kernel_rfl) (by kernel_rfl) (by kernel_rfl) last_tab last_nums hf
  have e2 : T.run ((fns (I7 xs) 99).ev 60 lsc (nth (lsL (auV (at9 0))) 1) (lC b q.d k x K f v p t) (Mine.Internal.hT b q R ++ [.nums [144, 48, 112]])) = some (.int (pl.length : Int), Mine.Internal.hT b q R ++ [.nums [144, 48, 112]]) := by
    have q1 : T.run ((fns (I7 xs) 99).ev 60 lsc (nth (lsL (auV (at9 0))) 1) (lC b q.d k x K f v p t) (Mine.Internal.hT b q R ++ [.nums [144, 48, 112]])) = T.run (.opt (numsO (Mine.Internal.hT b q R ++ [.nums [144, 48, 112]]) (.obj p)) fun xs => .need (decide (xs.length < 2 ^ 62)) (.ret (.int xs.length, Mine.Internal.hT b q R ++ [.nums [144, 48, 112]]))) := by kernel_rfl
    rw [q1]
    exact run_opt (nums_app A.hp) (run_nd (len_lt (Nat.le_trans hp (by decide))) rfl)
  have e3 : T.run (evI (I7 xs) (fns (I7 xs) 99) 60 lsc (auV (at9 0)) (lC b q.d k x K f v p t) (Mine.Internal.hT b q R)) = _ := ev_l2 (e1 := nth (lsL (auV (at9 0))) 0) (e2 := nth (lsL (auV (at9 0))) 1) (by kernel_rfl) e1 e2
  rw [hT_app, hT_app] at e3
  refine ⟨[.nums [144, 48, 112]] ++ [.nums [([144, 48, 112] : List Int).getD (f.fdiv 2).toNat 0, (pl.length : Int)]], ?_⟩
  rw [← List.append_assoc]
  exact augN (tg := auT (at9 0)) (e := auV (at9 0)) (by kernel_rfl) (by kernel_rfl) e3 (by rw [← hT_app (R := R ++ _)]; exact last_nums) hT_len rfl (by show q.ne.length + 2 ≤ 1000; lia)
theorem b9f (A : At2 (Mine.Internal.hT b q R) p t pl tu) (hf : okIx (f.fdiv 2) 3 = true) (hn : q.fa.length ≤ 800) (hp : tu.length ≤ 10) : ∃ R', T.run (stI (I7 xs) (fns (I7 xs) 99) 60 lsc (at9 1) (lC b q.d k x K f v p t) (Mine.Internal.hT b q R)) = some (nx (lC b q.d k x K f v p t) (Mine.Internal.hT b ⟨q.ne, q.fa ++ [([176, 16, 112] : List Int).getD (f.fdiv 2).toNat 0, (tu.length : Int)], q.st, q.mr, q.d⟩ (R ++ R'))) := by
  have e1 : T.run (evI (I7 xs) (fns (I7 xs) 97) 60 lsc (nth (lsL (auV (at9 1))) 0) (lC b q.d k x K f v p t) (Mine.Internal.hT b q R)) = some (.int (([176, 16, 112] : List Int).getD (f.fdiv 2).toNat 0), Mine.Internal.hT b q R ++ [.nums [176, 16, 112]]) :=
    ev_at (v := sbV (nth (lsL (auV (at9 1))) 0)) (i := sbI (nth (lsL (auV (at9 1))) 0)) (j := (Mine.Internal.hT b q R).length) (H1 := Mine.Internal.hT b q R ++ [.nums [176, 16, 112]]) (by kernel_rfl) (by kernel_rfl) (by kernel_rfl) last_tab last_nums hf
  have e2 : T.run ((fns (I7 xs) 98).ev 60 lsc (nth (lsL (auV (at9 1))) 1) (lC b q.d k x K f v p t) (Mine.Internal.hT b q R ++ [.nums [176, 16, 112]])) = some (.int (tu.length : Int), Mine.Internal.hT b q R ++ [.nums [176, 16, 112]]) := by
    have q1 : T.run ((fns (I7 xs) 98).ev 60 lsc (nth (lsL (auV (at9 1))) 1) (lC b q.d k x K f v p t) (Mine.Internal.hT b q R ++ [.nums [176, 16, 112]])) = T.run (.opt (numsO (Mine.Internal.hT b q R ++ [.nums [176, 16, 112]]) (.obj t)) fun xs => .need (decide (xs.length < 2 ^ 62)) (.ret (.int xs.length, Mine.Internal.hT b q R ++ [.nums [176, 16, 112]]))) := by kernel_rfl
    rw [q1]
    exact run_opt (nums_app A.ht) (run_nd (len_lt (Nat.le_trans hp (by decide))) rfl)
  have e3 : T.run (evI (I7 xs) (fns (I7 xs) 98) 60 lsc (auV (at9 1)) (lC b q.d k x K f v p t) (Mine.Internal.hT b q R)) = _ := ev_l2 (e1 := nth (lsL (auV (at9 1))) 0) (e2 := nth (lsL (auV (at9 1))) 1) (by kernel_rfl) e1 e2
  rw [hT_app, hT_app] at e3
  refine ⟨[.nums [176, 16, 112]] ++ [.nums [([176, 16, 112] : List Int).getD (f.fdiv 2).toNat 0, (tu.length : Int)]], ?_⟩
  rw [← List.append_assoc]
  exact augF (tg := auT (at9 1)) (e := auV (at9 1)) (by kernel_rfl) (by kernel_rfl) e3 (by rw [← hT_app (R := R ++ _)]; exact last_nums) hT_len rfl (by show q.fa.length + 2 ≤ 1000; lia)
theorem v9 : viewY (bs 8 9) = .ifs (ifT (bs 8 9)) [at9 0, at9 1] [] := by kernel_rfl
theorem t9 : T.run (tstI (I7 xs) (fns (I7 xs) 101) 60 lsc (ifT (bs 8 9)) (lC b q.d k x K f v p t) (Mine.Internal.hT b q R)) = some (([1, 2, 4] : List Int).any (· == f), Mine.Internal.hT b q (R ++ [.nums [1, 2, 4]])) := by
  have h : viewX (ifT (bs 8 9)) = .cmp (cmL (ifT (bs 8 9))) .In (cmR (ifT (bs 8 9))) := by kernel_rfl
  rw [← hT_app]
  exact ts_in (I := I7 xs) (F := fns (I7 xs) 101) (H1 := Mine.Internal.hT b q R) h (by kernel_rfl) (by kernel_rfl) last_tab last_nums
theorem b9_yes (A : At2 (Mine.Internal.hT b q R) p t pl tu) (h9 : ([1, 2, 4] : List Int).any (· == f) = true) (hf : okIx (f.fdiv 2) 3 = true) (hn : q.ne.length ≤ 800) (hn2 : q.fa.length ≤ 800) (hp : pl.length ≤ 10) (hp2 : tu.length ≤ 10) :
    ∃ R', T.run (bst xs 101 8 9 (lC b q.d k x K f v p t) (Mine.Internal.hT b q R)) = some (nx (lC b q.d k x K f v p t) (Mine.Internal.hT b ⟨q.ne ++ [([144, 48, 112] : List Int).getD (f.fdiv 2).toNat 0, (pl.length : Int)], q.fa ++ [([176, 16, 112] : List Int).getD (f.fdiv 2).toNat 0, (tu.length : Int)], q.st, q.mr, q.d⟩ (R ++ R'))) := by
  have e0 := t9 (xs := xs) (b := b) (q := q) (R := R) (k := k) (x := x) (K := K) (f := f) (v := v) (p := p) (t := t)
  rw [h9] at e0
  obtain ⟨R1, e1⟩ := b9n (xs := xs) (k := k) (x := x) (K := K) (v := v) (A.hT [.nums [1, 2, 4]]) hf hn hp
  obtain ⟨R2, e2⟩ := b9f (q := ⟨q.ne ++ [([144, 48, 112] : List Int).getD (f.fdiv 2).toNat 0, (pl.length : Int)], q.fa, q.st, q.mr, q.d⟩) (R := R ++ [.nums [1, 2, 4]] ++ R1) (xs := xs) (k := k) (x := x) (K := K) (v := v) ((A.hT [.nums [1, 2, 4]]).set.hT R1) hf hn2 hp2
  refine ⟨[.nums [1, 2, 4]] ++ R1 ++ R2, ?_⟩
  rw [← List.append_assoc, ← List.append_assoc]
  have e3 := xs_next e2 (xs_nil (I := I7 xs) (n := 98) (dp := 60) (sc := lsc))
  have e4 := xs_next e1 e3
  exact st_ifT v9 e0 e4
theorem b9_no (h9 : ([1, 2, 4] : List Int).any (· == f) = false) : ∃ R', T.run (bst xs 101 8 9 (lC b q.d k x K f v p t) (Mine.Internal.hT b q R)) = some (nx (lC b q.d k x K f v p t) (Mine.Internal.hT b q (R ++ R'))) := by
  have e0 := t9 (xs := xs) (b := b) (q := q) (R := R) (k := k) (x := x) (K := K) (f := f) (v := v) (p := p) (t := t)
  rw [h9] at e0
  exact ⟨_, st_ifF v9 e0 xs_nil⟩
end
end Mine.Internal
end
section
open PySem PySem.W PySem.Calls PyProof.Rows PySem.Builtin
namespace Mine.Internal
noncomputable def atB (i j : Nat) : Stmt := (ifB (bs 8 i)).getD j (.Pass default)
section
variable {xs : List Int} {b : B7} {q : S7} {R : HP} {k x K f v : Int} {p t : Nat} {pl tu : List Int}
theorem v10 : viewY (bs 8 10) = .ifs (ifT (bs 8 10)) [atB 10 0, atB 10 1] [] := by kernel_rfl
theorem t10 : T.run (tstI (I7 xs) (fns (I7 xs) 100) 60 lsc (ifT (bs 8 10)) (lC b q.d k x K f v p t) (hT b q R)) = some (f == 3, hT b q R) := by kernel_rfl
theorem b10_yes (h3 : (f == 3) = true) (hn : q.ne.length ≤ 800) (hn2 : q.fa.length ≤ 800) : ∃ R', T.run (bst xs 100 8 10 (lC b q.d k x K f v p t) (hT b q R)) = some (nx (lC b q.d k x K f v p t) (hT b ⟨q.ne ++ [162, 2], q.fa ++ [162, 253], q.st, q.mr, q.d⟩ (R ++ R'))) := by
  have e0 := t10 (xs := xs) (b := b) (q := q) (R := R) (k := k) (x := x) (K := K) (f := f) (v := v) (p := p) (t := t)
  rw [h3] at e0
  have e1 : T.run ((fns (I7 xs) 99).ev 60 lsc (auV (atB 10 0)) (lC b q.d k x K f v p t) (hT b q R)) = some (.obj (hT b q R).length, hT b q (R ++ [.nums [162, 2]])) := by kernel_rfl
  have f1 := augN (xs := xs) (F := fns (I7 xs) 99) (s := atB 10 0) (tg := auT (atB 10 0)) (by kernel_rfl) (by kernel_rfl) e1 (by rw [← hT_app]; exact last_nums) hT_len rfl (by show q.ne.length + 2 ≤ 1000; lia)
  have e2 : T.run ((fns (I7 xs) 98).ev 60 lsc (auV (atB 10 1)) (lC b q.d k x K f v p t) (hT b ⟨q.ne ++ [162, 2], q.fa, q.st, q.mr, q.d⟩ (R ++ [.nums [162, 2]]))) = some (.obj (hT b ⟨q.ne ++ [162, 2], q.fa, q.st, q.mr, q.d⟩ (R ++ [.nums [162, 2]])).length, hT b ⟨q.ne ++ [162, 2], q.fa, q.st, q.mr, q.d⟩ (R ++ [.nums [162, 2]] ++ [.nums [162, 253]])) := by kernel_rfl
  have f2 := augF (xs := xs) (F := fns (I7 xs) 98) (q := ⟨q.ne ++ [162, 2], q.fa, q.st, q.mr, q.d⟩) (R := R ++ [.nums [162, 2]]) (s := atB 10 1) (tg := auT (atB 10 1)) (by kernel_rfl) (by kernel_rfl) e2 (by rw [← hT_app]; exact last_nums) hT_len rfl (by show q.fa.length + 2 ≤ 1000; lia)
  have f3 := xs_next f2 (xs_nil (I := I7 xs) (n := 97) (dp := 60) (sc := lsc))
  have f4 := xs_next f1 f3
  refine ⟨[.nums [162, 2]] ++ [.nums [162, 253]], ?_⟩
  rw [← List.append_assoc]
  exact st_ifT v10 e0 f4
theorem b10_no (h3 : (f == 3) = false) : T.run (bst xs 100 8 10 (lC b q.d k x K f v p t) (hT b q R)) = some (nx (lC b q.d k x K f v p t) (hT b q R)) := by
  have e0 := t10 (xs := xs) (b := b) (q := q) (R := R) (k := k) (x := x) (K := K) (f := f) (v := v) (p := p) (t := t)
  rw [h3] at e0
  exact st_ifF v10 e0 (xs_nil (I := I7 xs) (n := 99) (dp := 60) (sc := lsc))
theorem b11 (A : At2 (hT b q R) p t pl tu) (hy : pl.isEmpty = false) (hz : q.ne.length + pl.length ≤ 1000) : T.run (bst xs 99 8 11 (lC b q.d k x K f v p t) (hT b q R)) = some (nx (lC b q.d k x K f v p t) (hT b ⟨q.ne ++ pl, q.fa, q.st, q.mr, q.d⟩ R)) :=
  augN (F := fns (I7 xs) 99) (s := bs 8 11) (tg := auT (bs 8 11)) (e := auV (bs 8 11)) (j := p) (by kernel_rfl) (by kernel_rfl) (by kernel_rfl) A.hp A.p29 hy hz
theorem b12 (A : At2 (hT b q R) p t pl tu) (hy : tu.isEmpty = false) (hz : q.fa.length + tu.length ≤ 1000) : T.run (bst xs 98 8 12 (lC b q.d k x K f v p t) (hT b q R)) = some (nx (lC b q.d k x K f v p t) (hT b ⟨q.ne, q.fa ++ tu, q.st, q.mr, q.d⟩ R)) :=
  augF (F := fns (I7 xs) 98) (s := bs 8 12) (tg := auT (bs 8 12)) (e := auV (bs 8 12)) (j := t) (by kernel_rfl) (by kernel_rfl) (by kernel_rfl) A.ht A.t29 hy hz
noncomputable abbrev note (q : S7) (u w : Int) : S7 := ⟨q.ne, q.fa, (768 + (q.ne.length : Int), u) :: q.st, (768 + (q.fa.length : Int), w) :: q.mr, q.d⟩
structure Room (q : S7) : Prop where
  ne : q.ne.length ≤ 900
  fa : q.fa.length ≤ 900
  st : (q.st.lookup (768 + (q.ne.length : Int))).isNone = true
  mr : (q.mr.lookup (768 + (q.fa.length : Int))).isNone = true
  sl : q.st.length ≤ 500
  ml : q.mr.length ≤ 500
theorem asg_note {n : Nat} {ts : List Expr} {u w : Int} (Rm : Room q) (h : T.run (asgsI (I7 xs) (fns (I7 xs) n) 60 lsc ts [.int u, .int w] (lC b q.d k x K f v p t) (hT b q R)) = T.run (.need (decide (q.ne.length < 2 ^ 62)) (.need ((q.st.lookup (768 + (q.ne.length : Int))).isNone && decide (q.st.length ≤ 1000)) (.need (decide (q.fa.length < 2 ^ 62)) (.need ((q.mr.lookup (768 + (q.fa.length : Int))).isNone && decide (q.mr.length ≤ 1000)) (.ret (lC b q.d k x K f v p t, hT b (note q u w) R))))))) :
    T.run (asgsI (I7 xs) (fns (I7 xs) n) 60 lsc ts [.int u, .int w] (lC b q.d k x K f v p t) (hT b q R)) = some (lC b q.d k x K f v p t, hT b (note q u w) R) := by
  rw [h]
  refine run_nd (len_lt (Nat.le_trans Rm.ne (by decide))) (run_nd ?_ (run_nd (len_lt (Nat.le_trans Rm.fa (by decide))) (run_nd ?_ rfl)))
  · rw [Rm.st]; exact decide_eq_true (Nat.le_trans Rm.sl (by decide))
  · rw [Rm.mr]; exact decide_eq_true (Nat.le_trans Rm.ml (by decide))
theorem b14 (Rm : Room q) : T.run (bst xs 96 8 14 (lC b q.d k x K f v p t) (hT b q R)) = some (nx (lC b q.d k x K f v p t) (hT b (note q (2 * k + 1) (2 * k + 1)) (R ++ [.seq true [.int (2 * k + 1), .int (2 * k + 1)]]))) := by
  have e1 : T.run ((fns (I7 xs) 96).ev 60 lsc (asV (bs 8 14)) (lC b q.d k x K f v p t) (hT b q R)) = some (.obj (hT b q R).length, hT b q (R ++ [.seq true [.int (2 * k + 1), .int (2 * k + 1)]])) := by kernel_rfl
  exact st_tup (I := I7 xs) (s := bs 8 14) (t := asT (bs 8 14)) (e := asV (bs 8 14)) (ts := tupL (asT (bs 8 14))) (by kernel_rfl) (by kernel_rfl) (by kernel_rfl) e1 (by rw [← hT_app]; exact last_tup) (asg_note Rm (by kernel_rfl))
theorem v13 : viewY (bs 8 13) = .ifs (ifT (bs 8 13)) [atB 13 0, atB 13 1, atB 13 2] [] := by kernel_rfl
theorem t13 : T.run (tstI (I7 xs) (fns (I7 xs) 97) 60 lsc (ifT (bs 8 13)) (lC b q.d k x K f v p t) (hT b q R)) = some (f == 3, hT b q R) := by kernel_rfl
theorem b13_no (h3 : (f == 3) = false) : T.run (bst xs 97 8 13 (lC b q.d k x K f v p t) (hT b q R)) = some (nx (lC b q.d k x K f v p t) (hT b q R)) := by
  have e0 := t13 (xs := xs) (b := b) (q := q) (R := R) (k := k) (x := x) (K := K) (f := f) (v := v) (p := p) (t := t)
  rw [h3] at e0
  exact st_ifF v13 e0 (xs_nil (I := I7 xs) (n := 96) (dp := 60) (sc := lsc))
section
variable {I : Ifc} {F : Fns} {dp : Nat} {sc : Scope} {e : Expr} {l : Loc} {H H1 H2 H3 : HP}
theorem ev_l3 {e1 e2 e3 : Expr} {a b c : Int} (hv : viewX e = .list [e1, e2, e3]) (h1 : T.run (F.ev dp sc e1 l H) = some (.int a, H1)) (h2 : T.run (F.ev dp sc e2 l H1) = some (.int b, H2)) (h3 : T.run (F.ev dp sc e3 l H2) = some (.int c, H3)) : T.run (evI I F dp sc e l H) = some (.obj H3.length, H3 ++ [.nums [a, b, c]]) := by
  unfold evI
  rw [hv]
  exact run_bind (run_bind h1 (run_bind (run_bind h2 (run_bind (run_bind h3 (run_bind (t := .ret ([], H3)) rfl rfl)) rfl)) rfl)) rfl
theorem ev_sub {a b : Expr} {u w : Int} (hv : viewX e = .bin a .Sub b) (h1 : T.run (F.ev dp sc a l H) = some (.int u, H1)) (h2 : T.run (F.ev dp sc b l H1) = some (.int w, H2)) : T.run (evI I F dp sc e l H) = some (.int (u - w), H2) := by
  unfold evI
  rw [hv]
  exact run_bind h1 (run_bind h2 rfl)
end
theorem b13n (A : At2 (hT b q R) p t pl tu) (hn : q.ne.length ≤ 800) (hp : pl.length ≤ 10) : T.run (stI (I7 xs) (fns (I7 xs) 95) 60 lsc (atB 13 1) (lC b q.d k x K f v p t) (hT b q R)) = some (nx (lC b q.d k x K f v p t) (hT b ⟨q.ne ++ [202, 16, 253 - (pl.length : Int)], q.fa, q.st, q.mr, q.d⟩ (R ++ [.nums [202, 16, 253 - (pl.length : Int)]]))) := by
  have e2 : T.run ((fns (I7 xs) 93).ev 60 lsc (binR (nth (lsL (auV (atB 13 1))) 2)) (lC b q.d k x K f v p t) (hT b q R)) = some (.int (pl.length : Int), hT b q R) := by
    have q1 : T.run ((fns (I7 xs) 93).ev 60 lsc (binR (nth (lsL (auV (atB 13 1))) 2)) (lC b q.d k x K f v p t) (hT b q R)) = T.run (.opt (numsO (hT b q R) (.obj p)) fun xs => .need (decide (xs.length < 2 ^ 62)) (.ret (.int xs.length, hT b q R))) := by kernel_rfl
    rw [q1]
    exact run_opt A.hp (run_nd (len_lt (Nat.le_trans hp (by decide))) rfl)
  have e3 : T.run (evI (I7 xs) (fns (I7 xs) 93) 60 lsc (nth (lsL (auV (atB 13 1))) 2) (lC b q.d k x K f v p t) (hT b q R)) = some (.int (253 - (pl.length : Int)), hT b q R) := ev_sub (a := binL' (nth (lsL (auV (atB 13 1))) 2)) (H1 := hT b q R) (by kernel_rfl) (by kernel_rfl) e2
  have e4 : T.run (evI (I7 xs) (fns (I7 xs) 94) 60 lsc (auV (atB 13 1)) (lC b q.d k x K f v p t) (hT b q R)) = some (.obj (hT b q R).length, hT b q R ++ [.nums [202, 16, 253 - (pl.length : Int)]]) := ev_l3 (e1 := nth (lsL (auV (atB 13 1))) 0) (e2 := nth (lsL (auV (atB 13 1))) 1) (e3 := nth (lsL (auV (atB 13 1))) 2) (H1 := hT b q R) (H2 := hT b q R) (by kernel_rfl) (by kernel_rfl) (by kernel_rfl) e3
  rw [hT_app] at e4
  exact augN (tg := auT (atB 13 1)) (e := auV (atB 13 1)) (by kernel_rfl) (by kernel_rfl) e4 (by rw [← hT_app]; exact last_nums) hT_len rfl (by show q.ne.length + 3 ≤ 1000; lia)
theorem b13f (A : At2 (hT b q R) p t pl tu) (hn : q.fa.length ≤ 800) (hp : tu.length ≤ 10) : T.run (stI (I7 xs) (fns (I7 xs) 94) 60 lsc (atB 13 2) (lC b q.d k x K f v p t) (hT b q R)) = some (nx (lC b q.d k x K f v p t) (hT b ⟨q.ne, q.fa ++ [232, 48, 253 - (tu.length : Int)], q.st, q.mr, q.d⟩ (R ++ [.nums [232, 48, 253 - (tu.length : Int)]]))) := by
  have e2 : T.run ((fns (I7 xs) 92).ev 60 lsc (binR (nth (lsL (auV (atB 13 2))) 2)) (lC b q.d k x K f v p t) (hT b q R)) = some (.int (tu.length : Int), hT b q R) := by
    have q1 : T.run ((fns (I7 xs) 92).ev 60 lsc (binR (nth (lsL (auV (atB 13 2))) 2)) (lC b q.d k x K f v p t) (hT b q R)) = T.run (.opt (numsO (hT b q R) (.obj t)) fun xs => .need (decide (xs.length < 2 ^ 62)) (.ret (.int xs.length, hT b q R))) := by kernel_rfl
    rw [q1]
    exact run_opt A.ht (run_nd (len_lt (Nat.le_trans hp (by decide))) rfl)
  have e3 : T.run (evI (I7 xs) (fns (I7 xs) 92) 60 lsc (nth (lsL (auV (atB 13 2))) 2) (lC b q.d k x K f v p t) (hT b q R)) = some (.int (253 - (tu.length : Int)), hT b q R) := ev_sub (a := binL' (nth (lsL (auV (atB 13 2))) 2)) (H1 := hT b q R) (by kernel_rfl) (by kernel_rfl) e2
  have e4 : T.run (evI (I7 xs) (fns (I7 xs) 93) 60 lsc (auV (atB 13 2)) (lC b q.d k x K f v p t) (hT b q R)) = some (.obj (hT b q R).length, hT b q R ++ [.nums [232, 48, 253 - (tu.length : Int)]]) := ev_l3 (e1 := nth (lsL (auV (atB 13 2))) 0) (e2 := nth (lsL (auV (atB 13 2))) 1) (e3 := nth (lsL (auV (atB 13 2))) 2) (H1 := hT b q R) (H2 := hT b q R) (by kernel_rfl) (by kernel_rfl) (by kernel_rfl) e3
  rw [hT_app] at e4
  exact augF (tg := auT (atB 13 2)) (e := auV (atB 13 2)) (by kernel_rfl) (by kernel_rfl) e4 (by rw [← hT_app]; exact last_nums) hT_len rfl (by show q.fa.length + 3 ≤ 1000; lia)
theorem b13_yes (A : At2 (hT b q R) p t pl tu) (Rm : Room q) (h3 : (f == 3) = true) (hn : q.ne.length ≤ 800) (hn2 : q.fa.length ≤ 800) (hp : pl.length ≤ 10) (hp2 : tu.length ≤ 10) :
    ∃ R', T.run (bst xs 97 8 13 (lC b q.d k x K f v p t) (hT b q R)) = some (nx (lC b q.d k x K f v p t) (hT b ⟨q.ne ++ [202, 16, 253 - (pl.length : Int)], q.fa ++ [232, 48, 253 - (tu.length : Int)], (768 + (q.ne.length : Int), 2 * k) :: q.st, (768 + (q.fa.length : Int), 2 * k) :: q.mr, q.d⟩ (R ++ R'))) := by
  have e0 := t13 (xs := xs) (b := b) (q := q) (R := R) (k := k) (x := x) (K := K) (f := f) (v := v) (p := p) (t := t)
  rw [h3] at e0
  have e1 : T.run ((fns (I7 xs) 96).ev 60 lsc (asV (atB 13 0)) (lC b q.d k x K f v p t) (hT b q R)) = some (.obj (hT b q R).length, hT b q (R ++ [.seq true [.int (2 * k), .int (2 * k)]])) := by kernel_rfl
  have f1 := st_tup (I := I7 xs) (s := atB 13 0) (t := asT (atB 13 0)) (e := asV (atB 13 0)) (ts := tupL (asT (atB 13 0))) (by kernel_rfl) (by kernel_rfl) (by kernel_rfl) e1 (by rw [← hT_app]; exact last_tup) (asg_note Rm (by kernel_rfl))
  have A1 : At2 (hT b (note q (2 * k) (2 * k)) (R ++ [.seq true [.int (2 * k), .int (2 * k)]])) p t pl tu := (A.hT _).set
  have f2 := b13n (xs := xs) (q := note q (2 * k) (2 * k)) (R := R ++ [.seq true [.int (2 * k), .int (2 * k)]]) (k := k) (x := x) (K := K) (f := f) (v := v) A1 hn hp
  have f3 := b13f (xs := xs) (q := ⟨q.ne ++ [202, 16, 253 - (pl.length : Int)], q.fa, (768 + (q.ne.length : Int), 2 * k) :: q.st, (768 + (q.fa.length : Int), 2 * k) :: q.mr, q.d⟩) (R := R ++ [.seq true [.int (2 * k), .int (2 * k)]] ++ [.nums [202, 16, 253 - (pl.length : Int)]]) (k := k) (x := x) (K := K) (f := f) (v := v) (A1.hT _).set hn2 hp2
  have f4 := xs_next f3 (xs_nil (I := I7 xs) (n := 93) (dp := 60) (sc := lsc))
  have f5 := xs_next f2 f4
  have f6 := xs_next f1 f5
  refine ⟨[.seq true [.int (2 * k), .int (2 * k)]] ++ [.nums [202, 16, 253 - (pl.length : Int)]] ++ [.nums [232, 48, 253 - (tu.length : Int)]], ?_⟩
  rw [← List.append_assoc, ← List.append_assoc]
  exact st_ifT v13 e0 f6
end
end Mine.Internal
end
section
open PySem PySem.W PySem.Calls PyProof.Rows PySem.Builtin
namespace Mine.Internal
noncomputable def hN (f n : Int) : List Int := cond (([1, 2, 4] : List Int).any (· == f)) [([144, 48, 112] : List Int).getD (f.fdiv 2).toNat 0, n] (cond (f == 3) [162, 2] [])
noncomputable def hF (f n : Int) : List Int := cond (([1, 2, 4] : List Int).any (· == f)) [([176, 16, 112] : List Int).getD (f.fdiv 2).toNat 0, n] (cond (f == 3) [162, 253] [])
noncomputable def wrds (f : Int) (pl tu : List Int) (q : S7) : S7 := ⟨q.ne ++ hN f pl.length ++ pl, q.fa ++ hF f tu.length ++ tu, q.st, q.mr, q.d⟩
noncomputable def tail7 (k f : Int) (pl tu : List Int) (q : S7) : S7 := cond (f == 3) ⟨q.ne ++ [202, 16, 253 - (pl.length : Int)], q.fa ++ [232, 48, 253 - (tu.length : Int)], (768 + (q.ne.length : Int), 2 * k) :: q.st, (768 + (q.fa.length : Int), 2 * k) :: q.mr, q.d⟩ q
noncomputable def note7 (u : Int) (q : S7) : S7 := note q u u
noncomputable def grow7 (k f : Int) (pl tu : List Int) (q : S7) : S7 := note7 (2 * k + 1) (tail7 k f pl tu (wrds f pl tu q))
noncomputable def KLe (st : List (Int × Int)) (n : Nat) : Prop := ∀ e ∈ st, e.1 ≤ 768 + (n : Int)
theorem KLe.none {st : List (Int × Int)} {n m : Nat} (h : KLe st n) (hm : n < m) : (st.lookup (768 + (m : Int))).isNone = true := by
  induction st with
  | nil => rfl
  | cons e st ih =>
    rw [List.lookup_cons]
    have h1 := h e List.mem_cons_self
    rw [show (768 + (m : Int) == e.1) = false from beq_eq_false_iff_ne.mpr (by lia)]
    exact ih fun e he => h e (List.mem_cons_of_mem _ he)
theorem KLe.mono {st : List (Int × Int)} {n m : Nat} (h : KLe st n) (hm : n ≤ m) : KLe st m := fun e he => Int.le_trans (h e he) (by lia)
theorem KLe.cons {st : List (Int × Int)} {n : Nat} {u : Int} (h : KLe st n) : KLe ((768 + (n : Int), u) :: st) n := fun e he => by
  rcases List.mem_cons.mp he with rfl | he
  · exact Int.le_refl _
  · exact h e he
structure Inv (q : S7) : Prop where
  ne : q.ne.length ≤ 700
  fa : q.fa.length ≤ 700
  st : KLe q.st q.ne.length
  mr : KLe q.mr q.fa.length
  sl : q.st.length ≤ 400
  ml : q.mr.length ≤ 400
section
variable {xs : List Int} {b : B7} {q : S7} {R : HP} {k x K f v : Int} {p t : Nat} {pl tu : List Int}
theorem room_of (hq : Inv q) {n : List Int} {m : List Int} (h1 : 0 < n.length) (h2 : 0 < m.length) (h3 : n.length ≤ 100) (h4 : m.length ≤ 100) : Room ⟨q.ne ++ n, q.fa ++ m, q.st, q.mr, q.d⟩ := by
  have e1 : (q.ne ++ n).length = q.ne.length + n.length := List.length_append
  have e2 : (q.fa ++ m).length = q.fa.length + m.length := List.length_append
  have a1 := hq.ne; have a2 := hq.fa; have a3 := hq.sl; have a4 := hq.ml
  exact ⟨by show (q.ne ++ n).length ≤ _; lia, by show (q.fa ++ m).length ≤ _; lia, hq.st.none (show q.ne.length < (q.ne ++ n).length by lia), hq.mr.none (show q.fa.length < (q.fa ++ m).length by lia), by show q.st.length ≤ _; lia, by show q.mr.length ≤ _; lia⟩
theorem b11_no (A : At2 (hT b q R) p t pl tu) (h3 : (f == 3) = false) (hp0 : pl.isEmpty = false) (ht0 : tu.isEmpty = false) (hz : q.ne.length + pl.length ≤ 1000) (hz2 : q.fa.length + tu.length ≤ 1000) (Rm : Room ⟨q.ne ++ pl, q.fa ++ tu, q.st, q.mr, q.d⟩) :
    T.run (bxs xs 101 [bs 8 10, bs 8 11, bs 8 12, bs 8 13, bs 8 14] (lC b q.d k x K f v p t) (hT b q R)) = some (nx (lC b q.d k x K f v p t) (hT b (note7 (2 * k + 1) ⟨q.ne ++ pl, q.fa ++ tu, q.st, q.mr, q.d⟩) (R ++ [.seq true [.int (2 * k + 1), .int (2 * k + 1)]]))) := by
  have e10 := b10_no (xs := xs) (b := b) (q := q) (R := R) (k := k) (x := x) (K := K) (v := v) (p := p) (t := t) h3
  have e11 := b11 (xs := xs) (k := k) (x := x) (K := K) (f := f) (v := v) A hp0 hz
  have e12 := b12 (xs := xs) (q := ⟨q.ne ++ pl, q.fa, q.st, q.mr, q.d⟩) (R := R) (k := k) (x := x) (K := K) (f := f) (v := v) A.set ht0 hz2
  have e13 := b13_no (xs := xs) (b := b) (q := ⟨q.ne ++ pl, q.fa ++ tu, q.st, q.mr, q.d⟩) (R := R) (k := k) (x := x) (K := K) (v := v) (p := p) (t := t) h3
  have e14 := b14 (xs := xs) (b := b) (R := R) (k := k) (x := x) (K := K) (f := f) (v := v) (p := p) (t := t) Rm
  exact xs_next e10 (xs_next e11 (xs_next e12 (xs_next e13 (xs_next e14 (rfl : T.run (bxs xs 96 [] _ _) = _)))))
theorem b9_14 (A : At2 (hT b q R) p t pl tu) (hq : Inv q) (hf : ([1, 2, 4] : List Int).any (· == f) = true → okIx (f.fdiv 2) 3 = true) (h13 : ([1, 2, 4] : List Int).any (· == f) = true → (f == 3) = false) (hp0 : pl.isEmpty = false) (ht0 : tu.isEmpty = false) (hp : pl.length ≤ 10) (hp2 : tu.length ≤ 10) :
    ∃ R', T.run (bxs xs 102 [bs 8 9, bs 8 10, bs 8 11, bs 8 12, bs 8 13, bs 8 14] (lC b q.d k x K f v p t) (hT b q R)) = some (nx (lC b q.d k x K f v p t) (hT b (grow7 k f pl tu q) (R ++ R'))) := by
  have a1 := hq.ne; have a2 := hq.fa
  have p1 : 0 < pl.length := List.length_pos_iff.mpr fun e => by rw [e] at hp0; exact no_bool hp0.symm
  have t1 : 0 < tu.length := List.length_pos_iff.mpr fun e => by rw [e] at ht0; exact no_bool ht0.symm
  have nil : ∀ {l H}, T.run (bxs xs 96 [] l H) = some (.next, l, H) := rfl
  unfold grow7
  cases h9 : ([1, 2, 4] : List Int).any (· == f) with
  | true =>
    have h3 := h13 h9
    obtain ⟨R1, e9⟩ := b9_yes (xs := xs) (k := k) (x := x) (K := K) (v := v) A h9 (hf h9) (Nat.le_trans a1 (by decide)) (Nat.le_trans a2 (by decide)) hp hp2
    have ew : wrds f pl tu q = ⟨q.ne ++ [([144, 48, 112] : List Int).getD (f.fdiv 2).toNat 0, (pl.length : Int)] ++ pl, q.fa ++ [([176, 16, 112] : List Int).getD (f.fdiv 2).toNat 0, (tu.length : Int)] ++ tu, q.st, q.mr, q.d⟩ := by unfold wrds hN hF; rw [h9]; rfl
    have et : ∀ q, tail7 k f pl tu q = q := fun q => by unfold tail7; rw [h3]; rfl
    rw [et, ew]
    have Rm : ∀ hd hd2 : List Int, hd.length = 2 → hd2.length = 2 → Room ⟨q.ne ++ hd ++ pl, q.fa ++ hd2 ++ tu, q.st, q.mr, q.d⟩ ∧ (q.ne ++ hd).length + pl.length ≤ 1000 ∧ (q.fa ++ hd2).length + tu.length ≤ 1000 := fun hd hd2 l1 l2 => by
      rw [List.append_assoc, List.append_assoc, List.length_append, List.length_append, l1, l2]
      exact ⟨room_of hq (by rw [List.length_append]; lia) (by rw [List.length_append]; lia) (by rw [List.length_append]; lia) (by rw [List.length_append]; lia), by lia, by lia⟩
    obtain ⟨r1, r2, r3⟩ := Rm [([144, 48, 112] : List Int).getD (f.fdiv 2).toNat 0, (pl.length : Int)] [([176, 16, 112] : List Int).getD (f.fdiv 2).toNat 0, (tu.length : Int)] rfl rfl
    have c := xs_next e9 (b11_no (xs := xs) (q := ⟨q.ne ++ [([144, 48, 112] : List Int).getD (f.fdiv 2).toNat 0, (pl.length : Int)], q.fa ++ [([176, 16, 112] : List Int).getD (f.fdiv 2).toNat 0, (tu.length : Int)], q.st, q.mr, q.d⟩) (k := k) (x := x) (K := K) (f := f) (v := v) (A.hT R1).set h3 hp0 ht0 r2 r3 r1)
    refine ⟨R1 ++ [.seq true [.int (2 * k + 1), .int (2 * k + 1)]], ?_⟩
    rw [← List.append_assoc]
    exact c
  | false =>
    obtain ⟨R1, e9⟩ := b9_no (xs := xs) (b := b) (q := q) (R := R) (k := k) (x := x) (K := K) (v := v) (p := p) (t := t) h9
    cases h3 : f == 3 with
    | false =>
      have ew : wrds f pl tu q = ⟨q.ne ++ pl, q.fa ++ tu, q.st, q.mr, q.d⟩ := by unfold wrds hN hF; rw [h9, h3]; show S7.mk (q.ne ++ [] ++ pl) (q.fa ++ [] ++ tu) q.st q.mr q.d = _; rw [List.append_nil, List.append_nil]
      have et : ∀ q, tail7 k f pl tu q = q := fun q => by unfold tail7; rw [h3]; rfl
      rw [et, ew]
      have c := xs_next e9 (b11_no (xs := xs) (k := k) (x := x) (K := K) (f := f) (v := v) (A.hT R1) h3 hp0 ht0 (by lia) (by lia) (room_of hq p1 t1 (by lia) (by lia)))
      refine ⟨R1 ++ [.seq true [.int (2 * k + 1), .int (2 * k + 1)]], ?_⟩
      rw [← List.append_assoc]
      exact c
    | true =>
      obtain ⟨R2, e10⟩ := b10_yes (xs := xs) (b := b) (q := q) (R := R ++ R1) (k := k) (x := x) (K := K) (v := v) (p := p) (t := t) h3 (by lia) (by lia)
      have ew : wrds f pl tu q = ⟨q.ne ++ [162, 2] ++ pl, q.fa ++ [162, 253] ++ tu, q.st, q.mr, q.d⟩ := by unfold wrds hN hF; rw [h9, h3]; rfl
      have et : ∀ q : S7, tail7 k f pl tu q = ⟨q.ne ++ [202, 16, 253 - (pl.length : Int)], q.fa ++ [232, 48, 253 - (tu.length : Int)], (768 + (q.ne.length : Int), 2 * k) :: q.st, (768 + (q.fa.length : Int), 2 * k) :: q.mr, q.d⟩ := fun q => by unfold tail7; rw [h3]; rfl
      rw [et, ew]
      have A1 : At2 (hT b ⟨q.ne ++ [162, 2], q.fa ++ [162, 253], q.st, q.mr, q.d⟩ (R ++ R1 ++ R2)) p t pl tu := ((A.hT R1).hT R2).set
      have e11 := b11 (xs := xs) (k := k) (x := x) (K := K) (f := f) (v := v) A1 hp0 (by show (q.ne ++ [162, 2]).length + _ ≤ _; rw [List.length_append]; show _ + 2 + _ ≤ _; lia)
      have e12 := b12 (xs := xs) (q := ⟨q.ne ++ [162, 2] ++ pl, q.fa ++ [162, 253], q.st, q.mr, q.d⟩) (R := R ++ R1 ++ R2) (k := k) (x := x) (K := K) (f := f) (v := v) A1.set ht0 (by show (q.fa ++ [162, 253]).length + _ ≤ _; rw [List.length_append]; show _ + 2 + _ ≤ _; lia)
      have Rm : Room ⟨q.ne ++ [162, 2] ++ pl, q.fa ++ [162, 253] ++ tu, q.st, q.mr, q.d⟩ := by
        rw [List.append_assoc, List.append_assoc]
        exact room_of hq (by rw [List.length_append]; lia) (by rw [List.length_append]; lia) (by rw [List.length_append]; show 2 + _ ≤ _; lia) (by rw [List.length_append]; show 2 + _ ≤ _; lia)
      have m1 : (q.ne ++ [162, 2] ++ pl).length = q.ne.length + 2 + pl.length := by rw [List.length_append, List.length_append]; rfl
      have m2 : (q.fa ++ [162, 253] ++ tu).length = q.fa.length + 2 + tu.length := by rw [List.length_append, List.length_append]; rfl
      obtain ⟨R3, e13⟩ := b13_yes (xs := xs) (b := b) (q := ⟨q.ne ++ [162, 2] ++ pl, q.fa ++ [162, 253] ++ tu, q.st, q.mr, q.d⟩) (R := R ++ R1 ++ R2) (k := k) (x := x) (K := K) (v := v) A1.set Rm h3 (by show (q.ne ++ [162, 2] ++ pl).length ≤ _; lia) (by show (q.fa ++ [162, 253] ++ tu).length ≤ _; lia) hp hp2
      have i1 : KLe ((768 + ((q.ne ++ [162, 2] ++ pl).length : Int), 2 * k) :: q.st) (q.ne ++ [162, 2] ++ pl).length := (hq.st.mono (by lia)).cons
      have i2 : KLe ((768 + ((q.fa ++ [162, 253] ++ tu).length : Int), 2 * k) :: q.mr) (q.fa ++ [162, 253] ++ tu).length := (hq.mr.mono (by lia)).cons
      have s1 := hq.sl; have s2 := hq.ml
      generalize q.ne ++ [162, 2] ++ pl = ne2 at *
      generalize q.fa ++ [162, 253] ++ tu = fa2 at *
      have Rm2 : Room ⟨ne2 ++ [202, 16, 253 - (pl.length : Int)], fa2 ++ [232, 48, 253 - (tu.length : Int)], (768 + (ne2.length : Int), 2 * k) :: q.st, (768 + (fa2.length : Int), 2 * k) :: q.mr, q.d⟩ := by
        have n1 : (ne2 ++ [202, 16, 253 - (pl.length : Int)]).length = ne2.length + 3 := List.length_append
        have n2 : (fa2 ++ [232, 48, 253 - (tu.length : Int)]).length = fa2.length + 3 := List.length_append
        exact ⟨by show (ne2 ++ _).length ≤ _; lia, by show (fa2 ++ _).length ≤ _; lia, i1.none (show ne2.length < (ne2 ++ [202, 16, 253 - (pl.length : Int)]).length by lia), i2.none (show fa2.length < (fa2 ++ [232, 48, 253 - (tu.length : Int)]).length by lia), by show q.st.length + 1 ≤ _; lia, by show q.mr.length + 1 ≤ _; lia⟩
      have e14 := b14 (xs := xs) (b := b) (R := R ++ R1 ++ R2 ++ R3) (k := k) (x := x) (K := K) (f := f) (v := v) (p := p) (t := t) Rm2
      have c := xs_next e9 (xs_next e10 (xs_next e11 (xs_next e12 (xs_next e13 (xs_next e14 nil)))))
      refine ⟨R1 ++ R2 ++ R3 ++ [.seq true [.int (2 * k + 1), .int (2 * k + 1)]], ?_⟩
      rw [← List.append_assoc, ← List.append_assoc, ← List.append_assoc]
      exact c
end
end Mine.Internal
end
section
open PySem PySem.W PySem.Calls PyProof.Rows PySem.Builtin
namespace Mine.Internal
theorem run_t {α : Type} {c : Bool} {t e : T α} (h : c = true) : T.run (.br c t e) = T.run t := by rw [h]; rfl
theorem run_f {α : Type} {c : Bool} {t e : T α} (h : c = false) : T.run (.br c t e) = T.run e := by rw [h]; rfl
noncomputable def kd (x d : Int) : Int := match kX x == 33, d == 0 with | true, true => 32 | _, _ => kX x
noncomputable def fd (x d : Int) : Int := cond (noF (kd x d) (fX x)) 0 (fX x)
noncomputable def dd (K d : Int) : Int := match K == 32, K == 33 with | true, _ => d + 1 | false, true => d - 1 | false, false => d
noncomputable def next7 (k x : Int) (q : S7) : S7 := grow7 k (fd x q.d) (plainW (kd x q.d).toNat (vX x k)) (turnW (kd x q.d).toNat (vX x k)) ⟨q.ne, q.fa, q.st, q.mr, dd (kd x q.d) q.d⟩
theorem tn_ok {x : Int} {n : Nat} (h1 : 0 ≤ x) (h2 : x < (n : Int)) : (x.toNat : Int) = x ∧ x.toNat < n := ⟨Int.toNat_of_nonneg h1, (Int.toNat_lt h1).mpr h2⟩
theorem fm_ok (x : Int) {n : Nat} (hn : (0 : Int) < (n : Int)) : ((x.fmod (n : Int)).toNat : Int) = x.fmod (n : Int) ∧ (x.fmod (n : Int)).toNat < n := tn_ok (Int.fmod_nonneg_of_pos x hn) (Int.fmod_lt_of_pos x hn)
theorem kd_ok (x d : Int) : ((kd x d).toNat : Int) = kd x d ∧ (kd x d).toNat < 34 := by
  unfold kd
  split
  · exact ⟨rfl, by decide⟩
  · exact fm_ok x (n := 34) (by decide)
theorem wPl_len {v c : Int} : 2 ≤ (wPl v c).length ∧ (wPl v c).length ≤ 3 := by
  unfold wPl
  cases decide (v < 128) with
  | true => exact ⟨Nat.le_refl _, Nat.le_succ _⟩
  | false => exact ⟨Nat.le_succ _, Nat.le_refl _⟩
theorem plainW_len {K : Nat} {v : Int} : 1 ≤ (plainW K v).length ∧ (plainW K v).length ≤ 3 := by
  unfold plainW
  split
  · exact ⟨Nat.le_refl _, Nat.le_of_ble_eq_true rfl⟩
  · exact ⟨Nat.le_succ _, Nat.le_of_ble_eq_true rfl⟩
  · exact ⟨Nat.le_succ _, Nat.le_of_ble_eq_true rfl⟩
  · exact ⟨Nat.le_succ _, Nat.le_of_ble_eq_true rfl⟩
  · have := wPl_len (v := v) (c := (knd K).2.1); omega
theorem pre_len (K : Nat) : (knd K).1.length ≤ 1 := by
  have h : ∀ e ∈ kndL, e.1.length ≤ 1 := by decide
  unfold knd
  rw [List.getD_eq_getElem?_getD]
  cases hk : kndL[K]? with
  | none => exact Nat.zero_le _
  | some e => exact h e (List.mem_of_getElem? hk)
theorem turnW_len {K : Nat} {v : Int} : 1 ≤ (turnW K v).length ∧ (turnW K v).length ≤ 6 := by
  unfold turnW
  split
  · exact ⟨Nat.le_refl _, Nat.le_of_ble_eq_true rfl⟩
  · exact ⟨Nat.le_succ _, Nat.le_of_ble_eq_true rfl⟩
  · exact ⟨Nat.le_succ _, Nat.le_of_ble_eq_true rfl⟩
  · exact ⟨Nat.le_succ _, Nat.le_of_ble_eq_true rfl⟩
  · have h := wPl_len (v := v) (c := (knd K).2.2.1)
    have p := pre_len K
    rw [List.length_append, List.length_append]
    cases Nat.beq K 13 with
    | true => show 1 ≤ _ + _ + 2 ∧ _ + _ + 2 ≤ 6; omega
    | false => show 1 ≤ _ + _ + 0 ∧ _ + _ + 0 ≤ 6; omega
theorem notE {l : List Int} (h : 1 ≤ l.length) : l.isEmpty = false := by
  cases l with
  | nil => exact absurd h (by decide)
  | cons _ _ => rfl
section
variable {xs : List Int} {b : B7} {q : S7} {R : HP} {k x K f v : Int} {p t : Nat} {pl tu : List Int}
theorem sweep7 (A : At2 (hT b q R) p t pl tu) : sweepL 29 (lC b q.d k x K f v p t) (hT b q R) = (lC b q.d k x K f v 29 30, hT b q [.nums pl, .nums tu]) := by
  have n1 : Nat.ble 29 p = true := Nat.ble_eq_true_of_le A.p29
  have n2 : Nat.ble 29 t = true := Nat.ble_eq_true_of_le A.t29
  have k1 : keepI 29 (.obj p) = some p := by show cond (Nat.ble 29 p) (some p) none = _; rw [n1]; rfl
  have k2 : keepI 29 (.obj t) = some t := by show cond (Nat.ble 29 t) (some t) none = _; rw [n2]; rfl
  have kk : keepK 29 (lC b q.d k x K f v p t) = [p, t] := by
    show List.filterMap _ (lD b.s q.d [("place", .int k), ("number", .int x), ("kind", .int K), ("form", .int f), ("value", .int v)] ++ ([("plain", AV.obj p), ("turned", AV.obj t)] : Loc)) = _
    rw [List.filterMap_append, show List.filterMap (fun p => keepI 29 p.2) (lD b.s q.d [("place", .int k), ("number", .int x), ("kind", .int K), ("form", .int f), ("value", .int v)]) = [] by kernel_rfl]
    exact (List.filterMap_cons_some (f := fun u : Str × AV => keepI 29 u.2) (a := (("plain" : Str), AV.obj p)) k1).trans (congrArg (p :: ·) ((List.filterMap_cons_some (f := fun u : Str × AV => keepI 29 u.2) (a := (("turned" : Str), AV.obj t)) k2).trans rfl))
  have pt : Nat.beq p t = false := by
    cases h : Nat.beq p t with
    | false => rfl
    | true => exact absurd (Nat.eq_of_beq_eq_true h) A.ne
  have at_ : ∀ {i : Nat} {l : List Int}, numsO (hT b q R) (.obj i) = some l → (hT b q R)[i]? = some (.nums l) := fun {i l} h => by
    replace h : ((hT b q R)[i]?).bind AO.nums? = some l := h
    obtain ⟨o, h1, h2⟩ := Option.bind_eq_some_iff.mp h
    rw [h1, nums?_of h2]
  have lf : ∀ {i : Nat} {l : List Int}, numsO (hT b q R) (.obj i) = some l → leafAt (hT b q R) i = true := fun {i l} h => by unfold leafAt; rw [at_ h]; rfl
  have gd : ∀ {i : Nat} {l : List Int}, numsO (hT b q R) (.obj i) = some l → (hT b q R).getD i (.rng 0 0) = .nums l := fun {i l} h => by rw [List.getD_eq_getElem?_getD, at_ h]; rfl
  unfold sweepL
  rw [kk]
  unfold sweepK
  have c : ((hT b q R).take 29).all (objBelow 29) = true := by kernel_rfl
  have nd : nodupK [p, t] = true := by
    show ((!Nat.beq p t && true) && true) = true
    rw [pt]; rfl
  rw [c, nd]
  show (match true && true && (leafAt (hT b q R) p && (leafAt (hT b q R) t && true)) with | true => _ | false => _) = _
  rw [lf A.hp, lf A.ht]
  have r1 : renK 29 [p, t] (.obj p) = .obj 29 := by unfold renK; rw [k1]; show AV.obj (29 + [p, t].idxOf p) = _; rw [List.idxOf_cons_self]
  have r2 : renK 29 [p, t] (.obj t) = .obj 30 := by unfold renK; rw [k2]; show AV.obj (29 + [p, t].idxOf t) = _; rw [List.idxOf_cons, show (p == t) = false from beq_eq_false_iff_ne.mpr A.ne]; show AV.obj (29 + (List.idxOf t [t] + 1)) = _; rw [List.idxOf_cons_self]
  refine congr (congrArg Prod.mk ?_) ?_
  · show List.map _ (lD b.s q.d [("place", .int k), ("number", .int x), ("kind", .int K), ("form", .int f), ("value", .int v)] ++ ([("plain", AV.obj p), ("turned", AV.obj t)] : Loc)) = _
    rw [List.map_append, show List.map (fun u : Str × AV => (u.1, renK 29 [p, t] u.2)) (lD b.s q.d [("place", .int k), ("number", .int x), ("kind", .int K), ("form", .int f), ("value", .int v)]) = lD b.s q.d [("place", .int k), ("number", .int x), ("kind", .int K), ("form", .int f), ("value", .int v)] by kernel_rfl]
    show _ ++ ([(("plain" : Str), renK 29 [p, t] (.obj p)), (("turned" : Str), renK 29 [p, t] (.obj t))] : Loc) = _
    rw [r1, r2]; rfl
  · show (hT b q R).take 29 ++ [(hT b q R).getD p (.rng 0 0), (hT b q R).getD t (.rng 0 0)] = _
    rw [gd A.hp, gd A.ht, show (hT b q R).take 29 = hT b q [] by kernel_rfl, hT_app]
    rfl
end
end Mine.Internal
end
section
open PySem PySem.W PySem.Calls PyProof.Rows PySem.Builtin
namespace Mine.Internal
theorem grow7_d {k f : Int} {pl tu : List Int} {q : S7} : (grow7 k f pl tu q).d = q.d := by
  unfold grow7 tail7
  cases f == 3 <;> rfl
theorem hN_len {f n : Int} : (hN f n).length ≤ 2 := by
  unfold hN
  cases ([1, 2, 4] : List Int).any (· == f) with
  | true => exact Nat.le_refl _
  | false => cases f == 3 <;> exact Nat.le_of_ble_eq_true rfl
theorem hF_len {f n : Int} : (hF f n).length ≤ 2 := by
  unfold hF
  cases ([1, 2, 4] : List Int).any (· == f) with
  | true => exact Nat.le_refl _
  | false => cases f == 3 <;> exact Nat.le_of_ble_eq_true rfl
theorem grow7_inv {k f : Int} {pl tu : List Int} {q : S7} {n : Nat} (hn : n ≤ 600) (h : q.ne.length ≤ n ∧ q.fa.length ≤ n ∧ q.st.length ≤ n ∧ q.mr.length ≤ n ∧ KLe q.st q.ne.length ∧ KLe q.mr q.fa.length) (hp : pl.length ≤ 3) (ht : tu.length ≤ 6) :
    (grow7 k f pl tu q).ne.length ≤ n + 11 ∧ (grow7 k f pl tu q).fa.length ≤ n + 11 ∧ (grow7 k f pl tu q).st.length ≤ n + 11 ∧ (grow7 k f pl tu q).mr.length ≤ n + 11 ∧ KLe (grow7 k f pl tu q).st (grow7 k f pl tu q).ne.length ∧ KLe (grow7 k f pl tu q).mr (grow7 k f pl tu q).fa.length := by
  obtain ⟨h1, h2, h3, h4, h5, h6⟩ := h
  have a1 := hN_len (f := f) (n := (pl.length : Int))
  have a2 := hF_len (f := f) (n := (tu.length : Int))
  have m1 : (wrds f pl tu q).ne.length = q.ne.length + (hN f pl.length).length + pl.length := by show (_ ++ _ ++ _ : List Int).length = _; rw [List.length_append, List.length_append]
  have m2 : (wrds f pl tu q).fa.length = q.fa.length + (hF f tu.length).length + tu.length := by show (_ ++ _ ++ _ : List Int).length = _; rw [List.length_append, List.length_append]
  have i1 : KLe (wrds f pl tu q).st (wrds f pl tu q).ne.length := h5.mono (by lia)
  have i2 : KLe (wrds f pl tu q).mr (wrds f pl tu q).fa.length := h6.mono (by lia)
  have z1 : (wrds f pl tu q).st.length = q.st.length := rfl
  have z2 : (wrds f pl tu q).mr.length = q.mr.length := rfl
  unfold grow7
  generalize wrds f pl tu q = w at *
  unfold tail7
  cases f == 3 with
  | false =>
    show w.ne.length ≤ _ ∧ w.fa.length ≤ _ ∧ w.st.length + 1 ≤ _ ∧ w.mr.length + 1 ≤ _ ∧ KLe ((768 + (w.ne.length : Int), 2 * k + 1) :: w.st) w.ne.length ∧ KLe ((768 + (w.fa.length : Int), 2 * k + 1) :: w.mr) w.fa.length
    exact ⟨by lia, by lia, by lia, by lia, i1.cons, i2.cons⟩
  | true =>
    have n1 : (w.ne ++ [202, 16, 253 - (pl.length : Int)]).length = w.ne.length + 3 := List.length_append
    have n2 : (w.fa ++ [232, 48, 253 - (tu.length : Int)]).length = w.fa.length + 3 := List.length_append
    show (w.ne ++ [202, 16, 253 - (pl.length : Int)]).length ≤ _ ∧ (w.fa ++ [232, 48, 253 - (tu.length : Int)]).length ≤ _ ∧ w.st.length + 2 ≤ _ ∧ w.mr.length + 2 ≤ _ ∧ KLe ((768 + ((w.ne ++ [202, 16, 253 - (pl.length : Int)]).length : Int), 2 * k + 1) :: (768 + (w.ne.length : Int), 2 * k) :: w.st) (w.ne ++ [202, 16, 253 - (pl.length : Int)]).length ∧ KLe ((768 + ((w.fa ++ [232, 48, 253 - (tu.length : Int)]).length : Int), 2 * k + 1) :: (768 + (w.fa.length : Int), 2 * k) :: w.mr) (w.fa ++ [232, 48, 253 - (tu.length : Int)]).length
    exact ⟨by lia, by lia, by lia, by lia, (i1.cons.mono (by lia)).cons, (i2.cons.mono (by lia)).cons⟩
section
variable {xs : List Int} {b : B7} {q : S7}
theorem any124 {f : Int} (h : ([1, 2, 4] : List Int).any (· == f) = true) : okIx (f.fdiv 2) 3 = true ∧ (f == 3) = false := by
  rw [List.any_eq_true] at h
  obtain ⟨y, hy, e⟩ := h
  obtain rfl := beq_iff_eq.mp e
  rcases List.mem_cons.mp hy with rfl | hy
  · exact ⟨by decide, by decide⟩
  · rcases List.mem_cons.mp hy with rfl | hy
    · exact ⟨by decide, by decide⟩
    · obtain rfl := List.mem_singleton.mp hy
      exact ⟨by decide, by decide⟩
theorem turn7 {k x : Int} (o : Option Prev) (hq : Inv q) (hk : okIx k b.zs.length = true) (hx : b.zs.getD k.toNat 0 = x) : ∃ R p t, T.run (bxs xs 111 (fb (lb 8)) (lD b.s q.d (eA k o)) (hT b q (R0 o))) = some (nx (lC b (next7 k x q).d k x (kd x q.d) (fd x q.d) (vX x k) p t) (hT b (next7 k x q) R)) ∧ At2 (hT b (next7 k x q) R) p t (plainW (kd x q.d).toNat (vX x k)) (turnW (kd x q.d).toNat (vX x k)) := by
  have e0 := b03 xs b q (R0 o) k [bs 8 4, bs 8 5, bs 8 6, bs 8 7, bs 8 8, bs 8 9, bs 8 10, bs 8 11, bs 8 12, bs 8 13, bs 8 14] o
  rw [hk, hx, run_nd (z := T.run (bxs xs 107 [bs 8 4, bs 8 5, bs 8 6, bs 8 7, bs 8 8, bs 8 9, bs 8 10, bs 8 11, bs 8 12, bs 8 13, bs 8 14] (lD b.s q.d (eB k x (kX x) (fX x) (vX x k) o)) (hT b q (R0 o)))) rfl rfl] at e0
  have e4 : T.run (bst xs 106 8 4 (lD b.s q.d (eB k x (kX x) (fX x) (vX x k) o)) (hT b q (R0 o))) = some (nx (lD b.s q.d (eB k x (kd x q.d) (fX x) (vX x k) o)) (hT b q (R0 o))) := by
    rw [b4]
    unfold kd
    cases kX x == 33 with
    | false => rfl
    | true => cases q.d == 0 <;> rfl
  obtain ⟨R1, e5⟩ := b5 xs b q (R0 o) k x (kd x q.d) (fX x) (vX x k) o
  have e67 : ∀ {r : List Stmt} {z : Option (AF × Loc × HP)}, T.run (bxs xs 103 r (lD b.s (dd (kd x q.d) q.d) (eB k x (kd x q.d) (fd x q.d) (vX x k) o)) (hT b q (R0 o ++ R1))) = z → T.run (bxs xs 105 (bs 8 6 :: bs 8 7 :: r) (lD b.s q.d (eB k x (kd x q.d) (fd x q.d) (vX x k) o)) (hT b q (R0 o ++ R1))) = z := fun {r z} h => by
    have e6 := b6 xs b q (R0 o ++ R1) k x (kd x q.d) (fd x q.d) (vX x k) o
    unfold dd at h
    cases h2 : kd x q.d == 32 with
    | true =>
      rw [h2] at h e6
      have h33 : (kd x q.d == 33) = false := by rw [beq_iff_eq.mp h2]; rfl
      have e7 := b7 xs b ⟨q.ne, q.fa, q.st, q.mr, q.d + 1⟩ (R0 o ++ R1) k x (kd x q.d) (fd x q.d) (vX x k) o
      rw [h33] at e7
      exact xs_next e6 (xs_next e7 h)
    | false =>
      rw [h2] at h e6
      have e7 := b7 xs b q (R0 o ++ R1) k x (kd x q.d) (fd x q.d) (vX x k) o
      cases h3 : kd x q.d == 33 with
      | true =>
        rw [h3] at h e7
        exact xs_next e6 (xs_next e7 h)
      | false =>
        rw [h3] at h e7
        exact xs_next e6 (xs_next e7 h)
  obtain ⟨k1, k2⟩ := kd_ok x q.d
  obtain ⟨R2, p, t, e8, A⟩ := b8 (xs := xs) (b := b) (q := ⟨q.ne, q.fa, q.st, q.mr, dd (kd x q.d) q.d⟩) (R := R0 o ++ R1) (k := k) (x := x) (f := fd x q.d) (v := vX x k) k2 o
  rw [k1] at e8
  have pl := plainW_len (K := (kd x q.d).toNat) (v := vX x k)
  have tl := turnW_len (K := (kd x q.d).toNat) (v := vX x k)
  obtain ⟨R3, e9⟩ := b9_14 (xs := xs) (k := k) (x := x) (K := kd x q.d) (f := fd x q.d) (v := vX x k) A ⟨hq.ne, hq.fa, hq.st, hq.mr, hq.sl, hq.ml⟩ (fun h => (any124 h).1) (fun h => (any124 h).2) (notE pl.1) (notE tl.1) (Nat.le_trans pl.2 (by decide)) (Nat.le_trans tl.2 (by decide))
  have dn : (next7 k x q).d = dd (kd x q.d) q.d := grow7_d
  refine ⟨R0 o ++ R1 ++ R2 ++ R3, p, t, ?_, (A.hT R3).set⟩
  rw [fb8, e0, dn]
  exact xs_next e4 (xs_next e5 (e67 (xs_next e8 e9)))
noncomputable abbrev eE : Option (Int × Prev) → Loc
  | none => []
  | some z => eA z.1 (some z.2)
noncomputable abbrev eF : Option (Int × Prev) → Loc
  | none => []
  | some z => [("number", .int z.2.x), ("kind", .int z.2.K), ("form", .int z.2.f), ("value", .int z.2.v), ("plain", .obj 29), ("turned", .obj 30)]
noncomputable abbrev f8 (xs : List Int) (m k : Nat) (n : Int) (l : Loc) (H : HP) : T (AF × Loc × HP) := forI (I7 xs) (fns (I7 xs) 111) 60 lsc (ft (lb 8)) (fb (lb 8)) (.rng 0 n) 29 m k l H
theorem A8 (xs : List Int) (b : B7) (d k : Int) (H : HP) : ∀ o : Option (Int × Prev), T.run (asgT (I7 xs) (fns (I7 xs) 111) 60 lsc (ft (lb 8)) (.int k) (lD b.s d (eE o)) H) = some (lD b.s d (eA k (o.map (·.2))), H)
  | none => by kernel_rfl
  | some _ => by kernel_rfl
theorem D8 (b : B7) (d : Int) : ∀ o : Option (Int × Prev), dropT (ft (lb 8)) (lD b.s d (eE o)) = lD b.s d (eF o)
  | none => by kernel_rfl
  | some _ => by kernel_rfl
noncomputable def build7 : List Int → Int → S7 → S7
  | [], _, q => q
  | x :: r, k, q => build7 r (k + 1) (next7 k x q)
theorem loop8 (xs : List Int) (b : B7) : ∀ (r pre : List Int) (o : Option (Int × Prev)) (q : S7) (n : Nat), b.zs = pre ++ r → b.zs.length ≤ 20 → n + 11 * r.length ≤ 300 → (q.ne.length ≤ n ∧ q.fa.length ≤ n ∧ q.st.length ≤ n ∧ q.mr.length ≤ n ∧ KLe q.st q.ne.length ∧ KLe q.mr q.fa.length) →
    ∃ o', T.run (f8 xs (r.length + 1) pre.length b.zs.length (lD b.s q.d (eE o)) (hT b q (R0 (o.map (·.2))))) = some (nx (lD b.s (build7 r pre.length q).d (eF o')) (hT b (build7 r pre.length q) (R0 (o'.map (·.2)))))
  | [], pre, o, q, n, hz, _, _, _ => by
    refine ⟨o, (forI_end ?_).trans ?_⟩
    · show some (if 0 + (pre.length : Int) < (b.zs.length : Int) then some (AV.int (0 + (pre.length : Int))) else none) = _
      rw [hz, List.append_nil, if_neg (by lia)]
    · rw [D8]; rfl
  | x :: r, pre, o, q, n, hz, hl, hn, hi => by
    rw [List.length_cons] at hn
    have hlen : pre.length < b.zs.length := by rw [hz, List.length_append, List.length_cons]; lia
    have hx : b.zs.getD ((pre.length : Int)).toNat 0 = x := by rw [Int.toNat_natCast, List.getD_eq_getElem?_getD, hz, List.getElem?_append_right (Nat.le_refl _), Nat.sub_self]; rfl
    have hq : Inv q := ⟨by lia, by lia, hi.2.2.2.2.1, hi.2.2.2.2.2, by lia, by lia⟩
    obtain ⟨R, p, t, e, A⟩ := turn7 (xs := xs) (b := b) (k := pre.length) (x := x) (o.map (·.2)) hq (okIx_nat hlen (Nat.le_trans hl (by decide))) hx
    have hnx : nxI (.rng 0 (b.zs.length : Int)) pre.length (hT b q (R0 (o.map (·.2)))) = some (some (.int (pre.length : Int))) := by
      show some (if 0 + (pre.length : Int) < (b.zs.length : Int) then some (AV.int (0 + (pre.length : Int))) else none) = _
      rw [if_pos (by lia), Int.zero_add]
    have s := forI_step (I := I7 xs) (m := r.length + 1) (n0 := 29) hnx (A8 xs b q.d pre.length _ o) e (sweep7 A)
    have pl := plainW_len (K := (kd x q.d).toNat) (v := vX x pre.length)
    have tl := turnW_len (K := (kd x q.d).toNat) (v := vX x pre.length)
    have hi' := grow7_inv (k := pre.length) (f := fd x q.d) (q := ⟨q.ne, q.fa, q.st, q.mr, dd (kd x q.d) q.d⟩) (by lia) hi pl.2 tl.2
    obtain ⟨o', e'⟩ := loop8 xs b r (pre ++ [x]) (some (pre.length, ⟨x, kd x q.d, fd x q.d, vX x pre.length, plainW (kd x q.d).toNat (vX x pre.length), turnW (kd x q.d).toNat (vX x pre.length)⟩)) (next7 pre.length x q) (n + 11) (by rw [List.append_assoc]; exact hz) hl (by lia) hi'
    rw [show (pre ++ [x]).length = pre.length + 1 from List.length_append] at e'
    exact ⟨o', s.trans e'⟩
end
end Mine.Internal
end
section
open PySem PySem.W PySem.Calls PyProof.Rows PySem.Builtin
namespace Mine.Internal
theorem L8 (xs zs ro ot m1 m2 : List Int) (s : Int) : T.run (lst xs 111 8 (lD s 0 []) (h8 zs ro ot m1 m2 [] [] [] [] [])) = T.run (.need (decide (zs.length < 2 ^ 62)) (.need (decide (0 ≤ (zs.length : Int)) && decide ((zs.length : Int) ≤ 1000000)) (.opt (cond (decide ((0 : Int) ≤ 0) && decide (0 ≤ (zs.length : Int)) && decide ((zs.length : Int) ≤ 1000000)) (some (Itr.rng 0 zs.length)) none) fun w =>
    forI (I7 xs) (fns (I7 xs) 111) 60 lsc (ft (lb 8)) (fb (lb 8)) w 29 (lenI w (hT ⟨zs, ro, ot, m1, m2, s⟩ ⟨[], [], [], [], 0⟩ []) + 1) 0 (lD s 0 []) (hT ⟨zs, ro, ot, m1, m2, s⟩ ⟨[], [], [], [], 0⟩ [])))) := by kernel_rfl
noncomputable abbrev eG : Option Prev → Loc
  | none => []
  | some z => [("number", .int z.x), ("kind", .int z.K), ("form", .int z.f), ("value", .int z.v), ("plain", .obj 29), ("turned", .obj 30)]
noncomputable abbrev rr : Option Prev → Nat
  | none => 0
  | some _ => 2
noncomputable abbrev lU (b : B7) (d : Int) (o : Option Prev) (e : Loc) : Loc := lD b.s d (eG o ++ e)
noncomputable abbrev hU (b : B7) (q : S7) (o : Option Prev) (X : HP) : HP := hT b q (R0 o ++ X)
section
variable (xs : List Int) (b : B7) (q : S7)
theorem L9 : ∀ o : Option Prev, T.run (lst xs 110 9 (lU b q.d o []) (hU b q o [])) = T.run (.need (decide (q.ne.length + 1 ≤ 2 ^ 24)) (.ret (nx (lU b q.d o []) (hU b ⟨q.ne ++ [24], q.fa, q.st, q.mr, q.d⟩ o [.nums [24]]))))
  | none => by kernel_rfl
  | some _ => by kernel_rfl
theorem L10 : ∀ o : Option Prev, T.run (lst xs 109 10 (lU b q.d o []) (hU b q o [.nums [24]])) = T.run (.need (decide (q.fa.length + 1 ≤ 2 ^ 24)) (.ret (nx (lU b q.d o []) (hU b ⟨q.ne, q.fa ++ [56], q.st, q.mr, q.d⟩ o [.nums [24], .nums [56]]))))
  | none => by kernel_rfl
  | some _ => by kernel_rfl
noncomputable abbrev X3 : HP := [.nums [24], .nums [56], .seq true [.int 100, .int 100]]
theorem L11 : ∀ o : Option Prev, T.run (lst xs 108 11 (lU b q.d o []) (hU b q o [.nums [24], .nums [56]])) = T.run (.need (decide (q.ne.length < 2 ^ 62)) (.need ((q.st.lookup (768 + (q.ne.length : Int))).isNone && decide (q.st.length ≤ 1000)) (.need (decide (q.fa.length < 2 ^ 62)) (.need ((q.mr.lookup (768 + (q.fa.length : Int))).isNone && decide (q.mr.length ≤ 1000)) (.ret (nx (lU b q.d o []) (hU b (note q 100 100) o X3)))))))
  | none => by kernel_rfl
  | some _ => by kernel_rfl
noncomputable abbrev bd (i : Int) : Bool := decide (-(2 ^ 62) ≤ i) && decide (i ≤ 2 ^ 62)
theorem L12 : ∀ o : Option Prev, T.run (lst xs 107 12 (lU b q.d o []) (hU b q o X3)) = T.run (.need (decide (q.ne.length < 2 ^ 62)) (.need (bd (768 + (q.ne.length : Int))) (.need (decide (b.m1.length + q.ne.length ≤ 2 ^ 24)) (.ret (nx (lU b q.d o []) (hU ⟨b.zs, b.ro, b.ot, layI b.m1 (some 768) (some (768 + (q.ne.length : Int))) q.ne, b.m2, b.s⟩ q o X3))))))
  | none => by kernel_rfl
  | some _ => by kernel_rfl
theorem L13 : ∀ o : Option Prev, T.run (lst xs 106 13 (lU b q.d o []) (hU b q o X3)) = T.run (.need (decide (q.fa.length < 2 ^ 62)) (.need (bd (768 + (q.fa.length : Int))) (.need (decide (b.m2.length + q.fa.length ≤ 2 ^ 24)) (.ret (nx (lU b q.d o []) (hU ⟨b.zs, b.ro, b.ot, b.m1, layI b.m2 (some 768) (some (768 + (q.fa.length : Int))) q.fa, b.s⟩ q o X3))))))
  | none => by kernel_rfl
  | some _ => by kernel_rfl
noncomputable def cBeg (p : Int) (m : List Int) : Cpu := ⟨0, .inl false, 0, p, p, 255, 0, 0, 0, 48, m⟩
noncomputable abbrev X5 (o : Option Prev) (c : Cpu) : HP := X3 ++ ([.ns (flds c 12), .inst (32 + rr o)] : HP)
theorem L14 : ∀ o : Option Prev, T.run (lst xs 105 14 (lU b q.d o []) (hU b q o X3)) = some (nx (lU b q.d o [("one", .obj (33 + rr o))]) (hU b q o (X5 o (cBeg 768 b.m1))))
  | none => by kernel_rfl
  | some _ => by kernel_rfl
noncomputable abbrev X7 (o : Option Prev) (c d : Cpu) : HP := X5 o c ++ ([.ns (flds d 21), .inst (34 + rr o)] : HP)
noncomputable abbrev e12 (o : Option Prev) : Loc := [("one", .obj (33 + rr o)), ("two", .obj (35 + rr o))]
theorem L15 : ∀ o : Option Prev, T.run (lst xs 104 15 (lU b q.d o [("one", .obj (33 + rr o))]) (hU b q o (X5 o (cBeg 768 b.m1)))) = some (nx (lU b q.d o (e12 o)) (hU b q o (X7 o (cBeg 768 b.m1) (cBeg 768 b.m2))))
  | none => by kernel_rfl
  | some _ => by kernel_rfl
noncomputable abbrev aX (s : Int) : Int := s.fmod 256
noncomputable abbrev xX (s : Int) : Int := (s.fdiv 3).fmod 256
noncomputable abbrev yX (s : Int) : Int := (s.fdiv 5).fmod 256
noncomputable abbrev pX (s : Int) : Int := 48 + (s.fdiv 7).fmod 8 + 64 * (s.fdiv 11).fmod 4
noncomputable def cOne (s p : Int) (m : List Int) : Cpu := ⟨0, .inl false, 0, 768, 768, 255, aX s, xX s, yX s, p, m⟩
noncomputable def cTwo (s p : Int) (m : List Int) : Cpu := ⟨0, .inl false, 0, 768, 768, 255, 255 - aX s, 255 - xX s, 255 - yX s, p, m⟩
noncomputable abbrev Xs (s : Int) : HP := [.seq true [.int (aX s), .int (xX s), .int (yX s)]]
noncomputable abbrev Xu (s : Int) : HP := [.seq true [.int (255 - aX s), .int (255 - xX s), .int (255 - yX s)]]
theorem L16 : ∀ o : Option Prev, T.run (lst xs 103 16 (lU b q.d o (e12 o)) (hU b q o (X7 o (cBeg 768 b.m1) (cBeg 768 b.m2)))) = some (nx (lU b q.d o (e12 o)) (hU b q o (X7 o (cOne b.s 48 b.m1) (cBeg 768 b.m2) ++ Xs b.s)))
  | none => by kernel_rfl
  | some _ => by kernel_rfl
theorem L17 : ∀ o : Option Prev, T.run (lst xs 102 17 (lU b q.d o (e12 o)) (hU b q o (X7 o (cOne b.s 48 b.m1) (cBeg 768 b.m2) ++ Xs b.s))) = some (nx (lU b q.d o (e12 o)) (hU b q o (X7 o (cOne b.s 48 b.m1) (cTwo b.s 48 b.m2) ++ Xs b.s ++ Xu b.s)))
  | none => by kernel_rfl
  | some _ => by kernel_rfl
theorem L18 : ∀ o : Option Prev, T.run (lst xs 101 18 (lU b q.d o (e12 o)) (hU b q o (X7 o (cOne b.s 48 b.m1) (cTwo b.s 48 b.m2) ++ Xs b.s ++ Xu b.s))) = some (nx (lU b q.d o (e12 o)) (hU b q o (X7 o (cOne b.s (pX b.s) b.m1) (cTwo b.s 48 b.m2) ++ Xs b.s ++ Xu b.s)))
  | none => by kernel_rfl
  | some _ => by kernel_rfl
theorem L19 : ∀ o : Option Prev, T.run (lst xs 100 19 (lU b q.d o (e12 o)) (hU b q o (X7 o (cOne b.s (pX b.s) b.m1) (cTwo b.s 48 b.m2) ++ Xs b.s ++ Xu b.s))) = some (nx (lU b q.d o (e12 o)) (hU b q o (X7 o (cOne b.s (pX b.s) b.m1) (cTwo b.s (Builtin.bitXor (pX b.s) 129) b.m2) ++ Xs b.s ++ Xu b.s)))
  | none => by kernel_rfl
  | some _ => by kernel_rfl
end
end Mine.Internal
end
section
open PySem PySem.W PySem.Calls PyProof.Rows PySem.Builtin
namespace Mine.Internal
noncomputable abbrev hM (b : B7) (q : S7) (o : Option Prev) (c d : Cpu) (X : HP) : HP := hU ⟨b.zs, b.ro, b.ot, c.mem, d.mem, b.s⟩ q o (X7 o c d ++ (Xs b.s ++ (Xu b.s ++ (.rng 0 60 :: X))))
noncomputable abbrev lV (b : B7) (d : Int) (o : Option Prev) (e : Loc) : Loc := lU b d o (e12 o ++ e)
noncomputable abbrev f20 (xs : List Int) (o : Option Prev) (m k : Nat) (l : Loc) (H : HP) : T (AF × Loc × HP) := forI (I7 xs) (fns (I7 xs) 99) 60 lsc (ft (lb 20)) (fb (lb 20)) (.rng 0 60) (39 + rr o) m k l H
noncomputable def ms (j : Nat) : Stmt := (fb (bs 20 0)).getD j (.Pass default)
noncomputable def is (j : Nat) : Stmt := (fb (ms 0)).getD j (.Pass default)
theorem fb20 : fb (lb 20) = [bs 20 0, bs 20 1, bs 20 2, bs 20 3] := by kernel_rfl
theorem fbm : fb (bs 20 0) = [ms 0, ms 1] := by kernel_rfl
theorem fbi : fb (ms 0) = [is 0, is 1] := by kernel_rfl
noncomputable abbrev XL (o : Option Prev) : HP := [.seq true [.obj (33 + rr o), .obj 25], .seq true [.obj (35 + rr o), .obj 26], .seq false [.obj (39 + rr o), .obj (40 + rr o)]]
noncomputable abbrev XI (o : Option Prev) : HP := XL o ++ ([.rng 0 6] : HP)
noncomputable abbrev fmm (xs : List Int) (o : Option Prev) (m k : Nat) (l : Loc) (H : HP) : T (AF × Loc × HP) := forI (I7 xs) (fns (I7 xs) 98) 60 lsc (ft (bs 20 0)) (fb (bs 20 0)) (.lst (41 + rr o)) (42 + rr o) m k l H
noncomputable abbrev fii (xs : List Int) (o : Option Prev) (m k : Nat) (l : Loc) (H : HP) : T (AF × Loc × HP) := forI (I7 xs) (fns (I7 xs) 97) 60 lsc (ft (ms 0)) (fb (ms 0)) (.rng 0 6) (43 + rr o) m k l H
noncomputable abbrev eV (k : Int) : Loc := [("visit", .int k)]
noncomputable abbrev mI (o : Option Prev) : Bool → Nat
  | true => 33 + rr o
  | false => 35 + rr o
noncomputable abbrev pI : Bool → Nat
  | true => 25
  | false => 26
noncomputable abbrev eM (k : Int) (o : Option Prev) (w : Bool) : Loc := [("visit", .int k), ("machine", .obj (mI o w)), ("places", .obj (pI w))]
noncomputable abbrev tI : Option Int → Loc
  | none => []
  | some t => [("turn", .int t)]
section
variable (xs : List Int) (b : B7) (q : S7)
theorem L20 : ∀ (o : Option Prev) (c d : Cpu), T.run (lst xs 99 20 (lV b q.d o []) (hU ⟨b.zs, b.ro, b.ot, c.mem, d.mem, b.s⟩ q o (X7 o c d ++ Xs b.s ++ Xu b.s))) = T.run (f20 xs o 61 0 (lV b q.d o []) (hM b q o c d []))
  | none, _, _ => by kernel_rfl
  | some _, _, _ => by kernel_rfl
theorem AV0 (k : Int) (H : HP) : ∀ o : Option Prev, T.run (asgT (I7 xs) (fns (I7 xs) 99) 60 lsc (ft (lb 20)) (.int k) (lV b q.d o []) H) = some (lV b q.d o (eV k), H)
  | none => by kernel_rfl
  | some _ => by kernel_rfl
theorem AV1 (k k' : Int) (H : HP) : ∀ o : Option Prev, T.run (asgT (I7 xs) (fns (I7 xs) 99) 60 lsc (ft (lb 20)) (.int k) (lV b q.d o (eV k')) H) = some (lV b q.d o (eV k), H)
  | none => by kernel_rfl
  | some _ => by kernel_rfl
theorem V0 (k : Int) : ∀ (o : Option Prev) (c d : Cpu), T.run (bst xs 98 20 0 (lV b q.d o (eV k)) (hM b q o c d [])) = T.run (fmm xs o 3 0 (lV b q.d o (eV k)) (hM b q o c d (XL o)))
  | none, _, _ => by kernel_rfl
  | some _, _, _ => by kernel_rfl
theorem AM1 (k : Int) : ∀ (o : Option Prev) (c d : Cpu), T.run (asgT (I7 xs) (fns (I7 xs) 98) 60 lsc (ft (bs 20 0)) (.obj (39 + rr o)) (lV b q.d o (eV k)) (hM b q o c d (XL o))) = some (lV b q.d o (eM k o true), hM b q o c d (XL o))
  | none, _, _ => by kernel_rfl
  | some _, _, _ => by kernel_rfl
theorem AM2 (k : Int) : ∀ (o : Option Prev) (c d : Cpu), T.run (asgT (I7 xs) (fns (I7 xs) 98) 60 lsc (ft (bs 20 0)) (.obj (40 + rr o)) (lV b q.d o (eM k o true)) (hM b q o c d (XL o))) = some (lV b q.d o (eM k o false), hM b q o c d (XL o))
  | none, _, _ => by kernel_rfl
  | some _, _, _ => by kernel_rfl
theorem nM : ∀ (o : Option Prev) (c d : Cpu), nxI (.lst (41 + rr o)) 0 (hM b q o c d (XL o)) = some (some (.obj (39 + rr o))) ∧ nxI (.lst (41 + rr o)) 1 (hM b q o c d (XL o)) = some (some (.obj (40 + rr o))) ∧ nxI (.lst (41 + rr o)) 2 (hM b q o c d (XL o)) = some none
  | none, _, _ => ⟨by kernel_rfl, by kernel_rfl, by kernel_rfl⟩
  | some _, _, _ => ⟨by kernel_rfl, by kernel_rfl, by kernel_rfl⟩
theorem DM (k : Int) : ∀ (o : Option Prev), dropT (ft (bs 20 0)) (lV b q.d o (eM k o false)) = lV b q.d o (eV k)
  | none => by kernel_rfl
  | some _ => by kernel_rfl
theorem S0 (k : Int) : ∀ (o : Option Prev) (w : Bool) (c d : Cpu), T.run (stI (I7 xs) (fns (I7 xs) 97) 60 lsc (ms 0) (lV b q.d o (eM k o w)) (hM b q o c d (XL o))) = T.run (fii xs o 7 0 (lV b q.d o (eM k o w)) (hM b q o c d (XI o)))
  | none, true, _, _ => by kernel_rfl
  | some _, true, _, _ => by kernel_rfl
  | none, false, _, _ => by kernel_rfl
  | some _, false, _, _ => by kernel_rfl
theorem AI (k t : Int) (H : HP) : ∀ (o : Option Prev) (w : Bool) (u : Option Int), T.run (asgT (I7 xs) (fns (I7 xs) 97) 60 lsc (ft (ms 0)) (.int t) (lV b q.d o (eM k o w ++ tI u)) H) = some (lV b q.d o (eM k o w ++ tI (some t)), H)
  | none, true, none => by kernel_rfl
  | none, true, some _ => by kernel_rfl
  | none, false, none => by kernel_rfl
  | none, false, some _ => by kernel_rfl
  | some _, true, none => by kernel_rfl
  | some _, true, some _ => by kernel_rfl
  | some _, false, none => by kernel_rfl
  | some _, false, some _ => by kernel_rfl
theorem DI (k t : Int) : ∀ (o : Option Prev) (w : Bool), dropT (ft (ms 0)) (lV b q.d o (eM k o w ++ tI (some t))) = lV b q.d o (eM k o w)
  | none, true => by kernel_rfl
  | none, false => by kernel_rfl
  | some _, true => by kernel_rfl
  | some _, false => by kernel_rfl
theorem I0a (k t : Int) : ∀ (o : Option Prev) (c d : Cpu), T.run (stI (I7 xs) (fns (I7 xs) 96) 60 lsc (is 0) (lV b q.d o (eM k o true ++ tI (some t))) (hM b q o c d (XI o))) = T.run (((((fns (I7 xs) 95).cl 60 1 [.obj 0] (hpC c)).bind fun u => back3 (33 + rr o) (32 + rr o) 12 (hM b q o c d (XI o)) u)).bind fun u => .ret (.next, lV b q.d o (eM k o true ++ tI (some t)), u.2))
  | none, ⟨_, .inl _, _, _, _, _, _, _, _, _, _⟩, d => by kernel_rfl
  | none, ⟨_, .inr _, _, _, _, _, _, _, _, _, _⟩, d => by kernel_rfl
  | some _, ⟨_, .inl _, _, _, _, _, _, _, _, _, _⟩, d => by kernel_rfl
  | some _, ⟨_, .inr _, _, _, _, _, _, _, _, _, _⟩, d => by kernel_rfl
theorem I0b (k t : Int) : ∀ (o : Option Prev) (d c : Cpu), T.run (stI (I7 xs) (fns (I7 xs) 96) 60 lsc (is 0) (lV b q.d o (eM k o false ++ tI (some t))) (hM b q o c d (XI o))) = T.run (((((fns (I7 xs) 95).cl 60 1 [.obj 0] (hpC d)).bind fun u => back3 (35 + rr o) (34 + rr o) 21 (hM b q o c d (XI o)) u)).bind fun u => .ret (.next, lV b q.d o (eM k o false ++ tI (some t)), u.2))
  | none, ⟨_, .inl _, _, _, _, _, _, _, _, _, _⟩, c => by kernel_rfl
  | none, ⟨_, .inr _, _, _, _, _, _, _, _, _, _⟩, c => by kernel_rfl
  | some _, ⟨_, .inl _, _, _, _, _, _, _, _, _, _⟩, c => by kernel_rfl
  | some _, ⟨_, .inr _, _, _, _, _, _, _, _, _, _⟩, c => by kernel_rfl
theorem B0a : ∀ (o : Option Prev) (c d c' : Cpu), T.run (back3 (33 + rr o) (32 + rr o) 12 (hM b q o c d (XI o)) (.obj 0, hpC c')) = some (.obj (33 + rr o), hM b q o c' d (XI o))
  | none, _, _, ⟨_, .inl _, _, _, _, _, _, _, _, _, _⟩ => by kernel_rfl
  | none, _, _, ⟨_, .inr _, _, _, _, _, _, _, _, _, _⟩ => by kernel_rfl
  | some _, _, _, ⟨_, .inl _, _, _, _, _, _, _, _, _, _⟩ => by kernel_rfl
  | some _, _, _, ⟨_, .inr _, _, _, _, _, _, _, _, _, _⟩ => by kernel_rfl
theorem B0b : ∀ (o : Option Prev) (c d d' : Cpu), T.run (back3 (35 + rr o) (34 + rr o) 21 (hM b q o c d (XI o)) (.obj 0, hpC d')) = some (.obj (35 + rr o), hM b q o c d' (XI o))
  | none, _, _, ⟨_, .inl _, _, _, _, _, _, _, _, _, _⟩ => by kernel_rfl
  | none, _, _, ⟨_, .inr _, _, _, _, _, _, _, _, _, _⟩ => by kernel_rfl
  | some _, _, _, ⟨_, .inl _, _, _, _, _, _, _, _, _, _⟩ => by kernel_rfl
  | some _, _, _, ⟨_, .inr _, _, _, _, _, _, _, _, _, _⟩ => by kernel_rfl
noncomputable abbrev mC (c d : Cpu) : Bool → Cpu
  | true => c
  | false => d
noncomputable abbrev mP (q : S7) : Bool → List (Int × Int)
  | true => q.st
  | false => q.mr
theorem I1 (k t : Int) : ∀ (o : Option Prev) (w : Bool) (c d : Cpu), T.run (stI (I7 xs) (fns (I7 xs) 95) 60 lsc (is 1) (lV b q.d o (eM k o w ++ tI (some t))) (hM b q o c d (XI o))) = T.run (.br ((mP q w).lookup (mC c d w).pc).isSome (.ret (.brk, lV b q.d o (eM k o w ++ tI (some t)), hM b q o c d (XI o))) (.ret (nx (lV b q.d o (eM k o w ++ tI (some t))) (hM b q o c d (XI o)))))
  | none, true, _, _ => by kernel_rfl
  | none, false, _, _ => by kernel_rfl
  | some _, true, _, _ => by kernel_rfl
  | some _, false, _, _ => by kernel_rfl
theorem S1 (k : Int) : ∀ (o : Option Prev) (w : Bool) (c d : Cpu), T.run (stI (I7 xs) (fns (I7 xs) 96) 60 lsc (ms 1) (lV b q.d o (eM k o w)) (hM b q o c d (XI o))) = T.run (.br (!((mP q w).lookup (mC c d w).pc).isSome) (.ret (.ret (.bool false), lV b q.d o (eM k o w), hM b q o c d (XI o))) (.ret (nx (lV b q.d o (eM k o w)) (hM b q o c d (XI o)))))
  | none, true, _, _ => by kernel_rfl
  | none, false, _, _ => by kernel_rfl
  | some _, true, _, _ => by kernel_rfl
  | some _, false, _, _ => by kernel_rfl
end
end Mine.Internal
end
section
open PySem PySem.W PySem.Calls PyProof.Rows PySem.Builtin
namespace Mine.Internal
theorem sweep_same {n : Nat} {l : Loc} {H H' : HP} (h1 : keepK n l = []) (h2 : l.map (fun p => (p.1, renK n [] p.2)) = l) (h3 : (H.take n).all (objBelow n) = true) (h4 : H.take n = H') : sweepL n l H = (l, H') := by
  unfold sweepL
  rw [h1]
  unfold sweepK
  rw [h3]
  show (l.map _, H.take n ++ []) = _
  rw [h2, h4, List.append_nil]
section
variable (xs : List Int) (b : B7) (q : S7)
theorem below43 : ∀ (o : Option Prev) (c d : Cpu), ((hM b q o c d (XI o)).take (43 + rr o)).all (objBelow (43 + rr o)) = true
  | none, ⟨_, .inl _, _, _, _, _, _, _, _, _, _⟩, ⟨_, .inl _, _, _, _, _, _, _, _, _, _⟩ => by kernel_rfl
  | none, ⟨_, .inl _, _, _, _, _, _, _, _, _, _⟩, ⟨_, .inr _, _, _, _, _, _, _, _, _, _⟩ => by kernel_rfl
  | none, ⟨_, .inr _, _, _, _, _, _, _, _, _, _⟩, ⟨_, .inl _, _, _, _, _, _, _, _, _, _⟩ => by kernel_rfl
  | none, ⟨_, .inr _, _, _, _, _, _, _, _, _, _⟩, ⟨_, .inr _, _, _, _, _, _, _, _, _, _⟩ => by kernel_rfl
  | some _, ⟨_, .inl _, _, _, _, _, _, _, _, _, _⟩, ⟨_, .inl _, _, _, _, _, _, _, _, _, _⟩ => by kernel_rfl
  | some _, ⟨_, .inl _, _, _, _, _, _, _, _, _, _⟩, ⟨_, .inr _, _, _, _, _, _, _, _, _, _⟩ => by kernel_rfl
  | some _, ⟨_, .inr _, _, _, _, _, _, _, _, _, _⟩, ⟨_, .inl _, _, _, _, _, _, _, _, _, _⟩ => by kernel_rfl
  | some _, ⟨_, .inr _, _, _, _, _, _, _, _, _, _⟩, ⟨_, .inr _, _, _, _, _, _, _, _, _, _⟩ => by kernel_rfl
theorem below42 : ∀ (o : Option Prev) (c d : Cpu), ((hM b q o c d (XI o)).take (42 + rr o)).all (objBelow (42 + rr o)) = true
  | none, ⟨_, .inl _, _, _, _, _, _, _, _, _, _⟩, ⟨_, .inl _, _, _, _, _, _, _, _, _, _⟩ => by kernel_rfl
  | none, ⟨_, .inl _, _, _, _, _, _, _, _, _, _⟩, ⟨_, .inr _, _, _, _, _, _, _, _, _, _⟩ => by kernel_rfl
  | none, ⟨_, .inr _, _, _, _, _, _, _, _, _, _⟩, ⟨_, .inl _, _, _, _, _, _, _, _, _, _⟩ => by kernel_rfl
  | none, ⟨_, .inr _, _, _, _, _, _, _, _, _, _⟩, ⟨_, .inr _, _, _, _, _, _, _, _, _, _⟩ => by kernel_rfl
  | some _, ⟨_, .inl _, _, _, _, _, _, _, _, _, _⟩, ⟨_, .inl _, _, _, _, _, _, _, _, _, _⟩ => by kernel_rfl
  | some _, ⟨_, .inl _, _, _, _, _, _, _, _, _, _⟩, ⟨_, .inr _, _, _, _, _, _, _, _, _, _⟩ => by kernel_rfl
  | some _, ⟨_, .inr _, _, _, _, _, _, _, _, _, _⟩, ⟨_, .inl _, _, _, _, _, _, _, _, _, _⟩ => by kernel_rfl
  | some _, ⟨_, .inr _, _, _, _, _, _, _, _, _, _⟩, ⟨_, .inr _, _, _, _, _, _, _, _, _, _⟩ => by kernel_rfl
theorem below39 (X : HP) : ∀ (o : Option Prev) (c d : Cpu), ((hM b q o c d X).take (39 + rr o)).all (objBelow (39 + rr o)) = true
  | none, ⟨_, .inl _, _, _, _, _, _, _, _, _, _⟩, ⟨_, .inl _, _, _, _, _, _, _, _, _, _⟩ => by kernel_rfl
  | none, ⟨_, .inl _, _, _, _, _, _, _, _, _, _⟩, ⟨_, .inr _, _, _, _, _, _, _, _, _, _⟩ => by kernel_rfl
  | none, ⟨_, .inr _, _, _, _, _, _, _, _, _, _⟩, ⟨_, .inl _, _, _, _, _, _, _, _, _, _⟩ => by kernel_rfl
  | none, ⟨_, .inr _, _, _, _, _, _, _, _, _, _⟩, ⟨_, .inr _, _, _, _, _, _, _, _, _, _⟩ => by kernel_rfl
  | some _, ⟨_, .inl _, _, _, _, _, _, _, _, _, _⟩, ⟨_, .inl _, _, _, _, _, _, _, _, _, _⟩ => by kernel_rfl
  | some _, ⟨_, .inl _, _, _, _, _, _, _, _, _, _⟩, ⟨_, .inr _, _, _, _, _, _, _, _, _, _⟩ => by kernel_rfl
  | some _, ⟨_, .inr _, _, _, _, _, _, _, _, _, _⟩, ⟨_, .inl _, _, _, _, _, _, _, _, _, _⟩ => by kernel_rfl
  | some _, ⟨_, .inr _, _, _, _, _, _, _, _, _, _⟩, ⟨_, .inr _, _, _, _, _, _, _, _, _, _⟩ => by kernel_rfl
theorem take43 : ∀ (o : Option Prev) (c d : Cpu), (hM b q o c d (XI o)).take (43 + rr o) = hM b q o c d (XI o) ∧ (hM b q o c d (XI o)).take (42 + rr o) = hM b q o c d (XL o)
  | none, _, _ => ⟨by kernel_rfl, by kernel_rfl⟩
  | some _, _, _ => ⟨by kernel_rfl, by kernel_rfl⟩
theorem take39 (X : HP) : ∀ (o : Option Prev) (c d : Cpu), (hM b q o c d X).take (39 + rr o) = hM b q o c d []
  | none, _, _ => by kernel_rfl
  | some _, _, _ => by kernel_rfl
theorem keepT (k t : Int) : ∀ (o : Option Prev) (w : Bool), keepK (43 + rr o) (lV b q.d o (eM k o w ++ tI (some t))) = [] ∧ keepK (43 + rr o) (lV b q.d o (eM k o w)) = [] ∧ keepK (42 + rr o) (lV b q.d o (eM k o w)) = []
  | none, true => ⟨by kernel_rfl, by kernel_rfl, by kernel_rfl⟩
  | none, false => ⟨by kernel_rfl, by kernel_rfl, by kernel_rfl⟩
  | some _, true => ⟨by kernel_rfl, by kernel_rfl, by kernel_rfl⟩
  | some _, false => ⟨by kernel_rfl, by kernel_rfl, by kernel_rfl⟩
theorem mapT (k t : Int) : ∀ (o : Option Prev) (w : Bool), (lV b q.d o (eM k o w ++ tI (some t))).map (fun p => (p.1, renK (43 + rr o) [] p.2)) = lV b q.d o (eM k o w ++ tI (some t)) ∧ (lV b q.d o (eM k o w)).map (fun p => (p.1, renK (43 + rr o) [] p.2)) = lV b q.d o (eM k o w) ∧ (lV b q.d o (eM k o w)).map (fun p => (p.1, renK (42 + rr o) [] p.2)) = lV b q.d o (eM k o w)
  | none, true => ⟨by kernel_rfl, by kernel_rfl, by kernel_rfl⟩
  | none, false => ⟨by kernel_rfl, by kernel_rfl, by kernel_rfl⟩
  | some _, true => ⟨by kernel_rfl, by kernel_rfl, by kernel_rfl⟩
  | some _, false => ⟨by kernel_rfl, by kernel_rfl, by kernel_rfl⟩
theorem keepV (k : Int) : ∀ (o : Option Prev), (keepK (39 + rr o) (lV b q.d o (eV k)) = [] ∧ keepK (39 + rr o) (lV b q.d o []) = []) ∧ (lV b q.d o (eV k)).map (fun p => (p.1, renK (39 + rr o) [] p.2)) = lV b q.d o (eV k) ∧ (lV b q.d o []).map (fun p => (p.1, renK (39 + rr o) [] p.2)) = lV b q.d o []
  | none => ⟨⟨by kernel_rfl, by kernel_rfl⟩, by kernel_rfl, by kernel_rfl⟩
  | some _ => ⟨⟨by kernel_rfl, by kernel_rfl⟩, by kernel_rfl, by kernel_rfl⟩
theorem DV (k : Int) : ∀ (o : Option Prev), dropT (ft (lb 20)) (lV b q.d o (eV k)) = lV b q.d o []
  | none => by kernel_rfl
  | some _ => by kernel_rfl
variable {xs b q}
noncomputable def Leg (st : List (Int × Int)) : Nat → Cpu → Cpu → Prop
  | 0, _, _ => False
  | n + 1, c, e => ∃ c', stepC c = some c' ∧ (((st.lookup c'.pc).isSome = true ∧ c' = e) ∨ ((st.lookup c'.pc).isSome = false ∧ Leg st n c' e))
noncomputable abbrev up (w : Bool) (c d m : Cpu) : Cpu × Cpu := match w with
  | true => (m, d)
  | false => (c, m)
theorem step7 {k t : Int} {o : Option Prev} {w : Bool} {c d m : Cpu} (s : stepC (mC c d w) = some m) : T.run (stI (I7 xs) (fns (I7 xs) 96) 60 lsc (is 0) (lV b q.d o (eM k o w ++ tI (some t))) (hM b q o c d (XI o))) = some (nx (lV b q.d o (eM k o w ++ tI (some t))) (hM b q o (up w c d m).1 (up w c d m).2 (XI o))) := by
  have e := stepC_ok Y7 dsF xs 53 s
  cases w with
  | true => rw [I0a]; exact run_bind (run_bind e (B0a b q o c d m)) rfl
  | false => rw [I0b]; exact run_bind (run_bind e (B0b b q o c d m)) rfl
theorem leg_in {st : List (Int × Int)} : ∀ {n : Nat} {c e : Cpu}, Leg st n c e → (st.lookup e.pc).isSome = true
  | 0, _, _, h => h.elim
  | n + 1, c, e, ⟨c', _, h⟩ => by
    rcases h with ⟨h1, rfl⟩ | ⟨_, h2⟩
    · exact h1
    · exact leg_in h2
theorem mC_up {w : Bool} {c d m : Cpu} : mC (up w c d m).1 (up w c d m).2 w = m := by cases w <;> rfl
theorem up_up {w : Bool} {c d m e : Cpu} : up w (up w c d m).1 (up w c d m).2 e = up w c d e := by cases w <;> rfl
theorem leg_run {k : Int} {o : Option Prev} {w : Bool} : ∀ {n : Nat} {c d e : Cpu} (t m : Nat) (u : Option Int), Leg (mP q w) n (mC c d w) e → n ≤ m → t + m = 6 → T.run (fii xs o (m + 1) t (lV b q.d o (eM k o w ++ tI u)) (hM b q o c d (XI o))) = some (nx (lV b q.d o (eM k o w)) (hM b q o (up w c d e).1 (up w c d e).2 (XI o)))
  | 0, _, _, _, _, _, _, h, _, _ => h.elim
  | n + 1, c, d, e, t, m, u, ⟨c', hs, h⟩, hn, ht => by
    have hx : nxI (.rng 0 6) t (hM b q o c d (XI o)) = some (some (.int (t : Int))) := by
      show some (if 0 + (t : Int) < 6 then some (AV.int (0 + (t : Int))) else none) = _
      rw [if_pos (by lia), Int.zero_add]
    have a := AI xs b q k t (hM b q o c d (XI o)) o w u
    have s0 := step7 (xs := xs) (k := k) (t := t) (o := o) (b := b) (q := q) hs
    have s1 := I1 xs b q k t o w (up w c d c').1 (up w c d c').2
    rw [mC_up] at s1
    rcases h with ⟨h1, rfl⟩ | ⟨h1, h2⟩
    · rw [h1, run_t rfl] at s1
      refine forI_brk hx a (by rw [fbi]; exact xs_next s0 (xs_brk s1)) ?_
      rw [DI]
      exact sweep_same (keepT b q k t o w).2.1 (mapT b q k t o w).2.1 (below43 b q o _ _) (take43 b q o _ _).1
    · rw [h1, run_f rfl] at s1
      obtain ⟨m, rfl⟩ : ∃ m', m = m' + 1 := ⟨m - 1, by lia⟩
      have hb : T.run (bxs xs 97 (fb (ms 0)) (lV b q.d o (eM k o w ++ tI (some (t : Int)))) (hM b q o c d (XI o))) = some (.next, lV b q.d o (eM k o w ++ tI (some (t : Int))), hM b q o (up w c d c').1 (up w c d c').2 (XI o)) := by
        rw [fbi]; exact xs_next s0 (xs_next s1 xs_nil)
      have f := forI_step (m := m + 1) hx a hb (sweep_same (keepT b q k t o w).1 (mapT b q k t o w).1 (below43 b q o (up w c d c').1 (up w c d c').2) (take43 b q o _ _).1)
      refine f.trans ?_
      have r := leg_run (k := k) (o := o) (w := w) (n := n) (c := (up w c d c').1) (d := (up w c d c').2) (e := e) (t + 1) m (some (t : Int)) (by rw [mC_up]; exact h2) (by lia) (by lia)
      rw [up_up] at r
      exact r
end
end Mine.Internal
end
section
open PySem PySem.W PySem.Calls PyProof.Rows PySem.Builtin
namespace Mine.Internal
section
variable {I : Ifc} {F : Fns} {dp : Nat} {sc : Scope} {e : Expr} {l : Loc} {H H1 H2 : HP}
theorem ts_cmp {a b : Expr} {op : CmpOp} {u w : Int} {r : Bool} (hv : viewX e = .cmp a op b) (h1 : T.run (F.ev dp sc a l H) = some (.int u, H1)) (h2 : T.run (F.ev dp sc b l H1) = some (.int w, H2)) (h3 : T.run (cmpI op (.int u) (.int w) H2) = some r) : T.run (tstI I F dp sc e l H) = some (r, H2) := by
  unfold tstI
  rw [hv]
  exact run_bind h1 (run_bind h2 (run_bind h3 rfl))
theorem ts_or3 {a b c : Expr} (hv : viewX e = .bool .Or [a, b, c]) (h1 : T.run (F.ts dp sc a l H) = some (false, H)) (h2 : T.run (F.ts dp sc b l H) = some (false, H)) (h3 : T.run (F.ts dp sc c l H) = some (false, H)) : T.run (tstI I F dp sc e l H) = some (false, H) := by
  unfold tstI
  rw [hv]
  exact run_bind h1 (run_bind h2 (run_bind h3 rfl))
end
noncomputable abbrev opL (e : Expr) : List Expr := kids e
section
variable {xs : List Int} {b : B7} {q : S7} {k : Int} {o : Option Prev} {c d e f : Cpu} {u : Int}
theorem both_run {n m : Nat} (h1 : Leg q.st n c e) (hn : n ≤ 6) (h2 : Leg q.mr m d f) (hm : m ≤ 6) : T.run (bst xs 98 20 0 (lV b q.d o (eV k)) (hM b q o c d [])) = some (nx (lV b q.d o (eV k)) (hM b q o e f (XL o))) := by
  have body : ∀ (w : Bool) (c d g : Cpu) (n : Nat), Leg (mP q w) n (mC c d w) g → n ≤ 6 → T.run (bxs xs 98 (fb (bs 20 0)) (lV b q.d o (eM k o w)) (hM b q o c d (XL o))) = some (.next, lV b q.d o (eM k o w), hM b q o (up w c d g).1 (up w c d g).2 (XI o)) := fun w c d g n h hn => by
    have s0 := (S0 xs b q k o w c d).trans (leg_run (xs := xs) (b := b) (k := k) (o := o) 0 6 none h hn rfl)
    have s1 := S1 xs b q k o w (up w c d g).1 (up w c d g).2
    rw [mC_up, leg_in h, run_f (c := !true) rfl] at s1
    rw [fbm]
    exact xs_next s0 (xs_next s1 xs_nil)
  have f1 := forI_step (m := 2) (nM b q o c d).1 (AM1 xs b q k o c d) (body true c d e n h1 hn) (sweep_same (keepT b q k 0 o true).2.2 (mapT b q k 0 o true).2.2 (below42 b q o e d) (take43 b q o e d).2)
  have f2 := forI_step (m := 1) (nM b q o e d).2.1 (AM2 xs b q k o e d) (body false e d f m h2 hm) (sweep_same (keepT b q k 0 o false).2.2 (mapT b q k 0 o false).2.2 (below42 b q o e f) (take43 b q o e f).2)
  have f3 : T.run (fmm xs o 1 2 (lV b q.d o (eM k o false)) (hM b q o e f (XL o))) = _ := forI_end (m := 0) (nM b q o e f).2.2
  rw [DM] at f3
  exact (V0 xs b q k o c d).trans (f1.trans (f2.trans f3))
theorem v1 : viewY (bs 20 1) = .ifs (ifT (bs 20 1)) (ifB (bs 20 1)) [] := by kernel_rfl
theorem v1o : viewX (ifT (bs 20 1)) = .bool .Or [nth (opL (ifT (bs 20 1))) 0, nth (opL (ifT (bs 20 1))) 1, nth (opL (ifT (bs 20 1))) 2] := by kernel_rfl
theorem v1c : viewX (nth (opL (ifT (bs 20 1))) 0) = .cmp (cmL (nth (opL (ifT (bs 20 1))) 0)) .NotEq (cmR (nth (opL (ifT (bs 20 1))) 0)) := by kernel_rfl
theorem V1_ok (h1 : q.st.lookup c.pc = some u) (h2 : q.mr.lookup d.pc = some u) (h3 : c.sp = d.sp) (h4 : Builtin.bitAnd (Builtin.bitXor c.p d.p) 253 = 129) : T.run (bst xs 97 20 1 (lV b q.d o (eV k)) (hM b q o c d (XL o))) = some (nx (lV b q.d o (eV k)) (hM b q o c d (XL o))) := by
  have a1 : T.run ((fns (I7 xs) 96).ev 60 lsc (cmL (nth (opL (ifT (bs 20 1))) 0)) (lV b q.d o (eV k)) (hM b q o c d (XL o))) = some (.int u, hM b q o c d (XL o)) := by
    have q1 : T.run ((fns (I7 xs) 96).ev 60 lsc (cmL (nth (opL (ifT (bs 20 1))) 0)) (lV b q.d o (eV k)) (hM b q o c d (XL o))) = T.run (.opt (q.st.lookup c.pc) fun v => .ret (.int v, hM b q o c d (XL o))) := by
      cases o with
      | none => kernel_rfl
      | some _ => kernel_rfl
    rw [q1]; exact run_opt h1 rfl
  have a2 : T.run ((fns (I7 xs) 96).ev 60 lsc (cmR (nth (opL (ifT (bs 20 1))) 0)) (lV b q.d o (eV k)) (hM b q o c d (XL o))) = some (.int u, hM b q o c d (XL o)) := by
    have q1 : T.run ((fns (I7 xs) 96).ev 60 lsc (cmR (nth (opL (ifT (bs 20 1))) 0)) (lV b q.d o (eV k)) (hM b q o c d (XL o))) = T.run (.opt (q.mr.lookup d.pc) fun v => .ret (.int v, hM b q o c d (XL o))) := by
      cases o with
      | none => kernel_rfl
      | some _ => kernel_rfl
    rw [q1]; exact run_opt h2 rfl
  have t1 : T.run (tstI (I7 xs) (fns (I7 xs) 96) 60 lsc (nth (opL (ifT (bs 20 1))) 0) (lV b q.d o (eV k)) (hM b q o c d (XL o))) = some (false, hM b q o c d (XL o)) := ts_cmp v1c a1 a2 (congrArg some (bne_self_eq_false u))
  have t2 : T.run ((fns (I7 xs) 97).ts 60 lsc (nth (opL (ifT (bs 20 1))) 1) (lV b q.d o (eV k)) (hM b q o c d (XL o))) = some (false, hM b q o c d (XL o)) := by
    have q1 : T.run ((fns (I7 xs) 97).ts 60 lsc (nth (opL (ifT (bs 20 1))) 1) (lV b q.d o (eV k)) (hM b q o c d (XL o))) = some (c.sp != d.sp, hM b q o c d (XL o)) := by
      cases o with
      | none => kernel_rfl
      | some _ => kernel_rfl
    rw [q1, h3, bne_self_eq_false]
  have t3 : T.run ((fns (I7 xs) 97).ts 60 lsc (nth (opL (ifT (bs 20 1))) 2) (lV b q.d o (eV k)) (hM b q o c d (XL o))) = some (false, hM b q o c d (XL o)) := by
    have q1 : T.run ((fns (I7 xs) 97).ts 60 lsc (nth (opL (ifT (bs 20 1))) 2) (lV b q.d o (eV k)) (hM b q o c d (XL o))) = some (Builtin.bitAnd (Builtin.bitXor c.p d.p) 253 != 129, hM b q o c d (XL o)) := by
      cases o with
      | none => kernel_rfl
      | some _ => kernel_rfl
    rw [q1, h4]; rfl
  exact st_ifF v1 (ts_or3 v1o t1 t2 t3) (xs_nil (I := I7 xs) (n := 96) (dp := 60) (sc := lsc))
noncomputable abbrev sumO (c d : Cpu) : AO := .seq true [.int (c.a + d.a), .int (c.x + d.x), .int (c.y + d.y)]
noncomputable abbrev XT (o : Option Prev) (c d : Cpu) : HP := XL o ++ ([sumO c d, .seq true [.int 255, .int 255, .int 255]] : HP)
theorem V2 (xs : List Int) (b : B7) (q : S7) (k : Int) : ∀ (o : Option Prev) (c d : Cpu), T.run (bst xs 96 20 2 (lV b q.d o (eV k)) (hM b q o c d (XL o))) = T.run (.br (!decide ([c.a + d.a, c.x + d.x, c.y + d.y] = [255, 255, 255])) (.ret (.ret (.bool false), lV b q.d o (eV k), hM b q o c d (XT o c d))) (.ret (nx (lV b q.d o (eV k)) (hM b q o c d (XT o c d)))))
  | none, _, _ => by kernel_rfl
  | some _, _, _ => by kernel_rfl
theorem v3 : viewY (bs 20 3) = .ifs (ifT (bs 20 3)) (ifB (bs 20 3)) [] := by kernel_rfl
theorem v3c : viewX (ifT (bs 20 3)) = .cmp (cmL (ifT (bs 20 3))) .Eq (cmR (ifT (bs 20 3))) := by kernel_rfl
theorem V3_t (h1 : q.st.lookup c.pc = some u) : T.run (tstI (I7 xs) (fns (I7 xs) 95) 60 lsc (ifT (bs 20 3)) (lV b q.d o (eV k)) (hM b q o c d (XT o c d))) = some (u == 100, hM b q o c d (XT o c d)) := by
  have a1 : T.run ((fns (I7 xs) 95).ev 60 lsc (cmL (ifT (bs 20 3))) (lV b q.d o (eV k)) (hM b q o c d (XT o c d))) = some (.int u, hM b q o c d (XT o c d)) := by
    have q1 : T.run ((fns (I7 xs) 95).ev 60 lsc (cmL (ifT (bs 20 3))) (lV b q.d o (eV k)) (hM b q o c d (XT o c d))) = T.run (.opt (q.st.lookup c.pc) fun v => .ret (.int v, hM b q o c d (XT o c d))) := by
      cases o with
      | none => kernel_rfl
      | some _ => kernel_rfl
    rw [q1]; exact run_opt h1 rfl
  exact ts_cmp (w := 100) v3c a1 (by kernel_rfl) rfl
structure VisitOk (q : S7) (c d e f : Cpu) (u : Int) : Prop where
  one : ∃ n, n ≤ 6 ∧ Leg q.st n c e
  two : ∃ n, n ≤ 6 ∧ Leg q.mr n d f
  su : q.st.lookup e.pc = some u
  mu : q.mr.lookup f.pc = some u
  sp : e.sp = f.sp
  p : Builtin.bitAnd (Builtin.bitXor e.p f.p) 253 = 129
  a : e.a + f.a = 255
  x : e.x + f.x = 255
  y : e.y + f.y = 255
noncomputable abbrev eW : Option Int → Loc
  | none => []
  | some k => eV k
theorem AVk (xs : List Int) (b : B7) (q : S7) (k : Int) (H : HP) (o : Option Prev) : ∀ z : Option Int, T.run (asgT (I7 xs) (fns (I7 xs) 99) 60 lsc (ft (lb 20)) (.int k) (lV b q.d o (eW z)) H) = some (lV b q.d o (eV k), H)
  | none => AV0 xs b q k H o
  | some k' => AV1 xs b q k k' H o
theorem visit_pre (V : VisitOk q c d e f u) {r : List Stmt} {z : Option (AF × Loc × HP)} (h : T.run (bxs xs 96 r (lV b q.d o (eV k)) (hM b q o e f (XT o e f))) = z) : T.run (bxs xs 99 (bs 20 0 :: bs 20 1 :: bs 20 2 :: r) (lV b q.d o (eV k)) (hM b q o c d [])) = z := by
  obtain ⟨n, hn, l1⟩ := V.one
  obtain ⟨m, hm, l2⟩ := V.two
  have s0 := both_run (xs := xs) (b := b) (k := k) (o := o) l1 hn l2 hm
  have s1 := V1_ok (xs := xs) (b := b) (k := k) (o := o) V.su V.mu V.sp V.p
  have s2 := V2 xs b q k o e f
  rw [V.a, V.x, V.y, run_f (c := !decide (([255, 255, 255] : List Int) = [255, 255, 255])) (by decide)] at s2
  exact xs_next s0 (xs_next s1 (xs_next s2 h))
theorem visit_on (V : VisitOk q c d e f u) (hu : (u == 100) = false) {m j : Nat} (hj : j < 60) (z : Option Int) : T.run (f20 xs o (m + 1) j (lV b q.d o (eW z)) (hM b q o c d [])) = T.run (f20 xs o m (j + 1) (lV b q.d o (eW (some (j : Int)))) (hM b q o e f [])) := by
  have hx : nxI (.rng 0 60) j (hM b q o c d []) = some (some (.int (j : Int))) := by
    show some (if 0 + (j : Int) < 60 then some (AV.int (0 + (j : Int))) else none) = _
    rw [if_pos (by lia), Int.zero_add]
  have t := V3_t (xs := xs) (b := b) (k := (j : Int)) (o := o) (d := f) V.su
  rw [hu] at t
  have s3 : T.run (bst xs 95 20 3 (lV b q.d o (eV j)) (hM b q o e f (XT o e f))) = _ := st_ifF v3 t (xs_nil (I := I7 xs) (n := 94) (dp := 60) (sc := lsc))
  have hb : T.run (bxs xs 99 (fb (lb 20)) (lV b q.d o (eV j)) (hM b q o c d [])) = some (.next, lV b q.d o (eV j), hM b q o e f (XT o e f)) := by
    rw [fb20]; exact visit_pre V (xs_next s3 xs_nil)
  exact forI_step hx (AVk xs b q j _ o z) hb (sweep_same (keepV b q j o).1.1 (keepV b q j o).2.1 (below39 b q _ o e f) (take39 b q _ o e f))
theorem visit_end (V : VisitOk q c d e f u) (hu : (u == 100) = true) {m j : Nat} (hj : j < 60) (z : Option Int) : T.run (f20 xs o (m + 1) j (lV b q.d o (eW z)) (hM b q o c d [])) = some (nx (lV b q.d o []) (hM b q o e f [])) := by
  have hx : nxI (.rng 0 60) j (hM b q o c d []) = some (some (.int (j : Int))) := by
    show some (if 0 + (j : Int) < 60 then some (AV.int (0 + (j : Int))) else none) = _
    rw [if_pos (by lia), Int.zero_add]
  have t := V3_t (xs := xs) (b := b) (k := (j : Int)) (o := o) (d := f) V.su
  rw [hu] at t
  have s3 : T.run (bst xs 95 20 3 (lV b q.d o (eV j)) (hM b q o e f (XT o e f))) = some (.brk, lV b q.d o (eV j), hM b q o e f (XT o e f)) := st_ifT v3 t (by kernel_rfl)
  have hb : T.run (bxs xs 99 (fb (lb 20)) (lV b q.d o (eV j)) (hM b q o c d [])) = some (.brk, lV b q.d o (eV j), hM b q o e f (XT o e f)) := by
    rw [fb20]; exact visit_pre V (xs_brk s3)
  refine forI_brk hx (AVk xs b q j _ o z) hb ?_
  rw [DV]
  exact sweep_same (keepV b q j o).1.2 (keepV b q j o).2.2 (below39 b q _ o e f) (take39 b q _ o e f)
end
end Mine.Internal
end
section
open PySem PySem.W PySem.Calls PyProof.Rows PySem.Builtin
namespace Mine.Internal
section
variable {xs : List Int} {b : B7} {q : S7} {o : Option Prev} {c d : Cpu} {u : Int}
theorem v21 : viewY (lb 21) = .ifs (ifT (lb 21)) (ifB (lb 21)) [] := by kernel_rfl
theorem v21o : viewX (ifT (lb 21)) = .bool .Or [nth (opL (ifT (lb 21))) 0, nth (opL (ifT (lb 21))) 1] := by kernel_rfl
theorem v21c : viewX (nth (opL (ifT (lb 21))) 0) = .cmp (cmL (nth (opL (ifT (lb 21))) 0)) .NotEq (cmR (nth (opL (ifT (lb 21))) 0)) := by kernel_rfl
theorem L21 (h1 : q.st.lookup c.pc = some 100) (h2 : c.sp = 255 - q.d) : T.run (lst xs 98 21 (lV b q.d o []) (hM b q o c d [])) = some (nx (lV b q.d o []) (hM b q o c d [])) := by
  have a1 : T.run ((fns (I7 xs) 97).ev 60 lsc (cmL (nth (opL (ifT (lb 21))) 0)) (lV b q.d o []) (hM b q o c d [])) = some (.int 100, hM b q o c d []) := by
    have q1 : T.run ((fns (I7 xs) 97).ev 60 lsc (cmL (nth (opL (ifT (lb 21))) 0)) (lV b q.d o []) (hM b q o c d [])) = T.run (.opt (q.st.lookup c.pc) fun v => .ret (.int v, hM b q o c d [])) := by
      cases o with
      | none => kernel_rfl
      | some _ => kernel_rfl
    rw [q1]; exact run_opt h1 rfl
  have t1 : T.run (tstI (I7 xs) (fns (I7 xs) 97) 60 lsc (nth (opL (ifT (lb 21))) 0) (lV b q.d o []) (hM b q o c d [])) = some (false, hM b q o c d []) := ts_cmp (w := 100) v21c a1 (by kernel_rfl) rfl
  have t2 : T.run ((fns (I7 xs) 98).ts 60 lsc (nth (opL (ifT (lb 21))) 1) (lV b q.d o []) (hM b q o c d [])) = some (false, hM b q o c d []) := by
    have q1 : T.run ((fns (I7 xs) 98).ts 60 lsc (nth (opL (ifT (lb 21))) 1) (lV b q.d o []) (hM b q o c d [])) = some (c.sp != 255 - q.d, hM b q o c d []) := by
      cases o with
      | none => kernel_rfl
      | some _ => kernel_rfl
    rw [q1, h2, bne_self_eq_false]
  have t3 := ts_or (I := I7 xs) (F := fns (I7 xs) 98) v21o t1 fun _ => t2
  exact st_ifF v21 t3 (xs_nil (I := I7 xs) (n := 97) (dp := 60) (sc := lsc))
end
noncomputable abbrev pls (d : Int) : List Int := upto 0 64 ++ upto 640 128 ++ upto (512 - d) (512 - (512 - d)).toNat
noncomputable abbrev XP (d : Int) : HP := [.rng 0 64, .nums (upto 0 64), .rng 640 768, .nums (upto 640 128), .nums (upto 0 64 ++ upto 640 128), .rng (512 - d) 512, .nums (upto (512 - d) (512 - (512 - d)).toNat), .nums (pls d)]
noncomputable abbrev f22 (xs : List Int) (o : Option Prev) (m k : Nat) (l : Loc) (H : HP) : T (AF × Loc × HP) := forI (I7 xs) (fns (I7 xs) 97) 60 lsc (ft (lb 22)) (fb (lb 22)) (.lst (46 + rr o)) (47 + rr o) m k l H
theorem L22 (xs : List Int) (b : B7) (q : S7) : ∀ (o : Option Prev) (c d : Cpu), T.run (lst xs 97 22 (lV b q.d o []) (hM b q o c d [])) = T.run (.need (decide (0 ≤ 512 - q.d) && decide (512 - q.d ≤ 512) && decide ((512 : Int) ≤ 1000000)) (.need (decide (0 ≤ 512 - q.d) && decide (512 - q.d ≤ 512) && decide ((512 : Int) ≤ 1000000)) (.need (decide ((upto 0 64 ++ upto 640 128).length + (upto (512 - q.d) (512 - (512 - q.d)).toNat).length ≤ 2 ^ 24))
    (f22 xs o ((pls q.d).length + 1) 0 (lV b q.d o []) (hM b q o c d (XP q.d))))))
  | none, _, _ => by kernel_rfl
  | some _, _, _ => by kernel_rfl
noncomputable abbrev eQ : Option Int → Loc
  | none => []
  | some p => [("place", .int p)]
theorem fb22 : fb (lb 22) = [bs 22 0] := by kernel_rfl
section
variable (xs : List Int) (b : B7) (q : S7)
theorem AP (p : Int) (H : HP) : ∀ (o : Option Prev) (z : Option Int), T.run (asgT (I7 xs) (fns (I7 xs) 97) 60 lsc (ft (lb 22)) (.int p) (lV b q.d o (eQ z)) H) = some (lV b q.d o (eQ (some p)), H)
  | none, none => by kernel_rfl
  | none, some _ => by kernel_rfl
  | some _, none => by kernel_rfl
  | some _, some _ => by kernel_rfl
theorem DP : ∀ (o : Option Prev) (z : Option Int), dropT (ft (lb 22)) (lV b q.d o (eQ z)) = lV b q.d o []
  | none, none => by kernel_rfl
  | none, some _ => by kernel_rfl
  | some _, none => by kernel_rfl
  | some _, some _ => by kernel_rfl
theorem P0 (p : Int) : ∀ (o : Option Prev) (c d : Cpu), T.run (bst xs 96 22 0 (lV b q.d o (eQ (some p))) (hM b q o c d (XP q.d))) = T.run (.need (okIx p c.mem.length) (.need (okIx p d.mem.length) (.br (c.mem.getD p.toNat 0 + d.mem.getD p.toNat 0 != 255) (.ret (.ret (.bool false), lV b q.d o (eQ (some p)), hM b q o c d (XP q.d))) (.ret (nx (lV b q.d o (eQ (some p))) (hM b q o c d (XP q.d)))))))
  | none, _, _ => by kernel_rfl
  | some _, _, _ => by kernel_rfl
theorem nP (j : Nat) : ∀ (o : Option Prev) (c d : Cpu), nxI (.lst (46 + rr o)) j (hM b q o c d (XP q.d)) = some (((pls q.d)[j]?).map AV.int)
  | none, _, _ => by kernel_rfl
  | some _, _, _ => by kernel_rfl
theorem below47 : ∀ (o : Option Prev) (c d : Cpu), ((hM b q o c d (XP q.d)).take (47 + rr o)).all (objBelow (47 + rr o)) = true
  | none, ⟨_, .inl _, _, _, _, _, _, _, _, _, _⟩, ⟨_, .inl _, _, _, _, _, _, _, _, _, _⟩ => by kernel_rfl
  | none, ⟨_, .inl _, _, _, _, _, _, _, _, _, _⟩, ⟨_, .inr _, _, _, _, _, _, _, _, _, _⟩ => by kernel_rfl
  | none, ⟨_, .inr _, _, _, _, _, _, _, _, _, _⟩, ⟨_, .inl _, _, _, _, _, _, _, _, _, _⟩ => by kernel_rfl
  | none, ⟨_, .inr _, _, _, _, _, _, _, _, _, _⟩, ⟨_, .inr _, _, _, _, _, _, _, _, _, _⟩ => by kernel_rfl
  | some _, ⟨_, .inl _, _, _, _, _, _, _, _, _, _⟩, ⟨_, .inl _, _, _, _, _, _, _, _, _, _⟩ => by kernel_rfl
  | some _, ⟨_, .inl _, _, _, _, _, _, _, _, _, _⟩, ⟨_, .inr _, _, _, _, _, _, _, _, _, _⟩ => by kernel_rfl
  | some _, ⟨_, .inr _, _, _, _, _, _, _, _, _, _⟩, ⟨_, .inl _, _, _, _, _, _, _, _, _, _⟩ => by kernel_rfl
  | some _, ⟨_, .inr _, _, _, _, _, _, _, _, _, _⟩, ⟨_, .inr _, _, _, _, _, _, _, _, _, _⟩ => by kernel_rfl
theorem take47 : ∀ (o : Option Prev) (c d : Cpu), (hM b q o c d (XP q.d)).take (47 + rr o) = hM b q o c d (XP q.d)
  | none, _, _ => by kernel_rfl
  | some _, _, _ => by kernel_rfl
theorem keepP (p : Int) : ∀ (o : Option Prev), keepK (47 + rr o) (lV b q.d o (eQ (some p))) = [] ∧ (lV b q.d o (eQ (some p))).map (fun p => (p.1, renK (47 + rr o) [] p.2)) = lV b q.d o (eQ (some p))
  | none => ⟨by kernel_rfl, by kernel_rfl⟩
  | some _ => ⟨by kernel_rfl, by kernel_rfl⟩
variable {xs b q} {o : Option Prev} {c d : Cpu}
theorem places : ∀ (r pre : List Int) (z : Option Int), pls q.d = pre ++ r → (∀ p ∈ r, okIx p c.mem.length = true ∧ okIx p d.mem.length = true ∧ c.mem.getD p.toNat 0 + d.mem.getD p.toNat 0 = 255) → T.run (f22 xs o (r.length + 1) pre.length (lV b q.d o (eQ z)) (hM b q o c d (XP q.d))) = some (nx (lV b q.d o []) (hM b q o c d (XP q.d)))
  | [], pre, z, hz, _ => by
    refine (forI_end ?_).trans ?_
    · rw [nP, hz, List.append_nil, List.getElem?_eq_none (Nat.le_refl _)]; rfl
    · rw [DP]
  | p :: r, pre, z, hz, h => by
    obtain ⟨h1, h2, h3⟩ := h p List.mem_cons_self
    have hx : nxI (.lst (46 + rr o)) pre.length (hM b q o c d (XP q.d)) = some (some (.int p)) := by
      rw [nP, hz, List.getElem?_append_right (Nat.le_refl _), Nat.sub_self]; rfl
    have s0 : T.run (bst xs 96 22 0 (lV b q.d o (eQ (some p))) (hM b q o c d (XP q.d))) = some (nx (lV b q.d o (eQ (some p))) (hM b q o c d (XP q.d))) := by
      rw [P0, h3]
      exact run_nd h1 (run_nd h2 rfl)
    have hb : T.run (bxs xs 97 (fb (lb 22)) (lV b q.d o (eQ (some p))) (hM b q o c d (XP q.d))) = some (.next, lV b q.d o (eQ (some p)), hM b q o c d (XP q.d)) := by
      rw [fb22]; exact xs_next s0 xs_nil
    have f := forI_step (m := r.length + 1) hx (AP xs b q p _ o z) hb (sweep_same (keepP b q p o).1 (keepP b q p o).2 (below47 b q o c d) (take47 b q o c d))
    have g := places r (pre ++ [p]) (some p) (by rw [List.append_assoc]; exact hz) fun y hy => h y (List.mem_cons_of_mem _ hy)
    rw [show (pre ++ [p]).length = pre.length + 1 from List.length_append] at g
    exact f.trans g
end
noncomputable abbrev XR (q : S7) (c : Cpu) : HP := XP q.d ++ ([.nums (pickI c.mem (some 64) (some 256)), .nums [0], .nums (flat 192 [0])] : HP)
theorem L23 (xs : List Int) (b : B7) (q : S7) : ∀ (o : Option Prev) (c d : Cpu), T.run (lst xs 96 23 (lV b q.d o []) (hM b q o c d (XP q.d))) = T.run (.need (decide (c.mem.length ≤ 2 ^ 24)) (.br (decide (pickI c.mem (some 64) (some 256) = flat 192 [0]) == true)
    (.need (decide (q.ne.length < 2 ^ 62)) (.need (bd (768 + (q.ne.length : Int))) (.need (decide (c.mem.length ≤ 2 ^ 24)) (.ret (.ret (.bool (decide (pickI c.mem (some 768) (some (768 + (q.ne.length : Int))) = q.ne))), lV b q.d o [], hM b q o c d (XR q c ++ ([.nums (pickI c.mem (some 768) (some (768 + (q.ne.length : Int))))] : HP)))))))
    (.ret (.ret (.bool false), lV b q.d o [], hM b q o c d (XR q c)))))
  | none, _, _ => by kernel_rfl
  | some _, _, _ => by kernel_rfl
end Mine.Internal
end
section
open PySem PySem.W PySem.Calls PyProof.Rows PySem.Builtin
set_option genInjectivity false
set_option genSizeOf false
set_option genSizeOfSpec false
namespace Mine.Internal
noncomputable def Da (d i : Nat) : Prop := i < 64 ∨ (640 ≤ i ∧ i < 768) ∨ (512 - d ≤ i ∧ i < 512)
noncomputable abbrev CodeAt (l m : List Int) : Prop := ∀ (j : Nat) (v : Int), l[j]? = some v → m[768 + j]? = some v
structure RM (ne fa : List Int) (d : Nat) (m1 m2 : List Int) : Prop where
  l1 : m1.length = 1024
  l2 : m2.length = 1024
  dt : ∀ i, Da d i → ∃ u v : Nat, u + v = 255 ∧ At m1 i u ∧ At m2 i v
  z : ∀ i, 64 ≤ i → i < 256 → At m1 i 0
  k1 : CodeAt ne m1
  k2 : CodeAt fa m2
theorem RM.wr {ne fa : List Int} {d d' i u v : Nat} {m1 m2 : List Int} (R : RM ne fa d m1 m2) (hi : i < 768) (hz : i < 64 ∨ 256 ≤ i) (h : u + v = 255) (hd : ∀ j, Da d' j → j ≠ i → Da d j) : RM ne fa d' (m1.set i (u : Int)) (m2.set i (v : Int)) := by
  refine ⟨by rw [List.length_set]; exact R.l1, by rw [List.length_set]; exact R.l2, fun j hj => ?_, fun j h1 h2 => ?_, fun j x e => ?_, fun j x e => ?_⟩
  · by_cases q : i = j
    · subst q
      exact ⟨u, v, h, List.getElem?_set_self (by rw [R.l1]; lia), List.getElem?_set_self (by rw [R.l2]; lia)⟩
    · obtain ⟨a, b, h1, h2, h3⟩ := R.dt j (hd j hj fun z => q z.symm)
      exact ⟨a, b, h1, (List.getElem?_set_ne q).trans h2, (List.getElem?_set_ne q).trans h3⟩
  · exact (List.getElem?_set_ne (by lia)).trans (R.z j h1 h2)
  · rw [List.getElem?_set_ne (by lia)]; exact R.k1 j x e
  · rw [List.getElem?_set_ne (by lia)]; exact R.k2 j x e
noncomputable def StP (w : Vw) (p : Nat) (m : List Int) (w' : Vw) (p' : Nat) (m' : List Int) : Prop := ∀ o, ∃ o', stepC (mkN w (768 + p) m o).c = some (mkN w' (768 + p') m' o').c
noncomputable def WL (st : List (Int × Int)) (n : Nat) (w : Vw) (p : Nat) (m : List Int) (w' : Vw) (p' : Nat) (m' : List Int) : Prop := ∀ o, ∃ o', Leg st n (mkN w (768 + p) m o).c (mkN w' (768 + p') m' o').c
noncomputable abbrev Yes (st : List (Int × Int)) (p : Nat) : Prop := (st.lookup (768 + (p : Int))).isSome = true
noncomputable abbrev No (st : List (Int × Int)) (p : Nat) : Prop := (st.lookup (768 + (p : Int))).isSome = false
theorem pcI {w : Vw} {p : Nat} {m : List Int} {o : Oth} : (mkN w (768 + p) m o).c.pc = 768 + (p : Int) := Int.natCast_add 768 p
section
variable {st : List (Int × Int)} {n p p' p1 : Nat} {w w' w1 : Vw} {m m' m1 : List Int}
theorem stp_of {op : Nat} {E : Cpu → T Cpu} (h : At m (768 + p) op) (ht : tabL.lookup (op : Int) = some E) (hp : p < 2000) (hd : Do E w (768 + p) m w' (768 + p') m') : StP w p m w' p' m' := fun o => by
  obtain ⟨o', h1⟩ := hd o
  exact ⟨o', stepW_of (s := mkN w (768 + p) m o) h (by show 768 + p < 65536; omega) ht h1⟩
theorem wl_one (s : StP w p m w' p' m') (y : Yes st p') : WL st 1 w p m w' p' m' := fun o => by
  obtain ⟨o', h⟩ := s o
  exact ⟨o', _, h, .inl ⟨by rw [pcI]; exact y, rfl⟩⟩
theorem wl_cons (s : StP w p m w1 p1 m1) (no : No st p1) (r : WL st n w1 p1 m1 w' p' m') : WL st (n + 1) w p m w' p' m' := fun o => by
  obtain ⟨o1, h⟩ := s o
  obtain ⟨o2, h2⟩ := r o1
  exact ⟨o2, _, h, .inr ⟨by rw [pcI]; exact no, h2⟩⟩
end
noncomputable def Pc (l : List Int) (p : Nat) (P : List Int) : Prop := ∀ (j : Nat) (v : Int), P[j]? = some v → l[p + j]? = some v
noncomputable def ix (v : Nat) : Nat := match decide ((v : Int) < 128) with
  | true => v % 64
  | false => v + 512
theorem ix_da {d v : Nat} (hv : v < 256) : Da d (ix v) ∧ ix v < 768 ∧ (ix v < 64 ∨ 256 ≤ ix v) := by
  unfold ix
  cases h : decide ((v : Int) < 128) with
  | true =>
    have l : v % 64 < 64 := Nat.mod_lt _ (by decide)
    exact ⟨.inl l, Nat.lt_trans l (by decide), .inl l⟩
  | false =>
    have l : 128 ≤ v := Int.ofNat_le.mp (Int.not_lt.mp (of_decide_eq_false h))
    exact ⟨.inr (.inl ⟨Nat.add_le_add_right l 512, Nat.add_lt_add_right hv 512⟩), Nat.add_lt_add_right hv 512, .inr (Nat.le_trans (by decide) (Nat.le_add_left 512 v))⟩
theorem pc_at {l m : List Int} {p j : Nat} {P : List Int} {v : Nat} (hP : Pc l p P) (hk : CodeAt l m) (h : P[j]? = some (v : Int)) : At m (768 + p + j) v := by
  have := hk _ _ (hP j _ h)
  rwa [← Nat.add_assoc] at this
theorem acc {l m m' : List Int} {w w' : Vw} {p v c : Nat} {f : Mode → Cpu → T Cpu} {cy1 cy2 xc1 xc2 : Int} (hP : Pc l p (wPl (v : Int) (c : Int))) (hk : CodeAt l m) (hp : p < 2000) (ht1 : tabL.lookup (c : Int) = some (ex cy1 xc1 fun c => (f mZp c).bind (adv 1))) (ht2 : tabL.lookup ((c + 8 : Nat) : Int) = some (ex cy2 xc2 fun c => (f mAbs c).bind (adv 2)))
    (h : ∀ md, Md md w (768 + p + 1) m (ix v) → Bd (f md) w (768 + p + 1) m w' (768 + p + 1) m') : StP w p m w' (p + (wPl (v : Int) (c : Int)).length) m' := by
  unfold wPl at hP ⊢
  unfold ix at h
  cases hd : decide ((v : Int) < 128) with
  | true =>
    rw [hd] at hP h
    refine stp_of (pc_at hP hk (j := 0) rfl) ht1 hp (do_zp (by omega) (pc_at hP hk (j := 1) ?_) (h mZp))
    show some ((v : Int).fmod 64) = _
    rw [Int.fmod_eq_emod_of_nonneg _ (by decide)]; rfl
  | false =>
    rw [hd] at hP h
    exact stp_of (pc_at hP hk (j := 0) rfl) ht2 hp (do_abs (by omega) (pc_at hP hk (j := 1) rfl) (pc_at hP hk (j := 2) (v := 2) rfl) (by decide) rfl (h mAbs))
structure Out (ne fa : List Int) (s1 s2 : List (Int × Int)) (d' : Nat) (kx : Bool) (w1 w2 : Vw) (m1 m2 : List Int) (p1 q1 p2 q2 : Nat) : Prop where
  ex : ∃ w1' w2' m1' m2' n2, WL s1 1 w1 p1 m1 w1' q1 m1' ∧ n2 ≤ 3 ∧ WL s2 n2 w2 p2 m2 w2' q2 m2' ∧ RW d' w1' w2' ∧ RM ne fa d' m1' m2' ∧ (kx = true → w1'.x = w1.x)
section
variable {ne fa : List Int} {s1 s2 : List (Int × Int)} {d d' p1 q1 p2 q2 v : Nat} {kx : Bool} {w1 w2 w1' w2' : Vw} {m1 m2 m1' m2' : List Int}
theorem out_1 (e1 : StP w1 p1 m1 w1' q1 m1') (e2 : StP w2 p2 m2 w2' q2 m2') (y1 : Yes s1 q1) (y2 : Yes s2 q2) (R : RW d' w1' w2') (M : RM ne fa d' m1' m2') (hx : kx = true → w1'.x = w1.x) : Out ne fa s1 s2 d' kx w1 w2 m1 m2 p1 q1 p2 q2 :=
  ⟨w1', w2', m1', m2', 1, wl_one e1 y1, by decide, wl_one e2 y2, R, M, hx⟩
theorem out_rd {c1 c2 : Nat} {f1 f2 : Mode → Cpu → T Cpu} {a1 a2 b1 b2 a1' a2' b1' b2' : Int} (M : RM ne fa d m1 m2) (hv : v < 256) (P1 : Pc ne p1 (wPl (v : Int) (c1 : Int))) (P2 : Pc fa p2 (wPl (v : Int) (c2 : Int))) (hp1 : p1 < 2000) (hp2 : p2 < 2000)
    (t1 : tabL.lookup (c1 : Int) = some (ex a1 b1 fun c => (f1 mZp c).bind (adv 1))) (t1' : tabL.lookup ((c1 + 8 : Nat) : Int) = some (ex a1' b1' fun c => (f1 mAbs c).bind (adv 2))) (t2 : tabL.lookup (c2 : Int) = some (ex a2 b2 fun c => (f2 mZp c).bind (adv 1))) (t2' : tabL.lookup ((c2 + 8 : Nat) : Int) = some (ex a2' b2' fun c => (f2 mAbs c).bind (adv 2)))
    (g1 g2 : Nat → Vw) (h1 : ∀ u md pc, u < 256 → Md md w1 pc m1 (ix v) → At m1 (ix v) u → Bd (f1 md) w1 pc m1 (g1 u) pc m1) (h2 : ∀ u md pc, u < 256 → Md md w2 pc m2 (ix v) → At m2 (ix v) u → Bd (f2 md) w2 pc m2 (g2 u) pc m2) (hr : ∀ u u', u + u' = 255 → RW d (g1 u) (g2 u'))
    (y1 : Yes s1 (p1 + (wPl (v : Int) (c1 : Int)).length)) (y2 : Yes s2 (p2 + (wPl (v : Int) (c2 : Int)).length)) (hx : kx = true → ∀ u, (g1 u).x = w1.x) : Out ne fa s1 s2 d kx w1 w2 m1 m2 p1 (p1 + (wPl (v : Int) (c1 : Int)).length) p2 (p2 + (wPl (v : Int) (c2 : Int)).length) := by
  obtain ⟨u, u', e, k1, k2⟩ := M.dt _ (ix_da (d := d) hv).1
  exact out_1 (acc P1 M.k1 hp1 t1 t1' fun md hm => h1 u md _ (by lia) hm k1) (acc P2 M.k2 hp2 t2 t2' fun md hm => h2 u' md _ (by lia) hm k2) y1 y2 (hr u u' e) M fun q => hx q u
theorem out_wr {c1 c2 : Nat} {f1 f2 : Mode → Cpu → T Cpu} {a1 a2 b1 b2 a1' a2' b1' b2' : Int} (M : RM ne fa d m1 m2) (hv : v < 256) (P1 : Pc ne p1 (wPl (v : Int) (c1 : Int))) (P2 : Pc fa p2 (wPl (v : Int) (c2 : Int))) (hp1 : p1 < 2000) (hp2 : p2 < 2000)
    (t1 : tabL.lookup (c1 : Int) = some (ex a1 b1 fun c => (f1 mZp c).bind (adv 1))) (t1' : tabL.lookup ((c1 + 8 : Nat) : Int) = some (ex a1' b1' fun c => (f1 mAbs c).bind (adv 2))) (t2 : tabL.lookup (c2 : Int) = some (ex a2 b2 fun c => (f2 mZp c).bind (adv 1))) (t2' : tabL.lookup ((c2 + 8 : Nat) : Int) = some (ex a2' b2' fun c => (f2 mAbs c).bind (adv 2)))
    (g1 g2 : Nat → Vw) (r1 r2 : Nat → Nat) (h1 : ∀ u md pc, u < 256 → Md md w1 pc m1 (ix v) → At m1 (ix v) u → Bd (f1 md) w1 pc m1 (g1 u) pc (m1.set (ix v) (r1 u : Int))) (h2 : ∀ u md pc, u < 256 → Md md w2 pc m2 (ix v) → At m2 (ix v) u → Bd (f2 md) w2 pc m2 (g2 u) pc (m2.set (ix v) (r2 u : Int))) (hr : ∀ u u', u + u' = 255 → RW d (g1 u) (g2 u') ∧ r1 u + r2 u' = 255)
    (y1 : Yes s1 (p1 + (wPl (v : Int) (c1 : Int)).length)) (y2 : Yes s2 (p2 + (wPl (v : Int) (c2 : Int)).length)) (hx : ∀ u, (g1 u).x = w1.x) : Out ne fa s1 s2 d kx w1 w2 m1 m2 p1 (p1 + (wPl (v : Int) (c1 : Int)).length) p2 (p2 + (wPl (v : Int) (c2 : Int)).length) := by
  obtain ⟨i1, i2, i3⟩ := ix_da (d := d) hv
  obtain ⟨u, u', e, k1, k2⟩ := M.dt _ i1
  obtain ⟨h3, h4⟩ := hr u u' e
  exact out_1 (acc P1 M.k1 hp1 t1 t1' fun md hm => h1 u md _ (by lia) hm k1) (acc P2 M.k2 hp2 t2 t2' fun md hm => h2 u' md _ (by lia) hm k2) y1 y2 h3 (M.wr i2 i3 h4 fun j hj _ => hj) fun _ => hx u
theorem push_ok {w : Vw} {pc k : Nat} {m : List Int} {o : Oth} (hs : 0 < w.sp) (hs2 : w.sp < 256) (hl : m.length = 1024) : T.run (push (k : Int) (mkN w pc m o).c) = some (mkN { w with sp := w.sp - 1 } pc (m.set (w.sp + 256) ((k % 256 : Nat) : Int)) o).c := by
  unfold push
  rw [m255]
  refine rb (x := (mkN w pc (m.set (w.sp + 256) ((k % 256 : Nat) : Int)) o).c) ?_ ?_
  · exact bSt_ok (s := mkN w pc m o) (a := w.sp + 256) (by show _ < m.length; lia) (by lia)
  · show some ({ (mkN w pc (m.set (w.sp + 256) ((k % 256 : Nat) : Int)) o).c with sp := bA ((w.sp : Int) - 1) 255 } : Cpu) = _
    rw [show (w.sp : Int) - 1 = ((w.sp - 1 : Nat) : Int) by lia, m255, Nat.mod_eq_of_lt (show w.sp - 1 < 256 by lia)]; rfl
theorem pop_ok {w : Vw} {pc v : Nat} {m : List Int} {o : Oth} (hs : w.sp < 255) (h : At m (w.sp + 1 + 256) v) : T.run (pop (mkN w pc m o).c) = some ((v : Int), (mkN { w with sp := w.sp + 1 } pc m o).c) := by
  unfold pop
  rw [show bA ((mkN w pc m o).c.sp + 1) 255 = ((w.sp + 1 : Nat) : Int) by show bA ((w.sp : Int) + 1) 255 = _; rw [show (w.sp : Int) + 1 = ((w.sp + 1 : Nat) : Int) by lia, m255, Nat.mod_eq_of_lt (by lia)]]
  exact rb (bAt_ok (a := w.sp + 1 + 256) h (by lia)) rfl
theorem f_pha {w : Vw} {pc : Nat} {m : List Int} (hs : 0 < w.sp) (hs2 : w.sp < 256) (hl : m.length = 1024) (hw : w.Ok) : Bd opPHA w pc m { w with sp := w.sp - 1 } pc (m.set (w.sp + 256) (w.a : Int)) := fun o => by
  have := push_ok (w := w) (pc := pc) (m := m) (o := o) (k := w.a) hs hs2 hl
  rw [Nat.mod_eq_of_lt hw.a] at this
  exact this
theorem f_pla {w : Vw} {pc v : Nat} {m : List Int} (hs : w.sp < 255) (h : At m (w.sp + 1 + 256) v) (hv : v < 256) : Bd opPLA w pc m (({ w with sp := w.sp + 1 } : Vw).na v) pc m := fun o =>
  rb (pop_ok hs h) (flagsNZ_ok (s := mkN { w with sp := w.sp + 1, a := v } pc m o) hv)
end
end Mine.Internal
end
section
open PySem PySem.W PySem.Calls PyProof.Rows PySem.Builtin
set_option linter.unusedVariables false
namespace Mine.Internal
section
variable {ne fa : List Int} {s1 s2 : List (Int × Int)} {d d' p1 p2 v : Nat} {kx : Bool} {w1 w2 w1' w2' : Vw} {m1 m2 m1' m2' : List Int}
theorem out_im {c1 c2 u u' : Nat} {f1 f2 : Mode → Cpu → T Cpu} {a1 a2 b1 b2 : Int} (M : RM ne fa d m1 m2) (P1 : Pc ne p1 [(c1 : Int), (u : Int)]) (P2 : Pc fa p2 [(c2 : Int), (u' : Int)]) (hp1 : p1 < 2000) (hp2 : p2 < 2000)
    (t1 : tabL.lookup (c1 : Int) = some (ex a1 b1 fun c => (f1 mImm c).bind (adv 1))) (t2 : tabL.lookup (c2 : Int) = some (ex a2 b2 fun c => (f2 mImm c).bind (adv 1)))
    (h1 : ∀ pc, pc < 3000 → Md mImm w1 pc m1 pc → At m1 pc u → Bd (f1 mImm) w1 pc m1 w1' pc m1) (h2 : ∀ pc, pc < 3000 → Md mImm w2 pc m2 pc → At m2 pc u' → Bd (f2 mImm) w2 pc m2 w2' pc m2)
    (R : RW d w1' w2') (y1 : Yes s1 (p1 + 2)) (y2 : Yes s2 (p2 + 2)) (hx : kx = true → w1'.x = w1.x) : Out ne fa s1 s2 d kx w1 w2 m1 m2 p1 (p1 + 2) p2 (p2 + 2) :=
  out_1 (stp_of (pc_at P1 M.k1 (j := 0) rfl) t1 hp1 (do_imm (by lia) fun hm => h1 _ (by lia) hm (pc_at P1 M.k1 (j := 1) rfl))) (stp_of (pc_at P2 M.k2 (j := 0) rfl) t2 hp2 (do_imm (by lia) fun hm => h2 _ (by lia) hm (pc_at P2 M.k2 (j := 1) rfl))) y1 y2 R M hx
theorem out_i1 {c1 c2 : Nat} {F1 F2 : Cpu → T Cpu} {a1 a2 b1 b2 : Int} (M : RM ne fa d m1 m2) (P1 : Pc ne p1 [(c1 : Int)]) (P2 : Pc fa p2 [(c2 : Int)]) (hp1 : p1 < 2000) (hp2 : p2 < 2000) (t1 : tabL.lookup (c1 : Int) = some (ex a1 b1 F1)) (t2 : tabL.lookup (c2 : Int) = some (ex a2 b2 F2))
    (h1 : ∀ pc, Bd F1 w1 pc m1 w1' pc m1') (h2 : ∀ pc, Bd F2 w2 pc m2 w2' pc m2') (R : RW d' w1' w2') (M' : RM ne fa d' m1' m2') (y1 : Yes s1 (p1 + 1)) (y2 : Yes s2 (p2 + 1)) (hx : kx = true → w1'.x = w1.x) : Out ne fa s1 s2 d' kx w1 w2 m1 m2 p1 (p1 + 1) p2 (p2 + 1) :=
  out_1 (stp_of (pc_at P1 M.k1 (j := 0) rfl) t1 hp1 (do_b (by lia) (by lia) (h1 _))) (stp_of (pc_at P2 M.k2 (j := 0) rfl) t2 hp2 (do_b (by lia) (by lia) (h2 _))) y1 y2 R M' hx
noncomputable abbrev Kd (K : Nat) (d' : Nat) (kx : Bool) (ne fa : List Int) (s1 s2 : List (Int × Int)) (d p1 p2 v : Nat) (w1 w2 : Vw) (m1 m2 : List Int) : Prop :=
  RM ne fa d m1 m2 → RW d w1 w2 → v < 256 → Pc ne p1 (plainW K (v : Int)) → Pc fa p2 (turnW K (v : Int)) → p1 < 1900 → p2 < 1900 → Yes s1 (p1 + (plainW K (v : Int)).length) → Yes s2 (p2 + (turnW K (v : Int)).length) → (∀ r, p2 < r → r < p2 + (turnW K (v : Int)).length → No s2 r) → Out ne fa s1 s2 d' kx w1 w2 m1 m2 p1 (p1 + (plainW K (v : Int)).length) p2 (p2 + (turnW K (v : Int)).length)
theorem sum_lt {u v : Nat} (e : u + v = 255) : u < 256 ∧ v < 256 := ⟨Nat.lt_succ_of_le (e ▸ Nat.le_add_right u v), Nat.lt_succ_of_le (e ▸ Nat.le_add_left v u)⟩
theorem inc_dec {u v : Nat} (e : u + v = 255) : (u + 1) % 256 + (v + 255) % 256 = 255 := by lia
theorem dec_inc {u v : Nat} (e : u + v = 255) : (u + 255) % 256 + (v + 1) % 256 = 255 := (Nat.add_comm _ _).trans (inc_dec ((Nat.add_comm _ _).trans e))
theorem pc_eq {l P Q : List Int} {p : Nat} (h : Pc l p P) (e : P = Q) : Pc l p Q := e ▸ h
theorem cpl_nat (hv : v < 256) : (255 : Int) - (v : Int) = ((255 - v : Nat) : Int) := by omega
theorem kk0 : Kd 0 d true ne fa s1 s2 d p1 p2 v w1 w2 m1 m2 := fun M R hv P1 P2 hp1 hp2 y1 y2 no =>
  out_im (c1 := 169) (c2 := 169) (u := v) (u' := (255 - v)) (f1 := opLDA) (f2 := opLDA) (w1' := w1.na v) (w2' := w2.na (255 - v)) M P1 (pc_eq P2 (congrArg (fun z => [169, z]) (cpl_nat hv))) (Nat.lt_trans hp1 (by decide)) (Nat.lt_trans hp2 (by decide)) rfl rfl (fun pc hp hm h => f_lda hm h hp hv) (fun pc hp hm h => f_lda hm h hp (show (255 - v) < 256 by lia)) (R.na (show v + (255 - v) = 255 by lia)) y1 y2 (fun _ => by first | rfl | (rename_i q; exact absurd q (by decide)))
theorem kk1 : Kd 1 d false ne fa s1 s2 d p1 p2 v w1 w2 m1 m2 := fun M R hv P1 P2 hp1 hp2 y1 y2 no =>
  out_im (c1 := 162) (c2 := 162) (u := v) (u' := (255 - v)) (f1 := opLDX) (f2 := opLDX) (w1' := w1.nx v) (w2' := w2.nx (255 - v)) M P1 (pc_eq P2 (congrArg (fun z => [162, z]) (cpl_nat hv))) (Nat.lt_trans hp1 (by decide)) (Nat.lt_trans hp2 (by decide)) rfl rfl (fun pc hp hm h => f_ldx hm h hp hv) (fun pc hp hm h => f_ldx hm h hp (show (255 - v) < 256 by lia)) (R.nx (show v + (255 - v) = 255 by lia)) y1 y2 (fun _ => by first | rfl | (rename_i q; exact absurd q (by decide)))
theorem kk2 : Kd 2 d true ne fa s1 s2 d p1 p2 v w1 w2 m1 m2 := fun M R hv P1 P2 hp1 hp2 y1 y2 no =>
  out_im (c1 := 160) (c2 := 160) (u := v) (u' := (255 - v)) (f1 := opLDY) (f2 := opLDY) (w1' := w1.ny v) (w2' := w2.ny (255 - v)) M P1 (pc_eq P2 (congrArg (fun z => [160, z]) (cpl_nat hv))) (Nat.lt_trans hp1 (by decide)) (Nat.lt_trans hp2 (by decide)) rfl rfl (fun pc hp hm h => f_ldy hm h hp hv) (fun pc hp hm h => f_ldy hm h hp (show (255 - v) < 256 by lia)) (R.ny (show v + (255 - v) = 255 by lia)) y1 y2 (fun _ => by first | rfl | (rename_i q; exact absurd q (by decide)))
theorem kk3 : Kd 3 d true ne fa s1 s2 d p1 p2 v w1 w2 m1 m2 := fun M R hv P1 P2 hp1 hp2 y1 y2 no =>
  out_im (c1 := 105) (c2 := 105) (u := v) (u' := (255 - v)) (f1 := opADC) (f2 := opADC) (w1' := w1.adc v) (w2' := w2.adc (255 - v)) M P1 (pc_eq P2 (congrArg (fun z => [105, z]) (cpl_nat hv))) (Nat.lt_trans hp1 (by decide)) (Nat.lt_trans hp2 (by decide)) rfl rfl (fun pc hp hm h => f_adc hm h hp R.o1 hv R.d1) (fun pc hp hm h => f_adc hm h hp R.o2 (show (255 - v) < 256 by lia) R.d2) (R.adc (show v + (255 - v) = 255 by lia)) y1 y2 (fun _ => by first | rfl | (rename_i q; exact absurd q (by decide)))
theorem kk4 : Kd 4 d true ne fa s1 s2 d p1 p2 v w1 w2 m1 m2 := fun M R hv P1 P2 hp1 hp2 y1 y2 no =>
  out_im (c1 := 233) (c2 := 233) (u := v) (u' := (255 - v)) (f1 := opSBC) (f2 := opSBC) (w1' := w1.sbc v) (w2' := w2.sbc (255 - v)) M P1 (pc_eq P2 (congrArg (fun z => [233, z]) (cpl_nat hv))) (Nat.lt_trans hp1 (by decide)) (Nat.lt_trans hp2 (by decide)) rfl rfl (fun pc hp hm h => f_sbc hm h hp R.o1 hv R.d1) (fun pc hp hm h => f_sbc hm h hp R.o2 (show (255 - v) < 256 by lia) R.d2) (R.sbc (show v + (255 - v) = 255 by lia)) y1 y2 (fun _ => by first | rfl | (rename_i q; exact absurd q (by decide)))
theorem kk5 : Kd 5 d true ne fa s1 s2 d p1 p2 v w1 w2 m1 m2 := fun M R hv P1 P2 hp1 hp2 y1 y2 no =>
  out_im (c1 := 41) (c2 := 9) (u := v) (u' := (255 - v)) (f1 := opAND) (f2 := opORA) (w1' := w1.na (w1.a &&& v)) (w2' := w2.na (w2.a ||| (255 - v))) M P1 (pc_eq P2 (congrArg (fun z => [9, z]) (cpl_nat hv))) (Nat.lt_trans hp1 (by decide)) (Nat.lt_trans hp2 (by decide)) rfl rfl (fun pc hp hm h => f_and hm h hp R.o1) (fun pc hp hm h => f_ora hm h hp R.o2 (show (255 - v) < 256 by lia)) (R.na (or_and8 R.a (show v + (255 - v) = 255 by lia))) y1 y2 (fun _ => by first | rfl | (rename_i q; exact absurd q (by decide)))
theorem kk6 : Kd 6 d true ne fa s1 s2 d p1 p2 v w1 w2 m1 m2 := fun M R hv P1 P2 hp1 hp2 y1 y2 no =>
  out_im (c1 := 9) (c2 := 41) (u := v) (u' := (255 - v)) (f1 := opORA) (f2 := opAND) (w1' := w1.na (w1.a ||| v)) (w2' := w2.na (w2.a &&& (255 - v))) M P1 (pc_eq P2 (congrArg (fun z => [41, z]) (cpl_nat hv))) (Nat.lt_trans hp1 (by decide)) (Nat.lt_trans hp2 (by decide)) rfl rfl (fun pc hp hm h => f_ora hm h hp R.o1 hv) (fun pc hp hm h => f_and hm h hp R.o2) (R.na (and_or8 R.a (show v + (255 - v) = 255 by lia))) y1 y2 (fun _ => by first | rfl | (rename_i q; exact absurd q (by decide)))
theorem kk7 : Kd 7 d true ne fa s1 s2 d p1 p2 v w1 w2 m1 m2 := fun M R hv P1 P2 hp1 hp2 y1 y2 no =>
  out_im (c1 := 73) (c2 := 73) (u := v) (u' := v) (f1 := opEOR) (f2 := opEOR) (w1' := w1.na (xorN w1.a v)) (w2' := w2.na (xorN w2.a v)) M P1 P2 (Nat.lt_trans hp1 (by decide)) (Nat.lt_trans hp2 (by decide)) rfl rfl (fun pc hp hm h => f_eor hm h hp R.o1 hv) (fun pc hp hm h => f_eor hm h hp R.o2 hv) (R.na (xor_one8 R.a hv)) y1 y2 (fun _ => by first | rfl | (rename_i q; exact absurd q (by decide)))
theorem max_nat : (if (v : Int) < 1 then (1 : Int) else (v : Int)) = ((max v 1 : Nat) : Int) := by split <;> lia
theorem kk8 : Kd 8 d true ne fa s1 s2 d p1 p2 v w1 w2 m1 m2 := fun M R hv P1 P2 hp1 hp2 y1 y2 no =>
  out_im (c1 := 201) (c2 := 201) (u := max v 1) (u' := 256 - max v 1) (f1 := opCMP (·.a)) (f2 := opCMP (·.a)) (w1' := w1.cmp (max v 1)) (w2' := w2.cmp (256 - max v 1)) M (pc_eq P1 (congrArg (fun z => [201, z]) max_nat)) (pc_eq P2 (congrArg (fun z => [201, z]) (by rw [max_nat]; lia))) (by lia) (by lia) rfl rfl (fun pc hp hm h => f_cmp hm h hp) (fun pc hp hm h => f_cmp hm h hp) (R.cmp (by lia) (by lia)) y1 y2 (fun _ => rfl)
theorem kk9 : Kd 9 d true ne fa s1 s2 d p1 p2 v w1 w2 m1 m2 := fun M R hv P1 P2 hp1 hp2 y1 y2 no =>
  (by
    have hi : ix v < 3000 := Nat.lt_trans (ix_da (d := d) hv).2.1 (by decide)
    have P2' : Pc fa p2 (wPl (v : Int) ((101 : Nat) : Int)) := pc_eq P2 (List.append_nil _)
    have e2 : (turnW 9 (v : Int)).length = (wPl (v : Int) ((101 : Nat) : Int)).length := congrArg List.length (List.append_nil (wPl (v : Int) 101))
    rw [e2] at y2 ⊢
    exact out_rd (c1 := 101) (c2 := 101) (f1 := opADC) (f2 := opADC) M hv P1 P2' (Nat.lt_trans hp1 (by decide)) (Nat.lt_trans hp2 (by decide)) rfl rfl rfl rfl (fun u => w1.adc u) (fun u => w2.adc u) (fun u md pc hu hm h => f_adc hm h hi R.o1 hu R.d1) (fun u md pc hu hm h => f_adc hm h hi R.o2 hu R.d2) (fun u u' e => R.adc e) y1 y2 (fun _ _ => rfl))
theorem kk10 : Kd 10 d true ne fa s1 s2 d p1 p2 v w1 w2 m1 m2 := fun M R hv P1 P2 hp1 hp2 y1 y2 no =>
  (by
    have hi : ix v < 3000 := Nat.lt_trans (ix_da (d := d) hv).2.1 (by decide)
    have P2' : Pc fa p2 (wPl (v : Int) ((229 : Nat) : Int)) := pc_eq P2 (List.append_nil _)
    have e2 : (turnW 10 (v : Int)).length = (wPl (v : Int) ((229 : Nat) : Int)).length := congrArg List.length (List.append_nil (wPl (v : Int) 229))
    rw [e2] at y2 ⊢
    exact out_rd (c1 := 229) (c2 := 229) (f1 := opSBC) (f2 := opSBC) M hv P1 P2' (Nat.lt_trans hp1 (by decide)) (Nat.lt_trans hp2 (by decide)) rfl rfl rfl rfl (fun u => w1.sbc u) (fun u => w2.sbc u) (fun u md pc hu hm h => f_sbc hm h hi R.o1 hu R.d1) (fun u md pc hu hm h => f_sbc hm h hi R.o2 hu R.d2) (fun u u' e => R.sbc e) y1 y2 (fun _ _ => rfl))
theorem kk11 : Kd 11 d true ne fa s1 s2 d p1 p2 v w1 w2 m1 m2 := fun M R hv P1 P2 hp1 hp2 y1 y2 no =>
  (by
    have hi : ix v < 3000 := Nat.lt_trans (ix_da (d := d) hv).2.1 (by decide)
    have P2' : Pc fa p2 (wPl (v : Int) ((5 : Nat) : Int)) := pc_eq P2 (List.append_nil _)
    have e2 : (turnW 11 (v : Int)).length = (wPl (v : Int) ((5 : Nat) : Int)).length := congrArg List.length (List.append_nil (wPl (v : Int) 5))
    rw [e2] at y2 ⊢
    exact out_rd (c1 := 37) (c2 := 5) (f1 := opAND) (f2 := opORA) M hv P1 P2' (Nat.lt_trans hp1 (by decide)) (Nat.lt_trans hp2 (by decide)) rfl rfl rfl rfl (fun u => w1.na (w1.a &&& u)) (fun u => w2.na (w2.a ||| u)) (fun u md pc hu hm h => f_and hm h hi R.o1) (fun u md pc hu hm h => f_ora hm h hi R.o2 hu) (fun u u' e => R.na (or_and8 R.a e)) y1 y2 (fun _ _ => rfl))
theorem kk12 : Kd 12 d true ne fa s1 s2 d p1 p2 v w1 w2 m1 m2 := fun M R hv P1 P2 hp1 hp2 y1 y2 no =>
  (by
    have hi : ix v < 3000 := Nat.lt_trans (ix_da (d := d) hv).2.1 (by decide)
    have P2' : Pc fa p2 (wPl (v : Int) ((37 : Nat) : Int)) := pc_eq P2 (List.append_nil _)
    have e2 : (turnW 12 (v : Int)).length = (wPl (v : Int) ((37 : Nat) : Int)).length := congrArg List.length (List.append_nil (wPl (v : Int) 37))
    rw [e2] at y2 ⊢
    exact out_rd (c1 := 5) (c2 := 37) (f1 := opORA) (f2 := opAND) M hv P1 P2' (Nat.lt_trans hp1 (by decide)) (Nat.lt_trans hp2 (by decide)) rfl rfl rfl rfl (fun u => w1.na (w1.a ||| u)) (fun u => w2.na (w2.a &&& u)) (fun u md pc hu hm h => f_ora hm h hi R.o1 hu) (fun u md pc hu hm h => f_and hm h hi R.o2) (fun u u' e => R.na (and_or8 R.a e)) y1 y2 (fun _ _ => rfl))
theorem kk23 : Kd 23 d true ne fa s1 s2 d p1 p2 v w1 w2 m1 m2 := fun M R hv P1 P2 hp1 hp2 y1 y2 no =>
  (by
    have hi : ix v < 3000 := Nat.lt_trans (ix_da (d := d) hv).2.1 (by decide)
    have P2' : Pc fa p2 (wPl (v : Int) ((165 : Nat) : Int)) := pc_eq P2 (List.append_nil _)
    have e2 : (turnW 23 (v : Int)).length = (wPl (v : Int) ((165 : Nat) : Int)).length := congrArg List.length (List.append_nil (wPl (v : Int) 165))
    rw [e2] at y2 ⊢
    exact out_rd (c1 := 165) (c2 := 165) (f1 := opLDA) (f2 := opLDA) M hv P1 P2' (Nat.lt_trans hp1 (by decide)) (Nat.lt_trans hp2 (by decide)) rfl rfl rfl rfl (fun u => w1.na u) (fun u => w2.na u) (fun u md pc hu hm h => f_lda hm h hi hu) (fun u md pc hu hm h => f_lda hm h hi hu) (fun u u' e => R.na e) y1 y2 (fun _ _ => rfl))
theorem kk25 : Kd 25 d true ne fa s1 s2 d p1 p2 v w1 w2 m1 m2 := fun M R hv P1 P2 hp1 hp2 y1 y2 no =>
  (by
    have hi : ix v < 3000 := Nat.lt_trans (ix_da (d := d) hv).2.1 (by decide)
    have P2' : Pc fa p2 (wPl (v : Int) ((164 : Nat) : Int)) := pc_eq P2 (List.append_nil _)
    have e2 : (turnW 25 (v : Int)).length = (wPl (v : Int) ((164 : Nat) : Int)).length := congrArg List.length (List.append_nil (wPl (v : Int) 164))
    rw [e2] at y2 ⊢
    exact out_rd (c1 := 164) (c2 := 164) (f1 := opLDY) (f2 := opLDY) M hv P1 P2' (Nat.lt_trans hp1 (by decide)) (Nat.lt_trans hp2 (by decide)) rfl rfl rfl rfl (fun u => w1.ny u) (fun u => w2.ny u) (fun u md pc hu hm h => f_ldy hm h hi hu) (fun u md pc hu hm h => f_ldy hm h hi hu) (fun u u' e => R.ny e) y1 y2 (fun _ _ => rfl))
theorem kk14 : Kd 14 d true ne fa s1 s2 d p1 p2 v w1 w2 m1 m2 := fun M R hv P1 P2 hp1 hp2 y1 y2 no =>
  (by
    have hi : ix v < 3000 := Nat.lt_trans (ix_da (d := d) hv).2.1 (by decide)
    have P2' : Pc fa p2 (wPl (v : Int) ((198 : Nat) : Int)) := pc_eq P2 (List.append_nil _)
    have e2 : (turnW 14 (v : Int)).length = (wPl (v : Int) ((198 : Nat) : Int)).length := congrArg List.length (List.append_nil (wPl (v : Int) 198))
    rw [e2] at y2 ⊢
    exact out_wr (c1 := 230) (c2 := 198) (f1 := fun md => rmw (some md) (fINC 1)) (f2 := fun md => rmw (some md) fDEC) M hv P1 P2' (Nat.lt_trans hp1 (by decide)) (Nat.lt_trans hp2 (by decide)) rfl rfl rfl rfl (fun u => w1.fl (w1.f.nz ((u + 1) % 256))) (fun u => w2.fl (w2.f.nz ((u + 255) % 256))) (fun u => (u + 1) % 256) (fun u => (u + 255) % 256) (fun u md pc hu hm h => f_rmw hm h hi (t_inc hu)) (fun u md pc hu hm h => f_rmw hm h hi (t_dec hu)) (fun u u' e => ⟨R.nz (inc_dec e), inc_dec e⟩) y1 y2 (fun _ => rfl))
theorem kk15 : Kd 15 d true ne fa s1 s2 d p1 p2 v w1 w2 m1 m2 := fun M R hv P1 P2 hp1 hp2 y1 y2 no =>
  (by
    have hi : ix v < 3000 := Nat.lt_trans (ix_da (d := d) hv).2.1 (by decide)
    have P2' : Pc fa p2 (wPl (v : Int) ((230 : Nat) : Int)) := pc_eq P2 (List.append_nil _)
    have e2 : (turnW 15 (v : Int)).length = (wPl (v : Int) ((230 : Nat) : Int)).length := congrArg List.length (List.append_nil (wPl (v : Int) 230))
    rw [e2] at y2 ⊢
    exact out_wr (c1 := 198) (c2 := 230) (f1 := fun md => rmw (some md) fDEC) (f2 := fun md => rmw (some md) (fINC 1)) M hv P1 P2' (Nat.lt_trans hp1 (by decide)) (Nat.lt_trans hp2 (by decide)) rfl rfl rfl rfl (fun u => w1.fl (w1.f.nz ((u + 255) % 256))) (fun u => w2.fl (w2.f.nz ((u + 1) % 256))) (fun u => (u + 255) % 256) (fun u => (u + 1) % 256) (fun u md pc hu hm h => f_rmw hm h hi (t_dec hu)) (fun u md pc hu hm h => f_rmw hm h hi (t_inc hu)) (fun u u' e => ⟨R.nz (dec_inc e), dec_inc e⟩) y1 y2 (fun _ => rfl))
theorem kk16 : Kd 16 d true ne fa s1 s2 d p1 p2 v w1 w2 m1 m2 := fun M R hv P1 P2 hp1 hp2 y1 y2 no =>
  (by
    have hi : ix v < 3000 := Nat.lt_trans (ix_da (d := d) hv).2.1 (by decide)
    have P2' : Pc fa p2 (wPl (v : Int) ((38 : Nat) : Int)) := pc_eq P2 (List.append_nil _)
    have e2 : (turnW 16 (v : Int)).length = (wPl (v : Int) ((38 : Nat) : Int)).length := congrArg List.length (List.append_nil (wPl (v : Int) 38))
    rw [e2] at y2 ⊢
    exact out_wr (c1 := 38) (c2 := 38) (f1 := fun md => rmw (some md) fROL) (f2 := fun md => rmw (some md) fROL) M hv P1 P2' (Nat.lt_trans hp1 (by decide)) (Nat.lt_trans hp2 (by decide)) rfl rfl rfl rfl (fun u => w1.fl (({ w1.f with c := decide (128 ≤ u) } : Fl).nz (rolV u w1.f.c))) (fun u => w2.fl (({ w2.f with c := decide (128 ≤ u) } : Fl).nz (rolV u w2.f.c))) (fun u => rolV u w1.f.c) (fun u => rolV u w2.f.c) (fun u md pc hu hm h => f_rmw hm h hi (t_rol hu)) (fun u md pc hu hm h => f_rmw hm h hi (t_rol hu)) (fun u u' e => by rw [ge128 e, R.c]; exact ⟨R.nzc (rol_cpl e), rol_cpl e⟩) y1 y2 (fun _ => rfl))
theorem kk17 : Kd 17 d true ne fa s1 s2 d p1 p2 v w1 w2 m1 m2 := fun M R hv P1 P2 hp1 hp2 y1 y2 no =>
  (by
    have hi : ix v < 3000 := Nat.lt_trans (ix_da (d := d) hv).2.1 (by decide)
    have P2' : Pc fa p2 (wPl (v : Int) ((102 : Nat) : Int)) := pc_eq P2 (List.append_nil _)
    have e2 : (turnW 17 (v : Int)).length = (wPl (v : Int) ((102 : Nat) : Int)).length := congrArg List.length (List.append_nil (wPl (v : Int) 102))
    rw [e2] at y2 ⊢
    exact out_wr (c1 := 102) (c2 := 102) (f1 := fun md => rmw (some md) fROR) (f2 := fun md => rmw (some md) fROR) M hv P1 P2' (Nat.lt_trans hp1 (by decide)) (Nat.lt_trans hp2 (by decide)) rfl rfl rfl rfl (fun u => w1.fl (({ w1.f with c := decide (u % 2 = 1) } : Fl).nz (rorV u w1.f.c))) (fun u => w2.fl (({ w2.f with c := decide (u % 2 = 1) } : Fl).nz (rorV u w2.f.c))) (fun u => rorV u w1.f.c) (fun u => rorV u w2.f.c) (fun u md pc hu hm h => f_rmw hm h hi (t_ror hu)) (fun u md pc hu hm h => f_rmw hm h hi (t_ror hu)) (fun u u' e => by rw [odd_cpl e, R.c]; exact ⟨R.nzc (ror_cpl e), ror_cpl e⟩) y1 y2 (fun _ => rfl))
theorem kk22 : Kd 22 d true ne fa s1 s2 d p1 p2 v w1 w2 m1 m2 := fun M R hv P1 P2 hp1 hp2 y1 y2 no =>
  (by
    have hi : ix v < 3000 := Nat.lt_trans (ix_da (d := d) hv).2.1 (by decide)
    have P2' : Pc fa p2 (wPl (v : Int) ((133 : Nat) : Int)) := pc_eq P2 (List.append_nil _)
    have e2 : (turnW 22 (v : Int)).length = (wPl (v : Int) ((133 : Nat) : Int)).length := congrArg List.length (List.append_nil (wPl (v : Int) 133))
    rw [e2] at y2 ⊢
    exact out_wr (c1 := 133) (c2 := 133) (f1 := opSTA) (f2 := opSTA) M hv P1 P2' (Nat.lt_trans hp1 (by decide)) (Nat.lt_trans hp2 (by decide)) rfl rfl rfl rfl (fun u => w1) (fun u => w2) (fun u => w1.a) (fun u => w2.a) (fun u md pc hu hm h => f_sta hm (List.getElem?_eq_some_iff.mp h).1 hi) (fun u md pc hu hm h => f_sta hm (List.getElem?_eq_some_iff.mp h).1 hi) (fun u u' e => ⟨R, R.a⟩) y1 y2 (fun _ => rfl))
theorem kk24 : Kd 24 d true ne fa s1 s2 d p1 p2 v w1 w2 m1 m2 := fun M R hv P1 P2 hp1 hp2 y1 y2 no =>
  (by
    have hi : ix v < 3000 := Nat.lt_trans (ix_da (d := d) hv).2.1 (by decide)
    have P2' : Pc fa p2 (wPl (v : Int) ((134 : Nat) : Int)) := pc_eq P2 (List.append_nil _)
    have e2 : (turnW 24 (v : Int)).length = (wPl (v : Int) ((134 : Nat) : Int)).length := congrArg List.length (List.append_nil (wPl (v : Int) 134))
    rw [e2] at y2 ⊢
    exact out_wr (c1 := 134) (c2 := 134) (f1 := opSTX) (f2 := opSTX) M hv P1 P2' (Nat.lt_trans hp1 (by decide)) (Nat.lt_trans hp2 (by decide)) rfl rfl rfl rfl (fun u => w1) (fun u => w2) (fun u => w1.x) (fun u => w2.x) (fun u md pc hu hm h => f_stx hm (List.getElem?_eq_some_iff.mp h).1 hi) (fun u md pc hu hm h => f_stx hm (List.getElem?_eq_some_iff.mp h).1 hi) (fun u u' e => ⟨R, R.x⟩) y1 y2 (fun _ => rfl))
theorem kk18 : Kd 18 d true ne fa s1 s2 d p1 p2 v w1 w2 m1 m2 := fun M R hv P1 P2 hp1 hp2 y1 y2 no =>
  out_i1 (c1 := 42) (c2 := 42) (F1 := fun c => rmw none fROL c) (F2 := fun c => rmw none fROL c) (w1' := { w1 with a := rolV w1.a w1.f.c, f := ({ w1.f with c := decide (128 ≤ w1.a) } : Fl).nz (rolV w1.a w1.f.c) }) (w2' := { w2 with a := rolV w2.a w2.f.c, f := ({ w2.f with c := decide (128 ≤ w2.a) } : Fl).nz (rolV w2.a w2.f.c) }) M P1 P2 (Nat.lt_trans hp1 (by decide)) (Nat.lt_trans hp2 (by decide)) rfl rfl (fun pc => f_acc (t_rol R.o1.a)) (fun pc => f_acc (t_rol R.o2.a)) (by rw [ge128 R.a, R.c]; exact R.ac (R.nzc (rol_cpl R.a)) (rol_cpl R.a)) M y1 y2 (fun _ => rfl)
theorem kk19 : Kd 19 d true ne fa s1 s2 d p1 p2 v w1 w2 m1 m2 := fun M R hv P1 P2 hp1 hp2 y1 y2 no =>
  out_i1 (c1 := 106) (c2 := 106) (F1 := fun c => rmw none fROR c) (F2 := fun c => rmw none fROR c) (w1' := { w1 with a := rorV w1.a w1.f.c, f := ({ w1.f with c := decide (w1.a % 2 = 1) } : Fl).nz (rorV w1.a w1.f.c) }) (w2' := { w2 with a := rorV w2.a w2.f.c, f := ({ w2.f with c := decide (w2.a % 2 = 1) } : Fl).nz (rorV w2.a w2.f.c) }) M P1 P2 (Nat.lt_trans hp1 (by decide)) (Nat.lt_trans hp2 (by decide)) rfl rfl (fun pc => f_acc (t_ror R.o1.a)) (fun pc => f_acc (t_ror R.o2.a)) (by rw [odd_cpl R.a, R.c]; exact R.ac (R.nzc (ror_cpl R.a)) (ror_cpl R.a)) M y1 y2 (fun _ => rfl)
theorem kk26 : Kd 26 d false ne fa s1 s2 d p1 p2 v w1 w2 m1 m2 := fun M R hv P1 P2 hp1 hp2 y1 y2 no =>
  out_i1 (c1 := 232) (c2 := 202) (F1 := fun c => opINX c) (F2 := fun c => opDEX c) (w1' := w1.nx ((w1.x + 1) % 256)) (w2' := w2.nx ((w2.x + 255) % 256)) M P1 P2 (Nat.lt_trans hp1 (by decide)) (Nat.lt_trans hp2 (by decide)) rfl rfl (fun pc => f_inx) (fun pc => f_dex) (R.nx (inc_dec R.x)) M y1 y2 (fun q => no_bool q)
theorem kk27 : Kd 27 d true ne fa s1 s2 d p1 p2 v w1 w2 m1 m2 := fun M R hv P1 P2 hp1 hp2 y1 y2 no =>
  out_i1 (c1 := 136) (c2 := 200) (F1 := fun c => opDEY c) (F2 := fun c => opINY c) (w1' := w1.ny ((w1.y + 255) % 256)) (w2' := w2.ny ((w2.y + 1) % 256)) M P1 P2 (Nat.lt_trans hp1 (by decide)) (Nat.lt_trans hp2 (by decide)) rfl rfl (fun pc => f_dey) (fun pc => f_iny) (R.ny (dec_inc R.y)) M y1 y2 (fun _ => rfl)
theorem kk28 : Kd 28 d true ne fa s1 s2 d p1 p2 v w1 w2 m1 m2 := fun M R hv P1 P2 hp1 hp2 y1 y2 no =>
  out_i1 (c1 := 24) (c2 := 56) (F1 := fun c => andP (bN 1) c) (F2 := fun c => orP 1 c) (w1' := w1.fl { w1.f with c := false }) (w2' := w2.fl { w2.f with c := true }) M P1 P2 (Nat.lt_trans hp1 (by decide)) (Nat.lt_trans hp2 (by decide)) rfl rfl (fun pc => f_clc) (fun pc => f_sec) ⟨R.a, R.x, R.y, R.s1, R.s2, R.n, rfl, R.v, R.i, R.d1, R.d2⟩ M y1 y2 (fun _ => rfl)
theorem kk29 : Kd 29 d true ne fa s1 s2 d p1 p2 v w1 w2 m1 m2 := fun M R hv P1 P2 hp1 hp2 y1 y2 no =>
  out_i1 (c1 := 184) (c2 := 184) (F1 := fun c => andP (bN 64) c) (F2 := fun c => andP (bN 64) c) (w1' := w1.fl { w1.f with v := false }) (w2' := w2.fl { w2.f with v := false }) M P1 P2 (Nat.lt_trans hp1 (by decide)) (Nat.lt_trans hp2 (by decide)) rfl rfl (fun pc => f_clv) (fun pc => f_clv) ⟨R.a, R.x, R.y, R.s1, R.s2, R.n, R.c, rfl, R.i, R.d1, R.d2⟩ M y1 y2 (fun _ => rfl)
theorem kk30 : Kd 30 d false ne fa s1 s2 d p1 p2 v w1 w2 m1 m2 := fun M R hv P1 P2 hp1 hp2 y1 y2 no =>
  out_i1 (c1 := 170) (c2 := 170) (F1 := fun c => opTAX c) (F2 := fun c => opTAX c) (w1' := w1.nx w1.a) (w2' := w2.nx w2.a) M P1 P2 (Nat.lt_trans hp1 (by decide)) (Nat.lt_trans hp2 (by decide)) rfl rfl (fun pc => f_tax R.o1) (fun pc => f_tax R.o2) (R.nx R.a) M y1 y2 (fun q => no_bool q)
theorem kk31 : Kd 31 d true ne fa s1 s2 d p1 p2 v w1 w2 m1 m2 := fun M R hv P1 P2 hp1 hp2 y1 y2 no =>
  out_i1 (c1 := 152) (c2 := 152) (F1 := fun c => opTYA c) (F2 := fun c => opTYA c) (w1' := w1.na w1.y) (w2' := w2.na w2.y) M P1 P2 (Nat.lt_trans hp1 (by decide)) (Nat.lt_trans hp2 (by decide)) rfl rfl (fun pc => f_tya R.o1) (fun pc => f_tya R.o2) (R.na R.y) M y1 y2 (fun _ => rfl)
theorem kk20 : Kd 20 d true ne fa s1 s2 d p1 p2 v w1 w2 m1 m2 := fun M R hv P1 P2 hp1 hp2 y1 y2 no =>
  (by
    obtain ⟨i1, i2, i3⟩ := ix_da (d := d) hv
    have hi : ix v < 3000 := Nat.lt_trans i2 (by decide)
    obtain ⟨u, u', e, k1, k2⟩ := M.dt _ i1
    have P2' : Pc fa p2 ([56] ++ wPl (v : Int) ((38 : Nat) : Int)) := pc_eq P2 (List.append_nil _)
    have P3 : Pc fa (p2 + 1) (wPl (v : Int) ((38 : Nat) : Int)) := fun j x h => by have := P2' (j + 1) x h; rwa [show p2 + (j + 1) = p2 + 1 + j by lia] at this
    have e2 : (turnW 20 (v : Int)).length = 1 + (wPl (v : Int) ((38 : Nat) : Int)).length := (congrArg List.length (List.append_nil ([56] ++ wPl (v : Int) 38))).trans (Nat.add_comm _ _)
    have pl := wPl_len (v := (v : Int)) (c := ((38 : Nat) : Int))
    rw [e2, ← Nat.add_assoc] at y2 no ⊢
    have hr : 2 * u % 256 + rolV u' true = 255 := by unfold rolV; show _ + (2 * u' + 1) % 256 = 255; lia
    have a1 := acc (c := 6) (f := fun md => rmw (some md) fASL) (w' := w1.fl (({ w1.f with c := decide (128 ≤ u) } : Fl).nz (2 * u % 256))) (m' := m1.set (ix v) ((2 * u % 256 : Nat) : Int)) P1 M.k1 (by lia) rfl rfl fun md hm => f_rmw hm k1 hi (t_asl (by lia))
    have b1 : StP w2 p2 m2 (w2.fl { w2.f with c := true }) (p2 + 1) m2 := stp_of (op := 56) (pc_at P2' M.k2 (j := 0) rfl) rfl (by lia) (do_b (by lia) (by lia) f_sec)
    have b2 := acc (c := 38) (w := w2.fl { w2.f with c := true }) (f := fun md => rmw (some md) fROL) (w' := w2.fl (({ w2.f with c := decide (128 ≤ u') } : Fl).nz (rolV u' true))) (m' := m2.set (ix v) ((rolV u' true : Nat) : Int)) P3 M.k2 (by lia) rfl rfl fun md hm => f_rmw hm k2 hi (t_rol (w := w2.fl { w2.f with c := true }) (by lia))
    have RR : RW d (w1.fl (({ w1.f with c := decide (128 ≤ u) } : Fl).nz (2 * u % 256))) (w2.fl (({ w2.f with c := decide (128 ≤ u') } : Fl).nz (rolV u' true))) := by rw [ge128 e]; exact R.nzc hr
    exact ⟨_, _, _, _, 2, wl_one a1 y1, by decide, wl_cons b1 (no _ (by lia) (by lia)) (wl_one b2 y2), RR, M.wr i2 i3 hr fun j hj _ => hj, fun _ => rfl⟩)
theorem kk21 : Kd 21 d true ne fa s1 s2 d p1 p2 v w1 w2 m1 m2 := fun M R hv P1 P2 hp1 hp2 y1 y2 no =>
  (by
    obtain ⟨i1, i2, i3⟩ := ix_da (d := d) hv
    have hi : ix v < 3000 := Nat.lt_trans i2 (by decide)
    obtain ⟨u, u', e, k1, k2⟩ := M.dt _ i1
    have P2' : Pc fa p2 ([56] ++ wPl (v : Int) ((102 : Nat) : Int)) := pc_eq P2 (List.append_nil _)
    have P3 : Pc fa (p2 + 1) (wPl (v : Int) ((102 : Nat) : Int)) := fun j x h => by have := P2' (j + 1) x h; rwa [show p2 + (j + 1) = p2 + 1 + j by lia] at this
    have e2 : (turnW 21 (v : Int)).length = 1 + (wPl (v : Int) ((102 : Nat) : Int)).length := (congrArg List.length (List.append_nil ([56] ++ wPl (v : Int) 102))).trans (Nat.add_comm _ _)
    have pl := wPl_len (v := (v : Int)) (c := ((102 : Nat) : Int))
    rw [e2, ← Nat.add_assoc] at y2 no ⊢
    have hr : u / 2 + rorV u' true = 255 := by unfold rorV; show _ + (u' / 2 + 128 * 1) = 255; lia
    have a1 := acc (c := 70) (f := fun md => rmw (some md) fLSR) (w' := w1.fl (({ w1.f with c := decide (u % 2 = 1) } : Fl).nz (u / 2))) (m' := m1.set (ix v) ((u / 2 : Nat) : Int)) P1 M.k1 (by lia) rfl rfl fun md hm => f_rmw hm k1 hi (t_lsr (by lia))
    have b1 : StP w2 p2 m2 (w2.fl { w2.f with c := true }) (p2 + 1) m2 := stp_of (op := 56) (pc_at P2' M.k2 (j := 0) rfl) rfl (by lia) (do_b (by lia) (by lia) f_sec)
    have b2 := acc (c := 102) (w := w2.fl { w2.f with c := true }) (f := fun md => rmw (some md) fROR) (w' := w2.fl (({ w2.f with c := decide (u' % 2 = 1) } : Fl).nz (rorV u' true))) (m' := m2.set (ix v) ((rorV u' true : Nat) : Int)) P3 M.k2 (by lia) rfl rfl fun md hm => f_rmw hm k2 hi (t_ror (w := w2.fl { w2.f with c := true }) (by lia))
    have RR : RW d (w1.fl (({ w1.f with c := decide (u % 2 = 1) } : Fl).nz (u / 2))) (w2.fl (({ w2.f with c := decide (u' % 2 = 1) } : Fl).nz (rorV u' true))) := by rw [odd_cpl e]; exact R.nzc hr
    exact ⟨_, _, _, _, 2, wl_one a1 y1, by decide, wl_cons b1 (no _ (by lia) (by lia)) (wl_one b2 y2), RR, M.wr i2 i3 hr fun j hj _ => hj, fun _ => rfl⟩)
theorem kk13 : Kd 13 d true ne fa s1 s2 d p1 p2 v w1 w2 m1 m2 := fun M R hv P1 P2 hp1 hp2 y1 y2 no =>
  (by
    obtain ⟨i1, i2, i3⟩ := ix_da (d := d) hv
    have hi : ix v < 3000 := Nat.lt_trans i2 (by decide)
    obtain ⟨u, u', e, k1, k2⟩ := M.dt _ i1
    have P2a : Pc fa p2 (wPl (v : Int) ((69 : Nat) : Int) ++ [73, 255]) := P2
    have P2' : Pc fa p2 (wPl (v : Int) ((69 : Nat) : Int)) := fun j x h => P2a j x ((List.getElem?_append_left (List.getElem?_eq_some_iff.mp h).1).trans h)
    have e2 : (turnW 13 (v : Int)).length = (wPl (v : Int) ((69 : Nat) : Int)).length + 2 := (List.length_append : (wPl (v : Int) ((69 : Nat) : Int) ++ [73, 255]).length = _)
    have pl := wPl_len (v := (v : Int)) (c := ((69 : Nat) : Int))
    have P3 : Pc fa (p2 + (wPl (v : Int) ((69 : Nat) : Int)).length) [73, 255] := fun j x h => by
      have := P2a ((wPl (v : Int) ((69 : Nat) : Int)).length + j) x (by rw [List.getElem?_append_right (Nat.le_add_right _ _), Nat.add_sub_cancel_left]; exact h)
      rwa [← Nat.add_assoc] at this
    rw [e2, ← Nat.add_assoc] at y2 no ⊢
    have x1 := xor_lt (a := w2.a) (v := u') R.o2.a (by lia)
    have hr : xorN w1.a u + xorN (xorN w2.a u') 255 = 255 := by
      have h1 := xor_xor8 R.a e
      have h2 := xor_lt (a := w1.a) (v := u) R.o1.a (by lia)
      rw [xor_255 x1, h1]; lia
    have a1 := acc (c := 69) (f := opEOR) (w' := w1.na (xorN w1.a u)) (m' := m1) P1 M.k1 (by lia) rfl rfl fun md hm => f_eor hm k1 hi R.o1 (by lia)
    have b1 := acc (c := 69) (f := opEOR) (w' := w2.na (xorN w2.a u')) (m' := m2) P2' M.k2 (by lia) rfl rfl fun md hm => f_eor hm k2 hi R.o2 (by lia)
    have b2 : StP (w2.na (xorN w2.a u')) (p2 + (wPl (v : Int) ((69 : Nat) : Int)).length) m2 ((w2.na (xorN w2.a u')).na (xorN (xorN w2.a u') 255)) (p2 + (wPl (v : Int) ((69 : Nat) : Int)).length + 2) m2 :=
      stp_of (op := 73) (pc_at P3 M.k2 (j := 0) rfl) rfl (by lia) (do_imm (f := opEOR) (by lia) fun hm => f_eor hm (pc_at P3 M.k2 (j := 1) (v := 255) rfl) (by lia) ⟨x1, R.o2.x, R.o2.y⟩ (by decide))
    exact ⟨_, _, _, _, 2, wl_one a1 y1, by decide, wl_cons b1 (no _ (by lia) (by lia)) (wl_one b2 y2), R.na hr, M, fun _ => rfl⟩)
theorem da_succ {d j : Nat} (hd : d ≤ 20) (h : Da (d + 1) j) (q : j ≠ 511 - d) : Da d j := by
  rcases h with h | h | ⟨h1, h2⟩
  · exact .inl h
  · exact .inr (.inl h)
  · exact .inr (.inr ⟨by lia, h2⟩)
theorem da_mono {d j : Nat} (h : Da d j) : Da (d + 1) j := by
  rcases h with h | h | ⟨h1, h2⟩
  · exact .inl h
  · exact .inr (.inl h)
  · exact .inr (.inr ⟨Nat.le_trans (Nat.sub_le_sub_left (Nat.le_succ d) 512) h1, h2⟩)
theorem sp_down {sp d : Nat} (h : sp = 255 - d) (hd : d ≤ 20) : 0 < sp ∧ sp < 256 ∧ sp + 256 = 511 - d ∧ sp - 1 = 255 - (d + 1) := by
  subst h
  exact ⟨by lia, by lia, by lia, by lia⟩
theorem sp_up {sp d : Nat} (h : sp = 255 - (d + 1)) (hd : d ≤ 20) : sp < 255 ∧ sp + 1 + 256 = 511 - d ∧ sp + 1 = 255 - d := by
  subst h
  exact ⟨by lia, by lia, by lia⟩
theorem ad_ok {d : Nat} (hd : d ≤ 20) : 511 - d < 768 ∧ 256 ≤ 511 - d ∧ 512 - (d + 1) ≤ 511 - d ∧ 511 - d < 512 := ⟨by lia, by lia, by lia, by lia⟩
theorem lt19 {p : Nat} (h : p < 1900) : p < 2000 := Nat.lt_trans h (by decide)
theorem kk32 (hd : d ≤ 20) : Kd 32 (d + 1) true ne fa s1 s2 d p1 p2 v w1 w2 m1 m2 := fun M R hv P1 P2 hp1 hp2 y1 y2 no => by
  obtain ⟨a1, a2, a3, a4⟩ := sp_down R.s1 hd
  obtain ⟨b1, b2, b3, b4⟩ := sp_down R.s2 hd
  obtain ⟨c1, c2, c3, c4⟩ := ad_ok hd
  have h1 : ∀ pc, Bd opPHA w1 pc m1 { w1 with sp := w1.sp - 1 } pc (m1.set (w1.sp + 256) (w1.a : Int)) := fun pc => f_pha a1 a2 M.l1 R.o1
  have h2 : ∀ pc, Bd opPHA w2 pc m2 { w2 with sp := w2.sp - 1 } pc (m2.set (w2.sp + 256) (w2.a : Int)) := fun pc => f_pha b1 b2 M.l2 R.o2
  rw [a3] at h1
  rw [b3] at h2
  exact out_i1 (c1 := 72) (c2 := 72) (F1 := fun c => opPHA c) (F2 := fun c => opPHA c) M P1 P2 (lt19 hp1) (lt19 hp2) rfl rfl h1 h2 ⟨R.a, R.x, R.y, a4, b4, R.n, R.c, R.v, R.i, R.d1, R.d2⟩
    (M.wr (d' := d + 1) c1 (.inr c2) R.a fun j hj q => da_succ hd hj q) y1 y2 fun _ => rfl
theorem kk33 (hd : d ≤ 20) : Kd 33 d true ne fa s1 s2 (d + 1) p1 p2 v w1 w2 m1 m2 := fun M R hv P1 P2 hp1 hp2 y1 y2 no => by
  obtain ⟨a1, a2, a3⟩ := sp_up R.s1 hd
  obtain ⟨b1, b2, b3⟩ := sp_up R.s2 hd
  obtain ⟨c1, c2, c3, c4⟩ := ad_ok hd
  obtain ⟨u, u', e, k1, k2⟩ := M.dt (511 - d) (.inr (.inr ⟨c3, c4⟩))
  obtain ⟨e1, e2⟩ := sum_lt e
  rw [← a2] at k1
  rw [← b2] at k2
  exact out_i1 (c1 := 104) (c2 := 104) (F1 := fun c => opPLA c) (F2 := fun c => opPLA c) M P1 P2 (lt19 hp1) (lt19 hp2) rfl rfl (fun pc => f_pla a1 k1 e1) (fun pc => f_pla b1 k2 e2) ⟨e, R.x, R.y, a3, b3, n_cpl e, R.c, R.v, R.i, R.d1, R.d2⟩
    ⟨M.l1, M.l2, fun i hi => M.dt i (da_mono hi), M.z, M.k1, M.k2⟩ y1 y2 fun _ => rfl
end
end Mine.Internal
end
section
open PySem PySem.W PySem.Calls PyProof.Rows PySem.Builtin
set_option genInjectivity false
set_option genSizeOf false
set_option genSizeOfSpec false
namespace Mine.Internal
noncomputable def tk (op : Nat) (f : Fl) : Bool := match op with
  | 144 => !f.c
  | 176 => f.c
  | 48 => f.n
  | 16 => !f.n
  | _ => f.v
theorem cond_t {α : Type} {b : Bool} (X Y : α) (e : b = true) : X = cond b X Y := by rw [e]; rfl
theorem cond_f {α : Type} {b : Bool} (X Y : α) (e : b = false) : Y = cond b X Y := by rw [e]; rfl
theorem bcl_run {k : Int} {s : Nc} {b : Bool} (h : (bA s.c.p k != 0) = b) : T.run (opBCL k s.c) = cond (!b) (T.run (branch s.c)) (T.run (adv 1 s.c)) :=
  bc_ok h (fun e => cond_f _ _ (by rw [e]; rfl)) (fun e => cond_t _ _ (by rw [e]; rfl))
theorem bst_run {k : Int} {s : Nc} {b : Bool} (h : (bA s.c.p k != 0) = b) : T.run (opBST k s.c) = cond b (T.run (branch s.c)) (T.run (adv 1 s.c)) :=
  bs_ok h (fun e => cond_f _ _ e) (fun e => cond_t _ _ e)
noncomputable def Br (op : Nat) : Prop := ∃ F, tabL.lookup (op : Int) = some (ex 2 2 F) ∧ ∀ s : Nc, T.run (F s.c) = cond (tk op s.f) (T.run (branch s.c)) (T.run (adv 1 s.c))
theorem br144 : Br 144 := ⟨fun c => opBCL 1 c, by kernel_rfl, fun _ => bcl_run is_c⟩
theorem br176 : Br 176 := ⟨fun c => opBST 1 c, by kernel_rfl, fun _ => bst_run is_c⟩
theorem br48 : Br 48 := ⟨fun c => opBST 128 c, by kernel_rfl, fun _ => bst_run is_n⟩
theorem br16 : Br 16 := ⟨fun c => opBCL 128 c, by kernel_rfl, fun _ => bcl_run is_n⟩
theorem br112 : Br 112 := ⟨fun c => opBST 64 c, by kernel_rfl, fun _ => bst_run is_v⟩
section
variable {w : Vw} {p pc q o op : Nat} {m : List Int} {F : Cpu → T Cpu}
theorem d_no (hp : pc < 3000) (h2 : ∀ s : Nc, s.f = w.f → T.run (F s.c) = T.run (adv 1 s.c)) : Do (ex 2 2 F) w pc m w (pc + 2) m :=
  do_of hp (by lia) fun cyc st => ⟨0, .inr 2, (h2 _ rfl).trans adv_ok⟩
theorem d_fw (hp : pc < 3000) (h : At m (pc + 1) o) (ho : o < 128) (h2 : ∀ s : Nc, s.f = w.f → T.run (F s.c) = T.run (branch s.c)) : Do (ex 2 2 F) w pc m w (pc + 2 + o) m :=
  do_of hp (by lia) fun cyc st => ⟨if (pc + 1 + 1) / 256 = (pc + 1 + 1 + o) / 256 then (0 : Int) + 1 else (0 : Int) + 1 + 1, .inr 2, (h2 _ rfl).trans (branch_fw (s := mkN w (pc + 1) m ⟨0, .inr 2, cyc, st⟩) h ho (by show pc + 1 + 1 + o < 65536; lia))⟩
theorem d_bk (hp : pc < 3000) (h : At m (pc + 1) o) (ho : 128 ≤ o) (ho2 : o < 256) (hq : q + 256 = pc + 2 + o) (h2 : ∀ s : Nc, s.f = w.f → T.run (F s.c) = T.run (branch s.c)) : Do (ex 2 2 F) w pc m w q m :=
  do_of hp (by lia) fun cyc st => ⟨cond (bA (((pc + 1 : Nat) : Int) + 1) 65280 != bA (((pc + 1 : Nat) : Int) + 1 - bX ((o : Nat) : Int) 255 - 1) 65280) ((0 : Int) + 1 + 1) ((0 : Int) + 1), .inr 2, (h2 _ rfl).trans (by
    refine rb (bAt_ok h (show pc + 1 < 2 ^ 63 by lia)) (rb (rt (by rw [b7_ne ho2]; exact decide_eq_true ho) rfl) (rb rc ?_))
    have e1 : ((pc + 1 : Nat) : Int) + 1 - bX ((o : Nat) : Int) 255 - 1 = ((q : Nat) : Int) := by
      rw [show (255 : Int) = ((255 : Nat) : Int) from rfl, bxor_nat, xor_255 ho2]; lia
    show some ({ (mkN w (pc + 1) m ⟨0, .inr 2, cyc, st⟩).c with pc := bA (((pc + 1 : Nat) : Int) + 1 - bX ((o : Nat) : Int) 255 - 1) 65535, exc := cond (bA (((pc + 1 : Nat) : Int) + 1) 65280 != bA (((pc + 1 : Nat) : Int) + 1 - bX ((o : Nat) : Int) 255 - 1) 65280) ((0 : Int) + 1 + 1) ((0 : Int) + 1) } : Cpu) = _
    rw [e1, m65535, Nat.mod_eq_of_lt (show q < 65536 by lia)]; rfl)⟩
theorem br_no (B : Br op) (h : At m (768 + p) op) (hp : p < 2000) (ht : tk op w.f = false) : StP w p m w (p + 2) m := by
  obtain ⟨F, h1, h2⟩ := B
  have d := d_no (w := w) (pc := 768 + p) (m := m) (F := F) (by lia) fun s e => (h2 s).trans (cond_f _ _ (by rw [e]; exact ht)).symm
  rw [show 768 + p + 2 = 768 + (p + 2) by lia] at d
  exact stp_of h h1 hp d
theorem br_fw (B : Br op) (h : At m (768 + p) op) (h1 : At m (768 + p + 1) o) (ho : o < 128) (hp : p < 2000) (ht : tk op w.f = true) : StP w p m w (p + 2 + o) m := by
  obtain ⟨F, k1, k2⟩ := B
  have d := d_fw (w := w) (pc := 768 + p) (m := m) (F := F) (by lia) h1 ho fun s e => (k2 s).trans (cond_t _ _ (by rw [e]; exact ht)).symm
  rw [show 768 + p + 2 + o = 768 + (p + 2 + o) by lia] at d
  exact stp_of h k1 hp d
theorem br_bk (B : Br op) (h : At m (768 + p) op) (h1 : At m (768 + p + 1) o) (ho : 128 ≤ o) (ho2 : o < 256) (hp : p < 2000) (ht : tk op w.f = true) (hq : q + 256 = p + 2 + o) : StP w p m w q m := by
  obtain ⟨F, k1, k2⟩ := B
  exact stp_of h k1 hp (d_bk (by lia) h1 ho ho2 (by lia) fun s e => (k2 s).trans (cond_t _ _ (by rw [e]; exact ht)).symm)
end
theorem pxor : ∀ n v i z c z' : Bool, Builtin.bitAnd (Builtin.bitXor (Fl.p ⟨n, v, false, i, z, c⟩) (Fl.p ⟨!n, v, false, i, z', !c⟩)) 253 = 129 := by decide +kernel
theorem RW.p {d : Nat} {w1 w2 : Vw} (R : RW d w1 w2) : Builtin.bitAnd (Builtin.bitXor w1.f.p w2.f.p) 253 = 129 := by
  obtain ⟨_, _, _, _, _, h1, h2, h3, h4, h5, h6⟩ := R
  obtain ⟨_, _, _, _, ⟨n, v, d, i, z, c⟩⟩ := w1
  obtain ⟨_, _, _, _, ⟨n', v', d', i', z', c'⟩⟩ := w2
  dsimp only at *
  subst h1 h2 h3 h4 h5 h6
  exact pxor n v' i' z c z'
section
variable {xs : List Int} {b : B7} {q : S7} {o : Option Prev} {D : Nat}
noncomputable def EndV (xs : List Int) (b : B7) (q : S7) (o : Option Prev) (D : Nat) (kt : Nat) (w1 : Vw) (p1 : Nat) (m1 : List Int) (w2 : Vw) (p2 : Nat) (m2 : List Int) : Prop := ∀ o1 o2 (z : Option Int), ∃ W1 W2 M1 M2 O1 O2, RW D W1 W2 ∧ RM q.ne q.fa D M1 M2 ∧
  T.run (f20 xs o (61 - kt) kt (lV b q.d o (eW z)) (hM b q o (mkN w1 (768 + p1) m1 o1).c (mkN w2 (768 + p2) m2 o2).c [])) = some (nx (lV b q.d o []) (hM b q o (mkN W1 (768 + q.ne.length) M1 O1).c (mkN W2 (768 + q.fa.length) M2 O2).c []))
variable {w1 w2 w1' w2' : Vw} {p1 p2 q1 q2 n1 n2 kt d : Nat} {m1 m2 m1' m2' : List Int} {u : Int}
theorem visit_of (W1 : WL q.st n1 w1 p1 m1 w1' q1 m1') (W2 : WL q.mr n2 w2 p2 m2 w2' q2 m2') (h1 : n1 ≤ 6) (h2 : n2 ≤ 6) (l1 : q.st.lookup (768 + (q1 : Int)) = some u) (l2 : q.mr.lookup (768 + (q2 : Int)) = some u) (R : RW d w1' w2') (o1 o2 : Oth) :
    ∃ o1' o2', VisitOk q (mkN w1 (768 + p1) m1 o1).c (mkN w2 (768 + p2) m2 o2).c (mkN w1' (768 + q1) m1' o1').c (mkN w2' (768 + q2) m2' o2').c u := by
  obtain ⟨o1', e1⟩ := W1 o1
  obtain ⟨o2', e2⟩ := W2 o2
  have a := R.a; have x := R.x; have y := R.y
  exact ⟨o1', o2', ⟨n1, h1, e1⟩, ⟨n2, h2, e2⟩, by rw [pcI]; exact l1, by rw [pcI]; exact l2, congrArg Int.ofNat (R.s1.trans R.s2.symm), R.p, by show (w1'.a : Int) + w2'.a = 255; lia, by show (w1'.x : Int) + w2'.x = 255; lia, by show (w1'.y : Int) + w2'.y = 255; lia⟩
theorem end_step (hk : kt < 60) (W1 : WL q.st n1 w1 p1 m1 w1' q1 m1') (W2 : WL q.mr n2 w2 p2 m2 w2' q2 m2') (h1 : n1 ≤ 6) (h2 : n2 ≤ 6) (l1 : q.st.lookup (768 + (q1 : Int)) = some u) (l2 : q.mr.lookup (768 + (q2 : Int)) = some u) (hu : (u == 100) = false) (R : RW d w1' w2') (N : EndV xs b q o D (kt + 1) w1' q1 m1' w2' q2 m2') : EndV xs b q o D kt w1 p1 m1 w2 p2 m2 := fun o1 o2 z => by
  obtain ⟨o1', o2', V⟩ := visit_of W1 W2 h1 h2 l1 l2 R o1 o2
  obtain ⟨a, b', c, d', e, f, g1, g2, g3⟩ := N o1' o2' (some (kt : Int))
  refine ⟨a, b', c, d', e, f, g1, g2, ?_⟩
  have s := visit_on (xs := xs) (b := b) (o := o) V hu (m := 60 - kt) hk z
  rw [show 61 - kt = 60 - kt + 1 from Nat.succ_sub (Nat.le_of_lt hk)]
  rw [show 61 - (kt + 1) = 60 - kt from Nat.add_sub_add_right 60 1 kt] at g3
  exact s.trans g3
theorem end_last (hk : kt < 60) (W1 : WL q.st n1 w1 p1 m1 w1' q.ne.length m1') (W2 : WL q.mr n2 w2 p2 m2 w2' q.fa.length m2') (h1 : n1 ≤ 6) (h2 : n2 ≤ 6) (l1 : q.st.lookup (768 + (q.ne.length : Int)) = some 100) (l2 : q.mr.lookup (768 + (q.fa.length : Int)) = some 100) (R : RW D w1' w2') (M : RM q.ne q.fa D m1' m2') : EndV xs b q o D kt w1 p1 m1 w2 p2 m2 := fun o1 o2 z => by
  obtain ⟨o1', o2', V⟩ := visit_of W1 W2 h1 h2 l1 l2 R o1 o2
  have s := visit_end (xs := xs) (b := b) (o := o) V rfl (m := 60 - kt) hk z
  rw [← show 61 - kt = 60 - kt + 1 from Nat.succ_sub (Nat.le_of_lt hk)] at s
  exact ⟨_, _, _, _, o1', o2', R, M, s⟩
end
structure Ext (q r : S7) : Prop where
  ne : ∃ t, r.ne = q.ne ++ t
  fa : ∃ t, r.fa = q.fa ++ t
  st : ∃ L, r.st = L ++ q.st ∧ ∀ e ∈ L, 768 + (q.ne.length : Int) < e.1
  mr : ∃ L, r.mr = L ++ q.mr ∧ ∀ e ∈ L, 768 + (q.fa.length : Int) < e.1
theorem Ext.refl (q : S7) : Ext q q := ⟨⟨[], (List.append_nil _).symm⟩, ⟨[], (List.append_nil _).symm⟩, ⟨[], rfl, fun _ h => absurd h List.not_mem_nil⟩, ⟨[], rfl, fun _ h => absurd h List.not_mem_nil⟩⟩
theorem Ext.trans {q r s : S7} (h : Ext q r) (k : Ext r s) : Ext q s := by
  obtain ⟨⟨t1, e1⟩, ⟨t2, e2⟩, ⟨L1, e3, e4⟩, ⟨L2, e5, e6⟩⟩ := h
  obtain ⟨⟨u1, f1⟩, ⟨u2, f2⟩, ⟨K1, f3, f4⟩, ⟨K2, f5, f6⟩⟩ := k
  have n1 : q.ne.length ≤ r.ne.length := by rw [e1, List.length_append]; lia
  have n2 : q.fa.length ≤ r.fa.length := by rw [e2, List.length_append]; lia
  refine ⟨⟨t1 ++ u1, by rw [f1, e1, List.append_assoc]⟩, ⟨t2 ++ u2, by rw [f2, e2, List.append_assoc]⟩, ⟨K1 ++ L1, by rw [f3, e3, List.append_assoc], fun e h => ?_⟩, ⟨K2 ++ L2, by rw [f5, e5, List.append_assoc], fun e h => ?_⟩⟩
  · rcases List.mem_append.mp h with h | h
    · have := f4 e h; lia
    · exact e4 e h
  · rcases List.mem_append.mp h with h | h
    · have := f6 e h; lia
    · exact e6 e h
theorem look_app {L st : List (Int × Int)} {n m : Nat} (h : ∀ e ∈ L, 768 + (n : Int) < e.1) (hm : m ≤ n) : (L ++ st).lookup (768 + (m : Int)) = st.lookup (768 + (m : Int)) := by
  induction L with
  | nil => rfl
  | cons e L ih =>
    have h1 := h e List.mem_cons_self
    rw [List.cons_append, List.lookup_cons, show (768 + (m : Int) == e.1) = false from beq_eq_false_iff_ne.mpr (by lia)]
    exact ih fun e he => h e (List.mem_cons_of_mem _ he)
theorem Ext.s {q r : S7} (h : Ext q r) {m : Nat} (hm : m ≤ q.ne.length) : r.st.lookup (768 + (m : Int)) = q.st.lookup (768 + (m : Int)) := by
  obtain ⟨L, e, k⟩ := h.st
  rw [e]; exact look_app k hm
theorem Ext.m {q r : S7} (h : Ext q r) {m : Nat} (hm : m ≤ q.fa.length) : r.mr.lookup (768 + (m : Int)) = q.mr.lookup (768 + (m : Int)) := by
  obtain ⟨L, e, k⟩ := h.mr
  rw [e]; exact look_app k hm
theorem pre_pc {l A P t : List Int} (h : l = A ++ P ++ t) : Pc l A.length P := fun j v e => by
  rw [h, List.append_assoc, List.getElem?_append_right (Nat.le_add_right _ _), Nat.add_sub_cancel_left, List.getElem?_append_left (List.getElem?_eq_some_iff.mp e).1]; exact e
theorem Pc.left {l P Q : List Int} {p : Nat} (h : Pc l p (P ++ Q)) : Pc l p P := fun j v e => h j v ((List.getElem?_append_left (List.getElem?_eq_some_iff.mp e).1).trans e)
theorem Pc.right {l P Q : List Int} {p : Nat} (h : Pc l p (P ++ Q)) : Pc l (p + P.length) Q := fun j v e => by
  have := h (P.length + j) v (by rw [List.getElem?_append_right (Nat.le_add_right _ _), Nat.add_sub_cancel_left]; exact e)
  rwa [← Nat.add_assoc] at this
end Mine.Internal
end
section
open PySem PySem.W PySem.Calls PyProof.Rows PySem.Builtin
set_option linter.unusedVariables false
namespace Mine.Internal
noncomputable def Dep (K d d' : Nat) : Prop := match K with
  | 32 => d' = d + 1
  | 33 => d = d' + 1
  | _ => d' = d
noncomputable def kxOf (K : Nat) : Bool := match K with
  | 1 => false
  | 26 => false
  | 30 => false
  | _ => true
theorem kinds {ne fa : List Int} {s1 s2 : List (Int × Int)} {d d' p1 p2 v : Nat} {w1 w2 : Vw} {m1 m2 : List Int} (hd : d ≤ 20) : ∀ K : Nat, K < 34 → Dep K d d' → Kd K d' (kxOf K) ne fa s1 s2 d p1 p2 v w1 w2 m1 m2
  | 0, _, h => by obtain rfl : d' = d := h; exact kk0
  | 1, _, h => by obtain rfl : d' = d := h; exact kk1
  | 2, _, h => by obtain rfl : d' = d := h; exact kk2
  | 3, _, h => by obtain rfl : d' = d := h; exact kk3
  | 4, _, h => by obtain rfl : d' = d := h; exact kk4
  | 5, _, h => by obtain rfl : d' = d := h; exact kk5
  | 6, _, h => by obtain rfl : d' = d := h; exact kk6
  | 7, _, h => by obtain rfl : d' = d := h; exact kk7
  | 8, _, h => by obtain rfl : d' = d := h; exact kk8
  | 9, _, h => by obtain rfl : d' = d := h; exact kk9
  | 10, _, h => by obtain rfl : d' = d := h; exact kk10
  | 11, _, h => by obtain rfl : d' = d := h; exact kk11
  | 12, _, h => by obtain rfl : d' = d := h; exact kk12
  | 13, _, h => by obtain rfl : d' = d := h; exact kk13
  | 14, _, h => by obtain rfl : d' = d := h; exact kk14
  | 15, _, h => by obtain rfl : d' = d := h; exact kk15
  | 16, _, h => by obtain rfl : d' = d := h; exact kk16
  | 17, _, h => by obtain rfl : d' = d := h; exact kk17
  | 18, _, h => by obtain rfl : d' = d := h; exact kk18
  | 19, _, h => by obtain rfl : d' = d := h; exact kk19
  | 20, _, h => by obtain rfl : d' = d := h; exact kk20
  | 21, _, h => by obtain rfl : d' = d := h; exact kk21
  | 22, _, h => by obtain rfl : d' = d := h; exact kk22
  | 23, _, h => by obtain rfl : d' = d := h; exact kk23
  | 24, _, h => by obtain rfl : d' = d := h; exact kk24
  | 25, _, h => by obtain rfl : d' = d := h; exact kk25
  | 26, _, h => by obtain rfl : d' = d := h; exact kk26
  | 27, _, h => by obtain rfl : d' = d := h; exact kk27
  | 28, _, h => by obtain rfl : d' = d := h; exact kk28
  | 29, _, h => by obtain rfl : d' = d := h; exact kk29
  | 30, _, h => by obtain rfl : d' = d := h; exact kk30
  | 31, _, h => by obtain rfl : d' = d := h; exact kk31
  | 32, _, h => by obtain rfl : d' = d + 1 := h; exact kk32 hd
  | 33, _, h => by obtain rfl : d = d' + 1 := h; exact kk33 (by lia)
  | n + 34, h, _ => absurd h (by lia)
theorem Dep.same {K d d' : Nat} (h : Dep K d d') (h1 : K ≠ 32) (h2 : K ≠ 33) : d' = d := by
  unfold Dep at h
  split at h
  · exact absurd rfl h1
  · exact absurd rfl h2
  · exact h
theorem kx_of {K : Nat} (h1 : K ≠ 1) (h2 : K ≠ 26) (h3 : K ≠ 30) : kxOf K = true := by
  unfold kxOf
  split
  · exact absurd rfl h1
  · exact absurd rfl h2
  · exact absurd rfl h3
  · rfl
theorem look_hd {n : Nat} {u : Int} {st : List (Int × Int)} : ((768 + (n : Int), u) :: st).lookup (768 + (n : Int)) = some u := by
  rw [List.lookup_cons, beq_self_eq_true]
theorem look_ne {n m : Nat} {u : Int} {st : List (Int × Int)} (h : m ≠ n) : ((768 + (n : Int), u) :: st).lookup (768 + (m : Int)) = st.lookup (768 + (m : Int)) := by
  rw [List.lookup_cons, show (768 + (m : Int) == 768 + (n : Int)) = false from beq_eq_false_iff_ne.mpr (by lia)]
theorem no_of {st : List (Int × Int)} {n m : Nat} (h : KLe st n) (hm : n < m) : (st.lookup (768 + (m : Int))).isSome = false := by
  have := h.none hm
  cases hh : st.lookup (768 + (m : Int)) with
  | none => rfl
  | some _ => rw [hh] at this; exact no_bool this
section
variable {xs : List Int} {b : B7} {q qf : S7} {o : Option Prev} {D K v d d' kt : Nat} {k f : Int} {w1 w2 : Vw} {m1 m2 : List Int}
noncomputable abbrev Rest (xs : List Int) (b : B7) (qf : S7) (o : Option Prev) (D d' kt p1 p2 : Nat) : Prop := ∀ kt', kt' ≤ kt + 4 → ∀ w1 w2 m1 m2, RW d' w1 w2 → RM qf.ne qf.fa d' m1 m2 → EndV xs b qf o D kt' w1 p1 m1 w2 p2 m2
structure Sit (q qf : S7) (K v d d' kt : Nat) (k : Int) : Prop where
  hK : K < 34
  hv : v < 256
  hd : d ≤ 20
  dep : Dep K d d'
  ks : KLe q.st q.ne.length
  km : KLe q.mr q.fa.length
  n1 : q.ne.length ≤ 600
  n2 : q.fa.length ≤ 600
  kt : kt + 4 < 60
  k0 : 0 ≤ k
  k1 : k < 20
theorem form0 (S : Sit q qf K v d d' kt k) (hw : wrds f (plainW K v) (turnW K v) q = ⟨q.ne ++ plainW K v, q.fa ++ turnW K v, q.st, q.mr, q.d⟩) (ht : ∀ q, tail7 k f (plainW K v) (turnW K v) q = q) (E : Ext (grow7 k f (plainW K v) (turnW K v) q) qf) (R : RW d w1 w2) (M : RM qf.ne qf.fa d m1 m2)
    (N : Rest xs b qf o D d' kt (grow7 k f (plainW K v) (turnW K v) q).ne.length (grow7 k f (plainW K v) (turnW K v) q).fa.length) : EndV xs b qf o D kt w1 q.ne.length m1 w2 q.fa.length m2 := by
  unfold grow7 at E N
  rw [ht, hw] at E N
  have pl := plainW_len (K := K) (v := (v : Int))
  have tl := turnW_len (K := K) (v := (v : Int))
  have l1 : (q.ne ++ plainW K v).length = q.ne.length + (plainW K v).length := List.length_append
  have l2 : (q.fa ++ turnW K v).length = q.fa.length + (turnW K v).length := List.length_append
  obtain ⟨t1, e1⟩ := E.ne
  obtain ⟨t2, e2⟩ := E.fa
  have P1 : Pc qf.ne q.ne.length (plainW K v) := pre_pc e1
  have P2 : Pc qf.fa q.fa.length (turnW K v) := pre_pc e2
  have a1 : qf.st.lookup (768 + ((q.ne.length + (plainW K v).length : Nat) : Int)) = some (2 * k + 1) := by
    rw [← l1]; exact (E.s (Nat.le_refl _)).trans look_hd
  have a2 : qf.mr.lookup (768 + ((q.fa.length + (turnW K v).length : Nat) : Int)) = some (2 * k + 1) := by
    rw [← l2]; exact (E.m (Nat.le_refl _)).trans look_hd
  have no : ∀ r, q.fa.length < r → r < q.fa.length + (turnW K v).length → No qf.mr r := fun r h1 h2 => by
    show (qf.mr.lookup (768 + (r : Int))).isSome = false
    rw [E.m (show r ≤ (q.fa ++ turnW K v).length by lia)]
    show (((768 + ((q.fa ++ turnW K v).length : Int), 2 * k + 1) :: q.mr).lookup (768 + (r : Int))).isSome = false
    rw [look_ne (by lia)]
    exact no_of S.km h1
  have x1 := S.n1; have x2 := S.n2; have x3 := S.kt; have x4 := S.k0; have x5 := S.k1
  obtain ⟨w1', w2', m1', m2', n2, W1, hn, W2, R', M', _⟩ := (kinds S.hd K S.hK S.dep M R S.hv P1 P2 (by lia) (by lia) (by show Option.isSome _ = true; rw [a1]; rfl) (by show Option.isSome _ = true; rw [a2]; rfl) no).ex
  have r := N (kt + 1) (by lia) w1' w2' m1' m2' R' M'
  rw [show (note7 (2 * k + 1) ⟨q.ne ++ plainW K v, q.fa ++ turnW K v, q.st, q.mr, q.d⟩).ne.length = q.ne.length + (plainW K v).length from l1, show (note7 (2 * k + 1) ⟨q.ne ++ plainW K v, q.fa ++ turnW K v, q.st, q.mr, q.d⟩).fa.length = q.fa.length + (turnW K v).length from l2] at r
  exact end_step (by lia) W1 W2 (by decide) (by lia) a1 a2 (beq_eq_false_iff_ne.mpr (by lia)) R' r
theorem form124 {c1 c2 : Nat} (S : Sit q qf K v d d' kt k) (h32 : K ≠ 32) (h33 : K ≠ 33) (hw : wrds f (plainW K v) (turnW K v) q = ⟨q.ne ++ [(c1 : Int), ((plainW K v).length : Int)] ++ plainW K v, q.fa ++ [(c2 : Int), ((turnW K v).length : Int)] ++ turnW K v, q.st, q.mr, q.d⟩) (ht : ∀ q, tail7 k f (plainW K v) (turnW K v) q = q) (E : Ext (grow7 k f (plainW K v) (turnW K v) q) qf) (R : RW d w1 w2) (M : RM qf.ne qf.fa d m1 m2)
    (B1 : Br c1) (B2 : Br c2) (hb : tk c2 w2.f = tk c1 w1.f)
    (N : Rest xs b qf o D d' kt (grow7 k f (plainW K v) (turnW K v) q).ne.length (grow7 k f (plainW K v) (turnW K v) q).fa.length) : EndV xs b qf o D kt w1 q.ne.length m1 w2 q.fa.length m2 := by
  unfold grow7 at E N
  rw [ht, hw] at E N
  have pl := plainW_len (K := K) (v := (v : Int))
  have tl := turnW_len (K := K) (v := (v : Int))
  have l1 : (q.ne ++ [(c1 : Int), ((plainW K v).length : Int)] ++ plainW K v).length = q.ne.length + 2 + (plainW K v).length := by rw [List.length_append, List.length_append]; rfl
  have l2 : (q.fa ++ [(c2 : Int), ((turnW K v).length : Int)] ++ turnW K v).length = q.fa.length + 2 + (turnW K v).length := by rw [List.length_append, List.length_append]; rfl
  obtain ⟨t1, e1⟩ := E.ne
  obtain ⟨t2, e2⟩ := E.fa
  have e1' : qf.ne = q.ne ++ ([(c1 : Int), ((plainW K v).length : Int)] ++ plainW K v) ++ t1 := by rw [← List.append_assoc]; exact e1
  have e2' : qf.fa = q.fa ++ ([(c2 : Int), ((turnW K v).length : Int)] ++ turnW K v) ++ t2 := by rw [← List.append_assoc]; exact e2
  have P1 : Pc qf.ne (q.ne.length + 2) (plainW K v) := (pre_pc e1').right
  have P2 : Pc qf.fa (q.fa.length + 2) (turnW K v) := (pre_pc e2').right
  have H1 := (pre_pc e1').left
  have H2 := (pre_pc e2').left
  have a1 : qf.st.lookup (768 + ((q.ne.length + 2 + (plainW K v).length : Nat) : Int)) = some (2 * k + 1) := by
    rw [← l1]; exact (E.s (Nat.le_refl _)).trans look_hd
  have a2 : qf.mr.lookup (768 + ((q.fa.length + 2 + (turnW K v).length : Nat) : Int)) = some (2 * k + 1) := by
    rw [← l2]; exact (E.m (Nat.le_refl _)).trans look_hd
  have no1 : ∀ r, q.ne.length < r → r < q.ne.length + 2 + (plainW K v).length → No qf.st r := fun r h1 h2 => by
    show (qf.st.lookup (768 + (r : Int))).isSome = false
    rw [E.s (show r ≤ (q.ne ++ [(c1 : Int), ((plainW K v).length : Int)] ++ plainW K v).length by lia)]
    show (((768 + ((q.ne ++ [(c1 : Int), ((plainW K v).length : Int)] ++ plainW K v).length : Int), 2 * k + 1) :: q.st).lookup (768 + (r : Int))).isSome = false
    rw [look_ne (by lia)]
    exact no_of S.ks h1
  have no2 : ∀ r, q.fa.length < r → r < q.fa.length + 2 + (turnW K v).length → No qf.mr r := fun r h1 h2 => by
    show (qf.mr.lookup (768 + (r : Int))).isSome = false
    rw [E.m (show r ≤ (q.fa ++ [(c2 : Int), ((turnW K v).length : Int)] ++ turnW K v).length by lia)]
    show (((768 + ((q.fa ++ [(c2 : Int), ((turnW K v).length : Int)] ++ turnW K v).length : Int), 2 * k + 1) :: q.mr).lookup (768 + (r : Int))).isSome = false
    rw [look_ne (by lia)]
    exact no_of S.km h1
  have x1 := S.n1; have x2 := S.n2; have x3 := S.kt; have x4 := S.k0; have x5 := S.k1
  have N' : ∀ w1' w2' m1' m2', RW d' w1' w2' → RM qf.ne qf.fa d' m1' m2' → EndV xs b qf o D (kt + 1) w1' (q.ne.length + 2 + (plainW K v).length) m1' w2' (q.fa.length + 2 + (turnW K v).length) m2' := fun w1' w2' m1' m2' R' M' => by
    have r := N (kt + 1) (by lia) w1' w2' m1' m2' R' M'
    rw [show (note7 (2 * k + 1) ⟨q.ne ++ [(c1 : Int), ((plainW K v).length : Int)] ++ plainW K v, q.fa ++ [(c2 : Int), ((turnW K v).length : Int)] ++ turnW K v, q.st, q.mr, q.d⟩).ne.length = q.ne.length + 2 + (plainW K v).length from l1, show (note7 (2 * k + 1) ⟨q.ne ++ [(c1 : Int), ((plainW K v).length : Int)] ++ plainW K v, q.fa ++ [(c2 : Int), ((turnW K v).length : Int)] ++ turnW K v, q.st, q.mr, q.d⟩).fa.length = q.fa.length + 2 + (turnW K v).length from l2] at r
    exact r
  have hu : (2 * k + 1 == 100) = false := beq_eq_false_iff_ne.mpr (by lia)
  have y1 : Yes qf.st (q.ne.length + 2 + (plainW K v).length) := by show Option.isSome _ = true; rw [a1]; rfl
  have y2 : Yes qf.mr (q.fa.length + 2 + (turnW K v).length) := by show Option.isSome _ = true; rw [a2]; rfl
  cases h : tk c1 w1.f with
  | true =>
    have s1 := br_fw (o := (plainW K v).length) B1 (pc_at H1 M.k1 (j := 0) rfl) (pc_at H1 M.k1 (j := 1) rfl) (by lia) (by lia) h
    have s2 := br_fw (o := (turnW K v).length) B2 (pc_at H2 M.k2 (j := 0) rfl) (pc_at H2 M.k2 (j := 1) rfl) (by lia) (by lia) (hb.trans h)
    obtain rfl := S.dep.same h32 h33
    exact end_step (by lia) (wl_one s1 y1) (wl_one s2 y2) (by decide) (by decide) a1 a2 hu R (N' _ _ _ _ R M)
  | false =>
    have s1 := br_no B1 (pc_at H1 M.k1 (j := 0) rfl) (by lia) h
    have s2 := br_no B2 (pc_at H2 M.k2 (j := 0) rfl) (by lia) (hb.trans h)
    obtain ⟨w1', w2', m1', m2', n2, W1, hn, W2, R', M', _⟩ := (kinds S.hd K S.hK S.dep M R S.hv P1 P2 (by lia) (by lia) y1 y2 (fun r h1 h2 => no2 r (by lia) h2)).ex
    exact end_step (by lia) (wl_cons s1 (no1 _ (by lia) (by lia)) W1) (wl_cons s2 (no2 _ (by lia) (by lia)) W2) (by decide) (by lia) a1 a2 hu R' (N' _ _ _ _ R' M')
end
end Mine.Internal
end
section
open PySem PySem.W PySem.Calls PyProof.Rows PySem.Builtin
set_option linter.unusedVariables false
set_option genInjectivity false
set_option genSizeOf false
set_option genSizeOfSpec false
namespace Mine.Internal
structure Lp (qf : S7) (K v P P2 : Nat) (k : Int) : Prop where
  c1 : Pc qf.ne P [162, 2]
  c2 : Pc qf.fa P2 [162, 253]
  w1 : Pc qf.ne (P + 2) (plainW K v)
  w2 : Pc qf.fa (P2 + 2) (turnW K v)
  t1 : Pc qf.ne (P + 2 + (plainW K v).length) [202, 16, ((253 - (plainW K v).length : Nat) : Int)]
  t2 : Pc qf.fa (P2 + 2 + (turnW K v).length) [232, 48, ((253 - (turnW K v).length : Nat) : Int)]
  a1 : qf.st.lookup (768 + ((P + 2 + (plainW K v).length : Nat) : Int)) = some (2 * k)
  a2 : qf.mr.lookup (768 + ((P2 + 2 + (turnW K v).length : Nat) : Int)) = some (2 * k)
  z1 : qf.st.lookup (768 + ((P + 2 + (plainW K v).length + 3 : Nat) : Int)) = some (2 * k + 1)
  z2 : qf.mr.lookup (768 + ((P2 + 2 + (turnW K v).length + 3 : Nat) : Int)) = some (2 * k + 1)
  n1 : ∀ r, P < r → r < P + 2 + (plainW K v).length + 3 → r ≠ P + 2 + (plainW K v).length → No qf.st r
  n2 : ∀ r, P2 < r → r < P2 + 2 + (turnW K v).length + 3 → r ≠ P2 + 2 + (turnW K v).length → No qf.mr r
  l1 : P ≤ 600
  l2 : P2 ≤ 600
section
variable {xs : List Int} {b : B7} {q qf : S7} {o : Option Prev} {D K v d kt P P2 : Nat} {k f : Int} {w1 w2 : Vw} {m1 m2 : List Int}
theorem yes_of {st : List (Int × Int)} {p : Nat} {u : Int} (h : st.lookup (768 + (p : Int)) = some u) : Yes st p := by show Option.isSome _ = true; rw [h]; rfl
theorem lp_body (L : Lp qf K v P P2 k) (hK : K < 34) (hv : v < 256) (hd : d ≤ 20) (dep : Dep K d d) (kx : kxOf K = true) (R : RW d w1 w2) (M : RM qf.ne qf.fa d m1 m2) :
    ∃ w1' w2' m1' m2' n2, WL qf.st 1 w1 (P + 2) m1 w1' (P + 2 + (plainW K v).length) m1' ∧ n2 ≤ 3 ∧ WL qf.mr n2 w2 (P2 + 2) m2 w2' (P2 + 2 + (turnW K v).length) m2' ∧ RW d w1' w2' ∧ RM qf.ne qf.fa d m1' m2' ∧ w1'.x = w1.x := by
  have x1 := L.l1; have x2 := L.l2
  obtain ⟨w1', w2', m1', m2', n2, W1, hn, W2, R', M', hx⟩ := (kinds hd K hK dep M R hv L.w1 L.w2 (by lia) (by lia) (yes_of L.a1) (yes_of L.a2) (fun r h1 h2 => L.n2 r (by lia) (by lia) (by lia))).ex
  exact ⟨w1', w2', m1', m2', n2, W1, hn, W2, R', M', hx kx⟩
theorem lt_a {p : Nat} (h : p < 1900) : p < 2000 := Nat.lt_trans h (by decide)
theorem lt_b {p : Nat} (h : p < 1900) : p + 1 < 2000 := Nat.lt_trans (Nat.succ_lt_succ h) (by decide)
theorem lt_c {p : Nat} (h : p < 1900) : 768 + p < 3000 := by lia
theorem lt_d {p : Nat} (h : p < 1900) : 768 + (p + 1) < 65536 := by lia
theorem Lp.s1 (L : Lp qf K v P P2 k) : P + 2 + (plainW K v).length < 1900 := by have := L.l1; have := plainW_len (K := K) (v := (v : Int)); lia
theorem Lp.s2 (L : Lp qf K v P P2 k) : P2 + 2 + (turnW K v).length < 1900 := by have := L.l2; have := turnW_len (K := K) (v := (v : Int)); lia
theorem lt_e {P n : Nat} : P < P + 2 + n + 1 := by lia
theorem Lp.e1 (L : Lp qf K v P P2 k) : No qf.st (P + 2 + (plainW K v).length + 1) := L.n1 _ lt_e (Nat.add_lt_add_left (by decide) _) (Nat.succ_ne_self _)
theorem Lp.e2 (L : Lp qf K v P P2 k) : No qf.mr (P2 + 2 + (turnW K v).length + 1) := L.n2 _ lt_e (Nat.add_lt_add_left (by decide) _) (Nat.succ_ne_self _)
theorem lt_f {P n : Nat} (h : 1 ≤ n) : P < P + 2 ∧ P + 2 < P + 2 + n + 3 ∧ P + 2 ≠ P + 2 + n := ⟨by lia, by lia, by lia⟩
theorem Lp.p1 (L : Lp qf K v P P2 k) : No qf.st (P + 2) :=
  (fun f : P < P + 2 ∧ P + 2 < P + 2 + (plainW K v).length + 3 ∧ P + 2 ≠ P + 2 + (plainW K v).length => L.n1 _ f.1 f.2.1 f.2.2) (lt_f plainW_len.1)
theorem Lp.p2 (L : Lp qf K v P P2 k) : No qf.mr (P2 + 2) :=
  (fun f : P2 < P2 + 2 ∧ P2 + 2 < P2 + 2 + (turnW K v).length + 3 ∧ P2 + 2 ≠ P2 + 2 + (turnW K v).length => L.n2 _ f.1 f.2.1 f.2.2) (lt_f turnW_len.1)
theorem lt_g {n : Nat} (h : n ≤ 6) : 128 ≤ 253 - n ∧ 253 - n < 256 := ⟨by omega, by omega⟩
theorem lt_h {P n : Nat} (h : n ≤ 6) : P + 2 + 256 = P + 2 + n + 1 + 2 + (253 - n) := by lia
theorem xdec {x j : Nat} (h : x = j + 1) (hj : j ≤ 2) : (x + 255) % 256 = j := by subst h; lia
theorem xinc {y j : Nat} (e : j + 1 + y = 255) : (y + 1) % 256 = 255 - j := by lia
theorem xcpl {j : Nat} (hj : j ≤ 2) : j + (255 - j) = 255 ∧ decide (128 ≤ j) = false ∧ decide (128 ≤ 255 - j) = true := ⟨by lia, decide_eq_false (by lia), decide_eq_true (by lia)⟩
theorem Lp.dex (L : Lp qf K v P P2 k) (M : RM qf.ne qf.fa d m1 m2) {u : Nat} (h : (w1.x + 255) % 256 = u) : StP w1 (P + 2 + (plainW K v).length) m1 (w1.nx u) (P + 2 + (plainW K v).length + 1) m1 := by
  subst h; exact stp_of (op := 202) (pc_at L.t1 M.k1 (j := 0) rfl) rfl (lt_a L.s1) (do_b (f := fun c => opDEX c) (lt_c L.s1) (lt_d L.s1) f_dex)
theorem Lp.inx (L : Lp qf K v P P2 k) (M : RM qf.ne qf.fa d m1 m2) {u : Nat} (h : (w2.x + 1) % 256 = u) : StP w2 (P2 + 2 + (turnW K v).length) m2 (w2.nx u) (P2 + 2 + (turnW K v).length + 1) m2 := by
  subst h; exact stp_of (op := 232) (pc_at L.t2 M.k2 (j := 0) rfl) rfl (lt_a L.s2) (do_b (f := fun c => opINX c) (lt_c L.s2) (lt_d L.s2) f_inx)
theorem k_ne (k0 : 0 ≤ k) (k1 : k < 20) : (2 * k == 100) = false ∧ (2 * k + 1 == 100) = false := ⟨beq_eq_false_iff_ne.mpr (by lia), beq_eq_false_iff_ne.mpr (by lia)⟩
theorem lt_k {kt j : Nat} (h : kt + j < 60) : kt < 60 := Nat.lt_of_le_of_lt (Nat.le_add_right _ _) h
theorem lp_on (L : Lp qf K v P P2 k) (hK : K < 34) (hv : v < 256) (hd : d ≤ 20) (dep : Dep K d d) (kx : kxOf K = true) (k0 : 0 ≤ k) (k1 : k < 20) :
    ∀ (j kt : Nat) (w1 w2 : Vw) (m1 m2 : List Int), j ≤ 2 → kt + j < 60 → RW d w1 w2 → RM qf.ne qf.fa d m1 m2 → w1.x = j → (∀ w1 w2 m1 m2, RW d w1 w2 → RM qf.ne qf.fa d m1 m2 → EndV xs b qf o D (kt + j + 1) w1 (P + 2 + (plainW K v).length + 3) m1 w2 (P2 + 2 + (turnW K v).length + 3) m2) → EndV xs b qf o D kt w1 (P + 2 + (plainW K v).length) m1 w2 (P2 + 2 + (turnW K v).length) m2
  | 0, kt, w1, w2, m1, m2, hj, hk, R, M, hx, N => by
    have x : w1.x + w2.x = 255 := R.x
    rw [hx, Nat.zero_add] at x
    have s1 := L.dex (w1 := w1) (u := 255) M (by rw [hx])
    have s2 := L.inx (w2 := w2) (u := 0) M (by rw [x])
    have R' : RW d (w1.nx 255) (w2.nx 0) := R.nx rfl
    have b1 := br_no (w := w1.nx 255) (p := P + 2 + (plainW K v).length + 1) (m := m1) br16 (pc_at L.t1 M.k1 (j := 1) rfl) (lt_b L.s1) rfl
    have b2 := br_no (w := w2.nx 0) (p := P2 + 2 + (turnW K v).length + 1) (m := m2) br48 (pc_at L.t2 M.k2 (j := 1) rfl) (lt_b L.s2) rfl
    exact end_step (lt_k hk) (wl_cons s1 L.e1 (wl_one b1 (yes_of L.z1))) (wl_cons s2 L.e2 (wl_one b2 (yes_of L.z2))) (by decide) (by decide) L.z1 L.z2 (k_ne k0 k1).2 R' (N _ _ _ _ R' M)
  | j + 1, kt, w1, w2, m1, m2, hj, hk, R, M, hx, N => by
    have pl := plainW_len (K := K) (v := (v : Int))
    have tl := turnW_len (K := K) (v := (v : Int))
    have x : w1.x + w2.x = 255 := R.x
    rw [hx] at x
    have j2 : j ≤ 2 := Nat.le_of_succ_le hj
    obtain ⟨c1, c2, c3⟩ := xcpl j2
    have s1 := L.dex (w1 := w1) (u := j) M (xdec hx j2)
    have s2 := L.inx (w2 := w2) (u := 255 - j) M (xinc x)
    have R' : RW d (w1.nx j) (w2.nx (255 - j)) := R.nx c1
    have pl6 := Nat.le_trans pl.2 (show 3 ≤ 6 by decide)
    have b1 := br_bk (w := w1.nx j) (p := P + 2 + (plainW K v).length + 1) (o := 253 - (plainW K v).length) (q := P + 2) (m := m1) br16 (pc_at L.t1 M.k1 (j := 1) rfl) (pc_at L.t1 M.k1 (j := 2) rfl) (lt_g pl6).1 (lt_g pl6).2 (lt_b L.s1) (by show (!decide (128 ≤ j)) = true; rw [c2]; rfl) (lt_h pl6)
    have b2 := br_bk (w := w2.nx (255 - j)) (p := P2 + 2 + (turnW K v).length + 1) (o := 253 - (turnW K v).length) (q := P2 + 2) (m := m2) br48 (pc_at L.t2 M.k2 (j := 1) rfl) (pc_at L.t2 M.k2 (j := 2) rfl) (lt_g tl.2).1 (lt_g tl.2).2 (lt_b L.s2) c3 (lt_h tl.2)
    obtain ⟨w1', w2', m1', m2', n2, W1, hn, W2, R2, M2, hx'⟩ := lp_body L hK hv hd dep kx R' M
    exact end_step (lt_k hk) (wl_cons s1 L.e1 (wl_cons b1 L.p1 W1)) (wl_cons s2 L.e2 (wl_cons b2 L.p2 W2)) (by decide) (Nat.le_trans (Nat.add_le_add_right hn 2) (by decide)) L.a1 L.a2 (k_ne k0 k1).1 R2
      (lp_on L hK hv hd dep kx k0 k1 j (kt + 1) w1' w2' m1' m2' j2 (by rw [Nat.add_right_comm]; exact hk) R2 M2 hx' fun a b' c e h1 h2 => by rw [show kt + 1 + j + 1 = kt + (j + 1) + 1 from congrArg (· + 1) (Nat.add_right_comm kt 1 j)]; exact N a b' c e h1 h2)
theorem lp_all (L : Lp qf K v P P2 k) (hK : K < 34) (hv : v < 256) (hd : d ≤ 20) (dep : Dep K d d) (kx : kxOf K = true) (k0 : 0 ≤ k) (k1 : k < 20) (hk : kt + 4 < 60) (R : RW d w1 w2) (M : RM qf.ne qf.fa d m1 m2)
    (N : ∀ w1 w2 m1 m2, RW d w1 w2 → RM qf.ne qf.fa d m1 m2 → EndV xs b qf o D (kt + 4) w1 (P + 2 + (plainW K v).length + 3) m1 w2 (P2 + 2 + (turnW K v).length + 3) m2) : EndV xs b qf o D kt w1 P m1 w2 P2 m2 := by
  have x1 := L.l1; have x2 := L.l2
  have pl := plainW_len (K := K) (v := (v : Int))
  have tl := turnW_len (K := K) (v := (v : Int))
  have s1 : StP w1 P m1 (w1.nx 2) (P + 2) m1 := stp_of (op := 162) (pc_at L.c1 M.k1 (j := 0) rfl) rfl (by lia) (do_imm (f := opLDX) (by lia) fun hm => f_ldx hm (pc_at L.c1 M.k1 (j := 1) (v := 2) rfl) (by lia) (by decide))
  have s2 : StP w2 P2 m2 (w2.nx 253) (P2 + 2) m2 := stp_of (op := 162) (pc_at L.c2 M.k2 (j := 0) rfl) rfl (by lia) (do_imm (f := opLDX) (by lia) fun hm => f_ldx hm (pc_at L.c2 M.k2 (j := 1) (v := 253) rfl) (by lia) (by decide))
  have R' : RW d (w1.nx 2) (w2.nx 253) := R.nx rfl
  obtain ⟨w1', w2', m1', m2', n2, W1, hn, W2, R2, M2, hx'⟩ := lp_body L hK hv hd dep kx R' M
  exact end_step (by lia) (wl_cons s1 (L.n1 _ (by lia) (by lia) (by lia)) W1) (wl_cons s2 (L.n2 _ (by lia) (by lia) (by lia)) W2) (by decide) (by lia) L.a1 L.a2 (beq_eq_false_iff_ne.mpr (by lia)) R2
    (lp_on L hK hv hd dep kx k0 k1 2 (kt + 1) w1' w2' m1' m2' (by decide) (by lia) R2 M2 hx' fun a b' c e h1 h2 => N a b' c e h1 h2)
theorem form3 {d' : Nat} (S : Sit q qf K v d d' kt k) (h32 : K ≠ 32) (h33 : K ≠ 33) (kx : kxOf K = true) (hw : wrds f (plainW K v) (turnW K v) q = ⟨q.ne ++ [162, 2] ++ plainW K v, q.fa ++ [162, 253] ++ turnW K v, q.st, q.mr, q.d⟩)
    (ht : ∀ q : S7, tail7 k f (plainW K v) (turnW K v) q = ⟨q.ne ++ [202, 16, 253 - ((plainW K v).length : Int)], q.fa ++ [232, 48, 253 - ((turnW K v).length : Int)], (768 + (q.ne.length : Int), 2 * k) :: q.st, (768 + (q.fa.length : Int), 2 * k) :: q.mr, q.d⟩)
    (E : Ext (grow7 k f (plainW K v) (turnW K v) q) qf) (R : RW d w1 w2) (M : RM qf.ne qf.fa d m1 m2)
    (N : Rest xs b qf o D d' kt (grow7 k f (plainW K v) (turnW K v) q).ne.length (grow7 k f (plainW K v) (turnW K v) q).fa.length) : EndV xs b qf o D kt w1 q.ne.length m1 w2 q.fa.length m2 := by
  obtain rfl := S.dep.same h32 h33
  unfold grow7 at E N
  rw [ht, hw] at E N
  have pl := plainW_len (K := K) (v := (v : Int))
  have tl := turnW_len (K := K) (v := (v : Int))
  have m1' : (q.ne ++ [162, 2] ++ plainW K v).length = q.ne.length + 2 + (plainW K v).length := by rw [List.length_append, List.length_append]; rfl
  have m2' : (q.fa ++ [162, 253] ++ turnW K v).length = q.fa.length + 2 + (turnW K v).length := by rw [List.length_append, List.length_append]; rfl
  have l1 : (q.ne ++ [162, 2] ++ plainW K v ++ [202, 16, 253 - ((plainW K v).length : Int)]).length = q.ne.length + 2 + (plainW K v).length + 3 := by rw [List.length_append, m1']; rfl
  have l2 : (q.fa ++ [162, 253] ++ turnW K v ++ [232, 48, 253 - ((turnW K v).length : Int)]).length = q.fa.length + 2 + (turnW K v).length + 3 := by rw [List.length_append, m2']; rfl
  obtain ⟨t1, e1⟩ := E.ne
  obtain ⟨t2, e2⟩ := E.fa
  have e1' : qf.ne = q.ne ++ ([162, 2] ++ (plainW K v ++ [202, 16, ((253 - (plainW K v).length : Nat) : Int)])) ++ t1 := by
    rw [← List.append_assoc, ← List.append_assoc, show ((253 - (plainW K v).length : Nat) : Int) = 253 - ((plainW K v).length : Int) by lia]; exact e1
  have e2' : qf.fa = q.fa ++ ([162, 253] ++ (turnW K v ++ [232, 48, ((253 - (turnW K v).length : Nat) : Int)])) ++ t2 := by
    rw [← List.append_assoc, ← List.append_assoc, show ((253 - (turnW K v).length : Nat) : Int) = 253 - ((turnW K v).length : Int) by lia]; exact e2
  have look1 : ∀ r, r ≤ q.ne.length + 2 + (plainW K v).length + 3 → qf.st.lookup (768 + (r : Int)) = ((768 + ((q.ne.length + 2 + (plainW K v).length + 3 : Nat) : Int), 2 * k + 1) :: (768 + ((q.ne.length + 2 + (plainW K v).length : Nat) : Int), 2 * k) :: q.st).lookup (768 + (r : Int)) := fun r hr => by
    rw [← l1, ← m1']; exact E.s (m := r) (show r ≤ (q.ne ++ [162, 2] ++ plainW K v ++ [202, 16, 253 - ((plainW K v).length : Int)]).length by lia)
  have look2 : ∀ r, r ≤ q.fa.length + 2 + (turnW K v).length + 3 → qf.mr.lookup (768 + (r : Int)) = ((768 + ((q.fa.length + 2 + (turnW K v).length + 3 : Nat) : Int), 2 * k + 1) :: (768 + ((q.fa.length + 2 + (turnW K v).length : Nat) : Int), 2 * k) :: q.mr).lookup (768 + (r : Int)) := fun r hr => by
    rw [← l2, ← m2']; exact E.m (m := r) (show r ≤ (q.fa ++ [162, 253] ++ turnW K v ++ [232, 48, 253 - ((turnW K v).length : Int)]).length by lia)
  have L : Lp qf K v q.ne.length q.fa.length k := {
    c1 := (pre_pc e1').left
    c2 := (pre_pc e2').left
    w1 := (pre_pc e1').right.left
    w2 := (pre_pc e2').right.left
    t1 := (pre_pc e1').right.right
    t2 := (pre_pc e2').right.right
    a1 := by rw [look1 _ (by lia), look_ne (by lia)]; exact look_hd
    a2 := by rw [look2 _ (by lia), look_ne (by lia)]; exact look_hd
    z1 := by rw [look1 _ (by lia)]; exact look_hd
    z2 := by rw [look2 _ (by lia)]; exact look_hd
    n1 := fun r h1 h2 h3 => by
      show (qf.st.lookup (768 + (r : Int))).isSome = false
      rw [look1 r (by lia), look_ne (by lia), look_ne h3]; exact no_of S.ks h1
    n2 := fun r h1 h2 h3 => by
      show (qf.mr.lookup (768 + (r : Int))).isSome = false
      rw [look2 r (by lia), look_ne (by lia), look_ne h3]; exact no_of S.km h1
    l1 := S.n1
    l2 := S.n2 }
  refine lp_all L S.hK S.hv S.hd S.dep kx S.k0 S.k1 S.kt R M fun a b' c e h1 h2 => ?_
  have r : EndV xs b qf o D (kt + 4) a (q.ne ++ [162, 2] ++ plainW K v ++ [202, 16, 253 - ((plainW K v).length : Int)]).length c b' (q.fa ++ [162, 253] ++ turnW K v ++ [232, 48, 253 - ((turnW K v).length : Int)]).length e := N (kt + 4) (Nat.le_refl _) a b' c e h1 h2
  rw [l1, l2] at r
  exact r
end
end Mine.Internal
end
section
open PySem PySem.W PySem.Calls PyProof.Rows PySem.Builtin
set_option linter.unusedVariables false
namespace Mine.Internal
theorem ext_grow {k f : Int} {pl tu : List Int} {q : S7} (hp : 1 ≤ pl.length) (ht : 1 ≤ tu.length) : Ext q (grow7 k f pl tu q) := by
  have m1 : (wrds f pl tu q).ne = q.ne ++ (hN f pl.length ++ pl) := List.append_assoc _ _ _
  have m2 : (wrds f pl tu q).fa = q.fa ++ (hF f tu.length ++ tu) := List.append_assoc _ _ _
  have z1 : (wrds f pl tu q).st = q.st := rfl
  have z2 : (wrds f pl tu q).mr = q.mr := rfl
  have n1 : q.ne.length < (wrds f pl tu q).ne.length := by rw [m1, List.length_append, List.length_append]; lia
  have n2 : q.fa.length < (wrds f pl tu q).fa.length := by rw [m2, List.length_append, List.length_append]; lia
  unfold grow7
  generalize wrds f pl tu q = w at *
  unfold tail7
  cases f == 3 with
  | false =>
    refine ⟨⟨_, m1⟩, ⟨_, m2⟩, ⟨[(768 + (w.ne.length : Int), 2 * k + 1)], by rw [← z1]; rfl, fun e h => ?_⟩, ⟨[(768 + (w.fa.length : Int), 2 * k + 1)], by rw [← z2]; rfl, fun e h => ?_⟩⟩
    · obtain rfl := List.mem_singleton.mp h; show 768 + _ < 768 + (w.ne.length : Int); lia
    · obtain rfl := List.mem_singleton.mp h; show 768 + _ < 768 + (w.fa.length : Int); lia
  | true =>
    have l1 : (w.ne ++ [202, 16, 253 - (pl.length : Int)]).length = w.ne.length + 3 := List.length_append
    have l2 : (w.fa ++ [232, 48, 253 - (tu.length : Int)]).length = w.fa.length + 3 := List.length_append
    refine ⟨⟨hN f pl.length ++ pl ++ [202, 16, 253 - (pl.length : Int)], ?_⟩, ⟨hF f tu.length ++ tu ++ [232, 48, 253 - (tu.length : Int)], ?_⟩, ⟨[(768 + ((w.ne ++ [202, 16, 253 - (pl.length : Int)]).length : Int), 2 * k + 1), (768 + (w.ne.length : Int), 2 * k)], by rw [← z1]; rfl, fun e h => ?_⟩, ⟨[(768 + ((w.fa ++ [232, 48, 253 - (tu.length : Int)]).length : Int), 2 * k + 1), (768 + (w.fa.length : Int), 2 * k)], by rw [← z2]; rfl, fun e h => ?_⟩⟩
    · show w.ne ++ _ = _; rw [m1, List.append_assoc]
    · show w.fa ++ _ = _; rw [m2, List.append_assoc]
    · rcases List.mem_cons.mp h with rfl | h
      · show 768 + _ < 768 + (_ : Int); lia
      · obtain rfl := List.mem_singleton.mp h; show 768 + _ < 768 + (w.ne.length : Int); lia
    · rcases List.mem_cons.mp h with rfl | h
      · show 768 + _ < 768 + (_ : Int); lia
      · obtain rfl := List.mem_singleton.mp h; show 768 + _ < 768 + (w.fa.length : Int); lia
theorem ext_d {q r : S7} {d : Int} (h : Ext ⟨q.ne, q.fa, q.st, q.mr, d⟩ r) : Ext q r := ⟨h.ne, h.fa, h.st, h.mr⟩
theorem ext_next {k x : Int} {q : S7} : Ext q (next7 k x q) := ext_d (ext_grow plainW_len.1 turnW_len.1)
theorem ext_build : ∀ (r : List Int) (k : Int) (q : S7), Ext q (build7 r k q)
  | [], _, q => Ext.refl q
  | x :: r, k, q => ext_next.trans (ext_build r (k + 1) (next7 k x q))
theorem step_dep (x : Int) (d : Nat) : ∃ d' : Nat, dd (kd x (d : Int)) (d : Int) = (d' : Int) ∧ Dep (kd x (d : Int)).toNat d d' ∧ d' ≤ d + 1 := by
  obtain ⟨e, _⟩ := kd_ok x (d : Int)
  have h33 : kd x (d : Int) = 33 → d ≠ 0 := fun h z => by
    subst z
    unfold kd at h
    cases hk : kX x == 33 with
    | true => rw [hk] at h; exact absurd (show (32 : Int) = 33 from h) (by decide)
    | false =>
      rw [hk] at h
      exact absurd (beq_iff_eq.mpr h) (by rw [hk]; exact Bool.false_ne_true)
  unfold dd
  cases h2 : kd x (d : Int) == 32 with
  | true => 
    have := beq_iff_eq.mp h2
    exact ⟨d + 1, rfl, by rw [this]; rfl, Nat.le_refl _⟩
  | false =>
    cases h3 : kd x (d : Int) == 33 with
    | true =>
      have h := beq_iff_eq.mp h3
      have := h33 h
      exact ⟨d - 1, by show (d : Int) - 1 = _; omega, by rw [h]; show d = d - 1 + 1; omega, by omega⟩
    | false =>
      refine ⟨d, rfl, ?_, Nat.le_succ _⟩
      have n1 : (kd x (d : Int)).toNat ≠ 32 := fun z => absurd (beq_iff_eq.mpr (show kd x (d : Int) = 32 by omega)) (by rw [h2]; exact Bool.false_ne_true)
      have n2 : (kd x (d : Int)).toNat ≠ 33 := fun z => absurd (beq_iff_eq.mpr (show kd x (d : Int) = 33 by omega)) (by rw [h3]; exact Bool.false_ne_true)
      unfold Dep
      split
      · rename_i z; exact absurd z n1
      · rename_i z; exact absurd z n2
      · rfl
theorem v_nat (x k : Int) : vX x k = ((vX x k).toNat : Int) ∧ (vX x k).toNat < 256 :=
  ⟨(fm_ok (x.fdiv 170 + 50 * k) (n := 256) (by decide)).1.symm, (fm_ok (x.fdiv 170 + 50 * k) (n := 256) (by decide)).2⟩
theorem f_range (x : Int) : 0 ≤ fX x ∧ fX x < 5 := ⟨Int.fmod_nonneg_of_pos (x.fdiv 34) (show (0 : Int) < 5 by decide), Int.fmod_lt_of_pos (x.fdiv 34) (show (0 : Int) < 5 by decide)⟩
theorem forms (x d : Int) : fd x d = 0 ∨ ((fd x d = 1 ∨ fd x d = 2 ∨ fd x d = 4) ∧ (kd x d).toNat ≠ 32 ∧ (kd x d).toNat ≠ 33) ∨ (fd x d = 3 ∧ (kd x d).toNat ≠ 32 ∧ (kd x d).toNat ≠ 33 ∧ (kd x d).toNat ≠ 1 ∧ (kd x d).toNat ≠ 26 ∧ (kd x d).toNat ≠ 30) := by
  obtain ⟨e, _⟩ := kd_ok x d
  obtain ⟨r1, r2⟩ := f_range x
  unfold fd
  cases h : noF (kd x d) (fX x) with
  | true => exact .inl rfl
  | false =>
    show fX x = 0 ∨ _
    unfold noF at h
    rw [Bool.or_eq_false_iff] at h
    obtain ⟨h1, h2⟩ := h
    have a1 : (kd x d) ≠ 32 := fun z => by rw [z] at h1; exact no_bool h1.symm
    have a2 : (kd x d) ≠ 33 := fun z => by rw [z] at h1; exact no_bool h1.symm
    by_cases h0 : fX x = 0
    · exact .inl h0
    · refine .inr ?_
      by_cases h3 : fX x = 3
      · rw [h3] at h2
        refine .inr ⟨h3, by lia, by lia, fun z => ?_, fun z => ?_, fun z => ?_⟩
        · rw [show kd x d = 1 by lia] at h2; exact no_bool h2.symm
        · rw [show kd x d = 26 by lia] at h2; exact no_bool h2.symm
        · rw [show kd x d = 30 by lia] at h2; exact no_bool h2.symm
      · exact .inl ⟨by show fX x = 1 ∨ fX x = 2 ∨ fX x = 4; lia, by lia, by lia⟩
section
variable {xs : List Int} {b : B7} {qf : S7} {o : Option Prev} {D : Nat}
theorem piece7 {q : S7} {K v d d' kt : Nat} {k f : Int} {w1 w2 : Vw} {m1 m2 : List Int} (S : Sit q qf K v d d' kt k) (F : f = 0 ∨ ((f = 1 ∨ f = 2 ∨ f = 4) ∧ K ≠ 32 ∧ K ≠ 33) ∨ (f = 3 ∧ K ≠ 32 ∧ K ≠ 33 ∧ K ≠ 1 ∧ K ≠ 26 ∧ K ≠ 30)) (E : Ext (grow7 k f (plainW K v) (turnW K v) q) qf) (R : RW d w1 w2) (M : RM qf.ne qf.fa d m1 m2)
    (N : Rest xs b qf o D d' kt (grow7 k f (plainW K v) (turnW K v) q).ne.length (grow7 k f (plainW K v) (turnW K v) q).fa.length) : EndV xs b qf o D kt w1 q.ne.length m1 w2 q.fa.length m2 := by
  rcases F with rfl | ⟨F, h1, h2⟩ | ⟨rfl, h1, h2, h3, h4, h5⟩
  · exact form0 S (by show S7.mk (q.ne ++ [] ++ plainW K v) (q.fa ++ [] ++ turnW K v) q.st q.mr q.d = _; rw [List.append_nil, List.append_nil]) (fun _ => rfl) E R M N
  · rcases F with rfl | rfl | rfl
    · exact form124 (c1 := 144) (c2 := 176) S h1 h2 rfl (fun _ => rfl) E R M br144 br176 R.c N
    · exact form124 (c1 := 48) (c2 := 16) S h1 h2 rfl (fun _ => rfl) E R M br48 br16 (by show (!w2.f.n) = w1.f.n; rw [R.n, Bool.not_not]) N
    · exact form124 (c1 := 112) (c2 := 112) S h1 h2 rfl (fun _ => rfl) E R M br112 br112 R.v N
  · exact form3 S h1 h2 (kx_of h3 h4 h5) rfl (fun _ => rfl) E R M N
theorem walk7 : ∀ (r : List Int) (k : Nat) (q : S7) (d kt n : Nat), q.d = (d : Int) → (q.ne.length ≤ n ∧ q.fa.length ≤ n ∧ q.st.length ≤ n ∧ q.mr.length ≤ n ∧ KLe q.st q.ne.length ∧ KLe q.mr q.fa.length) → n + 11 * r.length ≤ 300 → k + r.length ≤ 10 → d + r.length ≤ 15 → kt + 4 * r.length ≤ 50 → Ext (build7 r k q) qf → (build7 r k q).d = (D : Int) →
    (∀ kt', kt' ≤ kt + 4 * r.length → ∀ w1 w2 m1 m2, RW D w1 w2 → RM qf.ne qf.fa D m1 m2 → EndV xs b qf o D kt' w1 (build7 r k q).ne.length m1 w2 (build7 r k q).fa.length m2) → ∀ w1 w2 m1 m2, RW d w1 w2 → RM qf.ne qf.fa d m1 m2 → EndV xs b qf o D kt w1 q.ne.length m1 w2 q.fa.length m2
  | [], k, q, d, kt, n, hd, hi, hn, hk, hD, hkt, E, eD, N, w1, w2, m1, m2, R, M => by
    obtain rfl : d = D := by have : (d : Int) = D := hd.symm.trans eD; lia
    exact N kt (Nat.le_refl _) w1 w2 m1 m2 R M
  | x :: r, k, q, d, kt, n, hd, hi, hn, hk, hD, hkt, E, eD, N, w1, w2, m1, m2, R, M => by
    rw [List.length_cons] at hn hk hD hkt N
    have pl := plainW_len (K := (kd x q.d).toNat) (v := vX x k)
    have tl := turnW_len (K := (kd x q.d).toNat) (v := vX x k)
    have hi' := grow7_inv (k := (k : Int)) (f := fd x q.d) (q := ⟨q.ne, q.fa, q.st, q.mr, dd (kd x q.d) q.d⟩) (by lia) hi pl.2 tl.2
    have E1 : Ext (next7 k x q) qf := (ext_build r (k + 1) (next7 k x q)).trans E
    have F := forms x q.d
    obtain ⟨k1, k2⟩ := kd_ok x q.d
    have dn : (next7 k x q).d = dd (kd x q.d) q.d := grow7_d
    have SD := step_dep x d
    rw [← hd] at SD
    obtain ⟨d', e1, e2, e3⟩ := SD
    obtain ⟨v1, v2⟩ := v_nat x k
    have IH : ∀ kt', kt' ≤ kt + 4 → ∀ w1 w2 m1 m2, RW d' w1 w2 → RM qf.ne qf.fa d' m1 m2 → EndV xs b qf o D kt' w1 (next7 k x q).ne.length m1 w2 (next7 k x q).fa.length m2 := fun kt' hk' =>
      walk7 r (k + 1) (next7 k x q) d' kt' (n + 11) (dn.trans e1) hi' (by lia) (by lia) (by lia) (by lia) E eD fun kt2 hk2 => N kt2 (by lia)
    unfold next7 at E1 IH
    rw [v1] at E1 IH
    exact piece7 (q := ⟨q.ne, q.fa, q.st, q.mr, dd (kd x q.d) q.d⟩) ⟨k2, v2, by lia, e2, hi.2.2.2.2.1, hi.2.2.2.2.2, by show q.ne.length ≤ 600; lia, by show q.fa.length ≤ 600; lia, by lia, by lia, by lia⟩ F E1 R M IH
theorem last7 {q : S7} {kt : Nat} {w1 w2 : Vw} {m1 m2 : List Int} (hq : qf = note7 100 ⟨q.ne ++ [24], q.fa ++ [56], q.st, q.mr, q.d⟩) (h1 : q.ne.length ≤ 400) (h2 : q.fa.length ≤ 400) (hk : kt < 60) (R : RW D w1 w2) (M : RM qf.ne qf.fa D m1 m2) : EndV xs b qf o D kt w1 q.ne.length m1 w2 q.fa.length m2 := by
  have n1 : qf.ne.length = q.ne.length + 1 := by rw [hq]; exact List.length_append
  have n2 : qf.fa.length = q.fa.length + 1 := by rw [hq]; exact List.length_append
  have P1 : Pc qf.ne q.ne.length [24] := pre_pc (t := []) (by rw [hq]; exact (List.append_nil _).symm)
  have P2 : Pc qf.fa q.fa.length [56] := pre_pc (t := []) (by rw [hq]; exact (List.append_nil _).symm)
  have a1 : qf.st.lookup (768 + (qf.ne.length : Int)) = some 100 := by rw [hq]; exact look_hd
  have a2 : qf.mr.lookup (768 + (qf.fa.length : Int)) = some 100 := by rw [hq]; exact look_hd
  have s1 : StP w1 q.ne.length m1 (w1.fl { w1.f with c := false }) qf.ne.length m1 := by
    rw [n1]; exact stp_of (op := 24) (pc_at P1 M.k1 (j := 0) rfl) rfl (by lia) (do_b (by lia) (by lia) f_clc)
  have s2 : StP w2 q.fa.length m2 (w2.fl { w2.f with c := true }) qf.fa.length m2 := by
    rw [n2]; exact stp_of (op := 56) (pc_at P2 M.k2 (j := 0) rfl) rfl (by lia) (do_b (by lia) (by lia) f_sec)
  exact end_last hk (wl_one s1 (yes_of a1)) (wl_one s2 (yes_of a2)) (by decide) (by decide) a1 a2 ⟨R.a, R.x, R.y, R.s1, R.s2, R.n, rfl, R.v, R.i, R.d1, R.d2⟩ M
end
end Mine.Internal
end
section
open PySem PySem.W PySem.Calls PyProof.Rows PySem.Builtin
namespace Mine.Internal
theorem ge0_nat {n : Nat} {a b : Nat} : (if (n : Int) < 0 then a else b) = b := if_neg (Int.not_lt.mpr (Int.natCast_nonneg n))
theorem loI_nat {n m : Nat} (h : n ≤ m) : loI (some (n : Int)) m = n := (ge0_nat (n := n) (a := m - (-(n : Int)).toNat) (b := min n m)).trans (Nat.min_eq_left h)
theorem hiI_nat {n m : Nat} (h : n ≤ m) : hiI (some (n : Int)) m = n := (ge0_nat (n := n) (a := m - (-(n : Int)).toNat) (b := min n m)).trans (Nat.min_eq_left h)
theorem lay_at {m t : List Int} {B : Nat} {b : Int} (hb : b = (B : Int)) (hl : B + t.length ≤ m.length) : layI m (some b) (some (b + (t.length : Int))) t = m.take B ++ (t ++ m.drop (B + t.length)) := by
  subst hb
  unfold layI
  rw [loI_nat (Nat.le_trans (Nat.le_add_right _ _) hl), ← Int.natCast_add, hiI_nat hl, Nat.max_eq_right (Nat.le_add_right _ _), List.append_assoc]
theorem lay_facts {m t : List Int} {B : Nat} {b : Int} (hb : b = (B : Int)) (hl : B + t.length ≤ m.length) :
    (layI m (some b) (some (b + (t.length : Int))) t).length = m.length ∧ (∀ j, j < B → (layI m (some b) (some (b + (t.length : Int))) t)[j]? = m[j]?) ∧ ∀ (j : Nat) (v : Int), t[j]? = some v → (layI m (some b) (some (b + (t.length : Int))) t)[B + j]? = some v := by
  rw [lay_at hb hl]
  have lt : (m.take B).length = B := by rw [List.length_take]; lia
  refine ⟨?_, fun j hj => ?_, fun j v e => ?_⟩
  · rw [List.length_append, List.length_append, lt, List.length_drop]; lia
  · rw [List.getElem?_append_left (by lia), List.getElem?_take, if_pos hj]
  · rw [List.getElem?_append_right (by lia), lt, Nat.add_sub_cancel_left, List.getElem?_append_left (List.getElem?_eq_some_iff.mp e).1]; exact e
theorem pick_back {m t : List Int} {B : Nat} {b e : Int} (hb : b = (B : Int)) (he : e = b + (t.length : Int)) (hl : B + t.length ≤ m.length) (h : ∀ (j : Nat) (v : Int), t[j]? = some v → m[B + j]? = some v) : pickI m (some b) (some e) = t := by
  subst he
  subst hb
  unfold pickI
  rw [loI_nat (Nat.le_trans (Nat.le_add_right _ _) hl), ← Int.natCast_add, hiI_nat hl, Nat.add_sub_cancel_left]
  refine List.ext_getElem? fun i => ?_
  rw [List.getElem?_take]
  by_cases q : i < t.length
  · rw [if_pos q, List.getElem?_drop, h i _ (List.getElem?_eq_getElem q), List.getElem?_eq_getElem q]
  · rw [if_neg q, List.getElem?_eq_none (by lia)]
theorem tab_len {k s : Int} {n : Nat} : (tabN k s n).length = n := (List.length_map ..).trans (upto_len n 0)
theorem tab_oct {k s : Int} {n : Nat} : ∀ x ∈ tabN k s n, ∃ v : Nat, v < 256 ∧ x = (v : Int) := fun x hx => by
  obtain ⟨y, _, rfl⟩ := List.mem_map.mp hx
  exact ⟨_, (fm_ok (k * y + s) (n := 256) (by decide)).2, (fm_ok (k * y + s) (n := 256) (by decide)).1.symm⟩
theorem flat_len {n : Nat} {l : List Int} : (flat n l).length = n * l.length := by
  show (List.replicate n l).flatten.length = _
  rw [List.length_flatten, List.map_replicate, List.sum_replicate_nat]
theorem flat2 {l : List Int} : flat 2 l = l ++ l := by show l ++ (l ++ []) = _; rw [List.append_nil]
section
variable {ro : List Int}
theorem mem7_len (h : ro.length = 64) : (mem7 ro).length = 1024 := by
  show (ro ++ flat 576 [0] ++ flat 2 ro.reverse ++ flat 256 [234]).length = _
  rw [List.length_append, List.length_append, List.length_append, flat_len, flat_len, flat_len, List.length_reverse, h]; rfl
theorem zero_at {j n : Nat} (h : j < n) : (flat n [0])[j]? = some 0 := by
  have hl : j < (flat n [(0 : Int)]).length := by rw [flat_len]; show j < n * 1; lia
  rw [List.getElem?_eq_getElem hl]
  obtain ⟨l, h1, h2⟩ := List.mem_flatten.mp (List.getElem_mem hl)
  obtain rfl := List.eq_of_mem_replicate h1
  exact congrArg some (List.mem_singleton.mp h2)
theorem mem7_lo (h : ro.length = 64) {i : Nat} (hi : i < 64) : (mem7 ro)[i]? = ro[i]? := by
  show (ro ++ flat 576 [0] ++ flat 2 ro.reverse ++ flat 256 [234])[i]? = _
  rw [List.append_assoc, List.append_assoc, List.getElem?_append_left (by lia)]
theorem mem7_z (h : ro.length = 64) {i : Nat} (h1 : 64 ≤ i) (h2 : i < 640) : (mem7 ro)[i]? = some 0 := by
  show (ro ++ flat 576 [0] ++ flat 2 ro.reverse ++ flat 256 [234])[i]? = _
  rw [List.append_assoc, List.append_assoc, List.getElem?_append_right (by lia), List.getElem?_append_left (by rw [flat_len]; show i - ro.length < 576 * 1; lia)]
  exact zero_at (by lia)
theorem mem7_hi (h : ro.length = 64) {i : Nat} (h1 : 640 ≤ i) (h2 : i < 768) : (mem7 ro)[i]? = (ro.reverse ++ ro.reverse)[i - 640]? := by
  show (ro ++ flat 576 [0] ++ flat 2 ro.reverse ++ flat 256 [234])[i]? = _
  have l : (ro ++ flat 576 [0]).length = 640 := by rw [List.length_append, flat_len, h]; rfl
  rw [List.append_assoc, List.getElem?_append_right (by omega), l, List.getElem?_append_left (by rw [flat_len, List.length_reverse, h]; omega), flat2]
theorem mem_two (h : ro.length = 64) (ho : ∀ x ∈ ro, ∃ v : Nat, v < 256 ∧ x = (v : Int)) {i : Nat} (hi : i < 64 ∨ (640 ≤ i ∧ i < 768)) : ∃ u v : Nat, u + v = 255 ∧ At (mem7 ro) i u ∧ At (mem7 (neg ro)) i v := by
  have hn : (neg ro).length = 64 := (List.length_map ..).trans h
  have one : ∀ (l : List Int) (j : Nat), (∀ x ∈ l, ∃ v : Nat, v < 256 ∧ x = (v : Int)) → j < l.length → ∃ u v : Nat, u + v = 255 ∧ l[j]? = some (u : Int) ∧ (neg l)[j]? = some (v : Int) := fun l j hl hj => by
    obtain ⟨u, h1, h2⟩ := hl l[j] (List.getElem_mem _)
    have e : l[j]? = some (u : Int) := (List.getElem?_eq_getElem hj).trans (congrArg some h2)
    refine ⟨u, 255 - u, by lia, e, ?_⟩
    show (l.map _)[j]? = _
    rw [List.getElem?_map, e]
    show some (255 - (u : Int)) = _
    exact congrArg some (by lia)
  rcases hi with hi | ⟨h1, h2⟩
  · obtain ⟨u, v, e, k1, k2⟩ := one ro i ho (by lia)
    exact ⟨u, v, e, (mem7_lo h hi).trans k1, (mem7_lo hn hi).trans k2⟩
  · obtain ⟨u, v, e, k1, k2⟩ := one (ro.reverse ++ ro.reverse) (i - 640) (fun x hx => by
      rcases List.mem_append.mp hx with hx | hx <;> exact ho x (List.mem_reverse.mp hx)) (by rw [List.length_append, List.length_reverse]; lia)
    refine ⟨u, v, e, (mem7_hi h h1 h2).trans k1, (mem7_hi hn h1 h2).trans ?_⟩
    rw [← k2]
    show ((ro.map _).reverse ++ (ro.map _).reverse)[i - 640]? = ((ro.reverse ++ ro.reverse).map _)[i - 640]?
    rw [List.map_append, List.map_reverse]
theorem rm_of {ne fa : List Int} (h : ro.length = 64) (ho : ∀ x ∈ ro, ∃ v : Nat, v < 256 ∧ x = (v : Int)) (h1 : ne.length ≤ 250) (h2 : fa.length ≤ 250) : RM ne fa 0 (layI (mem7 ro) (some 768) (some (768 + (ne.length : Int))) ne) (layI (mem7 (neg ro)) (some 768) (some (768 + (fa.length : Int))) fa) := by
  have hn : (neg ro).length = 64 := (List.length_map ..).trans h
  obtain ⟨a1, a2, a3⟩ := lay_facts (m := mem7 ro) (t := ne) (B := 768) (b := 768) rfl (by rw [mem7_len h]; lia)
  obtain ⟨b1, b2, b3⟩ := lay_facts (m := mem7 (neg ro)) (t := fa) (B := 768) (b := 768) rfl (by rw [mem7_len hn]; lia)
  refine ⟨a1.trans (mem7_len h), b1.trans (mem7_len hn), fun i hi => ?_, fun i k1 k2 => (a2 i (by lia)).trans (mem7_z h k1 (by lia)), a3, b3⟩
  have hi' : i < 64 ∨ (640 ≤ i ∧ i < 768) := by unfold Da at hi; lia
  obtain ⟨u, v, e, k1, k2⟩ := mem_two h ho hi'
  exact ⟨u, v, e, (a2 i (by lia)).trans k1, (b2 i (by lia)).trans k2⟩
end
theorem flags_of (s : Int) : ∃ f1 f2 : Fl, f1.p = pX s ∧ f2.p = Builtin.bitXor (pX s) 129 ∧ f2.n = !f1.n ∧ f2.c = !f1.c ∧ f2.v = f1.v ∧ f2.i = f1.i ∧ f1.d = false ∧ f2.d = false := by
  obtain ⟨i, ei⟩ : ∃ i : Fin 8, (s.fdiv 7).fmod 8 = (i.val : Int) := ⟨⟨_, (fm_ok (s.fdiv 7) (n := 8) (by decide)).2⟩, (fm_ok (s.fdiv 7) (n := 8) (by decide)).1.symm⟩
  obtain ⟨j, ej⟩ : ∃ j : Fin 4, (s.fdiv 11).fmod 4 = (j.val : Int) := ⟨⟨_, (fm_ok (s.fdiv 11) (n := 4) (by decide)).2⟩, (fm_ok (s.fdiv 11) (n := 4) (by decide)).1.symm⟩
  show ∃ f1 f2 : Fl, f1.p = 48 + (s.fdiv 7).fmod 8 + 64 * (s.fdiv 11).fmod 4 ∧ f2.p = Builtin.bitXor (48 + (s.fdiv 7).fmod 8 + 64 * (s.fdiv 11).fmod 4) 129 ∧ _
  rw [ei, ej]
  have all : ∀ (i : Fin 8) (j : Fin 4), Fl.p ⟨Nat.testBit j.val 1, Nat.testBit j.val 0, false, Nat.testBit i.val 2, Nat.testBit i.val 1, Nat.testBit i.val 0⟩ = 48 + (i.val : Int) + 64 * (j.val : Int) ∧ Fl.p ⟨!Nat.testBit j.val 1, Nat.testBit j.val 0, false, Nat.testBit i.val 2, Nat.testBit i.val 1, !Nat.testBit i.val 0⟩ = Builtin.bitXor (48 + (i.val : Int) + 64 * (j.val : Int)) 129 := by decide +kernel
  exact ⟨_, _, (all i j).1, (all i j).2, rfl, rfl, rfl, rfl, rfl, rfl⟩
theorem oct_of (i : Int) : ∃ a b : Nat, a + b = 255 ∧ i.fmod 256 = (a : Int) ∧ 255 - i.fmod 256 = (b : Int) := by
  have hh : ((i.fmod 256).toNat : Int) = i.fmod 256 ∧ (i.fmod 256).toNat < 256 := fm_ok i (n := 256) (by decide)
  obtain ⟨h1, h2⟩ := hh
  have l := Nat.le_of_lt_succ h2
  exact ⟨_, 255 - (i.fmod 256).toNat, Nat.add_sub_of_le l, h1.symm, by rw [Int.ofNat_sub l]; exact congrArg (255 - ·) h1.symm⟩
theorem c_one {s : Int} {a x y : Nat} {f : Fl} {m : List Int} (ha : s.fmod 256 = (a : Int)) (hx : (s.fdiv 3).fmod 256 = (x : Int)) (hy : (s.fdiv 5).fmod 256 = (y : Int)) : cOne s f.p m = (mkN ⟨255, a, x, y, f⟩ (768 + 0) m ⟨0, .inl false, 0, 768⟩).c := by
  show Cpu.mk 0 (.inl false) 0 768 768 255 (s.fmod 256) ((s.fdiv 3).fmod 256) ((s.fdiv 5).fmod 256) f.p m = _
  rw [ha, hx, hy]; rfl
theorem c_two {s : Int} {a x y : Nat} {f : Fl} {m : List Int} (ha : 255 - s.fmod 256 = (a : Int)) (hx : 255 - (s.fdiv 3).fmod 256 = (x : Int)) (hy : 255 - (s.fdiv 5).fmod 256 = (y : Int)) : cTwo s f.p m = (mkN ⟨255, a, x, y, f⟩ (768 + 0) m ⟨0, .inl false, 0, 768⟩).c := by
  show Cpu.mk 0 (.inl false) 0 768 768 255 (255 - s.fmod 256) (255 - (s.fdiv 3).fmod 256) (255 - (s.fdiv 5).fmod 256) f.p m = _
  rw [ha, hx, hy]; rfl
theorem in_upto {x : Int} : ∀ {n : Nat} {a : Int}, x ∈ upto a n → a ≤ x ∧ x < a + n
  | 0, _, h => absurd h List.not_mem_nil
  | n + 1, a, h => by
    rcases List.mem_cons.mp h with rfl | h
    · lia
    · have := in_upto h; lia
theorem bd_ok {i : Int} (h0 : 0 ≤ i) (h1 : i ≤ 100000) : bd i = true := by
  unfold bd
  rw [Bool.and_eq_true]
  exact ⟨decide_eq_true (Int.le_trans (by decide) h0), decide_eq_true (Int.le_trans h1 (by decide))⟩
end Mine.Internal
end
section
open PySem PySem.W PySem.Calls PyProof.Rows PySem.Builtin
namespace Mine.Internal
theorem body24 : dBody SL = [lb 0, lb 1, lb 2, lb 3, lb 4, lb 5, lb 6, lb 7, lb 8, lb 9, lb 10, lb 11, lb 12, lb 13, lb 14, lb 15, lb 16, lb 17, lb 18, lb 19, lb 20, lb 21, lb 22, lb 23] := by kernel_rfl
theorem build_inv : ∀ (r : List Int) (k : Int) (q : S7) (n : Nat), n + 11 * r.length ≤ 300 → (q.ne.length ≤ n ∧ q.fa.length ≤ n ∧ q.st.length ≤ n ∧ q.mr.length ≤ n ∧ KLe q.st q.ne.length ∧ KLe q.mr q.fa.length) →
    (build7 r k q).ne.length ≤ 300 ∧ (build7 r k q).fa.length ≤ 300 ∧ (build7 r k q).st.length ≤ 300 ∧ (build7 r k q).mr.length ≤ 300 ∧ KLe (build7 r k q).st (build7 r k q).ne.length ∧ KLe (build7 r k q).mr (build7 r k q).fa.length
  | [], k, q, n, h, ⟨h1, h2, h3, h4, h5⟩ => by
    have h : n ≤ 300 := h
    exact ⟨Nat.le_trans h1 h, Nat.le_trans h2 h, Nat.le_trans h3 h, Nat.le_trans h4 h, h5⟩
  | x :: r, k, q, n, h, hi => by
    rw [List.length_cons] at h
    have pl := plainW_len (K := (kd x q.d).toNat) (v := vX x k)
    have tl := turnW_len (K := (kd x q.d).toNat) (v := vX x k)
    exact build_inv r (k + 1) (next7 k x q) (n + 11) (by lia) (grow7_inv (k := k) (f := fd x q.d) (q := ⟨q.ne, q.fa, q.st, q.mr, dd (kd x q.d) q.d⟩) (by lia) hi pl.2 tl.2)
theorem build_len : ∀ (r : List Int) (k : Int) (q : S7) (n : Nat), n + 11 * r.length ≤ 300 → (q.ne.length ≤ n ∧ q.fa.length ≤ n ∧ q.st.length ≤ n ∧ q.mr.length ≤ n ∧ KLe q.st q.ne.length ∧ KLe q.mr q.fa.length) → (build7 r k q).ne.length ≤ n + 11 * r.length ∧ (build7 r k q).fa.length ≤ n + 11 * r.length
  | [], k, q, n, h, ⟨h1, h2, _⟩ => ⟨h1, h2⟩
  | x :: r, k, q, n, h, hi => by
    rw [List.length_cons] at h ⊢
    have pl := plainW_len (K := (kd x q.d).toNat) (v := vX x k)
    have tl := turnW_len (K := (kd x q.d).toNat) (v := vX x k)
    have := build_len r (k + 1) (next7 k x q) (n + 11) (by lia) (grow7_inv (k := k) (f := fd x q.d) (q := ⟨q.ne, q.fa, q.st, q.mr, dd (kd x q.d) q.d⟩) (by lia) hi pl.2 tl.2)
    exact ⟨Nat.le_trans this.1 (by lia), Nat.le_trans this.2 (by lia)⟩
theorem build_d : ∀ (r : List Int) (k : Int) (q : S7) (d : Nat), q.d = (d : Int) → ∃ D : Nat, (build7 r k q).d = (D : Int) ∧ D ≤ d + r.length
  | [], _, _, d, h => ⟨d, h, Nat.le_refl _⟩
  | x :: r, k, q, d, h => by
    have SD := step_dep x d
    rw [← h] at SD
    obtain ⟨d', e1, _, e3⟩ := SD
    obtain ⟨D, h1, h2⟩ := build_d r (k + 1) (next7 k x q) d' (grow7_d.trans e1)
    exact ⟨D, h1, by rw [List.length_cons]; lia⟩
section
variable {xs : List Int} {b : B7} {q : S7} {o : Option Prev} {D : Nat}
theorem run_back {W1 W2 : Vw} {M1 M2 : List Int} {O1 O2 : Oth} (R : RW D W1 W2) (M : RM q.ne q.fa D M1 M2) (hd : q.d = (D : Int)) (hD : D ≤ 20) (hl : q.ne.length ≤ 250) (h100 : q.st.lookup (768 + (q.ne.length : Int)) = some 100) :
    ∃ l H, T.run (bxs xs 99 [lb 21, lb 22, lb 23] (lV b q.d o []) (hM b q o (mkN W1 (768 + q.ne.length) M1 O1).c (mkN W2 (768 + q.fa.length) M2 O2).c [])) = some (.ret (.bool true), l, H) := by
  have e21 := L21 (xs := xs) (b := b) (q := q) (o := o) (c := (mkN W1 (768 + q.ne.length) M1 O1).c) (d := (mkN W2 (768 + q.fa.length) M2 O2).c) (by rw [pcI]; exact h100) (by show (W1.sp : Int) = _; rw [R.s1, hd]; lia)
  have e22 := L22 xs b q o (mkN W1 (768 + q.ne.length) M1 O1).c (mkN W2 (768 + q.fa.length) M2 O2).c
  have rng : (decide (0 ≤ 512 - q.d) && decide (512 - q.d ≤ 512) && decide ((512 : Int) ≤ 1000000)) = true := by
    rw [hd, Bool.and_eq_true, Bool.and_eq_true, decide_eq_true_iff, decide_eq_true_iff, decide_eq_true_iff]; lia
  rw [run_nd (z := T.run (.need (decide (0 ≤ 512 - q.d) && decide (512 - q.d ≤ 512) && decide ((512 : Int) ≤ 1000000)) (.need (decide ((upto 0 64 ++ upto 640 128).length + (upto (512 - q.d) (512 - (512 - q.d)).toNat).length ≤ 2 ^ 24))
    (f22 xs o ((pls q.d).length + 1) 0 (lV b q.d o []) (hM b q o (mkN W1 (768 + q.ne.length) M1 O1).c (mkN W2 (768 + q.fa.length) M2 O2).c (XP q.d)))))) rng rfl] at e22
  have ul : (upto 0 64 ++ upto 640 128).length + (upto (512 - q.d) (512 - (512 - q.d)).toNat).length ≤ 2 ^ 24 := by
    rw [List.length_append, upto_len, upto_len, upto_len, hd]; lia
  rw [run_nd (z := T.run (f22 xs o ((pls q.d).length + 1) 0 (lV b q.d o []) (hM b q o (mkN W1 (768 + q.ne.length) M1 O1).c (mkN W2 (768 + q.fa.length) M2 O2).c (XP q.d)))) rng (run_nd (decide_eq_true ul) rfl)] at e22
  have pp := places (xs := xs) (b := b) (q := q) (o := o) (c := (mkN W1 (768 + q.ne.length) M1 O1).c) (d := (mkN W2 (768 + q.fa.length) M2 O2).c) (pls q.d) [] none rfl fun p hp => by
    have hp' : ∃ i : Nat, p = (i : Int) ∧ Da D i := by
      rcases List.mem_append.mp hp with hp | hp
      · rcases List.mem_append.mp hp with hp | hp
        · have := in_upto hp
          exact ⟨p.toNat, by lia, by unfold Da; lia⟩
        · have := in_upto hp
          exact ⟨p.toNat, by lia, by unfold Da; lia⟩
      · have := in_upto hp
        rw [hd] at this
        exact ⟨p.toNat, by lia, by unfold Da; lia⟩
    obtain ⟨i, rfl, hi⟩ := hp'
    obtain ⟨u, v, e, k1, k2⟩ := M.dt i hi
    have i1 := (List.getElem?_eq_some_iff.mp k1).1
    have i2 := (List.getElem?_eq_some_iff.mp k2).1
    have x1 := M.l1; have x2 := M.l2
    refine ⟨?_, ?_, ?_⟩
    · exact okIx_nat i1 (Nat.le_trans (Nat.le_of_eq x1) (by decide))
    · exact okIx_nat i2 (Nat.le_trans (Nat.le_of_eq x2) (by decide))
    · show M1.getD ((i : Int)).toNat 0 + M2.getD ((i : Int)).toNat 0 = 255
      rw [getD_ok k1, getD_ok k2]; lia
  have e23 := L23 xs b q o (mkN W1 (768 + q.ne.length) M1 O1).c (mkN W2 (768 + q.fa.length) M2 O2).c
  have p1 : pickI (mkN W1 (768 + q.ne.length) M1 O1).c.mem (some 64) (some 256) = flat 192 [0] := pick_back (B := 64) rfl (by rw [flat_len]; rfl) (by rw [flat_len]; show _ ≤ M1.length; rw [M.l1]; decide) fun j v e => by
    have hj : j < 192 := by have := (List.getElem?_eq_some_iff.mp e).1; rw [flat_len] at this; exact this
    rw [zero_at hj] at e
    obtain rfl := some_eq e
    exact M.z (64 + j) (by lia) (by lia)
  have p2 : pickI (mkN W1 (768 + q.ne.length) M1 O1).c.mem (some 768) (some (768 + (q.ne.length : Int))) = q.ne := pick_back (B := 768) rfl rfl (by show _ ≤ M1.length; rw [M.l1]; lia) M.k1
  have lm : (mkN W1 (768 + q.ne.length) M1 O1).c.mem.length = 1024 := M.l1
  rw [p1, p2, lm] at e23
  refine ⟨lV b q.d o [], hM b q o (mkN W1 (768 + q.ne.length) M1 O1).c (mkN W2 (768 + q.fa.length) M2 O2).c (XR q (mkN W1 (768 + q.ne.length) M1 O1).c ++ ([.nums q.ne] : HP)), xs_next e21 (xs_next (e22.trans pp) (xs_ret (e23.trans ?_)))⟩
  refine run_nd (by decide) ?_
  refine (run_t (decide_eq_true (decide_eq_true rfl))).trans ?_
  refine run_nd (len_lt (by lia)) (run_nd (bd_ok (by lia) (by lia)) (run_nd (by decide) ?_))
  rw [decide_eq_true (show q.ne = q.ne from rfl)]
  rfl
noncomputable abbrev fin7 (q : S7) : S7 := note7 100 ⟨q.ne ++ [24], q.fa ++ [56], q.st, q.mr, q.d⟩
theorem run_b {zs ro ot A B : List Int} {s : Int} (M : RM q.ne q.fa 0 A B) (hd : q.d = (D : Int)) (hD : D ≤ 20) (hl : q.ne.length ≤ 250) (h100 : q.st.lookup (768 + (q.ne.length : Int)) = some 100) (W : ∀ w1 w2 m1 m2, RW 0 w1 w2 → RM q.ne q.fa 0 m1 m2 → EndV xs ⟨zs, ro, ot, A, B, s⟩ q o D 0 w1 0 m1 w2 0 m2) :
    ∃ l H, T.run (bxs xs 106 [lb 14, lb 15, lb 16, lb 17, lb 18, lb 19, lb 20, lb 21, lb 22, lb 23] (lU ⟨zs, ro, ot, A, B, s⟩ q.d o []) (hU ⟨zs, ro, ot, A, B, s⟩ q o X3)) = some (.ret (.bool true), l, H) := by
  have e14 := L14 xs ⟨zs, ro, ot, A, B, s⟩ q o
  have e15 := L15 xs ⟨zs, ro, ot, A, B, s⟩ q o
  have e16 := L16 xs ⟨zs, ro, ot, A, B, s⟩ q o
  have e17 := L17 xs ⟨zs, ro, ot, A, B, s⟩ q o
  have e18 := L18 xs ⟨zs, ro, ot, A, B, s⟩ q o
  have e19 := L19 xs ⟨zs, ro, ot, A, B, s⟩ q o
  obtain ⟨fl1, fl2, g1, g2, g3, g4, g5, g6, g7, g8⟩ := flags_of s
  obtain ⟨a, a', ha, ea, ea'⟩ := oct_of s
  obtain ⟨x, x', hx, ex, ex'⟩ := oct_of (s.fdiv 3)
  obtain ⟨y, y', hy, ey, ey'⟩ := oct_of (s.fdiv 5)
  have k1 : cOne s (pX s) A = (mkN ⟨255, a, x, y, fl1⟩ (768 + 0) A ⟨0, .inl false, 0, 768⟩).c := by rw [← g1]; exact c_one ea ex ey
  have k2 : cTwo s (Builtin.bitXor (pX s) 129) B = (mkN ⟨255, a', x', y', fl2⟩ (768 + 0) B ⟨0, .inl false, 0, 768⟩).c := by rw [← g2]; exact c_two ea' ex' ey'
  have e20 := L20 xs ⟨zs, ro, ot, A, B, s⟩ q o (mkN ⟨255, a, x, y, fl1⟩ (768 + 0) A ⟨0, .inl false, 0, 768⟩).c (mkN ⟨255, a', x', y', fl2⟩ (768 + 0) B ⟨0, .inl false, 0, 768⟩).c
  rw [k1] at e18
  rw [k1, k2] at e19
  obtain ⟨W1, W2, M1, M2, O1, O2, r1, r2, r3⟩ := W ⟨255, a, x, y, fl1⟩ ⟨255, a', x', y', fl2⟩ A B ⟨ha, hx, hy, rfl, rfl, g3, g4, g5, g6, g7, g8⟩ M ⟨0, .inl false, 0, 768⟩ ⟨0, .inl false, 0, 768⟩ none
  obtain ⟨l, H, r⟩ := run_back (xs := xs) (b := ⟨zs, ro, ot, A, B, s⟩) (o := o) (O1 := O1) (O2 := O2) r1 r2 hd hD hl h100
  exact ⟨l, H, xs_next e14 (xs_next e15 (xs_next e16 (xs_next e17 (xs_next e18 (xs_next e19 (xs_next (e20.trans r3) r))))))⟩
theorem lay_b {b : B7} (h1 : b.m1.length = 1024) (h2 : b.m2.length = 1024) (l1 : q.ne.length ≤ 300) (l2 : q.fa.length ≤ 300) {z : Option (AF × Loc × HP)} {r : List Stmt}
    (k : T.run (bxs xs 106 r (lU b q.d o []) (hU ⟨b.zs, b.ro, b.ot, layI b.m1 (some 768) (some (768 + (q.ne.length : Int))) q.ne, layI b.m2 (some 768) (some (768 + (q.fa.length : Int))) q.fa, b.s⟩ q o X3)) = z) : T.run (bxs xs 108 (lb 12 :: lb 13 :: r) (lU b q.d o []) (hU b q o X3)) = z := by
  have m : ∀ {n : Nat}, n ≤ 300 → 768 + (n : Int) ≤ 100000 := fun h => by lia
  have e12 := (L12 xs b q o).trans (run_nd (len_lt (Nat.le_trans l1 (by decide))) (run_nd (bd_ok (Int.natCast_nonneg (768 + q.ne.length)) (m l1)) (run_nd (decide_eq_true (by rw [h1]; exact Nat.le_trans (Nat.add_le_add_left l1 1024) (by decide))) rfl)))
  have e13 := (L13 xs ⟨b.zs, b.ro, b.ot, layI b.m1 (some 768) (some (768 + (q.ne.length : Int))) q.ne, b.m2, b.s⟩ q o).trans (run_nd (len_lt (Nat.le_trans l2 (by decide))) (run_nd (bd_ok (Int.natCast_nonneg (768 + q.fa.length)) (m l2)) (run_nd (decide_eq_true (by show b.m2.length + _ ≤ _; rw [h2]; exact Nat.le_trans (Nat.add_le_add_left l2 1024) (by decide))) rfl)))
  exact xs_next e12 (xs_next e13 k)
theorem run_mid {zs ro : List Int} {s : Int} (hr : ro.length = 64) (ho : ∀ x ∈ ro, ∃ v : Nat, v < 256 ∧ x = (v : Int)) (h1 : q.ne.length ≤ 240) (h2 : q.fa.length ≤ 240) (h3 : q.st.length ≤ 300) (h4 : q.mr.length ≤ 300) (h5 : KLe q.st q.ne.length) (h6 : KLe q.mr q.fa.length) (hd : q.d = (D : Int)) (hD : D ≤ 20)
    (W : ∀ w1 w2 m1 m2, RW 0 w1 w2 → RM (fin7 q).ne (fin7 q).fa 0 m1 m2 → EndV xs ⟨zs, ro, neg ro, layI (mem7 ro) (some 768) (some (768 + ((fin7 q).ne.length : Int))) (fin7 q).ne, layI (mem7 (neg ro)) (some 768) (some (768 + ((fin7 q).fa.length : Int))) (fin7 q).fa, s⟩ (fin7 q) o D 0 w1 0 m1 w2 0 m2) :
    ∃ l H, T.run (bxs xs 111 [lb 9, lb 10, lb 11, lb 12, lb 13, lb 14, lb 15, lb 16, lb 17, lb 18, lb 19, lb 20, lb 21, lb 22, lb 23] (lU ⟨zs, ro, neg ro, mem7 ro, mem7 (neg ro), s⟩ q.d o []) (hU ⟨zs, ro, neg ro, mem7 ro, mem7 (neg ro), s⟩ q o [])) = some (.ret (.bool true), l, H) := by
  have hn : (neg ro).length = 64 := (List.length_map ..).trans hr
  have l1 : (q.ne ++ [24]).length = q.ne.length + 1 := List.length_append
  have l2 : (q.fa ++ [56]).length = q.fa.length + 1 := List.length_append
  have b1 : (q.ne ++ [24]).length ≤ 250 := l1 ▸ Nat.le_trans (Nat.succ_le_succ h1) (by decide)
  have b2 : (q.fa ++ [56]).length ≤ 250 := l2 ▸ Nat.le_trans (Nat.succ_le_succ h2) (by decide)
  have e9 := (L9 xs ⟨zs, ro, neg ro, mem7 ro, mem7 (neg ro), s⟩ q o).trans (run_nd (decide_eq_true (Nat.le_trans (Nat.succ_le_succ h1) (by decide))) rfl)
  have e10 := (L10 xs ⟨zs, ro, neg ro, mem7 ro, mem7 (neg ro), s⟩ ⟨q.ne ++ [24], q.fa, q.st, q.mr, q.d⟩ o).trans (run_nd (decide_eq_true (Nat.le_trans (Nat.succ_le_succ h2) (by decide))) rfl)
  have e11 : T.run (lst xs 108 11 (lU ⟨zs, ro, neg ro, mem7 ro, mem7 (neg ro), s⟩ q.d o []) (hU ⟨zs, ro, neg ro, mem7 ro, mem7 (neg ro), s⟩ ⟨q.ne ++ [24], q.fa ++ [56], q.st, q.mr, q.d⟩ o [.nums [24], .nums [56]])) = some (nx (lU ⟨zs, ro, neg ro, mem7 ro, mem7 (neg ro), s⟩ q.d o []) (hU ⟨zs, ro, neg ro, mem7 ro, mem7 (neg ro), s⟩ (fin7 q) o X3)) := by
    refine (L11 xs _ ⟨q.ne ++ [24], q.fa ++ [56], q.st, q.mr, q.d⟩ o).trans (run_nd (len_lt (Nat.le_trans b1 (by decide))) (run_nd ?_ (run_nd (len_lt (Nat.le_trans b2 (by decide))) (run_nd ?_ rfl))))
    · show ((q.st.lookup (768 + ((q.ne ++ [24]).length : Int))).isNone && decide (q.st.length ≤ 1000)) = true
      rw [h5.none (l1 ▸ Nat.lt_succ_self _)]; exact decide_eq_true (Nat.le_trans h3 (by decide))
    · show ((q.mr.lookup (768 + ((q.fa ++ [56]).length : Int))).isNone && decide (q.mr.length ≤ 1000)) = true
      rw [h6.none (l2 ▸ Nat.lt_succ_self _)]; exact decide_eq_true (Nat.le_trans h4 (by decide))
  obtain ⟨l, H, r⟩ := run_b (xs := xs) (q := fin7 q) (o := o) (zs := zs) (ro := ro) (ot := neg ro) (s := s) (rm_of (ne := (fin7 q).ne) (fa := (fin7 q).fa) hr ho b1 b2) hd hD b1 look_hd W
  have c := lay_b (xs := xs) (q := fin7 q) (o := o) (b := ⟨zs, ro, neg ro, mem7 ro, mem7 (neg ro), s⟩) (mem7_len hr) (mem7_len hn) (Nat.le_trans b1 (by decide)) (Nat.le_trans b2 (by decide)) r
  exact ⟨l, H, xs_next e9 (xs_next e10 (xs_next e11 c))⟩
end
end Mine.Internal
end
section
open PySem PySem.W PySem.Calls PyProof.Rows PySem.Builtin
namespace Mine.Internal
theorem dr_len {xs : List Int} : (dr xs).length ≤ 10 := by
  show ((xs.drop 0).take (min 10 xs.length - 0)).length ≤ 10
  exact Nat.le_trans (List.length_take_le _ _) (Nat.min_le_left 10 _)
theorem needM_ok {α : Type} {ro : List Int} {t : T α} (h : ro.length = 64) : T.run (needM ro t) = T.run t := by
  have a : (flat 576 [(0 : Int)]).length = 576 := flat_len
  have c : (flat 2 ro.reverse).length = 128 := by rw [flat_len, List.length_reverse, h]
  have d : (flat 256 [(234 : Int)]).length = 256 := flat_len
  have e : (ro ++ flat 576 [(0 : Int)]).length = 640 := by rw [List.length_append, a, h]
  have f : (ro ++ flat 576 [(0 : Int)] ++ flat 2 ro.reverse).length = 768 := by rw [List.length_append, e, c]
  refine run_nd (decide_eq_true ?_) (run_nd (decide_eq_true ?_) (run_nd (decide_eq_true ?_) (run_nd (decide_eq_true ?_) (run_nd (decide_eq_true ?_) rfl))))
  · rw [a, h]; decide
  · rw [h]; decide
  · rw [List.length_reverse, h]; decide
  · rw [e, c]; decide
  · rw [f, d]; decide
theorem run07 (xs : List Int) (hx : xs.length ≤ 1048576) : ∃ l H, T.run ((fns (I7 xs) 120).xs 60 lsc (dBody SL) [("script", .lst 3)] []) = some (.ret (.bool true), l, H) := by
  have dl := dr_len (xs := xs)
  have e0 : T.run (lst xs 119 0 l0 []) = some (nx l1 [.nums (dr xs)]) := (L0 xs).trans (run_nd (decide_eq_true (by lia)) rfl)
  generalize dr xs = zs at *
  have e1 := L1 xs zs
  generalize zs.sum.fmod 65536 = s at *
  have e2 := L2 xs zs s
  have e3 := L3 xs zs s
  have tl : (tabN 23 s 64).length = 64 := tab_len
  have to := tab_oct (k := 23) (s := s) (n := 64)
  generalize tabN 23 s 64 = ro at *
  have hn : (neg ro).length = 64 := (List.length_map ..).trans tl
  have e4 := (L4 xs zs ro (neg ro) s).trans (needM_ok tl)
  have e5 := (L5 xs zs ro (neg ro) (mem7 ro) s).trans (needM_ok hn)
  have e6 := L6 xs zs ro (neg ro) (mem7 ro) (mem7 (neg ro)) s
  have e7 := L7 xs zs ro (neg ro) (mem7 ro) (mem7 (neg ro)) s
  have inv0 : (⟨[], [], [], [], 0⟩ : S7).ne.length ≤ 0 ∧ (⟨[], [], [], [], 0⟩ : S7).fa.length ≤ 0 ∧ (⟨[], [], [], [], 0⟩ : S7).st.length ≤ 0 ∧ (⟨[], [], [], [], 0⟩ : S7).mr.length ≤ 0 ∧ KLe (⟨[], [], [], [], 0⟩ : S7).st (⟨[], [], [], [], 0⟩ : S7).ne.length ∧ KLe (⟨[], [], [], [], 0⟩ : S7).mr (⟨[], [], [], [], 0⟩ : S7).fa.length :=
    ⟨Nat.le_refl _, Nat.le_refl _, Nat.le_refl _, Nat.le_refl _, fun _ h => absurd h List.not_mem_nil, fun _ h => absurd h List.not_mem_nil⟩
  obtain ⟨o', e8'⟩ := loop8 xs ⟨zs, ro, neg ro, mem7 ro, mem7 (neg ro), s⟩ zs [] none ⟨[], [], [], [], 0⟩ 0 rfl (by show zs.length ≤ 20; lia) (by lia) inv0
  have e8 : T.run (lst xs 111 8 (lD s 0 []) (h8 zs ro (neg ro) (mem7 ro) (mem7 (neg ro)) [] [] [] [] [])) = some (nx (lU ⟨zs, ro, neg ro, mem7 ro, mem7 (neg ro), s⟩ (build7 zs ((0 : Nat) : Int) ⟨[], [], [], [], 0⟩).d (o'.map (·.2)) []) (hU ⟨zs, ro, neg ro, mem7 ro, mem7 (neg ro), s⟩ (build7 zs ((0 : Nat) : Int) ⟨[], [], [], [], 0⟩) (o'.map (·.2)) [])) := by
    refine (L8 xs zs ro (neg ro) (mem7 ro) (mem7 (neg ro)) s).trans (run_nd (decide_eq_true (by lia)) (run_nd ?_ (run_opt (a := Itr.rng 0 zs.length) ?_ ?_)))
    · rw [Bool.and_eq_true, decide_eq_true_iff, decide_eq_true_iff]; lia
    · have : (decide ((0 : Int) ≤ 0) && decide (0 ≤ (zs.length : Int)) && decide ((zs.length : Int) ≤ 1000000)) = true := by
        rw [Bool.and_eq_true, Bool.and_eq_true, decide_eq_true_iff, decide_eq_true_iff, decide_eq_true_iff]; lia
      rw [this]; rfl
    · have ln : lenI (Itr.rng 0 (zs.length : Int)) (hT ⟨zs, ro, neg ro, mem7 ro, mem7 (neg ro), s⟩ ⟨[], [], [], [], 0⟩ []) = zs.length := by show ((zs.length : Int) - 0).toNat = _; lia
      rw [ln]
      refine e8'.trans ?_
      cases o' with
      | none => rfl
      | some z => rfl
  obtain ⟨D, d1, d2⟩ := build_d zs ((0 : Nat) : Int) ⟨[], [], [], [], 0⟩ 0 rfl
  have bi := build_inv zs ((0 : Nat) : Int) ⟨[], [], [], [], 0⟩ 0 (by lia) inv0
  have bl : (build7 zs ((0 : Nat) : Int) ⟨[], [], [], [], 0⟩).ne.length ≤ 110 ∧ (build7 zs ((0 : Nat) : Int) ⟨[], [], [], [], 0⟩).fa.length ≤ 110 := by
    have := build_len zs ((0 : Nat) : Int) ⟨[], [], [], [], 0⟩ 0 (by lia) inv0
    lia
  have W := fun (o : Option Prev) (b : B7) => walk7 (xs := xs) (b := b) (qf := fin7 (build7 zs ((0 : Nat) : Int) ⟨[], [], [], [], 0⟩)) (o := o) (D := D) zs 0 ⟨[], [], [], [], 0⟩ 0 0 0 rfl inv0 (by lia) (by lia) (by lia) (by lia)
    ⟨⟨[24], rfl⟩, ⟨[56], rfl⟩, ⟨[(768 + (((build7 zs ((0 : Nat) : Int) ⟨[], [], [], [], 0⟩).ne ++ [24]).length : Int), 100)], rfl, fun e h => by
      obtain rfl := List.mem_singleton.mp h
      have z : ((build7 zs ((0 : Nat) : Int) ⟨[], [], [], [], 0⟩).ne ++ [24]).length = (build7 zs ((0 : Nat) : Int) ⟨[], [], [], [], 0⟩).ne.length + 1 := List.length_append
      show 768 + ((build7 zs ((0 : Nat) : Int) ⟨[], [], [], [], 0⟩).ne.length : Int) < 768 + (((build7 zs ((0 : Nat) : Int) ⟨[], [], [], [], 0⟩).ne ++ [24]).length : Int)
      lia⟩, ⟨[(768 + (((build7 zs ((0 : Nat) : Int) ⟨[], [], [], [], 0⟩).fa ++ [56]).length : Int), 100)], rfl, fun e h => by
      obtain rfl := List.mem_singleton.mp h
      have z : ((build7 zs ((0 : Nat) : Int) ⟨[], [], [], [], 0⟩).fa ++ [56]).length = (build7 zs ((0 : Nat) : Int) ⟨[], [], [], [], 0⟩).fa.length + 1 := List.length_append
      show 768 + ((build7 zs ((0 : Nat) : Int) ⟨[], [], [], [], 0⟩).fa.length : Int) < 768 + (((build7 zs ((0 : Nat) : Int) ⟨[], [], [], [], 0⟩).fa ++ [56]).length : Int)
      lia⟩⟩ d1
    (fun kt' hk w1 w2 m1 m2 R M => last7 (q := build7 zs ((0 : Nat) : Int) ⟨[], [], [], [], 0⟩) rfl (by lia) (by lia) (by lia) R M)
  obtain ⟨l, H, r⟩ := run_mid (xs := xs) (q := build7 zs ((0 : Nat) : Int) ⟨[], [], [], [], 0⟩) (o := o'.map (·.2)) (D := D) (zs := zs) (s := s) tl to (by lia) (by lia) bi.2.2.1 bi.2.2.2.1 bi.2.2.2.2.1 bi.2.2.2.2.2 d1 (by lia) (W _ _)
  rw [body24]
  exact ⟨l, H, xs_next e0 (xs_next e1 (xs_next e2 (xs_next e3 (xs_next e4 (xs_next e5 (xs_next e6 (xs_next e7 (xs_next e8 r))))))))⟩
theorem theLaw : PySem.Challenge.rw_lq0010_07.Holds :=
  law01 (duty_of (Y := Y7) (cn := "seed") (N := 120) chk01 (fun h mg Pl x d hd => x.1 d (by
    rw [List.mem_singleton.mp hd]; exact List.mem_cons_self)) (fun h mg Pl x => x.1 _ (List.mem_cons_of_mem _ List.mem_cons_self)) (fun h mg Pl C φ ψ tb a x hg ht => xt_of c16 c17 x.2 hg ht) lawOk run07)
end Mine.Internal
end
theorem PySem.Challenge.cw_lq0010_07_holds : PySem.Challenge.rw_lq0010_07.Holds :=
  Mine.Internal.theLaw
