import PyProof.Rows.All
import PyProof.EvalArms
import KE.BitLaws
import KE.KBits
import KE.KxMul
import KE.KSliceW
import KE.KSuperObj
import Wide.FinOn
import OpenK.AllK
import Wide.All
import PySem.Challenge.RW_lq0010_01
set_option Elab.async false
set_option maxRecDepth 100000
set_option genInjectivity false
set_option genSizeOf false
set_option genSizeOfSpec false
section
open PySem PySem.W PySem.Calls PyProof.Rows
namespace Mine
inductive LIt where
  | int (i : Int) | fn (k : Nat)
theorem pre_get {ρ ρ' : List Addr} (p : ρ <+: ρ') {i : Nat} {a : Addr} (h : ρ[i]? = some a) : ρ'[i]? = some a := by
  obtain ⟨t, rfl⟩ := p
  rw [List.getElem?_append_left (List.getElem?_eq_some_iff.mp h).1]; exact h
theorem isStr_str {s n : Str} {t : Tok} : (Value.str s t).isStr n = decide (s = n) := rfl
end Mine
end
section
open PySem PySem.W PySem.Calls PyProof.Rows
namespace Mine
noncomputable def NsD (h : Heap) (a : Addr) (m : Str → Option Value) : Prop :=
  ∃ es n, h.get? a = some { cls := .type "dict", data := .dict es n } ∧ StrKeys es ∧ UniqKeys es ∧ ∀ x, nsFind es x = m x
theorem NsD.ns1 {h : Heap} {a : Addr} {m} (x : NsD h a m) : h.Ns1 a m := let ⟨es, n, e, k, u, f⟩ := x; ⟨_, es, n, e, rfl, k, u, f⟩
theorem NsD.at {h h' : Heap} {a : Addr} {m} (x : NsD h a m) (k : ∀ o, h.get? a = some o → h'.get? a = some o) : NsD h' a m := let ⟨es, n, e, r⟩ := x; ⟨es, n, k _ e, r⟩
section
variable {M : Model} {A : Around} {E : Value → Shared → Prop} {s : Shared}
theorem nsSet_D {a : Addr} {m : Str → Option Value} {name : Str} {v : Value} {Q : Unit → Shared → Prop} (hn : NsD s.heap a m)
    (hQ : ∀ h', NsD h' a (fun x => if x = name then some v else m x) → Heap.SameBut a s.heap h' → Q () { s with heap := h', toks := s.toks + 1 }) : wpAny M A (nsSet a name v) Q E s := by
  obtain ⟨es, n, ho, hk, hu, hm⟩ := id hn
  have hany : es.any (·.refKey) = false := by
    rw [Array.any_eq_false']; intro e he; obtain ⟨n, t, h⟩ := hk e he; simp [DictEntry.refKey, h]
  unfold nsSet strHash
  refine wpAny_bind (wpAny_bind (wpAny_askSetting (wpAny_pure (wpAny_bind (wpAny_mkText (wpAny_bind (wpAny_loadPart (s := { s with toks := s.toks + 1 }) ho ?_)))))))
  dsimp only
  rw [aRefKeyMayBeTheName_eq]
  unfold aRefKeyMayBeTheNameByArray
  rw [hany, Bool.and_false]
  simp only [Bool.false_eq_true, if_false]
  refine wpAny_updatePart (s := { s with toks := s.toks + 1 }) ho (hQ _ ?_ (Heap.SameBut.update ..))
  cases hi : es.findIdx? (·.key.isStr name) with
  | some i =>
    refine ⟨_, n, (Heap.get?_update_self _ ho (by simp only [Obj.putName_eq, Obj.putNameByArray, hi]; rfl)).trans (by simp only [Obj.putName_eq, Obj.putNameByArray, hi]), hk.modify i v, hu.modify i v, fun x => ?_⟩
    show _ = if x = name then some v else m x
    rw [← hm]; exact findBy_modify (fun n v => v.isStr n) Value.isStr_inj es name x v i hi
  | none =>
    refine ⟨_, n + 1, (Heap.get?_update_self _ ho (by simp only [Obj.putName_eq, Obj.putNameByArray, hi]; rfl)).trans (by simp only [Obj.putName_eq, Obj.putNameByArray, hi]; rfl), hk.push _ _ _ _, hu.push _ _ _ _ hi, fun x => ?_⟩
    show _ = if x = name then some v else m x
    rw [← hm]
    exact findBy_push (fun n v => v.isStr n) es name x _ _ v (fun y => by
      show (name == y) = decide (y = name)
      by_cases h : y = name
      · subst h; simp
      · have : ¬ name = y := fun e => h e.symm
        simp [h, this]) hi
noncomputable abbrev clsEnv (sc : Scope) (nsA : Addr) (q : Str) (c fr : Addr) : Env := { scope := sc, locals := nsA, globals := mainGlobals, cells := [], qual := q, code := .ref c, frame := some fr, builtins := builtinsNs }
variable {sc : Scope} {nsA c fr : Addr} {q : Str} {mc : Str → Option Value}
theorem clsSet {x : Str} {v : Value} {Q : Unit → Shared → Prop} (hn : NsD s.heap nsA mc)
    (hQ : ∀ h', NsD h' nsA (fun y => if y = x then some v else mc y) → Heap.SameBut nsA s.heap h' → Q () { s with heap := h', toks := s.toks + 1 }) : wpAny M A (localSet (clsEnv sc nsA q c fr) x v) Q E s := by
  obtain ⟨es, n, ho, r⟩ := id hn
  unfold localSet
  refine wpAny_bind (wpAny_load ho ?_)
  simp only [beq_self_eq_true, if_true]
  exact nsSet_D hn hQ
theorem clsStore {x : Str} {v : Value} {Q : Unit → Shared → Prop} (hk : sc.kind = .class) (hl : sc.names.lookup x = some .local ∨ (sc.names.lookup x = none ∧ compilersOwnNames.contains x = true)) (hn : NsD s.heap nsA mc)
    (hQ : ∀ h', NsD h' nsA (fun y => if y = x then some v else mc y) → Heap.SameBut nsA s.heap h' → Q () { s with heap := h', toks := s.toks + 1 }) : wpAny M A (storeName (clsEnv sc nsA q c fr) x v) Q E s := by
  unfold storeName Env.kindOf Env.blockKind
  rcases hl with hl | ⟨hl, hc⟩
  · simp only [hl, hk]
    exact clsSet hn hQ
  · simp only [hl, hk, hc]
    exact clsSet hn hQ
theorem clsLoad {x : Str} {v : Value} {Q : Value → Shared → Prop} (hk : sc.kind = .class) (hl : sc.names.lookup x = some .local) (hn : NsD s.heap nsA mc) (e : mc x = some v) (h : Q v s) : wpAny M A (loadName (clsEnv sc nsA q c fr) x) Q E s := by
  obtain ⟨es, n, ho, r⟩ := id hn
  have key : wpAny M A (localGet (clsEnv sc nsA q c fr) x) (fun r s' => r = some v ∧ s' = s) E s := by
    unfold localGet
    refine wpAny_bind (wpAny_load ho ?_)
    simp only [beq_self_eq_true, if_true]
    exact wpAny_nsGet hn.ns1.ns ⟨e, rfl⟩
  unfold loadName Env.kindOf Env.blockKind
  simp only [hk, hl, ScopeKind.isAnnotationScope, Bool.false_and, Bool.false_eq_true, if_false]
  refine wpAny_bind (wpAny_mono key (fun r s' z => ?_) fun _ _ z => z)
  obtain ⟨rfl, rfl⟩ := z
  exact wpAny_pure h
structure CS (h : Heap) (mg : Str → Option Value) (nsA c Pl : Addr) (ps : Array Value) (mc : Str → Option Value) : Prop where
  g : h.Ns mainGlobals mg
  code : h.IsCode c Pl ps
  bmod : h.BuiltinsAt mg Pl
  ns : NsD h nsA mc
  gP : mainGlobals ≠ Pl
  gN : mainGlobals ≠ nsA
  nP : nsA ≠ Pl
theorem CS.cN {h : Heap} {mg} {nsA c Pl : Addr} {ps mc} (x : CS h mg nsA c Pl ps mc) : c ≠ nsA := by
  obtain ⟨o, vs, _, _, _, _, _, _, _, _, ho, hd, _⟩ := x.code
  obtain ⟨es, n, he, _⟩ := x.ns
  rintro rfl
  rw [ho] at he; cases he; cases hd
noncomputable def Keep (Pl nsA : Addr) (h h' : Heap) : Prop := ∀ b o, b ≠ Pl → b ≠ nsA → h.get? b = some o → h'.get? b = some o
theorem Keep.trans {Pl nsA : Addr} {a b c : Heap} (x : Keep Pl nsA a b) (y : Keep Pl nsA b c) : Keep Pl nsA a c := fun d o h1 h2 e => y d o h1 h2 (x d o h1 h2 e)
theorem Keep.refl {Pl nsA : Addr} {a : Heap} : Keep Pl nsA a a := fun _ _ _ _ e => e
theorem CS.ext {h h' : Heap} {mg} {nsA c Pl : Addr} {ps ps' mc} (x : CS h mg nsA c Pl ps mc) (hx : Heap.ExtBut Pl h h') (hok : h'.IsCode c Pl ps') : CS h' mg nsA c Pl ps' mc := by
  obtain ⟨bm, o, hbm, hne0, hneG, hneP, hbo, hr⟩ := x.bmod
  exact ⟨x.g.extBut hx x.gP, hok, ⟨bm, o, hbm, hne0, hneG, hneP, hx _ _ hneP hbo, hr⟩, x.ns.at fun o e => hx _ _ x.nP e, x.gP, x.gN, x.nP⟩
theorem CS.keeps {h h' : Heap} {mg} {nsA c Pl : Addr} {ps mc} (x : CS h mg nsA c Pl ps mc) (hk : ∀ b o, h.get? b = some o → h'.get? b = some o) : CS h' mg nsA c Pl ps mc :=
  ⟨x.g.keeps hk, x.code.keeps hk, x.bmod.keeps hk, x.ns.at fun _ e => hk _ _ e, x.gP, x.gN, x.nP⟩
theorem CS.set {h h' : Heap} {mg} {nsA c Pl : Addr} {ps mc mc'} (x : CS h mg nsA c Pl ps mc) (hn : NsD h' nsA mc') (hs : Heap.SameBut nsA h h') : CS h' mg nsA c Pl ps mc' := by
  have cn := x.cN
  obtain ⟨bm, o, hbm, hne0, hneG, hneP, hbo, hc, hr⟩ := x.bmod
  have hbN : bm ≠ nsA := by
    obtain ⟨es, n, he, _⟩ := x.ns
    rintro rfl; rw [hbo] at he; cases he; exact absurd (show Value.type "dict" = Value.type "module" from hc) (by decide)
  exact ⟨x.g.sameBut hs x.gN, x.code.sameBut hs cn (Ne.symm x.nP), ⟨bm, o, hbm, hne0, hneG, hneP, (hs.2 _ hbN).trans hbo, hc, hr⟩, hn, x.gP, x.gN, x.nP⟩
noncomputable def FnAt (B : Nat) (h : Heap) (a : Addr) (name qual : Str) (params : Arguments) (body : List Stmt) (scope : Scope) (dV : Value) : Prop :=
  ∃ pm c' doc, B ≤ a ∧ B ≤ c' ∧ h.get? a = some { cls := .type "function", data := .func (defFd name qual params body scope mainGlobals dV .none none pm (.ref c') doc) } ∧ h.CodeRec (.ref c') qual
theorem FnAt.keep {B : Nat} {h h' : Heap} {a : Addr} {name qual : Str} {params body scope dV} (x : FnAt B h a name qual params body scope dV) (hk : ∀ b o, B ≤ b → h.get? b = some o → h'.get? b = some o) : FnAt B h' a name qual params body scope dV :=
  let ⟨pm, c', doc, b1, b2, e, r⟩ := x; ⟨pm, c', doc, b1, b2, hk _ _ b1 e, r.at fun _ e => hk _ _ b2 e⟩
theorem clsDef {name : Str} {params : Arguments} {body : List Stmt} {scope : Scope} {pos : Pos} {mg : Str → Option Value} {Pl : Addr} {ps : Array Value} {Q : Flow → Shared → Prop}
    (hk : sc.kind = .class) (hkw : params.kwonlyargs = []) (hkd : params.kw_defaults = []) (hconst : ∀ e ∈ params.defaults, e.isPlainConst = true) (hann : annTrees params none (clsEnv sc nsA q c fr) = [])
    (hfree : ∀ x ∈ scope.names, x.2 ≠ .free) (hloc : sc.names.lookup name = some .local) (hm : CS s.heap mg nsA c Pl ps mc) (hnf : codeAmong pos ps.toList = none)
    (h : ∀ a c' dV vs h' tk, CS h' mg nsA c Pl (ps ++ #[rawInt pos.line, rawInt pos.col, .ref c']) (fun x => if x = name then some (.ref a) else mc x) → Keep Pl nsA s.heap h' → s.heap.objs.size ≤ a →
      FnAt s.heap.objs.size h' a name (q ++ name) params body scope dV → ConstVals params.defaults vs → h'.DefaultsAt s.heap.objs.size vs dV → Q .next { s with heap := h', toks := tk }) :
    wpAny M A (exec (.FunctionDef name params body [] none [] scope none name pos) (clsEnv sc nsA q c fr)) Q E s := by
  have hq' : qualnameIn (clsEnv sc nsA q c fr) name name = q ++ name := by
    unfold qualnameIn Env.kindOf
    rw [hloc]; rfl
  rw [exec_def, hq', defaultsOf_eq, hkd, hann]
  refine wpAny_bind (wpAny_standAt (wpAny_bind (wpAny_holding ?_)))
  refine wpAny_bind (wpAny_evalAll_consts _ _ _ hconst fun vs tk₁ hvs => ?_)
  refine wpAny_bind (wpAny_holding (wpAny_pure ?_))
  refine wpAny_holding ?_
  refine wpAny_bind (wpAny_pure ?_)
  refine wpAny_makeFunction_d0N (s := { s with toks := tk₁ }) (env := clsEnv sc nsA q c fr) (c := c) (Pl := Pl) hkw hfree hm.g rfl hm.code hnf hm.gP hm.bmod
    fun dV c' doc h₂ tk₃ hdef hx hge hlt hok hrec htb => wpAny_bind (wpAny_standAt (wpAny_bind (wpAny_bindName (clsStore hk (.inl hloc) (mc := mc) ?_ (fun h' hn' hs' => wpAny_pure ?_)))))
  · exact (((hm.ext hx hok).keeps fun b o e => Heap.get?_push_of_some _ e).ns)
  dsimp only at hn' hs' hdef hge hx htb ⊢
  have hsz : s.heap.objs.size ≤ h₂.objs.size := Nat.le_trans hge (Nat.le_of_lt hlt)
  have nlt : nsA < s.heap.objs.size := by obtain ⟨es, n, he, _⟩ := hm.ns; exact Heap.lt_size he
  have X2 := (hm.ext hx hok).keeps fun b o e => Heap.get?_push_of_some { cls := .type "function", data := .func (defFd name (q ++ name) params body scope mainGlobals dV .none none ((mg "__name__").getD .none) (.ref c') doc) } e
  refine h h₂.objs.size c' dV vs h' _ (X2.set hn' hs') (fun b o h1 h2 e => (hs'.2 _ h2).trans (Heap.get?_push_of_some _ (hx _ _ h1 e))) hsz ⟨_, c', doc, hsz, hge, (hs'.2 _ (Nat.ne_of_gt (Nat.lt_of_lt_of_le nlt hsz))).trans (Heap.get?_push_size _ rfl), ?_⟩ hvs ?_
  · obtain ⟨c₂, o₂, vs₂, t₂, e₂, g₂, r₂⟩ := hrec
    exact ⟨c₂, o₂, vs₂, t₂, e₂, (hs'.2 _ (by cases e₂; exact Nat.ne_of_gt (Nat.lt_of_lt_of_le nlt hge))).trans (Heap.get?_push_of_some _ g₂), r₂⟩
  · rcases hdef with hd | ⟨hne, T, e, hT, hg⟩
    · exact Or.inl hd
    · exact Or.inr ⟨hne, T, e, hT, (hs'.2 _ (Nat.ne_of_gt (Nat.lt_of_lt_of_le nlt hT))).trans (Heap.get?_push_of_some _ hg)⟩
end
end Mine
end
section
open PySem PySem.W PySem.Calls PyProof.Rows
namespace Mine
inductive CV where
  | int (i : Int) | str (s : Str) | fn (k : Nat) | lst (k : Nat)
structure FnI where
  name : Str
  params : Arguments
  body : List Stmt
  scope : Scope
structure CSt where
  tab : List (Str × CV)
  fns : List FnI
  lsts : List (List LIt)
  places : List (Nat × Nat)
noncomputable def noAnn (p : Arguments) : Bool := match p with
  | ⟨[], as, none, [], [], none, _⟩ => as.all (·.annotation.isNone)
  | _ => false
noncomputable def itemsOf (sc : Scope) (tab : List (Str × CV)) : List Expr → Option (List LIt)
  | [] => some []
  | .Constant (.int i) _ _ :: r => (itemsOf sc tab r).map (.int i :: ·)
  | .Name x _ :: r => (match sc.names.lookup x == some .local && !(x == ("__debug__" : Str)), tab.lookup x with
    | true, some (.fn k) => (itemsOf sc tab r).map (.fn k :: ·)
    | _, _ => none)
  | _ => none
noncomputable def clsStep (sc : Scope) (s : Stmt) (st : CSt) : Option CSt := match s with
  | .FunctionDef name params body decs ret tps scope ts bind pos =>
    (match (decs.isEmpty && ret.isNone && tps.isEmpty && ts.isNone) && (bind == name && noAnn params && params.defaults.all (·.isPlainConst) && scope.names.all (fun x => x.2 != .free) && sc.names.lookup name == some .local && !st.places.contains (pos.line, pos.col)) with
    | true => some { tab := (name, .fn st.fns.length) :: st.tab, fns := st.fns ++ [⟨name, params, body, scope⟩], lsts := st.lsts, places := (pos.line, pos.col) :: st.places }
    | false => none)
  | .Assign [.Name x _] v _ => (match sc.names.lookup x == some .local with
    | true => (match v with
      | .Constant (.int i) _ _ => some { st with tab := (x, .int i) :: st.tab }
      | .Constant (.str t) _ _ => some { st with tab := (x, .str t) :: st.tab }
      | .List elts _ => (match itemsOf sc st.tab elts with
        | some its => (match decide (its.length ≤ 1000) with
          | true => some { st with tab := (x, .lst st.lsts.length) :: st.tab, lsts := st.lsts ++ [its] }
          | false => none)
        | none => none)
      | _ => none)
    | false => none)
  | _ => none
noncomputable def clsRun (sc : Scope) : List Stmt → CSt → Option CSt
  | [], st => some st
  | s :: r, st => match clsStep sc s st with
    | some st' => clsRun sc r st'
    | none => none
noncomputable def RepCV (φ ψ : List Addr) (v : Value) : CV → Prop
  | .int i => ∃ t, v = .int i t
  | .str s => ∃ t, v = .str s t
  | .fn k => ∃ a, φ[k]? = some a ∧ v = .ref a
  | .lst k => ∃ a, ψ[k]? = some a ∧ v = .ref a
theorem RepCV.mono {φ ψ φ' ψ' : List Addr} (p : φ <+: φ') (q : ψ <+: ψ') {v : Value} {x : CV} (h : RepCV φ ψ v x) : RepCV φ' ψ' v x := by
  cases x with
  | int i => exact h
  | str s => exact h
  | fn k => exact (let ⟨a, e, r⟩ := h; ⟨a, pre_get p e, r⟩)
  | lst k => exact (let ⟨a, e, r⟩ := h; ⟨a, pre_get q e, r⟩)
noncomputable def RepI (φ : List Addr) (v : Value) : LIt → Prop
  | .int i => ∃ t, v = .int i t
  | .fn k => ∃ a, φ[k]? = some a ∧ v = .ref a
noncomputable def RepIL (φ : List Addr) : List Value → List LIt → Prop
  | [], [] => True
  | v :: vs, x :: xs => RepI φ v x ∧ RepIL φ vs xs
  | _, _ => False
theorem RepI.mono {φ φ' : List Addr} (p : φ <+: φ') {v : Value} {x : LIt} (h : RepI φ v x) : RepI φ' v x := by
  cases x with
  | int i => exact h
  | fn k => exact (let ⟨a, e, r⟩ := h; ⟨a, pre_get p e, r⟩)
theorem RepIL.mono {φ φ' : List Addr} (p : φ <+: φ') : ∀ {vs : List Value} {xs : List LIt}, RepIL φ vs xs → RepIL φ' vs xs
  | [], [], h => h
  | _ :: _, _ :: _, h => ⟨h.1.mono p, h.2.mono p⟩
  | [], _ :: _, h => h.elim
  | _ :: _, [], h => h.elim
theorem RepIL.length {φ : List Addr} : ∀ {vs : List Value} {xs : List LIt}, RepIL φ vs xs → vs.length = xs.length
  | [], [], _ => rfl
  | _ :: _, _ :: _, h => congrArg (· + 1) h.2.length
  | [], _ :: _, h => h.elim
  | _ :: _, [], h => h.elim
noncomputable def Places : List Value → List (Nat × Nat) → Prop
  | [], [] => True
  | .int a _ :: .int b _ :: _ :: r, p :: ps => a = (p.1 : Int) ∧ b = (p.2 : Int) ∧ Places r ps
  | _, _ => False
theorem Places.none {pos : Pos} : ∀ {l : List Value} {ps : List (Nat × Nat)}, Places l ps → (pos.line, pos.col) ∉ ps → codeAmong pos l = none
  | [], [], _, _ => rfl
  | .int a t :: .int b u :: v :: r, p :: ps, h, n => by
    obtain ⟨rfl, rfl, h⟩ := h
    have n1 : ¬ (((p.1 : Int) == (pos.line : Int) && (p.2 : Int) == (pos.col : Int)) = true) := by
      intro e
      simp only [Bool.and_eq_true, beq_iff_eq] at e
      refine n (List.mem_cons.mpr (.inl ?_))
      obtain ⟨x, y⟩ := p
      simp only at e
      have e1 : x = pos.line := by lia
      have e2 : y = pos.col := by lia
      rw [e1, e2]
    unfold codeAmong
    rw [if_neg n1]
    exact h.none fun q => n (List.mem_cons_of_mem _ q)
theorem Places.snoc {v : Value} {q : Nat × Nat} : ∀ {l : List Value} {ps : List (Nat × Nat)}, Places l ps → Places (l ++ [rawInt q.1, rawInt q.2, v]) (ps ++ [q])
  | [], [], _ => ⟨rfl, rfl, trivial⟩
  | .int a t :: .int b u :: w :: r, p :: ps, h => by
    obtain ⟨h1, h2, h⟩ := h
    exact ⟨h1, h2, h.snoc⟩
structure Sm (B : Nat) (q : Str) (h : Heap) (st : CSt) (φ ψ : List Addr) (mc : Str → Option Value) (ps : Array Value) : Prop where
  tab : ∀ x, match st.tab.lookup x with | some cv => ∃ v, mc x = some v ∧ RepCV φ ψ v cv | none => mc x = none
  flen : φ.length = st.fns.length
  fn : ∀ (k : Nat) (a : Addr) (fi : FnI), φ[k]? = some a → st.fns[k]? = some fi → ∃ dV vs, FnAt B h a fi.name (q ++ fi.name) fi.params fi.body fi.scope dV ∧ ConstVals fi.params.defaults vs ∧ h.DefaultsAt B vs dV
  llen : ψ.length = st.lsts.length
  lst : ∀ (k : Nat) (a : Addr) (its : List LIt), ψ[k]? = some a → st.lsts[k]? = some its → ∃ vs, B ≤ a ∧ h.get? a = some { cls := .type "list", data := .seq (List.toArray vs) } ∧ RepIL φ vs its
  pl : ∃ pp, Places ps.toList pp ∧ ∀ x, x ∈ pp ↔ x ∈ st.places
theorem lookup_cons_cv {x : Str} {f : Str × CV} {fs : List (Str × CV)} : (f :: fs).lookup x = if f.1 = x then some f.2 else fs.lookup x := by
  rw [List.lookup_cons]
  by_cases h : f.1 = x
  · subst h; simp
  · have : (x == f.1) = false := beq_eq_false_iff_ne.mpr (Ne.symm h)
    simp [this, h]
theorem tab_set {φ ψ φ' ψ' : List Addr} {tab : List (Str × CV)} {mc : Str → Option Value} {x : Str} {v : Value} {cv : CV} (p : φ <+: φ') (q : ψ <+: ψ') (r : RepCV φ' ψ' v cv)
    (h : ∀ x, match tab.lookup x with | some cv => ∃ v, mc x = some v ∧ RepCV φ ψ v cv | none => mc x = none) :
    ∀ y, match ((x, cv) :: tab).lookup y with | some cv => ∃ u, (if y = x then some v else mc y) = some u ∧ RepCV φ' ψ' u cv | none => (if y = x then some v else mc y) = none := by
  intro y
  rw [lookup_cons_cv]
  by_cases e : x = y
  · subst e; simp only [if_true]; exact ⟨v, rfl, r⟩
  · simp only [e, if_false, Ne.symm e]
    have := h y
    cases hy : tab.lookup y with
    | none => rw [hy] at this; exact this
    | some cv' => rw [hy] at this; obtain ⟨u, e1, e2⟩ := this; exact ⟨u, e1, e2.mono p q⟩
theorem Sm.keep {B : Nat} {q : Str} {h h' : Heap} {st : CSt} {φ ψ : List Addr} {mc : Str → Option Value} {ps : Array Value} (S : Sm B q h st φ ψ mc ps) (hk : ∀ b o, B ≤ b → h.get? b = some o → h'.get? b = some o) : Sm B q h' st φ ψ mc ps :=
  ⟨S.tab, S.flen, fun k a fi e1 e2 => let ⟨dV, vs, x, y, z⟩ := S.fn k a fi e1 e2; ⟨dV, vs, x.keep hk, y, z.imp id fun ⟨n, T, e, b, g⟩ => ⟨n, T, e, b, hk _ _ b g⟩⟩, S.llen,
    fun k a its e1 e2 => let ⟨vs, b, g, r⟩ := S.lst k a its e1 e2; ⟨vs, b, hk _ _ b g, r⟩, S.pl⟩
section
variable {M : Model} {A : Around} {E : Value → Shared → Prop} {s : Shared} {sc : Scope} {nsA c fr Pl : Addr} {q : Str} {mc mg : Str → Option Value} {ps : Array Value} {B : Nat} {st st' : CSt} {φ ψ : List Addr}
theorem items_ok {pos : Pos} (hk : sc.kind = .class) : ∀ {elts : List Expr} {its : List LIt} {s : Shared} {Q : List Value → Shared → Prop}, itemsOf sc st.tab elts = some its → NsD s.heap nsA mc →
    (∀ x, match st.tab.lookup x with | some cv => ∃ v, mc x = some v ∧ RepCV φ ψ v cv | none => mc x = none) → (∀ vs tk, RepIL φ vs its → Q vs { s with toks := tk }) →
    wpAny M A (spliced (backTo pos (starEach elts (clsEnv sc nsA q c fr)))) Q E s
  | [], its, s, Q, e, _, _, h => by cases e; exact args_nil (h [] s.toks trivial)
  | e :: r, its, s, Q, he, hn, ht, h => by
    unfold itemsOf at he
    split at he
    · cases ‹_ :: _ = []›
    · rename_i i k p r' eq
      cases eq
      obtain ⟨its', e1, rfl⟩ := Option.map_eq_some_iff.mp he
      refine args_cons (wpAny_Constant_int ?_)
      exact items_ok hk e1 hn ht fun vs tk rp => h _ tk ⟨⟨_, rfl⟩, rp⟩
    · rename_i x p r' eq
      cases eq
      split at he
      · rename_i k hc hx
        obtain ⟨its', e1, rfl⟩ := Option.map_eq_some_iff.mp he
        rw [Bool.and_eq_true] at hc
        have hl := beq_iff_eq.mp hc.1
        have hd : (x == ("__debug__" : Str)) = false := by simpa using hc.2
        have := ht x
        rw [hx] at this
        obtain ⟨v, e2, a, ea, rfl⟩ := this
        refine args_cons (wpAny_Name (clsLoad hk hl hn e2 ?_) hd)
        exact items_ok hk e1 hn ht fun vs tk rp => h _ tk ⟨⟨a, ea, rfl⟩, rp⟩
      · cases he
    · cases he
theorem noAnn_of {p : Arguments} {env : Env} (h : noAnn p = true) : p.kwonlyargs = [] ∧ p.kw_defaults = [] ∧ annTrees p none env = [] := by
  unfold noAnn at h
  split at h
  · rename_i as df
    refine ⟨rfl, rfl, ?_⟩
    unfold annTrees
    have : ∀ l : List Arg, l.all (·.annotation.isNone) = true → annotationsOf l env = [] := by
      intro l
      induction l with
      | nil => intro _; rfl
      | cons a l ih =>
        intro h
        rw [List.all_cons, Bool.and_eq_true] at h
        obtain ⟨nm, an, ps⟩ := a
        obtain ⟨h1, h2⟩ := h
        cases an with
        | none => unfold annotationsOf; exact ih h2
        | some _ => cases h1
    simp only [List.append_nil, Option.toList]
    rw [this as h]
    rfl
  · cases h
theorem step_ok {stm : Stmt} {Q : Flow → Shared → Prop} (hk : sc.kind = .class) (hc : clsStep sc stm st = some st') (hm : CS s.heap mg nsA c Pl ps mc) (S : Sm B q s.heap st φ ψ mc ps) (hB : B ≤ s.heap.objs.size) (hP : Pl < B) (hN : nsA < B)
    (h : ∀ φ' ψ' mc' ps' h' tk, CS h' mg nsA c Pl ps' mc' → Sm B q h' st' φ' ψ' mc' ps' → Keep Pl nsA s.heap h' → B ≤ h'.objs.size → Q .next { s with heap := h', toks := tk }) :
    wpAny M A (exec stm (clsEnv sc nsA q c fr)) Q E s := by
  have up : ∀ {h' : Heap}, Keep Pl nsA s.heap h' → ∀ b o, B ≤ b → s.heap.get? b = some o → h'.get? b = some o := fun k b o hb e => k b o (Nat.ne_of_gt (Nat.lt_of_lt_of_le hP hb)) (Nat.ne_of_gt (Nat.lt_of_lt_of_le hN hb)) e
  unfold clsStep at hc
  split at hc
  · rename_i name params body decs ret tps scope ts bind pos
    split at hc
    · rename_i hb
      cases hc
      rw [Bool.and_eq_true] at hb
      obtain ⟨hsh, hb⟩ := hb
      simp only [Bool.and_eq_true, List.isEmpty_iff, Option.isNone_iff_eq_none] at hsh
      obtain ⟨⟨⟨rfl, rfl⟩, rfl⟩, rfl⟩ := hsh
      simp only [Bool.and_eq_true, beq_iff_eq, Bool.not_eq_true'] at hb
      obtain ⟨⟨⟨⟨⟨rfl, hb1⟩, hb2⟩, hb3⟩, hb4⟩, hb5⟩ := hb
      obtain ⟨n1, n2, n3⟩ := noAnn_of (env := clsEnv sc nsA q c fr) hb1
      obtain ⟨pp, hpp, hin⟩ := S.pl
      have hnot : (pos.line, pos.col) ∉ pp := fun z => by
        have := (hin _).mp z
        rw [List.contains_eq_mem] at hb5
        simp [this] at hb5
      refine clsDef hk n1 n2 (fun e he => List.all_eq_true.mp hb2 e he) n3 (fun x hx => by simpa using List.all_eq_true.mp hb3 x hx) hb4 hm (hpp.none hnot) fun a c' dV vs h' tk hm' hkp hsa hfn hcv hdef => ?_
      have S' := S.keep (up hkp)
      refine h (φ ++ [a]) ψ _ _ h' tk hm' ⟨?_, by simp [S.flen], fun k b fi e1 e2 => ?_, S'.llen, fun k b its e1 e2 => ?_, pp ++ [(pos.line, pos.col)], ?_, fun x => ?_⟩ hkp ?_
      · refine tab_set (List.prefix_append _ _) (List.prefix_refl _) ⟨a, ?_, rfl⟩ S.tab
        rw [← S.flen, List.getElem?_append_right (Nat.le_refl _)]; simp
      · by_cases hkl : k < φ.length
        · rw [List.getElem?_append_left hkl] at e1
          rw [List.getElem?_append_left (S.flen ▸ hkl)] at e2
          exact S'.fn k b fi e1 e2
        · have hk' : k = φ.length := by
            have := (List.getElem?_eq_some_iff.mp e1).1
            simp at this; lia
          subst hk'
          rw [List.getElem?_append_right (Nat.le_refl _)] at e1
          rw [S.flen, List.getElem?_append_right (Nat.le_refl _)] at e2
          simp at e1 e2
          subst e1; subst e2
          obtain ⟨pm, c2, doc, b1, b2, g1, g2⟩ := hfn
          exact ⟨dV, vs, ⟨pm, c2, doc, Nat.le_trans hB b1, Nat.le_trans hB b2, g1, g2⟩, hcv, hdef.imp id fun ⟨n, T, e, b, g⟩ => ⟨n, T, e, Nat.le_trans hB b, g⟩⟩
      · obtain ⟨vs', b1, b2, b3⟩ := S'.lst k b its e1 e2
        exact ⟨vs', b1, b2, b3.mono (List.prefix_append _ _)⟩
      · have := hpp.snoc (v := .ref c') (q := (pos.line, pos.col))
        simpa using this
      · simp only [List.mem_append, List.mem_cons, List.not_mem_nil, or_false, hin]
        exact Or.comm
      · obtain ⟨pm, c2, doc, b1, b2, g1, g2⟩ := hfn
        exact Nat.le_trans hB (Nat.le_trans b1 (Nat.le_of_lt (Heap.lt_size g1)))
    · cases hc
  · rename_i x xp v pos
    split at hc
    · rename_i hl
      have hl := beq_iff_eq.mp hl
      have store : ∀ {s' : Shared} {u : Value} {cv : CV} {st2 : CSt} {ψ' : List Addr}, CS s'.heap mg nsA c Pl ps mc → Sm B q s'.heap st φ ψ mc ps → Keep Pl nsA s.heap s'.heap → B ≤ s'.heap.objs.size → ψ <+: ψ' → RepCV φ ψ' u cv →
          st2.tab = (x, cv) :: st.tab → st2.fns = st.fns → st2.places = st.places → ψ'.length = st2.lsts.length →
          (∀ (k : Nat) (a : Addr) (its : List LIt), ψ'[k]? = some a → st2.lsts[k]? = some its → ∃ vs, B ≤ a ∧ s'.heap.get? a = some { cls := .type "list", data := .seq (List.toArray vs) } ∧ RepIL φ vs its) → st2 = st' → s'.gens = s.gens → s'.drawn = s.drawn → s'.os = s.os →
          wpAny M A (storeName (clsEnv sc nsA q c fr) x u) (fun _ => Q .next) E s' := by
        intro s' u cv st2 ψ' hm' S' hkp hB' hpre rcv e1 e2 e3 hlen hls e4 g1 g2 g3
        subst e4
        obtain ⟨hh, gg, dd, tt, oo⟩ := s'
        dsimp only at hm' S' hkp hB' hls g1 g2 g3
        subst g1; subst g2; subst g3
        refine clsStore hk (.inl hl) hm'.ns fun h' hn' hs' => ?_
        have k2 : Keep Pl nsA hh h' := fun b o _ h2 e => (hs'.2 b h2).trans e
        have up2 : ∀ b o, B ≤ b → hh.get? b = some o → h'.get? b = some o := fun b o hb e => k2 b o (Nat.ne_of_gt (Nat.lt_of_lt_of_le hP hb)) (Nat.ne_of_gt (Nat.lt_of_lt_of_le hN hb)) e
        have S2 := S'.keep up2
        refine h φ ψ' _ ps h' _ (hm'.set hn' hs') ⟨?_, by rw [e2]; exact S2.flen, fun k b fi q1 q2 => S2.fn k b fi q1 (by rw [e2] at q2; exact q2), hlen, fun k a its q1 q2 => ?_, by rw [e3]; exact S2.pl⟩ (hkp.trans k2) (by show B ≤ h'.objs.size; rw [hs'.1]; exact hB')
        · rw [e1]; exact tab_set (List.prefix_refl _) hpre rcv S'.tab
        · obtain ⟨vs, b1, b2, b3⟩ := hls k a its q1 q2
          exact ⟨vs, b1, up2 _ _ b1 b2, b3⟩
      split at hc
      · rename_i i _ _
        cases hc
        refine wpAny_Assign_Name (wpAny_Constant_int ?_)
        exact store (s' := { s with toks := s.toks + 1 }) (cv := .int i) (st2 := { st with tab := (x, .int i) :: st.tab }) hm S Keep.refl hB (List.prefix_refl _) ⟨_, rfl⟩ rfl rfl rfl S.llen S.lst rfl rfl rfl rfl
      · rename_i t _ _
        cases hc
        refine wpAny_Assign_Name (Calls.Constant_str ?_)
        exact store (s' := { s with toks := s.toks + 1 }) (cv := .str t) (st2 := { st with tab := (x, .str t) :: st.tab }) hm S Keep.refl hB (List.prefix_refl _) ⟨_, rfl⟩ rfl rfl rfl S.llen S.lst rfl rfl rfl rfl
      · rename_i elts lp
        split at hc
        · rename_i its hits
          split at hc
          · rename_i hz
            cases hc
            refine wpAny_Assign_Name (List_ (items_ok hk hits hm.ns S.tab fun vs tk rp => ?_))
            unfold newList
            have hz := of_decide_eq_true hz
            refine wpAny_newObj_type ?_ (by show vs.toArray.size ≤ sizeLine; rw [List.size_toArray, rp.length]; exact Nat.le_trans hz (by decide))
            have k1 : ∀ b o, s.heap.get? b = some o → (s.heap.push { cls := .type "list", data := .seq vs.toArray }).get? b = some o := fun b o e => Heap.get?_push_of_some _ e
            have S1 := S.keep (h' := s.heap.push { cls := .type "list", data := .seq vs.toArray }) fun b o _ e => k1 b o e
            refine store (s' := { s with heap := s.heap.push { cls := .type "list", data := .seq vs.toArray }, toks := tk }) (ψ' := ψ ++ [s.heap.objs.size]) (cv := .lst st.lsts.length) (st2 := { st with tab := (x, .lst st.lsts.length) :: st.tab, lsts := st.lsts ++ [its] }) (hm.keeps k1) S1 (fun b o _ _ e => k1 b o e)
              (by show B ≤ (s.heap.push _).objs.size; rw [Heap.size_push]; lia) (List.prefix_append _ _) ⟨s.heap.objs.size, by rw [← S.llen, List.getElem?_append_right (Nat.le_refl _)]; simp, rfl⟩ rfl rfl rfl (by simp [S.llen]) (fun k a its' q1 q2 => ?_) rfl rfl rfl rfl
            by_cases hkl : k < ψ.length
            · rw [List.getElem?_append_left hkl] at q1
              rw [List.getElem?_append_left (S.llen ▸ hkl)] at q2
              exact S1.lst k a its' q1 q2
            · have hk' : k = ψ.length := by
                have := (List.getElem?_eq_some_iff.mp q1).1
                simp at this; lia
              subst hk'
              rw [List.getElem?_append_right (Nat.le_refl _)] at q1
              rw [S.llen, List.getElem?_append_right (Nat.le_refl _)] at q2
              simp at q1 q2
              subst q1; subst q2
              exact ⟨vs, hB, Heap.get?_push_size _ rfl, rp⟩
          · cases hc
        · cases hc
      · cases hc
    · cases hc
  · cases hc
theorem run_ok (hk : sc.kind = .class) : ∀ {ss : List Stmt} {st : CSt} {s : Shared} {φ ψ : List Addr} {mc : Str → Option Value} {ps : Array Value} {Q : Flow → Shared → Prop}, clsRun sc ss st = some st' → CS s.heap mg nsA c Pl ps mc → Sm B q s.heap st φ ψ mc ps → B ≤ s.heap.objs.size → Pl < B → nsA < B →
    (∀ φ' ψ' mc' ps' h' tk, CS h' mg nsA c Pl ps' mc' → Sm B q h' st' φ' ψ' mc' ps' → Keep Pl nsA s.heap h' → B ≤ h'.objs.size → Q .next { s with heap := h', toks := tk }) →
    wpAny M A (execs ss (clsEnv sc nsA q c fr)) Q E s
  | [], st, s, φ, ψ, mc, ps, Q, e, hm, S, hB, hP, hN, h => by cases e; exact wpAny_execs_nil (h φ ψ mc ps s.heap s.toks hm S Keep.refl hB)
  | stm :: r, st, s, φ, ψ, mc, ps, Q, e, hm, S, hB, hP, hN, h => by
    unfold clsRun at e
    split at e
    · rename_i st2 e2
      refine wpAny_execs_cons (step_ok hk e2 hm S hB hP hN fun φ' ψ' mc' ps' h' tk hm' S' hkp hB' => ?_)
      exact run_ok hk e hm' S' hB' hP hN fun φ2 ψ2 mc2 ps2 h2 tk2 hm2 S2 hkp2 hB2 => h φ2 ψ2 mc2 ps2 h2 tk2 hm2 S2 (hkp.trans hkp2) hB2
    · cases e
end
end Mine
end
section
open PySem PySem.W PySem.Calls PyProof.Rows PySem.Builtin
namespace Mine
theorem tn_ext : extendedBase [.type "object"] = pure (.type "object") := by kernel_rfl
theorem tn_best : Slots.bestBase [.type "object"] = pure (.type "object") := by kernel_rfl
theorem tn_dict : Slots.givesDict (.type "object") = pure false := by kernel_rfl
theorem tn_weak : Slots.givesWeak (.type "object") = pure false := by kernel_rfl
theorem tn_var : Slots.varSize (.type "object") = pure false := by kernel_rfl
theorem tn_hook : mroHook? (.type "type") = pure none := by kernel_rfl
theorem tn_lin : linearize [.type "object"] mroOf = pure [.type "object"] := by kernel_rfl
theorem tn_made : Bind.madeBy (.type "object") = pure (some "object.__new__") := by kernel_rfl
theorem tn_turn : notOverATurnedClass [.type "object"] = pure () := by kernel_rfl
theorem tn_subTu : isSubtype (.type "tuple") (.type "tuple") = pure true := by kernel_rfl
theorem tn_subD : isSubtype (.type "dict") (.type "dict") = pure true := by kernel_rfl
theorem tn_iter : typeLookup (.type "dict") "__iter__" = pure (some (.builtin "dict.__iter__")) := by kernel_rfl
theorem tn_note (a : Addr) : noteSubclassOfBuiltin "object" a = pure () := by kernel_rfl
theorem wp_neg {α : Type} {M : Model} {A : Around} {c : Prop} [Decidable c] {a b : Sem α} {Q : α → Shared → Prop} {E : Value → Shared → Prop} {s : Shared} (h : ¬ c) (k : wpAny M A b Q E s) : wpAny M A (if c then a else b) Q E s := by rw [if_neg h]; exact k
theorem wp_pos {α : Type} {M : Model} {A : Around} {c : Prop} [Decidable c] {a b : Sem α} {Q : α → Shared → Prop} {E : Value → Shared → Prop} {s : Shared} (h : c) (k : wpAny M A a Q E s) : wpAny M A (if c then a else b) Q E s := by rw [if_pos h]; exact k
section
variable {M : Model} {A : Around} {E : Value → Shared → Prop} {s : Shared}
theorem nsDel_D {a : Addr} {m : Str → Option Value} {name : Str} {Q : Bool → Shared → Prop} (hn : NsD s.heap a m)
    (hQ : ∀ h' b, NsD h' a (fun x => if x = name then none else m x) → Heap.SameBut a s.heap h' → Q b { s with heap := h' }) : wpAny M A (nsDel a name) Q E s := by
  obtain ⟨es, ep, ho, hk, hu, hm⟩ := id hn
  have hany : es.any (·.refKey) = false := by
    rw [Array.any_eq_false']; intro e he; obtain ⟨n, t, h⟩ := hk e he; simp [DictEntry.refKey, h]
  have hhas : nsHas name ({ cls := .type "dict", data := .dict es ep } : Obj) = pure (es.any (·.key.isStr name)) := by
    rw [nsHas_eq]; unfold nsHasByArray
    show (if (es.any fun x => x.key.isStr name) = true then _ else _) = _
    generalize (es.any fun x => x.key.isStr name) = b
    cases b <;> simp [hany]
  unfold nsDel
  refine wpAny_bind (wpAny_loadPart ho ?_)
  rw [hhas]
  refine wpAny_bind (wpAny_pure ?_)
  cases hi : es.findIdx? (·.key.isStr name) with
  | some i =>
    have hx : es.any (·.key.isStr name) = true := by
      obtain ⟨hlt, hp, _⟩ := Array.findIdx?_eq_some_iff_getElem.mp hi
      exact Array.any_eq_true.mpr ⟨i, hlt, hp⟩
    refine wp_pos hx (wpAny_bind (wpAny_updatePart ho (wpAny_pure ?_)))
    refine hQ _ true ⟨_, ep + 1, (Heap.get?_update_self _ ho (by simp only [Obj.dropName_eq, Obj.dropNameByArray, hi] <;> rfl)).trans (by simp only [Obj.dropName_eq, Obj.dropNameByArray, hi] <;> rfl), hk.erase i, hu.erase i, fun x => by rw [nsFind_erase hu hi x, hm]⟩ (Heap.SameBut.update ..)
  | none =>
    have hx : es.any (·.key.isStr name) = false := by
      rw [Array.any_eq_false']
      intro e he
      have := (Array.findIdx?_eq_none_iff.mp hi) e he
      simpa using this
    refine wp_neg (by rw [hx]; simp) (wpAny_pure ?_)
    have hnone : m name = none := by
      rw [← hm name, nsFind, findBy, Option.map_eq_none_iff, Array.find?_eq_none]
      intro e he
      have := (Array.findIdx?_eq_none_iff.mp hi) e he
      simpa using this
    refine hQ s.heap false ⟨es, ep, ho, hk, hu, fun x => ?_⟩ (.refl ..)
    rw [hm]
    show m x = if x = name then none else m x
    by_cases hx : x = name
    · subst hx; rw [if_pos rfl, hnone]
    · rw [if_neg hx]
theorem setSlot_any {a : Addr} {i : Nat} {v : Option Value} {o : Obj} {Q : Unit → Shared → Prop} (ho : s.heap.get? a = some o) (hi : i < 10)
    (hf : o.isFreed = false)
    (hQ : ∀ h', h'.get? a = some { o with slots := (o.slots ++ Array.replicate (i + 1 - o.slots.size) none).setIfInBounds i v } → Heap.SameBut a s.heap h' → Q () { s with heap := h' }) : wpAny M A (setSlotAt a i v) Q E s := by
  unfold setSlotAt
  refine wp_neg (fun q => absurd (Nat.lt_of_lt_of_le hi (by decide)) (Nat.not_lt.mpr q)) (wpAny_updatePart ho (hQ _ (Heap.get?_update_self _ ho ?_) (Heap.SameBut.update ..)))
  obtain ⟨c, d, dt, sl⟩ := o
  cases dt <;> first | rfl | cases hf
theorem updateCls_any {a : Addr} {f : ClassData → ClassData} {o : Obj} {cd : ClassData} {Q : Unit → Shared → Prop} (ho : s.heap.get? a = some o) (hd : o.data = .cls cd) (hp : (Data.cls (f cd)).pastItsLine = none)
    (hQ : ∀ h', h'.get? a = some { o with data := .cls (f cd) } → Heap.SameBut a s.heap h' → Q () { s with heap := h' }) : wpAny M A (updateCls a f) Q E s := by
  obtain ⟨c, d, dt, sl⟩ := o
  subst hd
  unfold updateCls
  refine wpAny_bind (wpAny_load ho ?_)
  refine wpAny_bind (wpAny_update ho ?_)
  unfold lookBehind
  have e : (s.heap.update a (Obj.mapCls f)).get? a = some { cls := c, dict := d, data := .cls (f cd), slots := sl } := Heap.get?_update_self _ ho rfl
  refine wpAny_bind (wpAny_loadPart (s := { s with heap := s.heap.update a (Obj.mapCls f) }) e ?_)
  rw [hp]
  exact wpAny_pure (hQ _ e (Heap.SameBut.update ..))
end
end Mine
end
section
open PySem PySem.W PySem.Calls PyProof.Rows PySem.Builtin
namespace Mine
noncomputable def fragOf (h : Heap) : Frag := (List.range h.objs.size).filterMap fun a => (h.get? a).map (a, ·)
theorem lookup_fm {f : Nat → Option Obj} {a : Nat} : ∀ {l : List Nat}, ((l.filterMap fun b => (f b).map (b, ·)) : Frag).lookup a = if a ∈ l then f a else none
  | [] => by simp
  | b :: l => by
    rw [List.filterMap_cons]
    cases hb : f b with
    | none =>
      simp only [Option.map_none]
      rw [lookup_fm]
      by_cases h : a = b
      · subst h; simp [hb]
      · simp [h]
    | some o =>
      simp only [Option.map_some, List.lookup_cons]
      by_cases h : a = b
      · subst h; simp [hb]
      · have : (a == b) = false := beq_eq_false_iff_ne.mpr h
        rw [this, lookup_fm]
        simp [h]
theorem frag_lookup (h : Heap) (a : Addr) : (fragOf h).lookup a = h.get? a := by
  unfold fragOf
  rw [lookup_fm]
  by_cases q : a < h.objs.size
  · simp [q]
  · simp only [List.mem_range, q, if_false]
    cases e : h.get? a with
    | none => rfl
    | some o => exact absurd (Heap.lt_size e) q
theorem frag_in (h : Heap) : (fragOf h).In h := fun a o e => by rw [frag_lookup] at e; exact e
theorem find_nsFind {es : Array DictEntry} {x : Str} : (es.toList.find? (·.key.isStr x)).map (·.val) = nsFind es x := by
  rw [nsFind, findBy, Array.find?_toList]
theorem frag_ns {h : Heap} {ns : Addr} {m : Str → Option Value} (hn : NsD h ns m) (x : Str) : nsIn (fragOf h) ns x = some (m x) := by
  obtain ⟨es, n, ho, hk, hu, hm⟩ := hn
  unfold nsIn
  rw [frag_lookup, ho]
  dsimp only
  rw [← hm x, ← find_nsFind]
  cases hf : es.toList.find? (·.key.isStr x) with
  | some e => rfl
  | none =>
    have hany : es.toList.any (·.refKey) = false := by
      rw [List.any_eq_false]; intro e he; obtain ⟨n, t, h⟩ := hk e (Array.mem_toList_iff.mp he); simp [DictEntry.refKey, h]
    rw [hany]; rfl
structure ClsAt (h : Heap) (C ns : Addr) (m : Str → Option Value) : Prop where
  cls : ∃ o cd, h.get? C = some o ∧ o.cls = .type "type" ∧ o.data = .cls cd ∧ cd.mro = [.ref C, .type "object"] ∧ cd.ns = ns
  ns : NsD h ns m
theorem ClsAt.keeps {h h' : Heap} {C ns : Addr} {m} (x : ClsAt h C ns m) (k : ∀ b o, h.get? b = some o → h'.get? b = some o) : ClsAt h' C ns m := by
  obtain ⟨⟨o, cd, e, r⟩, n⟩ := x
  exact ⟨⟨o, cd, k _ _ e, r⟩, n.at fun _ e => k _ _ e⟩
theorem ClsAt.own {h : Heap} {C ns : Addr} {m} (x : ClsAt h C ns m) (n : Str) : ownIn (fragOf h) n (.ref C) = some (m n) := by
  obtain ⟨⟨⟨c, d, dt, sl⟩, cd, e, e1, e2, e3, rfl⟩, hn⟩ := x
  dsimp only at e1 e2
  subst e1; subst e2
  unfold ownIn
  dsimp only
  rw [frag_lookup, e]
  exact frag_ns hn n
theorem ClsAt.find {h : Heap} {C ns : Addr} {m} (x : ClsAt h C ns m) (n : Str) : findIn (fragOf h) (.ref C) n = some (match m n with | some v => some v | none => fastBuiltinOwn "object" n) := by
  have ow := x.own n
  obtain ⟨⟨⟨c, d, dt, sl⟩, cd, e, e1, e2, e3, rfl⟩, hn⟩ := x
  dsimp only at e1 e2
  subst e1; subst e2
  unfold findIn
  dsimp only
  rw [frag_lookup, e]
  dsimp only
  rw [e3]
  unfold alongIn
  rw [ow]
  cases m n with
  | some v => rfl
  | none =>
    unfold alongIn ownIn
    dsimp only
    cases fastBuiltinOwn "object" n <;> rfl
theorem ClsAt.lookup {M : Model} {h : Heap} {C ns : Addr} {m} (x : ClsAt h C ns m) (n : Str) : Looks M h (typeLookup (.ref C) n) (match m n with | some v => some v | none => fastBuiltinOwn "object" n) :=
  looks_findIn (frag_in h) (x.find n)
end Mine
end
section
open PySem PySem.W PySem.Calls PyProof.Rows PySem.Builtin
namespace Mine
theorem fresh_size {h : Heap} {a : Addr} (e : h.objs.size ≤ a) : h.get? a = none := by
  cases q : h.get? a with
  | none => rfl
  | some o => exact absurd (Heap.lt_size q) (Nat.not_lt.mpr e)
structure Mk (hh h : Heap) (C ns : Addr) (oC : Obj) (m : Str → Option Value) : Prop where
  cls : h.get? C = some oC
  nd : NsD h ns m
  old : ∀ b o, hh.get? b = some o → h.get? b = some o
  fC : hh.get? C = none
  fN : hh.get? ns = none
  ne : C ≠ ns
theorem Mk.setC {hh h h' : Heap} {C ns : Addr} {oC o' : Obj} {m} (x : Mk hh h C ns oC m) (e : h'.get? C = some o') (hs : Heap.SameBut C h h') : Mk hh h' C ns o' m :=
  ⟨e, x.nd.at fun o q => (hs.2 _ (Ne.symm x.ne)).trans q, fun b o q => (hs.2 b (fun z => by subst z; rw [x.fC] at q; cases q)).trans (x.old b o q), x.fC, x.fN, x.ne⟩
theorem Mk.setN {hh h h' : Heap} {C ns : Addr} {oC : Obj} {m m'} (x : Mk hh h C ns oC m) (e : NsD h' ns m') (hs : Heap.SameBut ns h h') : Mk hh h' C ns oC m' :=
  ⟨(hs.2 _ x.ne).trans x.cls, e, fun b o q => (hs.2 b (fun z => by subst z; rw [x.fN] at q; cases q)).trans (x.old b o q), x.fC, x.fN, x.ne⟩
theorem Mk.keeps {hh h h' : Heap} {C ns : Addr} {oC : Obj} {m} (x : Mk hh h C ns oC m) (k : ∀ b o, h.get? b = some o → h'.get? b = some o) : Mk hh h' C ns oC m :=
  ⟨k _ _ x.cls, x.nd.at fun _ e => k _ _ e, fun b o q => k _ _ (x.old b o q), x.fC, x.fN, x.ne⟩
theorem Mk.ltN {hh h : Heap} {C ns : Addr} {oC : Obj} {m} (x : Mk hh h C ns oC m) : ns < h.objs.size := by obtain ⟨_, _, e, _⟩ := x.nd; exact Heap.lt_size e
section
variable {prog : Program} {w : World} {A : Around} {E : Value → Shared → Prop} {hh : Heap} {g : Array GenState} {d : Drawn} {t : Nat} {os : OsState}
theorem slots_read {cls : Str} {es : Array DictEntry} {Q : Slots.Plan → Shared → Prop} {s : Shared} (hs : es.find? (·.key.isStr "__slots__") = none) (h : Q { inherited := [], dict := true, weak := true } s) : wpAny (model prog w) A (Slots.read cls [.type "object"] es) Q E s := by
  unfold Slots.read
  refine wpAny_bind (wpAny_of_eq tn_best ?_)
  refine wpAny_bind (wpAny_of_eq (a := ([] : List Str)) (by kernel_rfl) ?_)
  refine wpAny_bind (wpAny_of_eq tn_dict ?_)
  refine wpAny_bind (wpAny_of_eq tn_weak ?_)
  refine wpAny_bind (wpAny_of_eq tn_var ?_)
  rw [hs]
  exact wpAny_pure h
theorem nsGet_v {M : Model} {s : Shared} {a : Addr} {m : Str → Option Value} {name : Str} {r : Option Value} {Q : Option Value → Shared → Prop} (hn : NsD s.heap a m) (e : m name = r) (h : Q r s) : wpAny M A (nsGet a name) Q E s :=
  wpAny_nsGet hn.ns1.ns (e ▸ h)
theorem if_other {x y : Str} {α : Type} {a b : α} (h : (x == y) = false) : (if x = y then a else b) = b := if_neg (beq_eq_false_iff_ne.mp h)
theorem wpAny_of_eq' {α : Type} {M : Model} {t t' : Sem α} {Q : α → Shared → Prop} {s : Shared} (e : t = t') (h : wpAny M A t' Q E s) : wpAny M A t Q E s := e ▸ h
theorem install_ok {s : Shared} {C ns : Addr} {o : Obj} {cd : ClassData} {Q : Unit → Shared → Prop} (ho : s.heap.get? C = some o) (hd : o.data = .cls cd) (hsc : cd.subclasses = [])
    (hQ : ∀ h', h'.get? C = some { o with data := .cls { cd with hasDict := true, slotNames := [] } } → Heap.SameBut C s.heap h' → Q () { s with heap := h' }) :
    wpAny (model prog w) A (Slots.install (.ref C) ns [.type "object"] { inherited := [], dict := true, weak := true }) Q E s := by
  unfold Slots.install
  refine wpAny_bind (wpAny_of_eq (List.forIn_nil ..) ?_)
  refine wpAny_bind (wpAny_of_eq' (List.forIn_cons ..) (wpAny_bind (wpAny_bind (wpAny_of_eq tn_dict (wp_neg (by decide) (wpAny_pure (wpAny_of_eq (List.forIn_nil ..) ?_)))))))
  refine wp_neg (by decide) ?_
  exact updateCls_any ho hd (by simp [Data.pastItsLine, hsc]) hQ
noncomputable abbrev clsO (name qn : Str) (tn tq : Tok) (C ns : Addr) : Obj := ⟨.type "type", none, .cls { name := name, bases := [.type "object"], mro := [.ref C, .type "object"], ns := ns, qualname := qn, hasDel := false, hasDict := true, slotNames := [] }, #[none, none, some (.str name tn), some (.str qn tq), some (.builtin "object.__new__"), some (.bool true)]⟩
noncomputable abbrev gsO (name : Str) (t : Tok) (C : Addr) (g s : Value) : Obj := { cls := .type "getset_descriptor", data := .fields #[.str name t, .ref C, g, s] }
theorem anyDel (C : Addr) : ((Value.ref C :: [.type "object"]).filter (· != .ref C)).anyM (m := Sem) (fun
    | .ref b => do
      if ← classHasDel b then return true
      return (← nsGet (← classData b).ns "__del__").isSome
    | .type n => pure ((Manifest.find? n).elim false fun ty => ty.attrs.any (·.1 == "__del__"))
    | _ => pure false) = pure false := by
  have : (Value.ref C :: [.type "object"]).filter (· != .ref C) = [.type "object"] := by
    rw [List.filter_cons_of_neg (by simp), List.filter_cons_of_pos (by rfl)]; rfl
  rw [this]
  kernel_rfl
theorem Mk.clsAt {hh h : Heap} {C ns : Addr} {oC : Obj} {m} {cd : ClassData} (x : Mk hh h C ns oC m) (e1 : oC.cls = .type "type") (e2 : oC.data = .cls cd) (e3 : cd.mro = [.ref C, .type "object"]) (e4 : cd.ns = ns := by rfl) : ClsAt h C ns m :=
  ⟨⟨oC, cd, x.cls, e1, e2, e3, e4⟩, x.nd⟩
theorem refresh_ok {s : Shared} {C ns : Addr} {o : Obj} {m : Str → Option Value} {Q : Unit → Shared → Prop} (ho : s.heap.get? C = some o) (K : ClsAt s.heap C ns m) (hnew : m "__new__" = none) (hQ : Q () s) : wpAny (model prog w) A (Bind.refreshMaker C) Q E s := by
  have L := K.lookup (M := model prog w) "__new__"
  rw [hnew] at L
  obtain ⟨hp, g, d, tk, os⟩ := s
  unfold Bind.refreshMaker
  refine wpAny_bind (wpAny_bind (wpAny_loadPart ho (wpAny_pure ?_)))
  by_cases hsl : (o.slots[4]?).join.isNone = true
  · exact wp_pos hsl (wpAny_pure hQ)
  · refine wp_neg hsl (wpAny_bind (L.at ?_))
    exact wp_neg (by decide +kernel) (wpAny_pure hQ)
end
end Mine
end
section
open PySem PySem.W PySem.Calls PyProof.Rows PySem.Builtin
namespace Mine
section
variable {prog : Program} {w : World} {A : Around} {E : Value → Shared → Prop} {h : Heap} {g : Array GenState} {d : Drawn} {t : Nat} {os : OsState} {C ns : Addr} {m : Str → Option Value}
theorem ClsAt.mro {M : Model} (x : ClsAt h C ns m) : Looks M h (mroOf (.ref C)) [.ref C, .type "object"] := by
  obtain ⟨⟨⟨c, dd, dt, sl⟩, cd, e, e1, e2, e3, rfl⟩, hn⟩ := x
  dsimp only at e1 e2
  subst e1; subst e2
  rw [← e3]
  exact ((Looks.ld (part := none) e).andThen Looks.now).andThen Looks.now
theorem ClsAt.sub {M : Model} (x : ClsAt h C ns m) : Looks M h (isSubtype (.ref C) (.ref C)) true := by
  have L := x.mro (M := M)
  refine L.andThen ?_
  exact Looks.of_pure (by show (pure (List.contains [Value.ref C, .type "object"] (.ref C)) : Sem Bool) = _; simp)
theorem ClsAt.subO {M : Model} (x : ClsAt h C ns m) : Looks M h (isSubtype (.ref C) (.type "object")) true := by
  have L := x.mro (M := M)
  refine L.andThen ?_
  exact Looks.of_pure (by show (pure (List.contains [Value.ref C, .type "object"] (.type "object")) : Sem Bool) = _; simp)
theorem ClsAt.isType {M : Model} (x : ClsAt h C ns m) : Looks M h (isType (.ref C)) true := by
  obtain ⟨⟨⟨c, dd, dt, sl⟩, cd, e, e1, e2, e3, rfl⟩, hn⟩ := x
  dsimp only at e1 e2
  subst e1; subst e2
  exact (Looks.ld e).andThen Looks.now
theorem super_cls {Q : Value → Shared → Prop} (K : ClsAt h C ns m)
    (hq : ∀ h', h'.get? h.objs.size = some { cls := .type "super", dict := none, data := .fields #[.ref C, .ref C, .ref C], slots := #[] } → (∀ y o, h.get? y = some o → h'.get? y = some o) → Q (.ref h.objs.size) ⟨h', g, d, t, os⟩) :
    wpAny (model prog w) A (call (.type "super") [.ref C, .ref C]) Q E ⟨h, g, d, t, os⟩ := by
  obtain ⟨oD, cdD, hD, hc, hDt, hmro, hns⟩ := K.cls
  refine ks_callType_codesW (Q₁ := fun obj s₁ => obj = .ref h.objs.size ∧ s₁ = ⟨h.push { cls := .type "super", data := .fields #[.none, .none, .none] }, g, d, t, os⟩) F.ks_called_super (ks_wpAny_checkTypeCall_super hD hDt) F.ks_entry_super_init
    (ks_code_super_new _ _ ⟨rfl, rfl⟩) fun obj s₁ h₁ => ?_
  obtain ⟨rfl, rfl⟩ := h₁
  have up : ∀ y o, h.get? y = some o → (h.push { cls := .type "super", data := .fields #[.none, .none, .none] }).get? y = some o := fun y o e => Heap.get?_push_of_some _ e
  have hso : (h.push { cls := .type "super", data := .fields #[.none, .none, .none] }).get? h.objs.size = some { cls := .type "super", dict := none, data := .fields #[.none, .none, .none], slots := #[] } := Heap.get?_push_at rfl rfl
  have K' := K.keeps up
  refine ⟨⟨_, hso, rfl⟩, F.ks_initArgs_super _ _ _, ?_⟩
  unfold Builtin.«super.__init__» noKeywords
  have T1 := K'.isType (M := model prog w)
  have T2 := K'.sub (M := model prog w)
  repeat (first | (with_reducible refine Looks.at T1 ?_) | (with_reducible refine Looks.at T2 ?_) | (with_reducible refine ks_wpAny_super_set3 hso ?_) | wp_step)
  all_goals (intro h' e k; exact ⟨rfl, hq h' e fun y o ey => k y o (Nat.ne_of_lt (Heap.lt_size ey)) (up y o ey)⟩)
theorem cmd_slot : Slot "classmethod_descriptor" "__get__" "classmethod_descriptor.__get__" := .of (owner := "classmethod_descriptor") (n := "__get__") (by rw [typeLookup_type, builtinLookup_eq_fast]; kernel_rfl) (by decide +kernel) (by decide +kernel) (by decide +kernel)
  (by first | exact .inl (by decide +kernel) | exact .inr (by decide +kernel)) (by rw [isSubtype_type]; kernel_rfl)
theorem cmd_entry : entryFor table "classmethod_descriptor.__get__" = some Builtin.«classmethod_descriptor.__get__» := entryFor_of_tree (by kernel_rfl)
theorem cmd_args (a b c : Value) : argsOk "classmethod_descriptor.__get__" ⟨[a, b, c], []⟩ := by unfold argsOk; kernel_rfl
theorem isub_own : fastBuiltinOwn "object" "__init_subclass__" = some (.builtin "object.__init_subclass__") := by kernel_rfl
theorem isub_type : typeOf (.builtin "object.__init_subclass__") = pure (.type "classmethod_descriptor") := by show builtinType _ = _; rw [builtinType_eq_fast]; kernel_rfl
theorem cmd_get {Q : Fin → Shared → Prop} (K : ClsAt h C ns m)
    (hq : Q (.done (.ret (.ref h.objs.size))) ⟨h.push { cls := .type "builtin_function_or_method", data := .fields #[.builtin "object.__init_subclass__", .ref C] }, g, d, t, os⟩) :
    wpAny (model prog w) A (Builtin.«classmethod_descriptor.__get__» ⟨[.builtin "object.__init_subclass__", .none, .ref C], []⟩) Q E ⟨h, g, d, t, os⟩ := by
  have T1 := K.isType (M := model prog w)
  have T2 := K.subO (M := model prog w)
  unfold Builtin.«classmethod_descriptor.__get__»
  refine wpAny_bind (wpAny_of_eq (a := (Value.builtin "object.__init_subclass__", none, some (.ref C))) rfl ?_)
  refine wpAny_bind (wpAny_pure ?_)
  refine wpAny_bind (Looks.at T1 ?_)
  refine wp_neg (by decide) ?_
  refine wpAny_bind (Looks.at (t := isSubtype (.ref C) (.type (".".intercalate ("object.__init_subclass__".cutAt '.').dropLast))) (by rw [show ".".intercalate ("object.__init_subclass__".cutAt '.').dropLast = "object" by decide +kernel]; exact T2) ?_)
  refine wp_neg (by decide) ?_
  refine wpAny_bind (wpAny_newObj_type (wpAny_pure hq) ?_)
  show 2 ≤ sizeLine + 2
  lia
theorem super_ga {so : Addr} {tk : Tok} {name : Str} {v : Value} {Q : Fin → Shared → Prop} (K : ClsAt h C ns m) (hno : Looks (model prog w) h (opaqueClassAbove (.ref C)) none)
    (hso : h.get? so = some { cls := .type "super", dict := none, data := .fields #[.ref C, .ref C, .ref C], slots := #[] })
    (hn : (name == ("__class__" : Str)) = false) (hf : alongIn (fragOf h) name [.type "object"] = some (some v)) (hTf : (⟨h, g, d, t, os⟩ : Shared).TypeIs v "classmethod_descriptor")
    (hq : wpAny (model prog w) A.in1 (Builtin.«classmethod_descriptor.__get__» ⟨[v, .none, .ref C], []⟩) (fun fin s' => ∃ v, fin = .done (.ret v) ∧ Q (.done (.ret v)) s') E ⟨h, g, d, t, os⟩) :
    wpAny (model prog w) A (Builtin.«super.__getattribute__» ⟨[.ref so, .str name tk], []⟩) Q E ⟨h, g, d, t, os⟩ := by
  have hM := K.mro (M := model prog w)
  have hl : ([Value.ref C, .type "object"].dropWhile (· != .ref C)).drop 1 = [.type "object"] := by simp [List.dropWhile]
  have hlk := cmd_slot.lookup
  have hdt : ({ cls := .type "super", dict := none, data := .fields #[.ref C, .ref C, .ref C], slots := #[] } : Obj).data = .fields #[.ref C, .ref C, .ref C] := rfl
  have f0 : (#[.ref C, .ref C, .ref C] : Array Value)[0]? = some (.ref C) := rfl
  have f1 : (#[.ref C, .ref C, .ref C] : Array Value)[1]? = some (.ref C) := rfl
  have f2 : (#[.ref C, .ref C, .ref C] : Array Value)[2]? = some (.ref C) := rfl
  have hne : (Value.ref C == Value.ref C) = true := by simp
  unfold Builtin.«super.__getattribute__»
  repeat (first
    | (with_reducible refine wpAny_field hso hdt f0 ?_) | (with_reducible refine wpAny_field hso hdt f1 ?_) | (with_reducible refine wpAny_field hso hdt f2 ?_)
    | (with_reducible refine ks_wpAny_notOpaque hno ?_)
    | (with_reducible refine Looks.at hM ?_; rw [hl])
    | (refine ks_forIn_along (frag_in h) (fun _ _ => rfl) rfl ?_ hf)
    | (with_reducible refine wpAny_typeOf hTf ?_)
    | (with_reducible refine wpAny_call_entry cmd_slot hTf cmd_entry (wpAny_mono hq (fun fin s' z => ?_) fun _ _ z => z) (cmd_args _ _ _); obtain ⟨v, rfl, hv⟩ := z)
    | (with_reducible refine ⟨_, rfl, ?_⟩)
    | (simp only [hn, hne, Bool.or_false, Bool.false_eq_true, if_false, if_true])
    | wp_step
    | dsimp only)
  all_goals exact hv
theorem super_get {so : Addr} {Q : Value → Shared → Prop} (K : ClsAt h C ns m) (hno : Looks (model prog w) h (opaqueClassAbove (.ref C)) none)
    (hso : h.get? so = some { cls := .type "super", dict := none, data := .fields #[.ref C, .ref C, .ref C], slots := #[] })
    (hq : Q (.ref h.objs.size) ⟨h.push { cls := .type "builtin_function_or_method", data := .fields #[.builtin "object.__init_subclass__", .ref C] }, g, d, t + 1, os⟩) :
    wpAny (model prog w) A (getAttr (.ref so) "__init_subclass__") Q E ⟨h, g, d, t, os⟩ := by
  have hlk := F.ks_slot_super_ga.lookup
  have hT : ∀ t', (⟨h, g, d, t', os⟩ : Shared).TypeIs (.ref so) "super" := fun _ => ⟨_, hso, rfl⟩
  have hf : alongIn (fragOf h) "__init_subclass__" [.type "object"] = some (some (.builtin "object.__init_subclass__")) := by
    unfold alongIn ownIn; dsimp only; rw [isub_own]
  have hn : (("__init_subclass__" : Str) == ("__class__" : Str)) = false := by decide +kernel
  generalize ("__init_subclass__" : Str) = name at hf hn ⊢
  unfold getAttr getAttrBy
  refine wpAny_bind (wpAny_mkText (wpAny_holding (wpAny_bind (wpAny_typeOf (hT _) (wpAny_bind (wpAny_of_eq hlk ?_))))))
  show wpAny _ _ (getAttrByItsOwn (.ref so) (.str name t) (.type "super") (.builtin "super.__getattribute__") true false) _ _ _
  unfold getAttrByItsOwn hookBefore callGetattribute boundAndCalled
  refine wpAny_bind (wpAny_of_eq (show (if onTheHeap (.type "super") then typeLookup (.type "super") "__getattr__" else pure none) = pure none from rfl) ?_)
  refine wpAny_bind (wpAny_attempt (wpAny_holding ?_))
  show wpAny _ _ (bindSpecial (.builtin "super.__getattribute__") (.ref so) >>= _) _ _ _
  refine wpAny_bind (wpAny_of_eq (F.ks_slot_super_ga.bind _) ?_)
  refine wpAny_mono (Q := fun v s' => v = .ref h.objs.size ∧ s' = ⟨h.push { cls := .type "builtin_function_or_method", data := .fields #[.builtin "object.__init_subclass__", .ref C] }, g, d, t + 1, os⟩) (E := fun _ _ => False)
    (wpAny_call_entry F.ks_slot_super_ga (hT _) F.ks_entry_super_ga (super_ga K hno hso hn hf isub_type (cmd_get K ⟨_, rfl, _, rfl, rfl, rfl⟩)) (F.ks_gaArgs_super _ _)) (fun v s' hv => ?_) fun _ _ z => z.elim
  obtain ⟨rfl, rfl⟩ := hv
  exact wpAny_pure hq
theorem isub_entry : entryFor table "object.__init_subclass__" = some Builtin.«object.__init_subclass__» := entryFor_of_tree (by kernel_rfl)
theorem isub_plain : plainId "object.__init_subclass__" = true := by decide +kernel
theorem opaque_none {ms : Str → Option Value} (hs : h.Ns cStatics ms) (e : ms "thirdparty.any" = none) : Looks (model prog w) h (opaqueClassAbove (.ref C)) none := by
  intro A Q E s k q
  unfold opaqueClassAbove anyOpaqueLoaded
  refine wpAny_bind (wpAny_bind (wpAny_nsGet (hs.keeps k) ?_))
  rw [e]
  exact wpAny_pure (wp_pos (by decide) (wpAny_pure q))
theorem isub_sig : Manifest.signature? "object.__init_subclass__" = some ⟨.noArgs, "object.__init_subclass__", "__init_subclass__", .cls, []⟩ := by kernel_rfl
theorem isub_kind : builtinKind "object.__init_subclass__" = some .classMethod := by kernel_rfl
theorem isub_mod : isSubtype (.type "type") (.type "module") = pure false := by rw [isSubtype_type]; kernel_rfl
theorem isub_args (C : Addr) (n : String) (h : n = "__init_subclass__") : Bind.checkArgs "object.__init_subclass__" ⟨.noArgs, toString (Str.toString ("MPU" : Str)) ++ toString "." ++ toString n, "__init_subclass__", .cls, []⟩ ⟨[.ref C], []⟩ = pure () := by
  subst h; kernel_rfl
theorem isub_last : Bind.lastOf "object.__init_subclass__" = "__init_subclass__" := by decide +kernel
theorem isub_check {Q : Unit → Shared → Prop} {tn tq : Tok} (K : ClsAt h C ns m) (hD : h.get? C = some (clsO "MPU" "MPU" tn tq C ns)) (hq : Q () ⟨h, g, d, t, os⟩) : wpAny (model prog w) A (checkBoundCall "object.__init_subclass__" ⟨[.ref C], []⟩) Q E ⟨h, g, d, t, os⟩ := by
  have T1 := K.isType (M := model prog w)
  have TI : (⟨h, g, d, t, os⟩ : Shared).TypeIs (.ref C) "type" := ⟨_, hD, rfl⟩
  unfold checkBoundCall
  rw [isub_sig, isub_kind]
  refine wp_neg (by decide) ?_
  refine wpAny_bind (wpAny_isInstance TI isub_mod ?_)
  refine wp_neg (by decide +kernel) ?_
  refine wpAny_bind (T1.at ?_)
  refine wp_pos rfl ?_
  refine wpAny_bind (wpAny_pure ?_)
  refine wpAny_bind (wpAny_bind (wpAny_load hD (wpAny_pure ?_)))
  refine wpAny_bind (wpAny_typeOf TI ?_)
  refine wp_pos (by decide) ?_
  exact wpAny_of_eq (isub_args C _ isub_last) hq
theorem isub_call {f : Addr} {Q : Value → Shared → Prop} {tn tq : Tok} (K : ClsAt h C ns m) (hD : h.get? C = some (clsO "MPU" "MPU" tn tq C ns)) (hf : h.get? f = some { cls := .type "builtin_function_or_method", data := .fields #[.builtin "object.__init_subclass__", .ref C] })
    (hq : Q .none ⟨h, g, d, t, os⟩) : wpAny (model prog w) A (call (.ref f) []) Q E ⟨h, g, d, t, os⟩ := by
  refine wpAny_call (codeAny_of_tree ?_)
  show wpAny _ A.in1 (callAny (.ref f) _) _ _ _
  unfold callAny
  refine wpAny_bind (wpAny_load hf ?_)
  refine wp_pos (by rfl) ?_
  refine wp_pos (by rfl) ?_
  refine wpAny_bind (isub_check K hD ?_)
  refine wpAny_pure ⟨plainId_quiet isub_plain _, codeAny_builtin isub_entry ?_⟩
  rw [Around.under_plainId isub_plain _]
  unfold Builtin.«object.__init_subclass__»
  refine wp_pos (by rfl) ?_
  exact wpAny_pure hq
end
end Mine
end
section
open PySem PySem.W PySem.Calls PyProof.Rows PySem.Builtin
namespace Mine
section
variable {prog : Program} {w : World} {A : Around} {E : Value → Shared → Prop} {hh : Heap} {g : Array GenState} {d : Drawn} {t : Nat} {os : OsState}
theorem fresh_old {hh h : Heap} (k : ∀ b o, hh.get? b = some o → h.get? b = some o) : hh.get? h.objs.size = none := by
  cases e : hh.get? h.objs.size with
  | none => rfl
  | some o => exact absurd (Heap.lt_size (k _ _ e)) (Nat.lt_irrefl _)
theorem NsD.elim {h : Heap} {a : Addr} {m : Str → Option Value} {P : Prop} (x : NsD h a m) (f : ∀ es n, h.get? a = some { cls := .type "dict", data := .dict es n } → StrKeys es → UniqKeys es → (∀ x, nsFind es x = m x) → P) : P :=
  let ⟨es, n, a, b, c, d⟩ := x; f es n a b c d
theorem dictEntries_D {M : Model} {s : Shared} {a : Addr} {es : Array DictEntry} {n : Nat} {Q : Array DictEntry → Shared → Prop} (e : s.heap.get? a = some { cls := .type "dict", data := .dict es n }) (h : Q es s) : wpAny M A (dictEntries a) Q E s := by
  unfold dictEntries
  exact wpAny_bind (wpAny_loadPart e (wpAny_pure h))
noncomputable def Dull (h : Heap) (v : Value) : Prop := (∀ k, laidUnderItsOwnName k v = false) ∧ ∃ T, (match v with | .ref a => ∃ o, h.get? a = some o ∧ o.cls = .type T | v => typeOf v = pure (.type T)) ∧ typeLookup (.type T) "__set_name__" = pure none
theorem Dull.keeps {h h' : Heap} {v : Value} (x : Dull h v) (k : ∀ b o, h.get? b = some o → h'.get? b = some o) : Dull h' v := by
  obtain ⟨a, T, b, c⟩ := x
  refine ⟨a, T, ?_, c⟩
  cases v <;> first | exact b | exact (let ⟨o, e, r⟩ := b; ⟨o, k _ _ e, r⟩)
theorem special_dull {M : Model} {s : Shared} {v : Value} {Q : Option Value → Shared → Prop} (hd : Dull s.heap v) (h : Q none s) : wpAny M A (specialOf v "__set_name__") Q E s := by
  obtain ⟨_, T, b, c⟩ := hd
  refine wpAny_specialOf (T := T) ?_ c h
  cases v <;> exact b
theorem asStr_some {M : Model} {s : Shared} {es : Array DictEntry} {e : DictEntry} {Q : Option Str → Shared → Prop} (hk : StrKeys es) (he : e ∈ es) (h : ∀ x, Q (some x) s) : wpAny M A (asStr? e.key) Q E s := by
  obtain ⟨x, t, ex⟩ := hk e he
  rw [ex]
  exact wpAny_of_eq (a := some x) rfl (h x)
theorem entry_val {es : Array DictEntry} {e : DictEntry} (hk : StrKeys es) (hu : UniqKeys es) (he : e ∈ es) : ∃ x, nsFind es x = some e.val := by
  obtain ⟨x, t, ex⟩ := hk e he
  refine ⟨x, ?_⟩
  rw [← find_nsFind]
  obtain ⟨l⟩ := es
  unfold UniqKeys at hu
  replace he : e ∈ l := by simpa using he
  dsimp only at hu ⊢
  clear hk
  induction l with
  | nil => cases he
  | cons f l ih =>
    obtain ⟨h1, h2⟩ := List.pairwise_cons.mp hu
    have px : e.key.isStr x = true := by rw [ex]; simp [isStr_str]
    rw [List.find?_cons]
    rcases List.mem_cons.mp he with rfl | hm
    · rw [px]; rfl
    · have : f.key.isStr x = false := by
        cases q : f.key.isStr x with
        | false => rfl
        | true => exact (h1 e hm x q px).elim
      rw [this]
      exact ih h2 hm
theorem dull_none {h : Heap} : Dull h .none := ⟨fun k => by cases k <;> rfl, "NoneType", rfl, by rw [typeLookup_type, builtinLookup_eq_fast]; kernel_rfl⟩
theorem dull_gs {h : Heap} {a : Addr} {n : Str} {t : Tok} {C : Addr} {x y : Value} (e : h.get? a = some (gsO n t C x y)) : Dull h (.ref a) := ⟨fun k => by cases k <;> rfl, "getset_descriptor", ⟨_, e, rfl⟩, by rw [typeLookup_type, builtinLookup_eq_fast]; kernel_rfl⟩
noncomputable abbrev mcEnd (mc : Str → Option Value) (a1 a2 : Addr) : Str → Option Value := fun (x : Str) => if x = ("__doc__" : Str) then some .none else if x = ("__weakref__" : Str) then some (.ref a2) else if x = ("__dict__" : Str) then some (.ref a1) else if x = ("__qualname__" : Str) then none else mc x
theorem dull_end {h : Heap} {mc : Str → Option Value} {a1 a2 : Addr} (h0 : ∀ x v, mc x = some v → Dull h v) (d1 : Dull h (.ref a1)) (d2 : Dull h (.ref a2)) {x : Str} {v : Value} (e : mcEnd mc a1 a2 x = some v) : Dull h v := by
  unfold mcEnd at e
  split at e
  · cases e; exact dull_none
  · split at e
    · cases e; exact d2
    · split at e
      · cases e; exact d1
      · split at e
        · cases e
        · exact h0 x v e
theorem wp_loopL {M : Model} {α β : Type} {f : α → β → Sem (ForInStep β)} {b : β} {Q : β → Shared → Prop} {s : Shared} : ∀ {l : List α}, (∀ e ∈ l, ∀ Q' : ForInStep β → Shared → Prop, Q' (.yield b) s → wpAny M A (f e b) Q' E s) → Q b s → wpAny M A (forIn l b f) Q E s
  | [], _, q => by rw [List.forIn_nil]; exact wpAny_pure q
  | e :: l, h, q => by
    rw [List.forIn_cons]
    exact wpAny_bind (h e List.mem_cons_self _ (wp_loopL (fun e' he => h e' (List.mem_cons_of_mem _ he)) q))
theorem wp_loopA {M : Model} {α β : Type} {f : α → β → Sem (ForInStep β)} {b : β} {Q : β → Shared → Prop} {s : Shared} {l : Array α} (h : ∀ e ∈ l, ∀ Q' : ForInStep β → Shared → Prop, Q' (.yield b) s → wpAny M A (f e b) Q' E s) (q : Q b s) : wpAny M A (forIn l b f) Q E s := by
  rw [← Array.forIn_toList]
  exact wp_loopL (fun e he => h e (Array.mem_toList_iff.mp he)) q
set_option maxHeartbeats 0 in
theorem type_new {name qn : Str} {tn : Tok} {bT nsA : Addr} {mc : Str → Option Value} {tq : Tok} {Q : Fin → Shared → Prop}
    (hb : hh.get? bT = some { cls := .type "tuple", data := .seq #[] }) (hn : NsD hh nsA mc) (hsz : ∀ es n, hh.get? nsA = some { cls := .type "dict", data := .dict es n } → es.size ≤ 1000) (hm : (nsA == sysModules) = false)
    (hs : mc "__slots__" = none) (hmod : (mc "__module__").isSome = true) (hdel : mc "__del__" = none) (hqn : mc "__qualname__" = some (.str qn tq)) (hdoc : mc "__doc__" = none) (hname : name = "MPU") (hqual : qn = "MPU") (hsur : (name.cps.any fun c => decide (55296 ≤ c) && decide (c ≤ 57343)) = false) (hz : name.cps.contains 0 = false) 
    (hnew : mc "__new__" = none) (his : mc "__init_subclass__" = none) (hcg : mc "__class_getitem__" = none) (hcc : mc "__classcell__" = none) (hcd : mc "__classdictcell__" = none) (hdi : mc "__dict__" = none) (hwe : mc "__weakref__" = none) (heq : mc "__eq__" = none) (hdull : ∀ x v, mc x = some v → Dull hh v) {ms : Str → Option Value} (hst : hh.Ns cStatics ms) (hop : ms "thirdparty.any" = none)
    (hQ : ∀ h' tk C ns a1 a2 t1 t2, Mk hh h' C ns (clsO name qn tn tq C ns) (mcEnd mc a1 a2) → h'.get? a1 = some (gsO "__dict__" t1 C (.builtin "function.__dict__") (.builtin "function.__dict__#set")) → h'.get? a2 = some (gsO "__weakref__" t2 C (.builtin "ExceptionGroup.__weakref__") .none) → hh.get? a1 = none → hh.get? a2 = none → Q (.done (.ret (.ref C))) ⟨h', g, d, tk, os⟩) :
    wpAny (model prog w) A (Builtin.«type.__new__» ⟨[.type "type", .str name tn, .ref bT, .ref nsA], []⟩) Q E ⟨hh, g, d, t, os⟩ := by
  obtain ⟨es, n, hg, hk, hu, hmc⟩ := id hn
  have L1 : Looks (model prog w) hh (isInstance (.ref bT) (.type "tuple")) true := Looks.andThen (t := typeOf (.ref bT)) (a := .type "tuple") (Looks.andThen (Looks.ld hb) Looks.now) (Looks.of_pure tn_subTu)
  have L2 : Looks (model prog w) hh (isInstance (.ref nsA) (.type "dict")) true := Looks.andThen (t := typeOf (.ref nsA)) (a := .type "dict") (Looks.andThen (Looks.ld hg) Looks.now) (Looks.of_pure tn_subD)
  have L5 : Looks (model prog w) hh (seqItems? (.ref bT)) (some #[]) := (Looks.ld hb).andThen Looks.now
  have L6 : Looks (model prog w) hh (asStr? (.str name tn)) (some name) := Looks.now
  have fnone : ∀ x : Str, mc x = none → es.find? (·.key.isStr x) = none := fun x e => by
    have := hmc x; rw [e, nsFind, findBy, Option.map_eq_none_iff] at this; exact this
  have anyOf : ∀ x : Str, es.any (·.key.isStr x) = (mc x).isSome := fun x => by
    rw [← hmc x]; simp only [nsFind, findBy, Option.isSome_map]
    rw [Bool.eq_iff_iff]; simp only [Array.find?_isSome, Array.any_eq_true]
    constructor
    · rintro ⟨i, hi, hp⟩; exact ⟨_, Array.getElem_mem hi, hp⟩
    · rintro ⟨x, hx, hp⟩; obtain ⟨i, hi, rfl⟩ := Array.mem_iff_getElem.mp hx; exact ⟨i, hi, hp⟩
  unfold Builtin.«type.__new__»
  refine wpAny_bind (L6.at ?_)
  refine wpAny_bind (L1.at ?_)
  refine wp_neg (by decide) ?_
  refine wpAny_bind (L2.at ?_)
  refine wp_neg (by decide) ?_
  refine wpAny_bind (L5.at ?_)
  refine wp_neg (by decide) ?_
  refine wpAny_bind (wpAny_of_eq (a := PUnit.unit) rfl ?_)
  refine wpAny_bind (wpAny_of_eq (a := Value.type "type") rfl ?_)
  refine wp_neg (by decide) ?_
  refine wpAny_bind (wpAny_of_eq tn_turn ?_)
  refine wpAny_bind (wpAny_of_eq tn_ext ?_)
  refine wp_neg (by rw [hm]; exact Bool.false_ne_true) ?_
  refine wpAny_bind (wpAny_bind (wpAny_loadPart hg (wpAny_pure ?_)))
  refine wpAny_bind (wpAny_bind (wpAny_bind (wpAny_loadPart hg (wpAny_pure (wpAny_of_eq tn_iter ?_)))))
  refine wp_pos (by rw [beq_self_eq_true, Bool.or_true]) ?_
  refine wpAny_bind (wpAny_pure ?_)
  refine wpAny_bind (wpAny_holding (slots_read (fnone _ hs) ?_))
  refine wpAny_bind (wpAny_newObj_type ?_ (Nat.le_trans (hsz _ _ hg) (by decide)))
  have hn1 : NsD (hh.push { cls := .type "dict", data := .dict es }) hh.objs.size mc := ⟨es, _, Heap.get?_push_size _ rfl, hk, hu, hmc⟩
  have k1 : ∀ b o, hh.get? b = some o → (hh.push { cls := .type "dict", data := .dict es }).get? b = some o := fun b o e => Heap.get?_push_of_some _ e
  have z1 : hh.objs.size < (hh.push { cls := .type "dict", data := .dict es }).objs.size := by rw [Heap.size_push]; lia
  have fN : hh.get? hh.objs.size = none := fresh_size (Nat.le_refl _)
  have fC : hh.get? (hh.push { cls := .type "dict", data := .dict es }).objs.size = none := fresh_size (Nat.le_of_lt z1)
  generalize hh.push { cls := .type "dict", data := .dict es } = h1 at hn1 k1 z1 fC ⊢
  generalize hh.objs.size = ns at hn1 z1 fN ⊢
  refine wp_neg (by show ¬ ((!es.any _) = true); rw [anyOf, hmod]; decide) ?_
  refine wpAny_bind (wp_neg (by rw [hsur]; decide) (wpAny_pure ?_))
  refine wp_neg (by rw [hz]; decide) ?_
  refine wpAny_bind (wpAny_nsGet hn1.ns1.ns ?_)
  refine wpAny_bind (wpAny_nsGet hn1.ns1.ns ?_)
  rw [hqn]
  refine wpAny_bind (wpAny_of_eq (a := some qn) rfl ?_)
  refine wpAny_bind (wpAny_pure ?_)
  refine wpAny_bind (wpAny_nsGet hn1.ns1.ns ?_)
  rw [hdoc]
  refine wpAny_bind (wpAny_alloc ?_)
  have K : Mk hh (h1.push { cls := .type "type", data := .cls { name := name, bases := [.type "object"], mro := [], ns := ns, qualname := qn } }) h1.objs.size ns { cls := .type "type", data := .cls { name := name, bases := [.type "object"], mro := [], ns := ns, qualname := qn } } mc :=
    ⟨Heap.get?_push_size _ rfl, hn1.at fun o e => Heap.get?_push_of_some _ e, fun b o e => Heap.get?_push_of_some _ (k1 b o e), fC, fN, Nat.ne_of_gt z1⟩
  change wpAny (model prog w) A _ Q E ⟨h1.push { cls := .type "type", data := .cls { name := name, bases := [.type "object"], mro := [], ns := ns, qualname := qn } }, g, d, t, os⟩
  generalize h1.push { cls := .type "type", data := .cls { name := name, bases := [.type "object"], mro := [], ns := ns, qualname := qn } } = h2 at K ⊢
  generalize h1.objs.size = C at K ⊢
  clear hn1 k1 z1 fN fC h1
  refine wp_neg (by decide) ?_
  refine wpAny_bind (setSlot_any K.cls (by decide) rfl fun h3 e3 s3 => ?_)
  replace K : Mk hh h3 C ns ⟨.type "type", none, .cls { name := name, bases := [.type "object"], mro := [], ns := ns, qualname := qn }, #[none, none, some (.str name tn)]⟩ mc := K.setC e3 s3
  clear e3 s3
  refine wpAny_bind (setSlot_any K.cls (by decide) rfl fun h4 e4 s4 => ?_)
  replace K : Mk hh h4 C ns ⟨.type "type", none, .cls { name := name, bases := [.type "object"], mro := [], ns := ns, qualname := qn }, #[none, none, some (.str name tn), some (.str qn tq)]⟩ mc := K.setC e4 s4
  clear e4 s4
  refine wpAny_bind (nsDel_D K.nd fun h5 b5 n5 s5 => ?_)
  replace K := K.setN n5 s5
  clear n5 s5
  change wpAny (model prog w) A _ Q E ⟨h5, g, d, t, os⟩
  refine wpAny_bind (nsGet_v K.nd ((if_other (by decide +kernel)).trans hnew) ?_)
  refine wpAny_bind ?_
  rw [List.forIn_cons]
  refine wpAny_bind (wpAny_bind (nsGet_v K.nd ((if_other (by decide +kernel)).trans his) (wpAny_pure ?_)))
  refine wpAny_of_eq' (List.forIn_cons ..) ?_
  refine wpAny_bind (wpAny_bind (nsGet_v K.nd ((if_other (by decide +kernel)).trans hcg) (wpAny_pure ?_)))
  refine wpAny_of_eq (List.forIn_nil ..) ?_
  refine wpAny_bind (nsGet_v K.nd ((if_other (by decide +kernel)).trans hcc) ?_)
  refine wpAny_bind (nsGet_v K.nd ((if_other (by decide +kernel)).trans hcd) ?_)
  refine wpAny_bind (wpAny_of_eq tn_hook ?_)
  refine wpAny_bind (wpAny_of_eq tn_lin ?_)
  refine wpAny_bind (wpAny_pure ?_)
  refine wpAny_bind (wpAny_of_eq (a := false) (anyDel C) ?_)
  have hasDel : (es.any (·.key.isStr "__del__") || false) = false := by rw [anyOf, hdel]; rfl
  refine wpAny_bind (updateCls_any K.cls rfl rfl fun h6 e6 s6 => ?_)
  have e6' : h6.get? C = some ⟨.type "type", none, .cls { name := name, bases := [.type "object"], mro := [.ref C, .type "object"], ns := ns, qualname := qn, hasDel := false }, #[none, none, some (.str name tn), some (.str qn tq)]⟩ := by have e := e6; simp only [hasDel] at e; exact e
  replace K := K.setC e6' s6
  clear e6 e6' s6
  refine wpAny_bind (wpAny_of_eq tn_made ?_)
  refine wpAny_bind (setSlot_any K.cls (by decide) rfl fun h7 e7 s7 => ?_)
  replace K : Mk hh h7 C ns ⟨.type "type", none, .cls { name := name, bases := [.type "object"], mro := [.ref C, .type "object"], ns := ns, qualname := qn, hasDel := false }, #[none, none, some (.str name tn), some (.str qn tq), some (.builtin "object.__new__")]⟩ _ := K.setC e7 s7
  clear e7 s7
  refine wpAny_bind (refresh_ok K.cls (K.clsAt rfl rfl rfl) ((if_other (by decide +kernel)).trans hnew) ?_)
  refine wpAny_bind (install_ok K.cls rfl rfl fun h8 e8 s8 => ?_)
  replace K : Mk hh h8 C ns ⟨.type "type", none, .cls { name := name, bases := [.type "object"], mro := [.ref C, .type "object"], ns := ns, qualname := qn, hasDel := false, hasDict := true, slotNames := [] }, #[none, none, some (.str name tn), some (.str qn tq), some (.builtin "object.__new__")]⟩ _ := K.setC e8 s8
  clear e8 s8
  refine wpAny_bind (wpAny_of_eq tn_weak ?_)
  refine wpAny_bind (setSlot_any K.cls (by decide) rfl fun h9 e9 s9 => ?_)
  replace K : Mk hh h9 C ns (clsO name qn tn tq C ns) _ := K.setC e9 s9
  clear e9 s9
  change wpAny (model prog w) A _ Q E ⟨h9, g, d, t, os⟩
  refine wp_pos rfl ?_
  refine wpAny_bind (nsGet_v K.nd ((if_other (by decide +kernel)).trans hdi) ?_)
  refine wp_pos rfl ?_
  refine wpAny_bind (wpAny_mkStr ?_)
  have d1 := Nat.ne_of_gt K.ltN
  have f1 := fresh_old K.old
  refine wpAny_bind (wpAny_newObj_type ?_)
  replace K := K.keeps (h' := h9.push (gsO "__dict__" t C (.builtin "function.__dict__") (.builtin "function.__dict__#set"))) fun b o e => Heap.get?_push_of_some _ e
  have g1 : (h9.push (gsO "__dict__" t C (.builtin "function.__dict__") (.builtin "function.__dict__#set"))).get? h9.objs.size = some (gsO "__dict__" t C (.builtin "function.__dict__") (.builtin "function.__dict__#set")) := Heap.get?_push_size _ rfl
  refine wpAny_bind (nsSet_D K.nd fun h10 n10 s10 => ?_)
  change wpAny (model prog w) A _ Q E ⟨h10, g, d, t + 1 + 1, os⟩
  replace g1 := (s10.2 _ d1).trans g1
  replace K := K.setN n10 s10
  clear n10 s10
  refine wp_pos rfl ?_
  refine wpAny_bind (nsGet_v K.nd ((if_other (by decide +kernel)).trans ((if_other (by decide +kernel)).trans hwe)) ?_)
  refine wp_pos rfl ?_
  refine wpAny_bind (wpAny_mkStr ?_)
  have d2 := Nat.ne_of_gt K.ltN
  have f2 := fresh_old K.old
  refine wpAny_bind (wpAny_newObj_type ?_)
  replace K := K.keeps (h' := h10.push (gsO "__weakref__" (t + 1 + 1) C (.builtin "ExceptionGroup.__weakref__") .none)) fun b o e => Heap.get?_push_of_some _ e
  have g2 : (h10.push (gsO "__weakref__" (t + 1 + 1) C (.builtin "ExceptionGroup.__weakref__") .none)).get? h10.objs.size = some (gsO "__weakref__" (t + 1 + 1) C (.builtin "ExceptionGroup.__weakref__") .none) := Heap.get?_push_size _ rfl
  replace g1 := Heap.get?_push_of_some (gsO "__weakref__" (t + 1 + 1) C (.builtin "ExceptionGroup.__weakref__") .none) g1
  refine wpAny_bind (nsSet_D K.nd fun h11 n11 s11 => ?_)
  change wpAny (model prog w) A _ Q E ⟨h11, g, d, t + 1 + 1 + 1 + 1, os⟩
  replace g1 := (s11.2 _ d1).trans g1
  replace g2 := (s11.2 _ d2).trans g2
  replace K := K.setN n11 s11
  clear n11 s11
  refine wpAny_bind (nsGet_v K.nd ((if_other (by decide +kernel)).trans ((if_other (by decide +kernel)).trans ((if_other (by decide +kernel)).trans hdoc))) ?_)
  refine wp_pos rfl ?_
  refine wpAny_bind (nsSet_D K.nd fun h12 n12 s12 => ?_)
  change wpAny (model prog w) A _ Q E ⟨h12, g, d, t + 1 + 1 + 1 + 1 + 1, os⟩
  replace g1 := (s12.2 _ d1).trans g1
  replace g2 := (s12.2 _ d2).trans g2
  replace K := K.setN n12 s12
  clear n12 s12
  refine wpAny_bind (nsGet_v K.nd ((if_other (by decide +kernel)).trans ((if_other (by decide +kernel)).trans ((if_other (by decide +kernel)).trans ((if_other (by decide +kernel)).trans heq)))) ?_)
  refine wp_neg (by decide) ?_
  refine wpAny_bind (wpAny_of_eq' (List.forIn_cons ..) (wpAny_bind (wpAny_bind (wpAny_of_eq (tn_note C) (wpAny_pure (wpAny_of_eq (List.forIn_nil ..) ?_))))))
  refine wpAny_bind (wpAny_tryCatch (wpAny_holding ?_))
  have X : ClsAt h12 C ns (mcEnd mc h9.objs.size h10.objs.size) := K.clsAt rfl rfl rfl
  have D : ∀ x v, mcEnd mc h9.objs.size h10.objs.size x = some v → Dull h12 v := fun x v e => dull_end (fun x v e => (hdull x v e).keeps K.old) (dull_gs g1) (dull_gs g2) e
  refine NsD.elim K.nd fun es' n' hg' hk' hu' hm' => ?_
  refine wpAny_bind (dictEntries_D hg' ?_)
  refine wpAny_bind (wp_loopA (fun e he Q' hQ => ?_) ?_)
  · exact wpAny_bind (asStr_some hk' he fun x => wp_neg Bool.false_ne_true (wpAny_pure hQ))
  refine wp_neg Bool.false_ne_true ?_
  refine wpAny_bind (dictEntries_D hg' ?_)
  refine wpAny_bind (wp_loopA (fun e he Q' hQ => ?_) ?_)
  · have De : Dull h12 e.val := Exists.elim (entry_val hk' hu' he) fun x ex => D x _ ((hm' x).symm.trans ex)
    exact wp_neg (by rw [De.1]; exact Bool.false_ne_true) (wpAny_bind (special_dull De (wpAny_pure hQ)))
  refine wpAny_bind (super_cls X fun h13 e13 k13 => ?_)
  have L13 : Looks (model prog w) h13 (opaqueClassAbove (.ref C)) none := opaque_none ((hst.keeps K.old).keeps k13) hop
  refine wpAny_bind (wpAny_holding (super_get (X.keeps k13) L13 e13 ?_))
  have k14 : ∀ b o, h12.get? b = some o → (h13.push { cls := .type "builtin_function_or_method", data := .fields #[.builtin "object.__init_subclass__", .ref C] }).get? b = some o := fun b o e => Heap.get?_push_of_some _ (k13 b o e)
  refine wpAny_bind (isub_call (f := h13.objs.size) (X.keeps k14) (tn := tn) (tq := tq) (by have e := (K.keeps k14).cls; rw [hname, hqual] at e; exact e) (Heap.get?_push_size _ rfl) ?_)
  refine wpAny_pure (wpAny_pure ?_)
  exact hQ _ _ C ns _ _ _ _ (K.keeps k14) (k14 _ _ g1) (k14 _ _ g2) f1 f2
end
end Mine
end
section
open PySem PySem.W PySem.Calls PyProof.Rows PySem.Builtin
namespace Mine
theorem ty_mro : mroOf (.type "type") = pure [.type "type", .type "object"] := by rw [mroOf_type]; kernel_rfl
theorem ty_made : Bind.madeBy (.type "type") = pure (some "type.__new__") := by kernel_rfl
theorem ty_sub : isSubtype (.type "type") (.type "type") = pure true := by rw [isSubtype_type]; kernel_rfl
theorem ty_init : Slot "type" "__init__" "type.__init__" := .of (owner := "type") (n := "__init__") (by rw [typeLookup_type, builtinLookup_eq_fast]; kernel_rfl) (by decide +kernel) (by decide +kernel) (by decide +kernel)
  (by first | exact .inl (by decide +kernel) | exact .inr (by decide +kernel)) (by rw [isSubtype_type]; kernel_rfl)
theorem ty_can : ((Manifest.find? "type").bind (·.mro.findSome? fun t => (Manifest.find? t).bind fun b => if b.noNew then some true else if b.attrs.any (·.1 == "__new__") then some false else none)).getD false = false := by decide +kernel
theorem ty_check (a b c : Value) : checkTypeCall "type" ⟨[a, b, c], []⟩ = pure () := by kernel_rfl
theorem ty_newCall (a b c : Value) : checkBuiltinCall "type.__new__" ⟨[.type "type", a, b, c], []⟩ = pure () := by kernel_rfl
theorem ty_plain_new : plainId "type.__new__" = true := by decide +kernel
theorem ty_entry_new : entryFor table "type.__new__" = some Builtin.«type.__new__» := entryFor_of_tree (by kernel_rfl)
theorem ty_entry_init : entryFor table "type.__init__" = some Builtin.«type.__init__» := entryFor_of_tree (by kernel_rfl)
theorem ty_initArgs (o a b c : Value) : argsOk "type.__init__" ⟨[o, a, b, c], []⟩ := by unfold argsOk; kernel_rfl
section
variable {prog : Program} {w : World} {A : Around} {E : Value → Shared → Prop} {s : Shared}
theorem call_type {a b c : Value} {Q : Value → Shared → Prop}
    (hnew : wpAny (model prog w) A.in1.in1 (Builtin.«type.__new__» ⟨[.type "type", a, b, c], []⟩) (fun fin s' => ∃ C o, fin = .done (.ret (.ref C)) ∧ s'.heap.get? C = some o ∧ o.cls = .type "type" ∧ Q (.ref C) s') E s) :
    wpAny (model prog w) A (call (.type "type") [a, b, c]) Q E s := by
  refine wpAny_call (codeAny_of_tree ?_)
  show wpAny _ _ (callAny (.type "type") _) _ _ _
  refine wpAny_pure ⟨Code.quiet_builtin _ (by decide +kernel), codeAny_builtin F.entry_type_call ?_⟩
  rw [Around.under_plain (weight_type_call_type "type" [a, b, c] []) rfl]
  unfold Builtin.«type.__call__»
  refine wp_pos (by rfl) ?_
  refine wp_neg (by rw [show ((⟨[a, b, c], []⟩ : Args).pos.length == 1) = false from rfl]; exact Bool.false_ne_true) ?_
  refine wp_neg (by rw [show ((⟨[a, b, c], []⟩ : Args).pos.length != 3) = false from rfl]; exact Bool.false_ne_true) ?_
  refine wp_neg (by rw [ty_can]; exact Bool.false_ne_true) ?_
  refine wpAny_bind (wpAny_of_eq (ty_check a b c) ?_)
  refine wpAny_bind (wpAny_of_eq ty_mro ?_)
  refine wp_neg Bool.false_ne_true ?_
  refine wpAny_bind (wpAny_of_eq ty_made ?_)
  refine wpAny_bind (wpAny_pure ?_)
  refine wpAny_bind (wpAny_holding ?_)
  refine wpAny_call (codeAny_of_tree ?_)
  show wpAny _ A.in1.in1 (do checkBuiltinCall "type.__new__" ⟨[.type "type", a, b, c], []⟩; again (.builtin "type.__new__" ⟨[.type "type", a, b, c], []⟩)) _ _ s
  refine wpAny_bind (wpAny_of_eq (ty_newCall a b c) (wpAny_pure ⟨plainId_quiet ty_plain_new _, codeAny_builtin ty_entry_new ?_⟩))
  rw [Around.under_plainId ty_plain_new _]
  refine wpAny_mono hnew (fun fin s' z => ?_) fun _ _ z => z
  obtain ⟨C, o, rfl, hC, hc, hq⟩ := z
  have TI : s'.TypeIs (.ref C) "type" := ⟨o, hC, hc⟩
  show wpAny _ _ _ _ _ s'
  refine wpAny_bind (wpAny_isInstance TI ty_sub ?_)
  refine wp_neg Bool.false_ne_true ?_
  refine wpAny_bind (wpAny_holding ?_)
  refine wpAny_bind (wpAny_specialOf TI ty_init.lookup ?_)
  refine wpAny_holding (wpAny_bind (wpAny_of_eq (ty_init.bind _) ?_))
  refine wpAny_bind ?_
  refine wpAny_call_entry ty_init TI ty_entry_init ?_ (ty_initArgs _ _ _ _)
  unfold Builtin.«type.__init__»
  refine wp_neg Bool.false_ne_true ?_
  refine wp_neg Bool.false_ne_true ?_
  refine wpAny_pure ⟨_, rfl, ?_⟩
  refine wpAny_pure ?_
  refine wp_neg Bool.false_ne_true ?_
  exact wpAny_pure hq
end
end Mine
end
section
open PySem PySem.W PySem.Calls PyProof.Rows PySem.Builtin
namespace Mine
theorem prep_find : findCls [] (.type "type") (.type "type") "__prepare__" = some (.get (.builtin "classmethod_descriptor.__get__") (.builtin "type.__prepare__") .none (.type "type")) := by kernel_rfl
theorem prep_type : typeOf (.builtin "type.__prepare__") = pure (.type "classmethod_descriptor") := by show builtinType _ = _; rw [builtinType_eq_fast]; kernel_rfl
theorem prep_get : Builtin.«classmethod_descriptor.__get__» ⟨[.builtin "type.__prepare__", .none, .type "type"], []⟩ = (do ret (← newFields "builtin_function_or_method" [.builtin "type.__prepare__", .type "type"])) := by kernel_rfl
theorem prep_check (a b : Value) : checkBoundCall "type.__prepare__" ⟨[.type "type", a, b], []⟩ = pure () := by kernel_rfl
theorem prep_entry : entryFor table "type.__prepare__" = some Builtin.«type.__prepare__» := entryFor_of_tree (by kernel_rfl)
theorem prep_plain : plainId "type.__prepare__" = true := by decide +kernel
theorem ty_opaque : opaqueClassAbove (.type "type") = pure none := by kernel_rfl
theorem ty_typeOf : typeOf (.type "type") = pure (.type "type") := by kernel_rfl
section
variable {prog : Program} {w : World} {A : Around} {E : Value → Shared → Prop} {s : Shared}
theorem prep_attr {Q : Option Value → Shared → Prop}
    (hq : Q (some (.ref s.heap.objs.size)) { s with heap := s.heap.push { cls := .type "builtin_function_or_method", data := .fields #[.builtin "type.__prepare__", .type "type"] }, toks := s.toks + 1 }) :
    wpAny (model prog w) A (getAttr? (.type "type") "__prepare__") Q E s := by
  have X : ∀ h, Frag.In [] h := fun h a o e => nomatch e
  have hf := prep_find
  generalize ("__prepare__" : Str) = name at hf ⊢
  unfold getAttr? getAttrBy?
  refine wpAny_bind (wpAny_mkText (wpAny_bind (wpAny_attempt ?_)))
  unfold getAttrBy
  refine wpAny_holding (wpAny_bind (wpAny_of_eq ty_typeOf (wpAny_bind (wpAny_of_eq KF.slot_tga.lookup ?_))))
  refine wp_neg (by decide) ?_
  unfold getAttrByItsOwn hookBefore callGetattribute boundAndCalled
  refine wpAny_bind (wpAny_of_eq (show (if onTheHeap (.type "type") then typeLookup (.type "type") "__getattr__" else pure none) = pure none from rfl) ?_)
  refine wpAny_bind (wpAny_attempt (wpAny_holding ?_))
  refine wp_neg (by decide) ?_
  refine wpAny_bind (wpAny_of_eq (KF.slot_tga.bind _) ?_)
  refine wpAny_mono (Q := fun v s' => v = .ref s.heap.objs.size ∧ s' = { s with heap := s.heap.push { cls := .type "builtin_function_or_method", data := .fields #[.builtin "type.__prepare__", .type "type"] }, toks := s.toks + 1 }) (E := fun _ _ => False)
    (wpAny_call_entry (s := { s with toks := s.toks + 1 }) KF.slot_tga (show Shared.TypeIs { s with toks := s.toks + 1 } (.type "type") "type" from ty_typeOf) KF.entry_tga ?_ (KF.args_tga _ _)) (fun v s' hv => ?_) fun _ _ z => z.elim
  · refine tga_run (s := { s with toks := s.toks + 1 }) (K := []) (X _) (Looks.of_pure ty_opaque) (Looks.of_pure ty_typeOf) hf ?_
    refine wpAny_bind (wpAny_holding (wpAny_call_entry (s := { s with toks := s.toks + 1 }) cmd_slot (show Shared.TypeIs { s with toks := s.toks + 1 } _ _ from prep_type) cmd_entry ?_ (cmd_args _ _ _)))
    rw [prep_get]
    refine wpAny_bind (wpAny_newObj_type (wpAny_pure ⟨_, rfl, wpAny_pure ⟨_, rfl, rfl, rfl⟩⟩) ?_)
    show 2 ≤ sizeLine + 2
    lia
  · obtain ⟨rfl, rfl⟩ := hv
    exact wpAny_pure (wpAny_pure hq)
theorem prep_call {f : Addr} {a b : Value} {Q : Value → Shared → Prop} (hf : s.heap.get? f = some { cls := .type "builtin_function_or_method", data := .fields #[.builtin "type.__prepare__", .type "type"] })
    (hq : Q (.ref s.heap.objs.size) { s with heap := s.heap.push { cls := .type "dict", data := .dict #[] } }) : wpAny (model prog w) A (call (.ref f) [a, b] []) Q E s := by
  refine wpAny_call (codeAny_of_tree ?_)
  show wpAny _ A.in1 (callAny (.ref f) _) _ _ _
  unfold callAny
  refine wpAny_bind (wpAny_load hf ?_)
  refine wp_pos (by rfl) ?_
  refine wp_pos (by rfl) ?_
  refine wpAny_bind (wpAny_of_eq (prep_check a b) ?_)
  refine wpAny_pure ⟨plainId_quiet prep_plain _, codeAny_builtin prep_entry ?_⟩
  rw [Around.under_plainId prep_plain _]
  unfold Builtin.«type.__prepare__»
  exact wpAny_bind (wpAny_newObj_type (wpAny_pure hq))
end
end Mine
end
section
open PySem PySem.W PySem.Calls PyProof.Rows PySem.Builtin
namespace Mine
section
variable {M : Model} {A : Around} {E : Value → Shared → Prop} {s : Shared}
theorem classCode_ok {env : Env} {c P : Addr} {ps : Array Value} {pos : Pos} {firstLine : Nat} {name qualname : Str} {scope : Scope}
    {Q : Value → Shared → Prop} (hc : env.code = .ref c) (hok : s.heap.IsCode c P ps) (hnf : codeAmong pos ps.toList = none)
    (hQ : ∀ c' P' h' tk, Heap.ExtBut P s.heap h' → s.heap.objs.size ≤ c' → s.heap.objs.size ≤ P' → h'.IsCode c P (ps ++ #[rawInt pos.line, rawInt pos.col, .ref c']) → h'.IsCode c' P' #[] →
      Q (.ref c') { s with heap := h', toks := tk }) :
    wpAny M A (classCode env pos firstLine name qualname scope) Q E s := by
  obtain ⟨o, vs, file, tf, flags, tg, inF, text, tt, op, ho, hd, h11, h2, h7, h9, h10, hop, hpd, htr, hne⟩ := id hok
  unfold classCode codeAt
  rw [hc, if_neg (show ¬ ((Value.ref c == Value.none) = true) from Bool.false_ne_true)]
  refine wpAny_bind (wpAny_fieldsOf ho hd ?_)
  rw [h11]
  refine wpAny_bind (wpAny_fieldsOf hop hpd ?_)
  rw [hnf, h2, h7, h9, h10]
  refine wpAny_bind (wpAny_newCode fun c' P' h' tk hk hc' hP' hcode' hrec' => ?_)
  have hop' := hk _ _ hop
  refine wpAny_bind (wpAny_updateFieldsOfTheText hop' hpd ?_)
  have hnew : (Obj.mapFields (fun vs => if (codeAmong pos vs.toList).isSome = true then vs else vs ++ #[rawInt pos.line, rawInt pos.col, .ref c']) op).data =
      .fields (ps ++ #[rawInt pos.line, rawInt pos.col, .ref c']) := by
    rw [Obj.data_mapFields hpd, hnf]; rfl
  have hget := Heap.get?_update_self (h := h') (fun o => Obj.mapFields (fun vs => if (codeAmong pos vs.toList).isSome = true then vs else
    vs ++ #[rawInt pos.line, rawInt pos.col, .ref c']) o) hop' (Obj.isFreed_of_fields hnew)
  refine wpAny_bind (wpAny_fieldsOf hget hnew ?_)
  have hl : (ps ++ #[rawInt pos.line, rawInt pos.col, Value.ref c']).toList = ps.toList ++ [rawInt pos.line, rawInt pos.col, .ref c'] := by simp
  rw [hl, codeAmong_snoc _ htr hnf]
  have lt := Heap.lt_size hop
  refine wpAny_pure (hQ c' P' _ _ (fun b o' hb e => ((Heap.SameBut.update ..).extBut b o' hb (hk b o' e))) hc' hP' ?_ ?_)
  · exact ⟨o, vs, file, tf, flags, tg, inF, text, tt, _, (Heap.SameBut.update ..).extBut _ _ hne (hk _ _ ho), hd, h11, h2, h7, h9, h10, hget, hnew,
      by rw [hl]; exact TriplesOk_snoc _ _ _ _ htr, hne⟩
  · exact hcode'.sameBut (Heap.SameBut.update ..) (Nat.ne_of_gt (Nat.lt_of_lt_of_le lt hc')) (Nat.ne_of_gt (Nat.lt_of_lt_of_le lt hP'))
theorem clsName {sc : Scope} {nsA c fr : Addr} {q : Str} {mc mg : Str → Option Value} {v : Value} {Q : Value → Shared → Prop} (hk : sc.kind = .class) (hl : sc.names.lookup ("__name__" : Str) = none) (hn : NsD s.heap nsA mc) (e : mc "__name__" = none)
    (hg : s.heap.Ns mainGlobals mg) (hv : mg "__name__" = some v) (h : Q v s) : wpAny M A (loadName (clsEnv sc nsA q c fr) "__name__") Q E s := by
  have hcn : compilersOwnNames.contains ("__name__" : Str) = true := by decide +kernel
  generalize ("__name__" : Str) = x at *
  obtain ⟨es, n, ho, r⟩ := id hn
  have key : wpAny M A (localGet (clsEnv sc nsA q c fr) x) (fun r s' => r = none ∧ s' = s) E s := by
    unfold localGet
    refine wpAny_bind (wpAny_load ho ?_)
    simp only [beq_self_eq_true, if_true]
    exact wpAny_nsGet hn.ns1.ns ⟨e, rfl⟩
  unfold loadName Env.kindOf Env.blockKind
  simp only [hk, hl, ScopeKind.isAnnotationScope, Bool.false_and, Bool.false_eq_true, if_false]
  refine wp_neg (by rw [hcn]; decide) ?_
  refine wpAny_bind (wpAny_mono key (fun r s' z => ?_) fun _ _ z => z)
  obtain ⟨rfl, rfl⟩ := z
  unfold loadGlobal
  refine wpAny_bind (wpAny_nsGet hg ?_)
  rw [hv]
  exact wpAny_pure h
theorem nodup_le : ∀ {ks l : List Str}, ks.Nodup → (∀ x ∈ ks, x ∈ l) → ks.length ≤ l.length
  | [], _, _, _ => Nat.zero_le _
  | k :: ks, l, nd, h => by
    obtain ⟨n1, n2⟩ := List.nodup_cons.mp nd
    have hk := h k List.mem_cons_self
    have := nodup_le (l := l.erase k) n2 fun x hx => (List.mem_erase_of_ne (show x ≠ k from fun e => n1 (by rw [← e]; exact hx))).mpr (h x (List.mem_cons_of_mem _ hx))
    rw [List.length_erase_of_mem hk] at this
    have : 0 < l.length := List.length_pos_of_mem hk
    simp only [List.length_cons]
    lia
noncomputable def keyOf (e : DictEntry) : Str := match e.key with | .str x _ => x | _ => ""
theorem size_le {es : Array DictEntry} {m : Str → Option Value} {l : List Str} (hk : StrKeys es) (hu : UniqKeys es) (hm : ∀ x, nsFind es x = m x) (hl : ∀ x, m x ≠ none → x ∈ l) : es.size ≤ l.length := by
  have len : es.size = (es.toList.map keyOf).length := by simp
  rw [len]
  refine nodup_le ?_ fun x hx => ?_
  · have : es.toList.Pairwise fun a b => keyOf a ≠ keyOf b := by
      have hk' : ∀ e ∈ es.toList, ∃ n t, e.key = .str n t := fun e he => hk e (Array.mem_toList_iff.mp he)
      unfold UniqKeys at hu
      refine List.Pairwise.imp_of_mem (fun {a b} ha hb h e => ?_) hu
      obtain ⟨n1, t1, e1⟩ := hk' a ha
      obtain ⟨n2, t2, e2⟩ := hk' b hb
      simp only [keyOf, e1, e2] at e
      subst e
      exact h n1 (by rw [e1]; simp [isStr_str]) (by rw [e2]; simp [isStr_str])
    exact List.pairwise_map.mpr this
  · obtain ⟨e, he, rfl⟩ := List.mem_map.mp hx
    obtain ⟨n, t, ek⟩ := hk e (Array.mem_toList_iff.mp he)
    refine hl _ ?_
    have kx : keyOf e = n := by simp [keyOf, ek]
    rw [kx, ← hm n]
    intro z
    rw [nsFind, findBy, Option.map_eq_none_iff, Array.find?_eq_none] at z
    have := z e (Array.mem_toList_iff.mp he)
    rw [ek] at this
    simp [isStr_str] at this
end
end Mine
end
section
open PySem PySem.W PySem.Calls PyProof.Rows PySem.Builtin
namespace Mine
theorem ne2 {a b z : Nat} (h : b < z) (e : a = z + 2) : a ≠ b := by lia
theorem mem_of_lookup {x : Str} {cv : CV} : ∀ {l : List (Str × CV)}, l.lookup x = some cv → (x, cv) ∈ l
  | [], e => by cases e
  | (y, c) :: l, e => by
    rw [List.lookup_cons] at e
    cases h : (x == y) with
    | true => rw [h] at e; cases e; rw [beq_iff_eq.mp h]; exact List.mem_cons_self
    | false => rw [h] at e; exact List.mem_cons_of_mem _ (mem_of_lookup e)
theorem dget : typeLookup (.type "dict") "__getitem__" = pure (some (.builtin "dict.__getitem__")) := by rw [typeLookup_type, builtinLookup_eq_fast]; kernel_rfl
theorem isType_type : isType (.type "type") = pure true := by kernel_rfl
noncomputable def banned : List Str := ["__slots__", "__del__", "__doc__", "__new__", "__init_subclass__", "__class_getitem__", "__classcell__", "__classdictcell__", "__dict__", "__weakref__", "__eq__", "__static_attributes__", "__name__"]
noncomputable def st0 (nm : Str) (fl : Int) : CSt := ⟨[("__firstlineno__", .int fl), ("__qualname__", .str "MPU"), ("__module__", .str nm)], [], [], []⟩
noncomputable abbrev mcSt (mc : Str → Option Value) (sa : Addr) : Str → Option Value := fun (x : Str) => if x = ("__static_attributes__" : Str) then some (.ref sa) else mc x
structure Made (h : Heap) (Pl B : Nat) (st : CSt) (C ns : Addr) (φ ψ : List Addr) (mc : Str → Option Value) (sa a1 a2 : Addr) : Prop where
  lo : Pl < B ∧ mainGlobals < B
  cls : ∃ tn tq, h.get? C = some (clsO "MPU" "MPU" tn tq C ns)
  nd : NsD h ns (mcEnd (mcSt mc sa) a1 a2)
  sm : ∃ ps, Sm B ("MPU" ++ ".") h st φ ψ mc ps
  d1 : ∃ t, h.get? a1 = some (gsO "__dict__" t C (.builtin "function.__dict__") (.builtin "function.__dict__#set"))
  d2 : ∃ t, h.get? a2 = some (gsO "__weakref__" t C (.builtin "ExceptionGroup.__weakref__") .none)
  ne : ∀ x ∈ [C, ns, a1, a2], x ≠ Pl ∧ x ≠ mainGlobals
theorem Made.keep {h h' : Heap} {Pl B : Nat} {st : CSt} {C ns : Addr} {φ ψ : List Addr} {mc : Str → Option Value} {sa a1 a2 : Addr} (x : Made h Pl B st C ns φ ψ mc sa a1 a2) (k : ∀ b o, b ≠ Pl → b ≠ mainGlobals → h.get? b = some o → h'.get? b = some o) : Made h' Pl B st C ns φ ψ mc sa a1 a2 := by
  have kk : ∀ y ∈ [C, ns, a1, a2], ∀ o, h.get? y = some o → h'.get? y = some o := fun y hy o e => k y o (x.ne y hy).1 (x.ne y hy).2 e
  refine ⟨x.lo, ?_, x.nd.at fun o e => kk _ (by simp) _ e, ?_, ?_, ?_, x.ne⟩
  · obtain ⟨tn, tq, e⟩ := x.cls; exact ⟨tn, tq, kk _ (by simp) _ e⟩
  · obtain ⟨ps, S⟩ := x.sm
    exact ⟨ps, S.keep fun b o hb e => k b o (Nat.ne_of_gt (Nat.lt_of_lt_of_le x.lo.1 hb)) (Nat.ne_of_gt (Nat.lt_of_lt_of_le x.lo.2 hb)) e⟩
  · obtain ⟨t, e⟩ := x.d1; exact ⟨t, kk _ (by simp) _ e⟩
  · obtain ⟨t, e⟩ := x.d2; exact ⟨t, kk _ (by simp) _ e⟩
theorem dull_int {h : Heap} {i : Int} {t : Tok} : Dull h (.int i t) := ⟨fun k => by cases k <;> rfl, "int", rfl, by rw [typeLookup_type, builtinLookup_eq_fast]; kernel_rfl⟩
theorem dull_str {h : Heap} {i : Str} {t : Tok} : Dull h (.str i t) := ⟨fun k => by cases k <;> rfl, "str", rfl, by rw [typeLookup_type, builtinLookup_eq_fast]; kernel_rfl⟩
theorem set_fn : typeLookup (.type "function") "__set_name__" = pure none := by rw [typeLookup_type, builtinLookup_eq_fast]; kernel_rfl
theorem set_list : typeLookup (.type "list") "__set_name__" = pure none := by rw [typeLookup_type, builtinLookup_eq_fast]; kernel_rfl
theorem set_tuple : typeLookup (.type "tuple") "__set_name__" = pure none := by rw [typeLookup_type, builtinLookup_eq_fast]; kernel_rfl
theorem dull_ref {h : Heap} {a : Addr} {T : String} {o : Obj} (e : h.get? a = some o) (hc : o.cls = .type T) (hl : typeLookup (.type T) "__set_name__" = pure none) : Dull h (.ref a) := ⟨fun k => by cases k <;> rfl, T, ⟨_, e, hc⟩, hl⟩
theorem Sm.dull {B : Nat} {q : Str} {h : Heap} {st : CSt} {φ ψ : List Addr} {mc : Str → Option Value} {ps : Array Value} (S : Sm B q h st φ ψ mc ps) {x : Str} {v : Value} (e : mc x = some v) : Dull h v := by
  have := S.tab x
  cases hx : st.tab.lookup x with
  | none => rw [hx] at this; rw [this] at e; cases e
  | some cv =>
    rw [hx] at this
    obtain ⟨u, e1, r⟩ := this
    rw [e] at e1; cases e1
    cases cv with
    | int i => obtain ⟨t, rfl⟩ := r; exact dull_int
    | str i => obtain ⟨t, rfl⟩ := r; exact dull_str
    | fn k =>
      obtain ⟨a, ea, rfl⟩ := r
      have hlt : k < st.fns.length := by rw [← S.flen]; exact (List.getElem?_eq_some_iff.mp ea).1
      obtain ⟨dV, vs, ⟨pm, c', doc, _, _, eo, _⟩, _⟩ := S.fn k a _ ea (List.getElem?_eq_getElem hlt)
      exact dull_ref eo rfl set_fn
    | lst k =>
      obtain ⟨a, ea, rfl⟩ := r
      have hlt : k < st.lsts.length := by rw [← S.llen]; exact (List.getElem?_eq_some_iff.mp ea).1
      obtain ⟨vs, _, eo, _⟩ := S.lst k a _ ea (List.getElem?_eq_getElem hlt)
      exact dull_ref eo rfl set_list
noncomputable abbrev mc0 (nm qual : Str) (fl : Int) (tnm t1 t2 : Tok) : Str → Option Value := fun (y : Str) => if y = ("__firstlineno__" : Str) then some (.int fl t2) else if y = ("__qualname__" : Str) then some (.str qual t1) else if y = ("__module__" : Str) then some (.str nm tnm) else none
theorem sm0 {B : Nat} {q nm qual : Str} {h : Heap} {fl : Int} {tnm t1 t2 : Tok} (hq : qual = "MPU") : Sm B q h (st0 nm fl) [] [] (mc0 nm qual fl tnm t1 t2) #[] := by
  refine ⟨?_, rfl, fun k a fi e => (by cases e), rfl, fun k a its e => (by cases e), [], trivial, fun x => Iff.rfl⟩
  have T1 := tab_set (φ := []) (ψ := []) (φ' := []) (ψ' := []) (tab := []) (mc := fun _ => none) (x := ("__module__" : Str)) (v := .str nm tnm) (cv := .str nm) (List.prefix_refl _) (List.prefix_refl _) ⟨_, rfl⟩ (fun x => rfl)
  have T2 := tab_set (x := ("__qualname__" : Str)) (v := .str qual t1) (cv := .str "MPU") (List.prefix_refl _) (List.prefix_refl _) (by rw [hq]; exact ⟨_, rfl⟩) T1
  exact tab_set (x := ("__firstlineno__" : Str)) (v := .int fl t2) (cv := .int fl) (List.prefix_refl _) (List.prefix_refl _) ⟨_, rfl⟩ T2
section
variable {prog : Program} {w : World} {A : Around} {E : Value → Shared → Prop} {s : Shared}
set_option maxHeartbeats 1000000 in
theorem build_ok {c Pl F : Addr} {ps : Array Value} {mg ms : Str → Option Value} {body : List Stmt} {sc : Scope} {statics : List Str} {fl : Nat} {pos : Pos} {st : CSt} {nm qual : Str} {tnm : Tok} {Q : Value → Shared → Prop}
    (hm : s.heap.Main mg c Pl ps) (hnf : codeAmong pos ps.toList = none) (hname : mg "__name__" = some (.str nm tnm)) (hqual : qual = "MPU")
    (hlim : s.heap.NoLimit) (hdep : A.depth + 2 < recursionLimit) (hst : s.heap.Ns cStatics ms) (hop : ms "thirdparty.any" = none) (hbig : sysModules < s.heap.objs.size)
    (hk : sc.kind = .class) (hfree : ∀ x ∈ sc.names, x.2 ≠ .free) (hcl : (sc.names.lookup ("__class__" : Str) == some NameKind.cell) = false) (hcd : (sc.names.lookup ("__classdict__" : Str) == some NameKind.cell) = false)
    (hn1 : sc.names.lookup ("__name__" : Str) = none) (hn2 : sc.names.lookup ("__module__" : Str) = none) (hn3 : sc.names.lookup ("__qualname__" : Str) = none) (hn4 : sc.names.lookup ("__firstlineno__" : Str) = none) (hn5 : sc.names.lookup ("__static_attributes__" : Str) = none)
    (hann : hasAnns body = false) (hdoc : docOf body = none) (hrun : clsRun sc body (st0 nm fl) = some st) (hlen : st.tab.length ≤ 900) (hban : ∀ x ∈ banned, st.tab.lookup x = none)
    (hmo : ∃ t, st.tab.lookup ("__module__" : Str) = some (.str t)) (hqn : st.tab.lookup ("__qualname__" : Str) = some (.str "MPU"))
    (hQ : ∀ h' tk c' B C ns φ ψ mc sa a1 a2, Made h' Pl B st C ns φ ψ mc sa a1 a2 → h'.Main mg c Pl (ps ++ #[rawInt pos.line, rawInt pos.col, .ref c']) → (∀ b o, b ≠ Pl → s.heap.get? b = some o → h'.get? b = some o) → Q (.ref C) { s with heap := h', toks := tk }) :
    wpAny (model prog w) A (buildClass qual qual [] [] body sc statics fl (mainEnv prog c F) pos none) Q E s := by
  unfold buildClass
  refine wpAny_bind (wpAny_newObj_type ?_)
  refine wpAny_bind (wpAny_of_eq (List.forIn_nil ..) ?_)
  refine wpAny_bind (wpAny_pure ?_)
  refine wpAny_bind (wpAny_of_eq isType_type ?_)
  refine wp_pos rfl ?_
  refine wpAny_bind (wpAny_of_eq (List.forIn_nil ..) ?_)
  refine wpAny_bind (wpAny_mkText ?_)
  refine wp_neg Bool.false_ne_true ?_
  refine wpAny_bind (wpAny_pure ?_)
  refine wpAny_holding ?_
  refine wpAny_bind (prep_attr ?_)
  refine wpAny_bind (prep_call (Heap.get?_push_size _ rfl) ?_)
  have k1 : ∀ b o, s.heap.get? b = some o → (((s.heap.push { cls := .type "tuple", data := .seq #[] }).push { cls := .type "builtin_function_or_method", data := .fields #[.builtin "type.__prepare__", .type "type"] }).push { cls := .type "dict", data := .dict #[] }).get? b = some o :=
    fun b o e => Heap.get?_push_of_some _ (Heap.get?_push_of_some _ (Heap.get?_push_of_some _ e))
  have eT : (((s.heap.push { cls := .type "tuple", data := .seq #[] }).push { cls := .type "builtin_function_or_method", data := .fields #[.builtin "type.__prepare__", .type "type"] }).push { cls := .type "dict", data := .dict #[] }).get? s.heap.objs.size = some { cls := .type "tuple", data := .seq #[] } :=
    Heap.get?_push_of_some _ (Heap.get?_push_of_some _ (Heap.get?_push_size _ rfl))
  have eN : (((s.heap.push { cls := .type "tuple", data := .seq #[] }).push { cls := .type "builtin_function_or_method", data := .fields #[.builtin "type.__prepare__", .type "type"] }).push { cls := .type "dict", data := .dict #[] }).get? ((s.heap.push { cls := .type "tuple", data := .seq #[] }).push { cls := .type "builtin_function_or_method", data := .fields #[.builtin "type.__prepare__", .type "type"] }).objs.size = some { cls := .type "dict", data := .dict #[] } :=
    Heap.get?_push_size _ rfl
  have zN : ((s.heap.push { cls := .type "tuple", data := .seq #[] }).push { cls := .type "builtin_function_or_method", data := .fields #[.builtin "type.__prepare__", .type "type"] }).objs.size = s.heap.objs.size + 2 := by rw [Heap.size_push, Heap.size_push]
  change wpAny (model prog w) A _ Q E ⟨((s.heap.push { cls := .type "tuple", data := .seq #[] }).push { cls := .type "builtin_function_or_method", data := .fields #[.builtin "type.__prepare__", .type "type"] }).push { cls := .type "dict", data := .dict #[] }, s.gens, s.drawn, s.toks + 1 + 1, s.os⟩
  generalize ((s.heap.push { cls := .type "tuple", data := .seq #[] }).push { cls := .type "builtin_function_or_method", data := .fields #[.builtin "type.__prepare__", .type "type"] }).push { cls := .type "dict", data := .dict #[] } = h1 at k1 eT eN ⊢
  generalize ((s.heap.push { cls := .type "tuple", data := .seq #[] }).push { cls := .type "builtin_function_or_method", data := .fields #[.builtin "type.__prepare__", .type "type"] }).objs.size = nsA at eN zN ⊢
  obtain ⟨bm, ob, hbm, hbm0, hbmG, hbmP, hbo, hbc, hbd, hbp⟩ := hm.bmod
  have TI : (⟨h1, s.gens, s.drawn, s.toks + 1 + 1, s.os⟩ : Shared).TypeIs (.ref nsA) "dict" := ⟨_, eN, rfl⟩
  have hns : (nsA == sysModules) = false := beq_eq_false_iff_ne.mpr (ne2 hbig zN)
  refine wpAny_bind (wp_neg (by rw [hns]; exact Bool.false_ne_true) (wpAny_pure ?_))
  refine wpAny_bind (wpAny_specialOf TI dget ?_)
  refine wp_neg Bool.false_ne_true ?_
  refine wpAny_holding ?_
  refine wp_neg (by rw [hcl]; exact Bool.false_ne_true) (wpAny_bind (wpAny_pure ?_))
  refine wp_neg (by rw [hcd]; exact Bool.false_ne_true) (wpAny_bind (wpAny_pure ?_))
  have l1 : s.heap.objs.size + 2 < h1.objs.size := by rw [← zN]; exact Heap.lt_size eN
  refine wpAny_bind (classCode_ok rfl (hm.code.keeps k1) hnf fun c' P' h2 tk2 x2 hc' hP' hok2 hcode2 => ?_)
  have pl1 : Pl < s.heap.objs.size := hm.code.lt.2
  dsimp only at x2 hc' hP'
  have g2 : h2.Ns mainGlobals mg := (hm.g.keeps k1).extBut x2 (Nat.ne_of_lt hm.low.2)
  have eN2 := x2 _ _ (ne2 pl1 zN) eN
  have eT2 := x2 _ _ (Nat.ne_of_gt pl1) eT
  have k2 : ∀ b o, b ≠ Pl → s.heap.get? b = some o → h2.get? b = some o := fun b o hb e => x2 _ _ hb (k1 _ _ e)
  refine wpAny_bind (wpAny_builtinsFor (bm := bm) (m := mg) (o := ob) g2 hbm hbm0 (k2 _ _ hbmP hbo) hbc hbd hbp ?_)
  refine wpAny_bind (wpAny_bind (wpAny_nsGet g2 (wpAny_alloc ?_)))
  refine wpAny_bind (wpAny_of_eq (closureFor_none hfree) ?_)
  refine wpAny_holding ?_
  change wpAny (model prog w) A _ Q E ⟨h2.push { cls := .type "frame", slots := #[some (.ref c'), some (.ref mainGlobals), some (.ref nsA), none, some ((mg "__name__").getD .none), none, some (.ref builtinsNs)] }, s.gens, s.drawn, tk2, s.os⟩
  have k3 : ∀ b o, h2.get? b = some o → (h2.push { cls := .type "frame", slots := #[some (.ref c'), some (.ref mainGlobals), some (.ref nsA), none, some ((mg "__name__").getD .none), none, some (.ref builtinsNs)] }).get? b = some o := fun b o e => Heap.get?_push_of_some _ e
  have z3 : h2.objs.size < (h2.push { cls := .type "frame", slots := #[some (.ref c'), some (.ref mainGlobals), some (.ref nsA), none, some ((mg "__name__").getD .none), none, some (.ref builtinsNs)] }).objs.size := by rw [Heap.size_push]; lia
  generalize h2.push { cls := .type "frame", slots := #[some (.ref c'), some (.ref mainGlobals), some (.ref nsA), none, some ((mg "__name__").getD .none), none, some (.ref builtinsNs)] } = h3 at k3 z3 ⊢
  generalize hfr : h2.objs.size = fr at z3 ⊢
  have nS : cStatics ≠ Pl := Nat.ne_of_lt (Nat.lt_trans (by decide) hm.low.2)
  have k4 : ∀ b o, b ≠ Pl → s.heap.get? b = some o → h3.get? b = some o := fun b o hb e => k3 _ _ (k2 _ _ hb e)
  refine wpAny_bind (wpAny_enterFrame (hlim.at fun o e => k4 _ _ nS e) (by lia) ?_)
  have N3 : NsD h3 nsA (fun _ => none) := ⟨#[], 0, k3 _ _ eN2, fun e he => absurd he (Array.not_mem_empty e), List.Pairwise.nil, fun x => rfl⟩
  have G3 : h3.Ns mainGlobals mg := g2.keeps k3
  have C3 : h3.IsCode c' P' #[] := hcode2.keeps k3
  have M3 : h3.IsCode c Pl (ps ++ #[rawInt pos.line, rawInt pos.col, .ref c']) := hok2.keeps k3
  have zP : s.heap.objs.size ≤ P' := Nat.le_trans (Nat.le_of_lt (Nat.lt_of_le_of_lt (Nat.le_add_right _ 2) l1)) hP'
  have nP : nsA ≠ P' := by
    intro e
    have : h1.objs.size ≤ nsA := e ▸ hP'
    rw [zN] at this
    lia
  have X3 : CS h3 mg nsA c' P' #[] (fun _ => none) := ⟨G3, C3, ⟨bm, ob, hbm, hbm0, hbmG, Nat.ne_of_lt (Nat.lt_of_lt_of_le (Heap.lt_size hbo) zP), k4 _ _ hbmP hbo, hbc, hbd, hbp⟩, N3,
    Nat.ne_of_lt (Nat.lt_of_lt_of_le hm.g.lt zP), (Ne.symm (ne2 hm.g.lt zN)), nP⟩
  refine wpAny_bind (wpAny_onRaise ?_)
  refine wpAny_bind (clsName (c := c') (fr := fr) hk hn1 N3 rfl G3 hname ?_)
  refine wpAny_bind (clsStore (c := c') (fr := fr) hk (.inr ⟨hn2, by decide +kernel⟩) X3.ns fun h4 n4 s4 => ?_)
  have X4 := X3.set n4 s4
  refine wpAny_bind (wpAny_mkText ?_)
  refine wpAny_bind (clsStore (c := c') (fr := fr) hk (.inr ⟨hn3, by decide +kernel⟩) X4.ns fun h5 n5 s5 => ?_)
  have X5 := X4.set n5 s5
  refine wpAny_bind (wpAny_mkInt ?_)
  refine wpAny_bind (clsStore (c := c') (fr := fr) hk (.inr ⟨hn4, by decide +kernel⟩) X5.ns fun h6 n6 s6 => ?_)
  have X6 : CS h6 mg nsA c' P' #[] (mc0 nm qual fl tnm (tk2 + 1) (tk2 + 1 + 1 + 1)) := X5.set n6 s6
  refine wpAny_pure ?_
  have kk : Keep P' nsA h3 h6 := fun b o _ h2 e => (s6.2 b h2).trans ((s5.2 b h2).trans ((s4.2 b h2).trans e))
  have z6 : h6.objs.size = h3.objs.size := s6.1.trans (s5.1.trans s4.1)
  change wpAny (model prog w) A _ Q E ⟨h6, s.gens, s.drawn, tk2 + 1 + 1 + 1 + 1 + 1, s.os⟩
  have lP : P' < h6.objs.size := by rw [z6]; exact C3.lt.2
  have lN : nsA < h6.objs.size := by rw [z6]; exact Heap.lt_size (k3 _ _ eN2)
  clear X3 X4 X5 n4 n5 n6 s4 s5 s6
  refine wpAny_bind (wpAny_run (codeAny_body hann hdoc ?_))
  refine run_ok (fr := fr) (B := h6.objs.size) hk hrun X6 (sm0 hqual) (Nat.le_refl _) lP lN fun φ ψ mc ps' h7 tk7 X7 S7 kp7 z7 => ?_
  have k7 : ∀ b o, b ≠ P' → b ≠ nsA → h3.get? b = some o → h7.get? b = some o := fun b o h1 h2 e => kp7 b o h1 h2 (kk b o h1 h2 e)
  refine wpAny_bind (wpAny_onRaise ?_)
  refine wpAny_bind (wpAny_mkStrs fun vs => ?_)
  refine wpAny_bind (wpAny_newObjAsIs_type ?_)
  have k8 : ∀ b o, h7.get? b = some o → (h7.push { cls := .type "tuple", data := .seq vs.toArray }).get? b = some o := fun b o e => Heap.get?_push_of_some _ e
  have eS : (h7.push { cls := .type "tuple", data := .seq vs.toArray }).get? h7.objs.size = some { cls := .type "tuple", data := .seq vs.toArray } := Heap.get?_push_size _ rfl
  have X8 := X7.keeps k8
  have S8 := S7.keep fun b o _ e => k8 b o e
  have nS7 : h7.objs.size ≠ nsA := Nat.ne_of_gt (Nat.lt_of_lt_of_le lN z7)
  refine wpAny_bind (clsStore (c := c') (fr := fr) hk (.inr ⟨hn5, by decide +kernel⟩) X8.ns fun h9 n9 s9 => ?_)
  change wpAny (model prog w) A _ _ _ ⟨h9, s.gens, s.drawn, tk7 + statics.length + 1, s.os⟩
  have X9 : CS h9 mg nsA c' P' ps' (mcSt mc h7.objs.size) := X8.set n9 s9
  have S9 := S8.keep (h' := h9) fun b o hb e => (s9.2 b (Nat.ne_of_gt (Nat.lt_of_lt_of_le lN hb))).trans e
  have eS9 := (s9.2 _ nS7).trans eS
  have k9 : ∀ b o, b ≠ P' → b ≠ nsA → h3.get? b = some o → h9.get? b = some o := fun b o h1 h2 e => (s9.2 b h2).trans (k8 _ _ (k7 b o h1 h2 e))
  refine wpAny_pure ?_
  refine wp_neg Bool.false_ne_true ?_
  change wpAny (model prog w) A _ Q E ⟨h9, s.gens, s.drawn, tk7 + statics.length + 1, s.os⟩
  have tabN : ∀ x : Str, st.tab.lookup x = none → mc x = none := fun x e => by have := S9.tab x; rw [e] at this; exact this
  have ban : ∀ x ∈ banned, mc x = none := fun x hx => tabN x (hban x hx)
  have ban' : ∀ x : Str, (x == ("__static_attributes__" : Str)) = false → x ∈ banned → mcSt mc h7.objs.size x = none := fun x h1 h2 => (if_other h1).trans (ban x h2)
  have nPT : s.heap.objs.size ≠ P' := Nat.ne_of_lt (Nat.lt_of_lt_of_le (Nat.lt_of_le_of_lt (Nat.le_add_right _ 2) l1) hP')
  have nNT : s.heap.objs.size ≠ nsA := by rw [zN]; lia
  have eT9 := k9 _ _ nPT nNT (k3 _ _ eT2)
  have nPS : cStatics ≠ P' := Nat.ne_of_lt (Nat.lt_of_lt_of_le hst.lt zP)
  have nNS : cStatics ≠ nsA := Ne.symm (ne2 hst.lt zN)
  have st9 : h9.Ns cStatics ms := hst.at fun o e => k9 _ _ nPS nNS (k4 _ _ nS e)
  obtain ⟨vm, hvm, _⟩ : ∃ v, mc ("__module__" : Str) = some v ∧ True := by
    obtain ⟨t, e⟩ := hmo
    have := S9.tab ("__module__" : Str); rw [e] at this
    obtain ⟨v, e, _⟩ := this; exact ⟨v, e, trivial⟩
  obtain ⟨tq, hvq⟩ : ∃ tq, mc ("__qualname__" : Str) = some (.str "MPU" tq) := by
    have := S9.tab ("__qualname__" : Str); rw [hqn] at this
    obtain ⟨v, e, t, rfl⟩ := this; exact ⟨t, e⟩
  have eP9 : ∃ o, h9.get? Pl = some o := by
    obtain ⟨_, _, _, _, _, _, _, _, _, op, _, _, _, _, _, _, _, hop', _⟩ := M3
    exact ⟨op, k9 _ _ (Nat.ne_of_lt (Nat.lt_of_lt_of_le pl1 zP)) (Ne.symm (ne2 pl1 zN)) hop'⟩
  have eG9 : ∃ o, h9.get? mainGlobals = some o := by obtain ⟨o, _, _, e, _⟩ := X9.g; exact ⟨o, e⟩
  have neOf : ∀ x, h9.get? x = none → x ≠ Pl ∧ x ≠ mainGlobals := fun x e => by
    obtain ⟨o1, q1⟩ := eP9
    obtain ⟨o2, q2⟩ := eG9
    exact ⟨fun z => (by rw [← z, e] at q1; cases q1), fun z => (by rw [← z, e] at q2; cases q2)⟩
  have dl : ∀ x v, mcSt mc h7.objs.size x = some v → Dull h9 v := fun x v e => by
    unfold mcSt at e
    split at e
    · cases e; exact dull_ref eS9 rfl set_tuple
    · exact S9.dull e
  have sz : ∀ es n, h9.get? nsA = some { cls := .type "dict", data := .dict es n } → es.size ≤ 1000 := fun es n e => by
    obtain ⟨es', n', e', hk', hu', hm'⟩ := X9.ns
    rw [e] at e'; cases e'
    refine Nat.le_trans (size_le (l := ("__static_attributes__" : Str) :: st.tab.map (·.1)) hk' hu' hm' fun x hx => ?_) (by simp only [List.length_cons, List.length_map]; lia)
    by_cases q : x = ("__static_attributes__" : Str)
    · rw [q]; exact List.mem_cons_self
    · refine List.mem_cons_of_mem _ ?_
      have hx' : mc x ≠ none := fun e => hx ((if_neg q).trans e)
      have := S9.tab x
      cases hl : st.tab.lookup x with
      | none => rw [hl] at this; exact absurd this hx'
      | some cv =>
        exact List.mem_map.mpr ⟨(x, cv), mem_of_lookup hl, rfl⟩
  refine wpAny_bind (call_type (type_new eT9 X9.ns sz hns (ban' _ (by decide +kernel) (by decide +kernel)) (by rw [show mcSt mc h7.objs.size ("__module__" : Str) = some vm from (if_other (by decide +kernel)).trans hvm]; rfl) (ban' _ (by decide +kernel) (by decide +kernel))
    ((if_other (by decide +kernel)).trans hvq) (ban' _ (by decide +kernel) (by decide +kernel)) hqual rfl (by rw [hqual]; decide +kernel) (by rw [hqual]; decide +kernel)
    (ban' _ (by decide +kernel) (by decide +kernel)) (ban' _ (by decide +kernel) (by decide +kernel)) (ban' _ (by decide +kernel) (by decide +kernel)) (ban' _ (by decide +kernel) (by decide +kernel)) (ban' _ (by decide +kernel) (by decide +kernel)) (ban' _ (by decide +kernel) (by decide +kernel)) (ban' _ (by decide +kernel) (by decide +kernel)) (ban' _ (by decide +kernel) (by decide +kernel))
    dl st9 hop fun h' tk C ns a1 a2 t1 t2 K g1 g2 f1 f2 => ⟨C, _, rfl, K.cls, rfl, ?_⟩))
  refine wpAny_pure (hQ h' tk c' h6.objs.size C ns φ ψ mc h7.objs.size a1 a2 ⟨?_, ?_, K.nd, ?_, ⟨_, g1⟩, ⟨_, g2⟩, ?_⟩ ⟨X9.g.keeps K.old, ?_, hm.low, ?_⟩ ?_)
  · have z3' : s.heap.objs.size < h6.objs.size := Nat.lt_of_le_of_lt zP lP
    exact ⟨Nat.lt_trans pl1 z3', Nat.lt_trans hm.g.lt z3'⟩
  · have e := K.cls; rw [hqual] at e; exact ⟨_, _, e⟩
  · have S := S9.keep fun b o _ e => K.old b o e
    rw [hqual] at S; exact ⟨_, S⟩
  · intro x hx
    simp only [List.mem_cons, List.not_mem_nil, or_false] at hx
    rcases hx with rfl | rfl | rfl | rfl
    · exact neOf _ K.fC
    · exact neOf _ K.fN
    · exact neOf _ f1
    · exact neOf _ f2
  · have nc : c ≠ P' := Nat.ne_of_lt (Nat.lt_of_lt_of_le hm.code.lt.1 zP)
    have nc2 : c ≠ nsA := Ne.symm (ne2 hm.code.lt.1 zN)
    have np : Pl ≠ P' := Nat.ne_of_lt (Nat.lt_of_lt_of_le pl1 zP)
    have np2 : Pl ≠ nsA := Ne.symm (ne2 pl1 zN)
    obtain ⟨o, vs, file, tf, flags, tg, inF, text, tt, op, a, r1, r2, r3, r4, r5, r6, b, r⟩ := M3
    exact ⟨o, vs, file, tf, flags, tg, inF, text, tt, op, K.old _ _ (k9 _ _ nc nc2 a), r1, r2, r3, r4, r5, r6, K.old _ _ (k9 _ _ np np2 b), r⟩
  · have nb1 : bm ≠ P' := Nat.ne_of_lt (Nat.lt_of_lt_of_le (Heap.lt_size hbo) zP)
    have nb2 : bm ≠ nsA := Ne.symm (ne2 (Heap.lt_size hbo) zN)
    exact ⟨bm, ob, hbm, hbm0, hbmG, hbmP, K.old _ _ (k9 _ _ nb1 nb2 (k4 _ _ hbmP hbo)), hbc, hbd, hbp⟩
  · intro b o hb e
    have nb1 : b ≠ P' := Nat.ne_of_lt (Nat.lt_of_lt_of_le (Heap.lt_size e) zP)
    have nb2 : b ≠ nsA := Ne.symm (ne2 (Heap.lt_size e) zN)
    exact K.old _ _ (k9 _ _ nb1 nb2 (k4 _ _ hb e))
end
end Mine
end
section
open PySem PySem.W PySem.Calls PyProof.Rows PySem.Builtin
namespace Mine
theorem Main.set {h h' : Heap} {mg mg' : Str → Option Value} {c Pl : Addr} {ps : Array Value} (x : h.Main mg c Pl ps) (hn : h'.Ns mainGlobals mg') (hs : Heap.SameBut mainGlobals h h') (hb : mg' "__builtins__" = mg "__builtins__") : h'.Main mg' c Pl ps := by
  obtain ⟨bm, ob, hbm, hbm0, hbmG, hbmP, hbo, r⟩ := x.bmod
  exact ⟨hn, x.code.sameBut hs (Nat.ne_of_gt x.low.1) (Nat.ne_of_gt x.low.2), x.low, ⟨bm, ob, hb.trans hbm, hbm0, hbmG, hbmP, (hs.2 _ hbmG).trans hbo, r⟩⟩
section
variable {prog : Program} {w : World} {A : Around} {E : Value → Shared → Prop} {s : Shared} {c Pl F : Addr} {ps : Array Value} {mg ms : Str → Option Value}
theorem store_main {x : Str} {v : Value} {Q : Unit → Shared → Prop} (hmod : prog.main.scope.kind = .module) (hloc : prog.main.scope.names.lookup x = some .local) (hb : (("__builtins__" : Str) == x) = false) (hm : s.heap.Main mg c Pl ps)
    (h : ∀ h', h'.Main (fun y => if y = x then some v else mg y) c Pl ps → Heap.SameBut mainGlobals s.heap h' → Q () { s with heap := h', toks := s.toks + 1 }) : wpAny (model prog w) A (storeName (mainEnv prog c F) x v) Q E s :=
  wpAny_storeName_local (env := mainEnv prog c F) hloc hm.g (fun h' hg' hs' => h h' (Main.set hm hg' hs' (if_other hb)) hs') (by show (prog.main.scope.kind == .class || (prog.main.scope.kind == .module && mainGlobals != mainGlobals)) = false; rw [hmod]; rfl)
theorem name_ok {x t : Str} {k : Nat} {p1 p2 pos : Pos} {Q : Flow → Shared → Prop} (hmod : prog.main.scope.kind = .module) (hloc : prog.main.scope.names.lookup x = some .local) (hb : (("__builtins__" : Str) == x) = false) (hm : s.heap.Main mg c Pl ps)
    (h : ∀ h' tk t', h'.Main (fun y => if y = x then some (.str t t') else mg y) c Pl ps → Heap.SameBut mainGlobals s.heap h' → Q .next { s with heap := h', toks := tk }) : wpAny (model prog w) A (exec (.Assign [.Name x p1] (.Constant (.str t) k p2) pos) (mainEnv prog c F)) Q E s :=
  wpAny_Assign_Name (Calls.Constant_str (store_main (s := { s with toks := s.toks + 1 }) hmod hloc hb hm fun h' hm' hs => h h' _ _ hm' hs))
theorem args0 {f : Value} {Q : Args → Shared → Prop} (h : Q ⟨[], []⟩ s) : wpAny (model prog w) A (evalArgs f false [] []) Q E s := by
  unfold evalArgs
  show wpAny _ A (spliced [] >>= _) Q E s
  refine wpAny_bind (spliced_nil (wpAny_bind (wpAny_pure ?_)))
  refine wpAny_holding ?_
  exact wpAny_bind (wpAny_pure (wpAny_bind (wpAny_pure (wpAny_pure h))))
theorem class_ok {body : List Stmt} {sc : Scope} {statics : List Str} {pos : Pos} {st : CSt} {nm name : Str} {tnm : Tok} {mb : Str → Option Value} {Q : Flow → Shared → Prop}
    (hmod : prog.main.scope.kind = .module) (hloc : prog.main.scope.names.lookup name = some .local) (hbn : mb "__build_class__" = some (.builtin "__build_class__")) (hb : s.heap.Ns builtinsNs mb)
    (hm : s.heap.Main mg c Pl ps) (hnf : codeAmong pos ps.toList = none) (hname : mg "__name__" = some (.str nm tnm)) (hqual : name = "MPU")
    (hlim : s.heap.NoLimit) (hdep : A.depth + 2 < recursionLimit) (hst : s.heap.Ns cStatics ms) (hop : ms "thirdparty.any" = none) (hbig : sysModules < s.heap.objs.size)
    (hk : sc.kind = .class) (hfree : ∀ x ∈ sc.names, x.2 ≠ .free) (hcl : (sc.names.lookup ("__class__" : Str) == some NameKind.cell) = false) (hcd : (sc.names.lookup ("__classdict__" : Str) == some NameKind.cell) = false)
    (hn1 : sc.names.lookup ("__name__" : Str) = none) (hn2 : sc.names.lookup ("__module__" : Str) = none) (hn3 : sc.names.lookup ("__qualname__" : Str) = none) (hn4 : sc.names.lookup ("__firstlineno__" : Str) = none) (hn5 : sc.names.lookup ("__static_attributes__" : Str) = none)
    (hann : hasAnns body = false) (hdoc : docOf body = none) (hrun : clsRun sc body (st0 nm pos.line) = some st) (hlen : st.tab.length ≤ 900) (hban : ∀ x ∈ banned, st.tab.lookup x = none)
    (hmo : ∃ t, st.tab.lookup ("__module__" : Str) = some (.str t)) (hqn : st.tab.lookup ("__qualname__" : Str) = some (.str "MPU"))
    (hQ : ∀ h' tk c' B C ns φ ψ mc sa a1 a2, Made h' Pl B st C ns φ ψ mc sa a1 a2 → h'.Main (fun y => if y = name then some (.ref C) else mg y) c Pl (ps ++ #[rawInt pos.line, rawInt pos.col, .ref c']) → (∀ b o, b ≠ Pl → b ≠ mainGlobals → s.heap.get? b = some o → h'.get? b = some o) → Q .next { s with heap := h', toks := tk }) :
    wpAny (model prog w) A (exec (.ClassDef name [] [] body [] [] sc none name statics pos) (mainEnv prog c F)) Q E s := by
  have hq' : qualnameIn (mainEnv prog c F) name name = name := by
    unfold qualnameIn Env.kindOf
    rw [show (mainEnv prog c F).scope.names.lookup name = some .local from hloc, hqual]
    rfl
  rw [arm_exec_ClassDef, hq']
  refine wpAny_bind (wpAny_pure ?_)
  refine wpAny_bind (wpAny_standAt ?_)
  unfold buildClassGuard
  refine wpAny_bind (wpAny_bind (wpAny_nsGet hb ?_))
  rw [hbn]
  refine wpAny_pure ?_
  refine wpAny_bind (wpAny_holding ?_)
  refine wpAny_bind (args0 ?_)
  refine wpAny_bind (wpAny_standAt (wpAny_holding ?_))
  refine build_ok hm hnf hname hqual hlim hdep hst hop hbig hk hfree hcl hcd hn1 hn2 hn3 hn4 hn5 hann hdoc hrun hlen hban hmo hqn fun h' tk c' B C ns φ ψ mc sa a1 a2 M' main' keep => ?_
  refine wpAny_bind (wpAny_pure ?_)
  refine wpAny_bind (wpAny_standAt ?_)
  refine wpAny_bind (wpAny_bindName (store_main (s := { s with heap := h', toks := tk }) hmod hloc (by rw [hqual]; decide +kernel) main' fun h2 m2 s2 => wpAny_pure ?_))
  exact hQ h2 _ c' B C ns φ ψ mc sa a1 a2 (M'.keep fun b o _ hb e => (s2.2 b hb).trans e) m2 fun b o h1 h2 e => (s2.2 b h2).trans (keep b o h1 e)
end
end Mine
end
section
open PySem PySem.W PySem.Calls PyProof.Rows PySem.Builtin
namespace Mine
theorem halt_done {den : Code → Sem Fin} {p : Program} {w : World} {s s' : Shared} {t : Thread} {f : Flow} (h : step den p w s t = .halt (.done f) s') : through t = true ∧ s' = s := by
  obtain ⟨heap, gens, drawn, toks, os⟩ := s
  obtain ⟨cur, code, pos, stack⟩ := t
  cases cur with
  | pure a =>
    cases a with
    | done g =>
      cases stack with
      | nil =>
        simp only [step, finish] at h
        split at h
        · cases h
        · cases h; exact ⟨rfl, rfl⟩
      | cons fr rest => cases fr <;> simp only [step] at h <;> cases h
    | again c => simp only [step] at h; cases h
  | raise e =>
    cases stack with
    | nil =>
      simp only [step, finish] at h
      split at h <;> cases h
    | cons fr rest => cases fr <;> simp only [step] at h <;> cases h
  | finish e => simp only [step] at h; split at h <;> cases h
  | load a q k => simp only [step] at h; split at h <;> cases h
  | update a q g k => simp only [step] at h; split at h <;> cases h
  | choose a q k => simp only [step] at h; split at h <;> cases h
  | genState g k => simp only [step] at h; split at h <;> cases h
  | resume g r l k => simp only [step] at h; (repeat' split at h) <;> cases h
  | yield v g l k => simp only [step] at h; (repeat' split at h) <;> cases h
  | _ => simp only [step] at h <;> cases h
theorem run_through {p : Program} {w : World} {f : Flow} {s' : Shared} : ∀ {n : Nat} {s : Shared} {t : Thread}, s.asleep → (∀ k s₁ t₁, runN (denote table) p w k s t = .running s₁ t₁ → t₁.calm = true) → runN (denote table) p w n s t = .halted (.done f) s' →
    ∃ m t₁, schedN (denote table) p w m (.single s t) = .running (.single s' t₁) ∧ through t₁ = true
  | 0, _, _, _, _, h => by cases h
  | n + 1, s, t, hr, hc, h => by
    unfold runN at h
    cases hs : step (denote table) p w s t with
    | halt o s1 =>
      rw [hs] at h
      cases h
      obtain ⟨a, rfl⟩ := halt_done hs
      exact ⟨0, t, rfl, a⟩
    | go s1 t1 =>
      rw [hs] at h
      have hl := step_life (denote table) p w s s1 t t1 hs
      obtain ⟨m, t₁, hm, ht⟩ := run_through (Shared.asleep_of_life hl hr) (fun k s₂ t₂ e => hc (k + 1) s₂ t₂ (by unfold runN; rw [hs]; exact e)) h
      have e : sstep (denote table) p w (.single s t) = .go (.single s1 t1) := by
        rcases sstep_single (denote table) p w s t (hc 0 s t rfl) hr with e | e
        · rw [e, hs]; rfl
        · rw [hs] at e; cases e
      exact ⟨m + 1, t₁, by simp only [schedN, e]; exact hm, ht⟩
theorem top_runs {p : Program} {w : World} {t : Sem Fin} {s : Shared} {R : Shared → Prop} (hreg : s.asleep)
    (h : wpAny (model p w) callerA t (fun fin s' => ∃ f, fin = .done f ∧ R s' ∧ s'.gens = #[]) (fun _ _ => False) s) :
    ∃ m t₁ s₁, schedN (denote table) p w m (.single s ⟨t, .builtin "claim.caller" {}, default, []⟩) = .running (.single s₁ t₁) ∧ through t₁ = true ∧ R s₁ ∧ s₁.gens = #[] ∧ s₁.heap.life = s.heap.life := by
  have h' := wp_of_wpAny_done (R := fun r s' => ((∃ f, r = .ok f) ∧ R s' ∧ s'.gens = #[]) ∧ leftWithCleanup s'.gens = false) caller_in
    (wpAny_mono h (fun fin s' ⟨f, e, a, b⟩ => ⟨f, e, ⟨⟨f, rfl⟩, a, b⟩, by rw [b]; simp [leftWithCleanup]⟩) fun _ _ z => z.elim) default
  obtain ⟨n, r, s', hn, ⟨f, rfl⟩, hR, hg⟩ := (wp_iff_halts (M := model p w) t (fun r s' => (∃ f, r = .ok f) ∧ R s' ∧ s'.gens = #[]) default s).mp h'
  obtain ⟨s'', hr, hf, hc⟩ := runNI_real (denote table) p w hn (outcomeOf_ends _)
  obtain rfl := Shared.eq_of_forget_eq hf hg
  obtain ⟨m, t₁, hm, ht⟩ := run_through hreg hc hr
  exact ⟨m, t₁, s'', hm, ht, hR, hg, runN_life _ _ _ hr⟩
end Mine
end
section
open PySem PySem.W PySem.Calls PyProof.Rows PySem.Builtin
namespace Mine
noncomputable def nthS (p : Program) (i : Nat) : Stmt := p.main.body.getD i (.Pass default)
noncomputable def cBody : Stmt → List Stmt | .ClassDef _ _ _ b _ _ _ _ _ _ _ => b | _ => []
noncomputable def cScope : Stmt → Scope | .ClassDef _ _ _ _ _ _ s _ _ _ _ => s | _ => default
noncomputable def cStat : Stmt → List Str | .ClassDef _ _ _ _ _ _ _ _ _ s _ => s | _ => default
noncomputable def cPos : Stmt → Pos | .ClassDef _ _ _ _ _ _ _ _ _ _ p => p | _ => default
noncomputable def dPars : Stmt → Arguments | .FunctionDef _ a _ _ _ _ _ _ _ _ => a | _ => ⟨[], [], none, [], [], none, []⟩
noncomputable def dBody : Stmt → List Stmt | .FunctionDef _ _ b _ _ _ _ _ _ _ => b | _ => []
noncomputable def dScope : Stmt → Scope | .FunctionDef _ _ _ _ _ _ s _ _ _ => s | _ => default
noncomputable def dPos : Stmt → Pos | .FunctionDef _ _ _ _ _ _ _ _ _ p => p | _ => default
noncomputable def okCls (st : CSt) : Bool := decide (st.tab.length ≤ 900) && banned.all (fun x => (st.tab.lookup x).isNone) && (match st.tab.lookup ("__qualname__" : Str) with | some (.str x) => x == "MPU" | _ => false) && (match st.tab.lookup ("__module__" : Str) with | some (.str _) => true | _ => false)
theorem okCls_of {st : CSt} (h : okCls st = true) : st.tab.length ≤ 900 ∧ (∀ x ∈ banned, st.tab.lookup x = none) ∧ (∃ t, st.tab.lookup ("__module__" : Str) = some (.str t)) ∧ st.tab.lookup ("__qualname__" : Str) = some (.str "MPU") := by
  unfold okCls at h
  simp only [Bool.and_eq_true, decide_eq_true_eq, List.all_eq_true, Option.isNone_iff_eq_none] at h
  obtain ⟨⟨⟨h1, h2⟩, h3⟩, h4⟩ := h
  refine ⟨h1, h2, ?_, ?_⟩
  · split at h4
    · rename_i t e; exact ⟨t, e⟩
    · cases h4
  · split at h3
    · rename_i t e; rw [e, beq_iff_eq.mp h3]
    · cases h3
noncomputable def BootS (s : Shared) : Prop := (∃ mb mg c Pl, BootLeft s.heap mb mg c Pl) ∧ s.gens = #[]
theorem boot_any {q : Program} (hb : q.main.body = []) (hmore : q.main.more = []) (w : World) : (∃ s, AfterImport q w s) ∧ ∀ s, AfterImport q w s → BootS s := by
  refine AfterImport.of_body (out := #[]) (fun h tk mb mg c Pl F hB => ?_) hmore
  rw [hb]
  exact codeAny_body rfl rfl (wpAny_execs_nil ⟨⟨_, rfl⟩, .of hB (fun _ _ _ _ e => e) hB.g, ⟨⟨mb, mg, c, Pl, hB⟩, rfl⟩, rfl⟩)
noncomputable def DefAt (h : Heap) (mg : Str → Option Value) (Pl : Addr) (st : Stmt) (name : Str) : Prop :=
  ∃ a c' pm, mg name = some (.ref a) ∧ h.get? a = some { cls := .type "function", data := .func (plainDef name (dPars st) (dBody st) (dScope st) pm (.ref c')) } ∧ h.CodeRec (.ref c') name ∧ (a ≠ Pl ∧ a ≠ mainGlobals) ∧ (c' ≠ Pl ∧ c' ≠ mainGlobals)
theorem DefAt.keep {h h' : Heap} {mg mg' : Str → Option Value} {Pl : Addr} {st : Stmt} {name : Str} (x : DefAt h mg Pl st name) (k : ∀ b o, b ≠ Pl → b ≠ mainGlobals → h.get? b = some o → h'.get? b = some o) (e : mg' name = mg name) : DefAt h' mg' Pl st name :=
  let ⟨a, c', pm, h1, h2, h3, h4, h5⟩ := x; ⟨a, c', pm, e.trans h1, k _ _ h4.1 h4.2 h2, h3.at fun _ e => k _ _ h5.1 h5.2 e, h4, h5⟩
section
variable {prog : Program} {w : World} {A : Around} {E : Value → Shared → Prop} {s : Shared} {c Pl F : Addr} {ps : Array Value} {mg ms : Str → Option Value}
theorem def_ok {st : Stmt} {name : Str} {Q : Flow → Shared → Prop} (hst : st = .FunctionDef name (dPars st) (dBody st) [] none [] (dScope st) none name (dPos st)) (hdf : (dPars st).defaults = [] ∧ noAnn (dPars st) = true)
    (hfree : ((dScope st).names.all fun x => x.2 != .free) = true) (hdoc : docOf (dBody st) = none) (hloc : prog.main.scope.names.lookup name = some .local)
    (hq : (("" : Str) ++ name == name) = true) (hm : s.heap.Main mg c Pl ps) (hnb : (("__builtins__" : Str) == name) = false) (hmod : prog.main.scope.kind = .module) (hnf : codeAmong (dPos st) ps.toList = none)
    (h : ∀ h' c' tk mg', h'.Main mg' c Pl (ps ++ #[rawInt (dPos st).line, rawInt (dPos st).col, .ref c']) → DefAt h' mg' Pl st name → (∀ x, (x == name) = false → mg' x = mg x) → (∀ b o, b ≠ Pl → b ≠ mainGlobals → s.heap.get? b = some o → h'.get? b = some o) → Q .next { s with heap := h', toks := tk }) :
    wpAny (model prog w) A (exec st (mainEnv prog c F)) Q E s := by
  rw [hst]
  have hpl : Pl < s.heap.objs.size := hm.code.lt.2
  refine wpAny_plainDefN (fun env => ?_) (fun x hx => by simpa using List.all_eq_true.mp hfree x hx) hdoc hloc ?_ hm (fun a c' h' tk ha hm' hf hc _ keep => ?_) (fun e => by rw [e] at hnb; simp at hnb) hmod hnf
  · obtain ⟨n1, n2, n3⟩ := noAnn_of (env := env) hdf.2
    rw [exec_def, defaultsOf_eq, n2, n3, hdf.1]
    rfl
  · unfold qualnameIn Env.kindOf
    rw [show (List.lookup name prog.main.scope.names) = some .local from hloc]
    exact beq_iff_eq.mp hq
  · refine h h' c' tk _ hm' ⟨a, c', _, if_pos rfl, hf, hc.2, ⟨Nat.ne_of_gt (Nat.lt_of_lt_of_le hpl ha), Nat.ne_of_gt (Nat.lt_of_lt_of_le hm.g.lt ha)⟩, ⟨Nat.ne_of_gt (Nat.lt_of_lt_of_le hpl hc.1), Nat.ne_of_gt (Nat.lt_of_lt_of_le hm.g.lt hc.1)⟩⟩ (fun x hx => if_other hx) keep
end
end Mine
end
section
open PySem PySem.W PySem.Calls PyProof.Rows PySem.Builtin
namespace Mine
structure TopS (h₀ h : Heap) (mg₀ mg mb : Str → Option Value) (c Pl : Addr) (ps : Array Value) (pp : List (Nat × Nat)) (nms : List Str) : Prop where
  main : h.Main mg c Pl ps
  pl : Places ps.toList pp
  b : h.Ns builtinsNs mb
  st : h.Ns cStatics (fun _ => none)
  sm : ∃ o, h.get? sysModules = some o
  same : ∀ x, x ∉ nms → mg x = mg₀ x
  old : ∀ b o, b ≠ mainGlobals → h₀.get? b = some o → h.get? b = some o
  fresh : h₀.get? Pl = none
theorem TopS.step {h₀ h h' : Heap} {mg₀ mg mg' mb : Str → Option Value} {c Pl : Addr} {ps ps' : Array Value} {pp pp' : List (Nat × Nat)} {nms : List Str} {name : Str} (T : TopS h₀ h mg₀ mg mb c Pl ps pp nms) (main' : h'.Main mg' c Pl ps') (pl' : Places ps'.toList pp')
    (k : ∀ b o, b ≠ Pl → b ≠ mainGlobals → h.get? b = some o → h'.get? b = some o) (s : ∀ x, (x == name) = false → mg' x = mg x) : TopS h₀ h' mg₀ mg' mb c Pl ps' pp' (name :: nms) := by
  have lo := T.main.low.2
  refine ⟨main', pl', T.b.at fun o e => k _ _ (Nat.ne_of_lt (Nat.lt_trans (by decide) lo)) (by decide) e, T.st.at fun o e => k _ _ (Nat.ne_of_lt (Nat.lt_trans (by decide) lo)) (by decide) e, ?_, fun x hx => ?_, fun b o hb e => ?_, T.fresh⟩
  · obtain ⟨o, e⟩ := T.sm
    exact ⟨o, k _ _ (Nat.ne_of_lt (Nat.lt_trans (by decide) lo)) (by decide) e⟩
  · rw [List.mem_cons, not_or] at hx
    exact (s x (beq_eq_false_iff_ne.mpr hx.1)).trans (T.same x hx.2)
  · refine k _ _ (fun z => ?_) hb (T.old b o hb e)
    rw [z, T.fresh] at e; cases e
noncomputable def okShape (st : Stmt) (name : Str) : Bool := match st with
  | .FunctionDef n _ _ ds rt tp _ ts b _ => ds.isEmpty && rt.isNone && tp.isEmpty && ts.isNone && n == name && b == name
  | _ => false
theorem okShape_of {st : Stmt} {name : Str} (h : okShape st name = true) : st = .FunctionDef name (dPars st) (dBody st) [] none [] (dScope st) none name (dPos st) := by
  cases st with
  | FunctionDef n ar bd ds rt tp sc ts bn ps =>
    replace h : (ds.isEmpty && rt.isNone && tp.isEmpty && ts.isNone && n == name && bn == name) = true := h
    simp only [Bool.and_eq_true, beq_iff_eq, List.isEmpty_iff, Option.isNone_iff_eq_none] at h
    obtain ⟨⟨⟨⟨⟨rfl, rfl⟩, rfl⟩, rfl⟩, rfl⟩, rfl⟩ := h
    rfl
  | _ => cases (show false = true from h)
noncomputable def okDef (prog : Program) (st : Stmt) (name : Str) : Bool := okShape st name && (dPars st).defaults.isEmpty && noAnn (dPars st) && ((dScope st).names.all fun x => x.2 != .free) && (docOf (dBody st)).isNone &&
  prog.main.scope.names.lookup name == some .local && (("" : Str) ++ name == name) && !(("__builtins__" : Str) == name)
theorem okDef_of {prog : Program} {st : Stmt} {name : Str} (h : okDef prog st name = true) : st = .FunctionDef name (dPars st) (dBody st) [] none [] (dScope st) none name (dPos st) ∧ ((dPars st).defaults = [] ∧ noAnn (dPars st) = true) ∧ ((dScope st).names.all fun x => x.2 != .free) = true ∧
    docOf (dBody st) = none ∧ prog.main.scope.names.lookup name = some .local ∧ (("" : Str) ++ name == name) = true ∧ (("__builtins__" : Str) == name) = false := by
  unfold okDef at h
  simp only [Bool.and_eq_true, List.isEmpty_iff, Option.isNone_iff_eq_none, Bool.not_eq_true'] at h
  obtain ⟨⟨⟨⟨⟨⟨⟨h1, h2⟩, h3⟩, h4⟩, h5⟩, h6⟩, h7⟩, h8⟩ := h
  exact ⟨okShape_of h1, ⟨h2, h3⟩, h4, h5, beq_iff_eq.mp h6, h7, h8⟩
section
variable {prog : Program} {w : World} {A : Around} {E : Value → Shared → Prop} {c Pl F : Addr} {h₀ : Heap} {mg₀ mb : Str → Option Value}
theorem one_def {s : Shared} {mg : Str → Option Value} {ps : Array Value} {pp : List (Nat × Nat)} {nms : List Str} {st : Stmt} {name : Str} {Q : Flow → Shared → Prop} (ok : okDef prog st name = true) (hmod : prog.main.scope.kind = .module) (T : TopS h₀ s.heap mg₀ mg mb c Pl ps pp nms) (hpos : ((dPos st).line, (dPos st).col) ∉ pp)
    (h : ∀ h' tk mg' ps', TopS h₀ h' mg₀ mg' mb c Pl ps' (pp ++ [((dPos st).line, (dPos st).col)]) (name :: nms) → DefAt h' mg' Pl st name → (∀ x, (x == name) = false → mg' x = mg x) → (∀ b o, b ≠ Pl → b ≠ mainGlobals → s.heap.get? b = some o → h'.get? b = some o) → Q .next { s with heap := h', toks := tk }) :
    wpAny (model prog w) A (exec st (mainEnv prog c F)) Q E s := by
  obtain ⟨o1, o2, o3, o4, o5, o6, o7⟩ := okDef_of ok
  refine def_ok o1 o2 o3 o4 o5 o6 T.main o7 hmod (T.pl.none hpos) fun h' c' tk mg' hm' hd hs hk => ?_
  exact h h' tk mg' _ (T.step hm' (by have := T.pl.snoc (v := .ref c') (q := ((dPos st).line, (dPos st).col)); simpa using this) hk hs) hd hs hk
theorem defs_ok (hmod : prog.main.scope.kind = .module) : ∀ {ds : List (Stmt × Str)} {s : Shared} {mg : Str → Option Value} {ps : Array Value} {pp : List (Nat × Nat)} {nms : List Str} {Q : Flow → Shared → Prop},
    (∀ d ∈ ds, okDef prog d.1 d.2 = true) → (pp ++ ds.map fun d => ((dPos d.1).line, (dPos d.1).col)).Nodup → (ds.map (·.2)).Nodup → TopS h₀ s.heap mg₀ mg mb c Pl ps pp nms →
    (∀ h' tk mg' ps' pp', TopS h₀ h' mg₀ mg' mb c Pl ps' pp' ((ds.map (·.2)).reverse ++ nms) → (∀ d ∈ ds, DefAt h' mg' Pl d.1 d.2) → (∀ x, x ∉ ds.map (·.2) → mg' x = mg x) → (∀ b o, b ≠ Pl → b ≠ mainGlobals → s.heap.get? b = some o → h'.get? b = some o) → Q .next { s with heap := h', toks := tk }) →
    wpAny (model prog w) A (execs (ds.map (·.1)) (mainEnv prog c F)) Q E s
  | [], s, mg, ps, pp, nms, Q, _, _, _, T, h => wpAny_execs_nil (h s.heap s.toks mg ps pp T (fun d hd => by cases hd) (fun _ _ => rfl) (fun _ _ _ _ e => e))
  | d :: ds, s, mg, ps, pp, nms, Q, ok, np, nn, T, h => by
    have np' := (List.nodup_append.mp np).2.2
    refine wpAny_execs_cons (one_def (ok d List.mem_cons_self) hmod T (fun z => np' _ z _ List.mem_cons_self rfl) fun h1 tk1 mg1 ps1 T1 D1 s1 k1 => ?_)
    obtain ⟨n1, n2⟩ := List.nodup_cons.mp nn
    refine defs_ok hmod (fun e he => ok e (List.mem_cons_of_mem _ he)) (by simpa [List.append_assoc] using np) n2 T1 fun h2 tk2 mg2 ps2 pp2 T2 D2 s2 k2 => ?_
    refine h h2 tk2 mg2 ps2 pp2 (by simpa [List.append_assoc] using T2) (fun e he => ?_) (fun x hx => ?_) fun b o h1 h2 e => k2 b o h1 h2 (k1 b o h1 h2 e)
    · rcases List.mem_cons.mp he with rfl | he
      · exact D1.keep k2 (s2 _ n1)
      · exact D2 e he
    · rw [List.map_cons, List.mem_cons, not_or] at hx
      exact (s2 x hx.2).trans (s1 x (beq_eq_false_iff_ne.mpr hx.1))
end
end Mine
end
section
open PySem PySem.W PySem.Calls PyProof.Rows PySem.Builtin
namespace Mine
noncomputable def isName (st : Stmt) (nm : Str) : Bool := match st with | .Assign [.Name x _] (.Constant (.str t) _ _) _ => x == ("__name__" : Str) && t == nm | _ => false
noncomputable def clsShape (st : Stmt) : Bool := match st with
  | .ClassDef n bs ks _ ds tp _ ts b _ _ => bs.isEmpty && ks.isEmpty && ds.isEmpty && tp.isEmpty && ts.isNone && n == ("MPU" : Str) && b == ("MPU" : Str)
  | _ => false
theorem clsShape_of {st : Stmt} (h : clsShape st = true) : st = .ClassDef "MPU" [] [] (cBody st) [] [] (cScope st) none "MPU" (cStat st) (cPos st) := by
  cases st with
  | ClassDef n bs ks bd ds tp sc ts bn ss ps =>
    replace h : (bs.isEmpty && ks.isEmpty && ds.isEmpty && tp.isEmpty && ts.isNone && n == ("MPU" : Str) && bn == ("MPU" : Str)) = true := h
    simp only [Bool.and_eq_true, beq_iff_eq, List.isEmpty_iff, Option.isNone_iff_eq_none] at h
    obtain ⟨⟨⟨⟨⟨⟨rfl, rfl⟩, rfl⟩, rfl⟩, rfl⟩, rfl⟩, rfl⟩ := h
    rfl
  | _ => cases (show false = true from h)
noncomputable def okClass (prog : Program) (st : Stmt) : Bool := clsShape st && (cScope st).kind == .class && ((cScope st).names.all fun x => x.2 != .free) &&
  !((cScope st).names.lookup ("__class__" : Str) == some NameKind.cell) && !((cScope st).names.lookup ("__classdict__" : Str) == some NameKind.cell) &&
  (([("__name__" : Str), "__module__", "__qualname__", "__firstlineno__", "__static_attributes__"]).all fun x => ((cScope st).names.lookup x).isNone) && !hasAnns (cBody st) && (docOf (cBody st)).isNone && prog.main.scope.names.lookup ("MPU" : Str) == some .local && prog.main.scope.names.lookup ("__name__" : Str) == some .local
theorem isName_of {st : Stmt} {nm : Str} (h : isName st nm = true) : ∃ p1 k p2 pos, st = .Assign [.Name "__name__" p1] (.Constant (.str nm) k p2) pos := by
  unfold isName at h
  split at h
  · simp only [Bool.and_eq_true, beq_iff_eq] at h
    obtain ⟨rfl, rfl⟩ := h
    exact ⟨_, _, _, _, rfl⟩
  · cases h
theorem okClass_of {prog : Program} {st : Stmt} (h : okClass prog st = true) : st = .ClassDef "MPU" [] [] (cBody st) [] [] (cScope st) none "MPU" (cStat st) (cPos st) ∧ (cScope st).kind = .class ∧ (∀ x ∈ (cScope st).names, x.2 ≠ .free) ∧
    ((cScope st).names.lookup ("__class__" : Str) == some NameKind.cell) = false ∧ ((cScope st).names.lookup ("__classdict__" : Str) == some NameKind.cell) = false ∧ (∀ x ∈ [("__name__" : Str), "__module__", "__qualname__", "__firstlineno__", "__static_attributes__"], (cScope st).names.lookup x = none) ∧
    hasAnns (cBody st) = false ∧ docOf (cBody st) = none ∧ prog.main.scope.names.lookup ("MPU" : Str) = some .local ∧ prog.main.scope.names.lookup ("__name__" : Str) = some .local := by
  unfold okClass at h
  simp only [Bool.and_eq_true, List.all_eq_true, Option.isNone_iff_eq_none, Bool.not_eq_true', bne_iff_ne, beq_iff_eq] at h
  obtain ⟨⟨⟨⟨⟨⟨⟨⟨⟨h1, h2⟩, h3⟩, h4⟩, h5⟩, h6⟩, h7⟩, h8⟩, h9⟩, h10⟩ := h
  exact ⟨clsShape_of h1, h2, h3, h4, h5, h6, h7, h8, h9, h10⟩
section
variable {prog : Program} {w : World} {A : Around} {E : Value → Shared → Prop} {c Pl F : Addr} {h₀ : Heap} {mg₀ mb : Str → Option Value} {s : Shared}
theorem one_name {st : Stmt} {nm : Str} {mg : Str → Option Value} {ps : Array Value} {pp : List (Nat × Nat)} {nms : List Str} {Q : Flow → Shared → Prop} (ok : isName st nm = true) (hmod : prog.main.scope.kind = .module) (hloc : prog.main.scope.names.lookup ("__name__" : Str) = some .local) (T : TopS h₀ s.heap mg₀ mg mb c Pl ps pp nms)
    (h : ∀ h' tk t, TopS h₀ h' mg₀ (fun y => if y = ("__name__" : Str) then some (.str nm t) else mg y) mb c Pl ps pp ("__name__" :: nms) → (∀ b o, b ≠ mainGlobals → s.heap.get? b = some o → h'.get? b = some o) → Q .next { s with heap := h', toks := tk }) :
    wpAny (model prog w) A (exec st (mainEnv prog c F)) Q E s := by
  obtain ⟨p1, k, p2, pos, rfl⟩ := isName_of ok
  refine name_ok hmod hloc (by decide +kernel) T.main fun h' tk t hm' hs => ?_
  exact h h' tk t (T.step hm' T.pl (fun b o _ hb e => (hs.2 b hb).trans e) fun x hx => if_other hx) fun b o hb e => (hs.2 b hb).trans e
theorem pre_ok {S0 S1 S2 S3 : Stmt} {rest : List Stmt} {st : CSt} {nm1 nm2 : Str} {Q : Flow → Shared → Prop} (hmod : prog.main.scope.kind = .module) (o0 : okDef prog S0 "_wall" = true) (o1 : isName S1 nm1 = true) (o2 : okClass prog S2 = true) (o3 : isName S3 nm2 = true)
    (hpos : (((dPos S0).line, (dPos S0).col) == ((cPos S2).line, (cPos S2).col)) = false) (hrun : clsRun (cScope S2) (cBody S2) (st0 nm1 (cPos S2).line) = some st) (hok : okCls st = true) (hbn : mb "__build_class__" = some (.builtin "__build_class__"))
    (T : TopS h₀ s.heap mg₀ mg₀ mb c Pl #[] [] []) (hdep : A.depth + 2 < recursionLimit)
    (h : ∀ h' tk mg' ps' B C ns φ ψ mc sa a1 a2, TopS h₀ h' mg₀ mg' mb c Pl ps' [((dPos S0).line, (dPos S0).col), ((cPos S2).line, (cPos S2).col)] ["__name__", "MPU", "__name__", "_wall"] → Made h' Pl B st C ns φ ψ mc sa a1 a2 → mg' "MPU" = some (.ref C) →
      wpAny (model prog w) A (execs rest (mainEnv prog c F)) Q E { s with heap := h', toks := tk }) :
    wpAny (model prog w) A (execs (S0 :: S1 :: S2 :: S3 :: rest) (mainEnv prog c F)) Q E s := by
  obtain ⟨c1, c2, c3, c4, c5, c6, c7, c8, c9, c10⟩ := okClass_of o2
  obtain ⟨k1, k2, k3, k4⟩ := okCls_of hok
  refine wpAny_execs_cons (one_def o0 hmod T (by simp) fun h1 tk1 mg1 ps1 T1 D1 s1 kk1 => ?_)
  refine wpAny_execs_cons (one_name (s := { s with heap := h1, toks := tk1 }) o1 hmod c10 T1 fun h2 tk2 t2 T2 kk2 => ?_)
  refine wpAny_execs_cons ?_
  rw [c1]
  have sz : sysModules < h2.objs.size := by obtain ⟨o, e⟩ := T2.sm; exact Heap.lt_size e
  have hp : (((cPos S2).line, (cPos S2).col)) ∉ [((dPos S0).line, (dPos S0).col)] := by
    intro z
    rw [List.mem_singleton] at z
    rw [z] at hpos; simp at hpos
  refine class_ok (s := { s with heap := h2, toks := tk2 }) hmod c9 hbn T2.b T2.main (T2.pl.none hp) (if_pos rfl) rfl ⟨_, T2.st, rfl⟩ hdep T2.st rfl sz c2 c3 c4 c5 (c6 _ (by simp)) (c6 _ (by simp)) (c6 _ (by simp)) (c6 _ (by simp)) (c6 _ (by simp)) c7 c8 hrun k1 k2 k3 k4
    fun h3 tk3 c' B C ns φ ψ mc sa a1 a2 M3 main3 kk3 => ?_
  have T3 : TopS h₀ h3 mg₀ _ mb c Pl _ [((dPos S0).line, (dPos S0).col), ((cPos S2).line, (cPos S2).col)] ["MPU", "__name__", "_wall"] :=
    T2.step main3 (by have := T2.pl.snoc (v := .ref c') (q := ((cPos S2).line, (cPos S2).col)); simpa using this) kk3 (fun x hx => if_other hx)
  refine wpAny_execs_cons (one_name (s := { s with heap := h3, toks := tk3 }) o3 hmod c10 T3 fun h4 tk4 t4 T4 kk4 => ?_)
  exact h h4 tk4 _ _ B C ns φ ψ mc sa a1 a2 T4 (M3.keep fun b o _ hb e => kk4 b o hb e) ((if_other (by decide +kernel)).trans (if_pos rfl))
end
end Mine
end
section
open PySem PySem.W PySem.Calls PyProof.Rows PySem.Builtin
namespace Mine
noncomputable abbrev Walk (prog : Program) (w : World) (rest : List Stmt) (pp : List (Nat × Nat)) (nms : List Str) (Fin : Heap → (Str → Option Value) → Addr → Prop) : Prop :=
  ∀ {A : Around} {E : Value → Shared → Prop} {s : Shared} {c Pl F : Addr} {h₀ : Heap} {mg₀ mb mg : Str → Option Value} {ps : Array Value} {Q : Flow → Shared → Prop}, TopS h₀ s.heap mg₀ mg mb c Pl ps pp ["__name__", "MPU", "__name__", "_wall"] →
    (∀ h' tk mg' ps' pp', TopS h₀ h' mg₀ mg' mb c Pl ps' pp' nms → Fin h' mg' Pl → (∀ b o, b ≠ Pl → b ≠ mainGlobals → s.heap.get? b = some o → h'.get? b = some o) → mg' "MPU" = mg "MPU" → Q .next { s with heap := h', toks := tk }) →
    wpAny (model prog w) A (execs rest (mainEnv prog c F)) Q E s
theorem walk_defs {prog : Program} {w : World} {ds : List (Stmt × Str)} {pp : List (Nat × Nat)} (hmod : prog.main.scope.kind = .module) (ok : (ds.all fun d => okDef prog d.1 d.2) = true) (np : decide ((pp ++ ds.map fun d => ((dPos d.1).line, (dPos d.1).col)).Nodup) = true) (nn : decide ((("MPU" : Str) :: ds.map (·.2)).Nodup) = true) :
    Walk prog w (ds.map (·.1)) pp ((ds.map (·.2)).reverse ++ [("__name__" : Str), "MPU", "__name__", "_wall"]) (fun h mg Pl => ∀ d ∈ ds, DefAt h mg Pl d.1 d.2) := by
  intro A E s c Pl F h₀ mg₀ mb mg ps Q T h
  obtain ⟨n1, n2⟩ := List.nodup_cons.mp (of_decide_eq_true nn)
  exact defs_ok hmod (fun d hd => List.all_eq_true.mp ok d hd) (of_decide_eq_true np) n2 T fun h' tk mg' ps' pp' T' D' s' k' => h h' tk mg' ps' pp' T' D' k' (s' _ n1)
noncomputable def blNames : List Str := ["len", "divmod", "range", "enumerate", "sum", "max", "min", "abs", "zip", "reversed", "list", "dict", "int", "bool", "any", "all", "sorted", "tuple", "set", "isinstance", "print", "str"]
structure Ready (Fin : Heap → (Str → Option Value) → Addr → Prop) (st : CSt) (h : Heap) (mg mb : Str → Option Value) (Pl B : Nat) (C ns : Addr) (φ ψ : List Addr) (mc : Str → Option Value) (sa a1 a2 : Addr) : Prop where
  g : h.Ns mainGlobals mg
  b : h.Ns builtinsNs mb
  blt : ∀ x : Str, (x == "__name__") = false → mb x = bootBuiltins x
  sts : h.Ns cStatics (fun _ => none)
  made : Made h Pl B st C ns φ ψ mc sa a1 a2
  cls : mg "MPU" = some (.ref C)
  fin : Fin h mg Pl
  bmod : h.BuiltinsAt mg Pl
  oth : ∀ x ∈ blNames, mg x = none
noncomputable def ReadyS (Fin : Heap → (Str → Option Value) → Addr → Prop) (st : CSt) (s : Shared) : Prop := ∃ mg mb Pl B C ns φ ψ mc sa a1 a2, Ready Fin st s.heap mg mb Pl B C ns φ ψ mc sa a1 a2
theorem boot_build : bootBuiltins "__build_class__" = some (.builtin "__build_class__") := by kernel_rfl
theorem static_none {h : Heap} (x : h.Ns cStatics (fun _ => none)) (k : Str) : staticOf h k = none := by
  obtain ⟨o, es, ep, ho, hd, _, hf⟩ := x
  unfold staticOf
  rw [ho]
  dsimp only
  rw [hd]
  exact hf k
theorem top_ran {p : Program} {w : World} {s₀ : Shared} {S0 S1 S2 S3 : Stmt} {rest : List Stmt} {st : CSt} {nm1 nm2 : Str} {nms : List Str} {Fin : Heap → (Str → Option Value) → Addr → Prop}
    (hbody : behindTheImports p = S0 :: S1 :: S2 :: S3 :: rest) (hann : hasAnns (S0 :: S1 :: S2 :: S3 :: rest) = false) (hdoc : docOf (S0 :: S1 :: S2 :: S3 :: rest) = none)
    (hmod : p.main.scope.kind = .module) (o0 : okDef p S0 "_wall" = true) (o1 : isName S1 nm1 = true) (o2 : okClass p S2 = true) (o3 : isName S3 nm2 = true)
    (hpos : (((dPos S0).line, (dPos S0).col) == ((cPos S2).line, (cPos S2).col)) = false) (hrun : clsRun (cScope S2) (cBody S2) (st0 nm1 (cPos S2).line) = some st) (hok : okCls st = true)
    (walk : Walk p w rest [((dPos S0).line, (dPos S0).col), ((cPos S2).line, (cPos S2).col)] nms Fin)
    (hnms : ∀ x ∈ nms, x ∈ startupNames ∨ x ∈ p.boundNames) (hlaid : ∀ x ∈ laidNames, x ∉ nms) (hb0 : ("__builtins__" : Str) ∉ nms) (hbl : ∀ x ∈ blNames, x ∉ nms ∧ x ∉ startupNames)
    (B : BootS s₀) (hz : s₀.asleep) : ∃ s₁, TopRan p w s₀ s₁ ∧ s₁.gens = #[] ∧ s₁.asleep ∧ ReadyS Fin st s₁ ∧ ∃ mg, s₁.heap.Ns mainGlobals mg := by
  obtain ⟨⟨mb, mg, c₀, Pl₀, BL⟩, hg0⟩ := B
  obtain ⟨h₀, g₀, d₀, t₀, os₀⟩ := s₀
  dsimp only at BL hg0
  subst hg0
  obtain ⟨bm, ob, b1, b2, b3, b4, b5, b6, b7, b8⟩ := BL.bmod
  have hsys : ∃ o, h₀.get? sysModules = some o := by obtain ⟨mm, ⟨o, _, _, e, _⟩, _⟩ := BL.noThreading; exact ⟨o, e⟩
  obtain ⟨m, t₁, s₁, hm, ht, ⟨hos, mg', ps', pp', c, Pl, Bn, C, ns, φ, ψ, mc, sa, a1, a2, T, M, hcl, hf⟩, hgens, hlife⟩ := top_runs (p := p) (w := w) (s := ⟨h₀, #[], d₀, t₀, os₀⟩)
    (t := do let code ← moduleCode p.main
             let frame ← newBodyFrame code mainNs mainNs
             let _ ← run (.body (behindTheImports p) { scope := p.main.scope, locals := mainNs, globals := mainNs, cells := [], code, frame := some frame })
             ret .none)
    (R := fun s' => s'.os = os₀ ∧ ∃ mg' ps' pp' c Pl Bn C ns φ ψ mc sa a1 a2, TopS h₀ s'.heap mg mg' mb c Pl ps' pp' nms ∧ Made s'.heap Pl Bn st C ns φ ψ mc sa a1 a2 ∧ mg' "MPU" = some (.ref C) ∧ Fin s'.heap mg' Pl) hz (by
      refine wpAny_bind (wpAny_moduleCode fun c Pl h1 tk1 k1 hc hP hcode => ?_)
      have G1 : h1.Ns mainGlobals mg := BL.g.keeps k1
      refine wpAny_bind (wpAny_bind (wpAny_nsGet (m := mg) G1 (wpAny_alloc ?_)))
      have k2 : ∀ b o, h1.get? b = some o → (h1.push { cls := .type "frame", slots := #[some (.ref c), some (.ref mainGlobals), some (.ref mainGlobals), none, some ((mg "__name__").getD .none), none, some (.ref builtinsNs)] }).get? b = some o := fun b o e => Heap.get?_push_of_some _ e
      refine wpAny_bind (wpAny_run ?_)
      rw [hbody]
      refine codeAny_body hann hdoc ?_
      refine wpAny_mono (E := fun _ _ => False) (pre_ok (mg₀ := mg) (mb := mb) (c := c) (Pl := Pl) (h₀ := h₀) (F := h1.objs.size) hmod o0 o1 o2 o3 hpos hrun hok ((BL.builtins _ (by decide +kernel)).trans boot_build) ⟨⟨G1.keeps k2, hcode.keeps k2, ?_, ?_⟩, trivial, (BL.b.keeps k1).keeps k2, (BL.statics.keeps k1).keeps k2, ?_, fun _ _ => rfl, fun b o _ e => k2 _ _ (k1 _ _ e), fresh_size hP⟩ ?_ fun h' tk mg' ps' B C ns φ ψ mc sa a1 a2 T M hcl => walk (s := ⟨h', #[], d₀, tk, os₀⟩) T fun h2 tk2 mg2 ps2 pp2 T2 F2 kk2 e2 => ?_) (fun _ _ x => x) fun _ _ x => x.elim
      · exact ⟨Nat.lt_of_lt_of_le BL.g.lt hc, Nat.lt_of_lt_of_le BL.g.lt hP⟩
      · exact ⟨bm, ob, b1, b2, b3, Nat.ne_of_lt (Nat.lt_of_lt_of_le (Heap.lt_size b5) hP), k2 _ _ (k1 _ _ b5), b6, b7, b8⟩
      · obtain ⟨o, e⟩ := hsys; exact ⟨o, k2 _ _ (k1 _ _ e)⟩
      · show 1 + claimMargin + 1 + 2 < recursionLimit
        decide +kernel
      · exact wpAny_pure ⟨_, rfl, ⟨rfl, mg2, ps2, pp2, c, Pl, B, C, ns, φ, ψ, mc, sa, a1, a2, T2, M.keep kk2, e2.trans hcl, F2⟩, rfl⟩)
  refine ⟨s₁, ⟨⟨m, t₁, hm, ht⟩, hlife, Shared.rest_eq hos, fun b o e hn => T.old b o (fun z => hn (.inl z)) e, ?_, ?_, ?_, ?_, ?_, ?_, ?_, ?_⟩, hgens, Shared.asleep_of_life hlife hz, ⟨mg', mb, Pl, Bn, C, ns, φ, ψ, mc, sa, a1, a2, T.main.g, T.b, fun x hx => BL.builtins x (beq_eq_false_iff_ne.mp hx), T.st, M, hcl, hf, T.main.bmod, fun x hx => (T.same x (hbl x hx).1).trans (BL.others x (hbl x hx).2)⟩, mg', T.main.g⟩
  · intro k v e; rw [static_none T.st] at e; cases e
  · intro k; exact .inl ((static_none T.st k).trans (static_none BL.statics k).symm)
  · obtain ⟨o, es, ep, ho, hd, hk, _⟩ := T.main.g; exact ⟨o, es, ep, ho, hd, hk⟩
  · intro x hx
    obtain ⟨o, es, ep, ho, hd, hk, hf⟩ := T.b
    unfold builtinOf
    rw [ho]
    dsimp only
    rw [hd]
    exact (hf x).trans (BL.builtins x hx)
  · obtain ⟨bm, ob, b1, b2, b3, b4, b5, b6, b7, b8⟩ := T.main.bmod
    exact ⟨bm, ob, (Claim2Try.globalOf_of_ns T.main.g _).trans b1, b5, b6, b7⟩
  · intro g hg; rw [hgens] at hg; exact absurd hg (Array.not_mem_empty g)
  · intro x v e
    rw [Claim2Try.globalOf_of_ns T.main.g] at e
    by_cases hx : x ∈ nms
    · exact hnms x hx
    · refine .inl (Classical.byContradiction fun hn => ?_)
      rw [T.same x hx, BL.others x hn] at e; cases e
  · intro x hx
    rw [Claim2Try.globalOf_of_ns T.main.g, T.same x (hlaid x hx)]
    exact (Claim2Try.globalOf_of_ns BL.g x).symm
end Mine
end
section
open PySem PySem.W PySem.Calls PyProof.Rows PySem.Builtin
namespace Mine
theorem Ready.keeps {Fin : Heap → (Str → Option Value) → Addr → Prop} {st : CSt} {h h' : Heap} {mg mb : Str → Option Value} {Pl B : Nat} {C ns : Addr} {φ ψ : List Addr} {mc : Str → Option Value} {sa a1 a2 : Addr} (x : Ready Fin st h mg mb Pl B C ns φ ψ mc sa a1 a2)
    (hf : ∀ h h' mg Pl, Fin h mg Pl → (∀ b o, h.get? b = some o → h'.get? b = some o) → Fin h' mg Pl) (k : ∀ b o, h.get? b = some o → h'.get? b = some o) : Ready Fin st h' mg mb Pl B C ns φ ψ mc sa a1 a2 :=
  ⟨x.g.keeps k, x.b.keeps k, x.blt, x.sts.keeps k, x.made.keep fun b o _ _ e => k b o e, x.cls, hf _ _ _ _ x.fin k, x.bmod.keeps k, x.oth⟩
theorem ints_of {R : WRecords} {cl : Str → Option Addr} {h : Heap} : ∀ {ds : List WData} {vs : List Value} {as : List Addr}, ReadsAllW R cl h vs ds as → WShape.hasItems R ds .int = true → ∃ ns, IntsAre vs ns ∧ ns.length = ds.length
  | [], vs, as, r, _ => by
    obtain ⟨rfl, _⟩ := readsAllW_nil_inv r
    exact ⟨[], .nil, rfl⟩
  | d :: ds, vs, as, r, hh => by
    cases r with
    | cons r1 r2 =>
      unfold WShape.hasItems at hh
      obtain ⟨h1, h2⟩ := Bool.and_eq_true_iff.mp hh
      obtain ⟨i, rfl⟩ := hasW_int h1
      cases r1
      obtain ⟨ns, a, b⟩ := ints_of r2 h2
      exact ⟨_ :: ns, .cons _ _ a, by simp [b]⟩
theorem script_of {R : WRecords} {cl : Str → Option Addr} {h : Heap} {args : List WData} {vs : List Value} {as : List Addr} (hs : WShape.hasAll R args [.list .int] = true) (hl : WData.layableAll args = true) (r : ReadsAllW R cl h vs args as) :
    ∃ a o its n ns, vs = [.ref a] ∧ h.get? a = some o ∧ o.cls = .type "list" ∧ o.data = .seq its n ∧ IntsAre its.toList ns ∧ ns.length ≤ 1048576 ∧ a ∈ as := by
  obtain ⟨d, r', rfl, h1, h2⟩ := hasAllW_cons hs
  obtain rfl := hasAllW_nil h2
  obtain ⟨xs, rfl, h3⟩ := hasW_list h1
  have hlen := length_le_of_layableW (layableW_arg hl _ List.mem_cons_self)
  cases r with
  | cons r1 r2 =>
    obtain ⟨rfl, rfl⟩ := readsAllW_nil_inv r2
    cases r1 with
    | list ho hc hd hr =>
      obtain ⟨ns, a, b⟩ := ints_of hr h3
      exact ⟨_, _, _, _, ns, rfl, ho, hc, hd, a, by rw [b]; exact hlen, by simp⟩
noncomputable abbrev Duty (p : Program) (name : Str) (Fin : Heap → (Str → Option Value) → Addr → Prop) (st : CSt) : Prop :=
  ∀ (w : World) (s : Shared) (mg mb : Str → Option Value) (Pl B : Nat) (C ns : Addr) (φ ψ : List Addr) (mc : Str → Option Value) (sa a1 a2 : Addr), Ready Fin st s.heap mg mb Pl B C ns φ ψ mc sa a1 a2 → s.gens = #[] →
    ∀ (f : Value) (a : Addr) (o : Obj) (its : Array Value) (n : Nat) (xs : List Int), mg name = some f → s.heap.get? a = some o → o.cls = .type "list" → o.data = .seq its n → IntsAre its.toList xs → xs.length ≤ 1048576 →
    wpAny (model p w) callerA (PySem.call f [.ref a]) (fun v s' => v = .bool true ∧ OldK s.heap s'.heap ∧ s'.os = s.os ∧ AllBare s'.gens) (fun _ _ => False) s
theorem law_holds {l : OpenLaw} {S0 S1 S2 S3 SL : Stmt} {rest : List Stmt} {st : CSt} {nm1 nm2 : Str} {nms : List Str} {Fin : Heap → (Str → Option Value) → Addr → Prop} (ok : l.wellSaid = true) (hb : l.prog.bare) (how : opensWell l.prog = true) (hpr : l.row.toRowW.promised) (hwr : l.writes = false)
    (hop : (opening l.prog).main.body = []) (hom : (opening l.prog).main.more = []) (hfe : ∀ s, fenceModules? l.prog s = some s)
    (hbody : behindTheImports l.prog = S0 :: S1 :: S2 :: S3 :: rest) (hann : hasAnns (S0 :: S1 :: S2 :: S3 :: rest) = false) (hdoc : docOf (S0 :: S1 :: S2 :: S3 :: rest) = none)
    (hmod : l.prog.main.scope.kind = .module) (o0 : okDef l.prog S0 "_wall" = true) (o1 : isName S1 nm1 = true) (o2 : okClass l.prog S2 = true) (o3 : isName S3 nm2 = true)
    (hpos : (((dPos S0).line, (dPos S0).col) == ((cPos S2).line, (cPos S2).col)) = false) (hrun : clsRun (cScope S2) (cBody S2) (st0 nm1 (cPos S2).line) = some st) (hok : okCls st = true)
    (walk : ∀ w, Walk l.prog w rest [((dPos S0).line, (dPos S0).col), ((cPos S2).line, (cPos S2).col)] nms Fin)
    (hnms : (nms.all fun x => startupNames.contains x || l.prog.boundNames.contains x) = true) (hlaid : (laidNames.all fun x => !nms.contains x) = true) (hb0 : nms.contains ("__builtins__" : Str) = false) (hbl : (blNames.all fun x => !nms.contains x && !startupNames.contains x) = true)
    (hFin : ∀ h h' mg Pl, Fin h mg Pl → (∀ b o, h.get? b = some o → h'.get? b = some o) → Fin h' mg Pl) (hdef : ∀ h mg Pl, Fin h mg Pl → DefAt h mg Pl SL l.name) (htd : l.prog.theDef l.name = some (dPars SL, dBody SL, dScope SL)) (hsl : okDef l.prog SL l.name = true)
    (duty : Duty l.prog l.name Fin st) : l.Holds := by
  have hl1 : ∀ x ∈ nms, x ∈ startupNames ∨ x ∈ l.prog.boundNames := fun x hx => by
    have := List.all_eq_true.mp hnms x hx
    simpa only [Bool.or_eq_true, List.contains_iff_mem] using this
  have hl2 : ∀ x ∈ laidNames, x ∉ nms := fun x hx hn => by
    have := List.all_eq_true.mp hlaid x hx
    rw [Bool.not_eq_true', List.contains_iff_mem.mpr hn] at this; cases this
  have hl3 : ("__builtins__" : Str) ∉ nms := fun hn => by rw [List.contains_iff_mem.mpr hn] at hb0; cases hb0
  have hl4 : ∀ x ∈ blNames, x ∉ nms ∧ x ∉ startupNames := fun x hx => by
    have := List.all_eq_true.mp hbl x hx
    simp only [Bool.and_eq_true, Bool.not_eq_true'] at this
    obtain ⟨t1, t2⟩ := this
    constructor
    · intro hn; rw [List.contains_iff_mem.mpr hn] at t1; cases t1
    · intro hn; rw [List.contains_iff_mem.mpr hn] at t2; cases t2
  refine PySem.W.holds_law ok fun k1 => ⟨k1, hpr, ⟨hb, how, rfl⟩, hpr.witness, fun w => ?_⟩
  obtain ⟨e1, e2⟩ := boot_any hop hom w
  refine ⟨e1, fun s hs => ⟨s, hfe s, (e2 s hs).2, ?_⟩⟩
  have hz : s.asleep := AfterImport.life hs
  obtain ⟨s₁, TR, hg, hz1, ⟨mg, mb, Pl, B, C, ns, φ, ψ, mc, sa, a1, a2, RD⟩, _⟩ := top_ran hbody hann hdoc hmod o0 o1 o2 o3 hpos hrun hok (walk w) hl1 hl2 hl3 hl4 (e2 s hs) hz
  refine ⟨s₁, TR, fun n hn => ?_, fun x hx => (by cases hx), fun x hx => (by cases hx), ?_⟩
  · obtain rfl : n = l.name := List.mem_singleton.mp hn
    obtain ⟨a, c', pm, h1, h2, h3, _⟩ := hdef _ _ _ RD.fin
    obtain ⟨_, ⟨q2, q3⟩, _⟩ := okDef_of hsl
    obtain ⟨n1, n2, _⟩ := noAnn_of (env := { scope := default, locals := 0, globals := 0, cells := [] }) q3
    exact ⟨a, _, _, _, _, _, (Claim2Try.globalOf_of_ns RD.g _).trans h1, h2, rfl, htd, rfl, rfl, rfl, rfl, rfl, rfl, rfl, rfl, .inl ⟨q2, rfl⟩, [], by rw [n1, n2]; rfl, .inl ⟨rfl, rfl⟩⟩
  · refine ClaimW.callFrom_of_specG (c := l.row.toRowW.claim) (tree := fun vs => do match ← nsGet mainNs l.name with
      | some f => do ret (← PySem.call f vs)
      | none => unsupported "claim.caller:no-such-global") hz1 hg fun args hpre hlay ord hord => ?_
    have hsh : WShape.hasAll [] args [.list .int] = true := (pre_splitW (r := l.row.toRowW) hpre).1
    obtain ⟨⟨vs, s₂⟩, hlaid⟩ := Option.isSome_iff_exists.mp (layAllW_isSome (R := []) (cl := classAt s₁.heap) (P := w.params) (ord := ord) (fun c hc => by cases hc) args [.list .int] s₁ hsh)
    have keeps := layAllW_keeps _ _ _ hlaid
    have hal := layAllW_rest _ _ _ hlaid
    obtain ⟨as, hrd, hin, hold⟩ := reads_layAllW hord _ _ _ hlaid hlay s₂.heap (fun _ _ e => e)
    have L : Laid [] w s₁ s₂ args vs as := ⟨⟨ord, hord, hlaid⟩, hrd, hin, hold, keeps, hal.1.trans hg, hal.2.2.1⟩
    obtain ⟨a, o, its, n, xs, rfl, c1, c2, c3, c4, c5, _⟩ := script_of hsh hlay hrd
    have RD2 := RD.keeps hFin keeps
    obtain ⟨af, cf, pf, f1, f2, f3, _⟩ := hdef _ _ _ RD2.fin
    refine ⟨[.ref a], s₂, hlaid, wpAny_bind (wpAny_nsGet (m := mg) RD2.g ?_)⟩
    rw [f1]
    refine wpAny_bind (wpAny_mono (duty w s₂ mg mb Pl B C ns φ ψ mc sa a1 a2 RD2 L.gens (.ref af) a o its n xs f1 c1 c2 c3 c4 c5) (fun v s' g => ?_) fun _ _ z => z.elim)
    obtain ⟨rfl, g1, g2, g3⟩ := g
    have hpost : l.row.toRowW.claim.post args (.bool true) args = true := by
      show (WShape.has [] (.bool true) .bool && WTm.holds [] (.eq .res (.lit (.bool true))) { args := args, res := some (.bool true), after := args }) = true
      simp [WTm.holds, WTm.value, WShape.has, WShape.arms, same]
    have G : GoodWG l.row.toRowW.claim (classAt s₁.heap) (ExcName.means s₁.heap) args s₂ (.ok (.ret (.bool true))) s' :=
      ⟨.inl ⟨.bool true, .bool true, [], rfl, fun _ => rfl, .bool true, hpost, fun _ => ⟨List.nodup_nil, fun a ha => by cases ha⟩⟩, g1, g2, g3⟩
    have z := G.laid (c := l.row.toRowW.claim) rfl rfl (fun _ _ => ident_freeW (r := l.row.toRowW) rfl rfl rfl _ _) L
    exact wpAny_pure ⟨_, rfl, z.1, z.2.1, z.2.2, fun q => by rw [show l.row.writes = false from hwr] at q; cases q⟩
end Mine
end
section
open PySem PySem.W PySem.Calls PyProof.Rows
namespace Mine
inductive AV where
  | none | bool (b : Bool) | int (i : Int) | str (s : Str) | obj (i : Nat) | fn (k : Nat) | lst (k : Nat) | cls | bi (id : String) | ty (n : String)
inductive AO where
  | inst (d : Nat)
  | ns (fs : List (Str × AV))
  | nums (xs : List Int)
  | seq (tup : Bool) (xs : List AV)
  | meth (k : Nat) (self : AV)
inductive T (α : Type) where
  | ret (a : α) | fail | br (c : Bool) (t e : T α)
namespace T
noncomputable def bind {α β : Type} : T α → (α → T β) → T β
  | .ret a, f => f a
  | .fail, _ => .fail
  | .br c t e, f => .br c (bind t f) (bind e f)
noncomputable def All {α : Type} (P : α → Prop) : T α → Prop
  | .ret a => P a
  | .fail => False
  | .br c t e => (c = true → All P t) ∧ (c = false → All P e)
noncomputable def run {α : Type} : T α → Option α
  | .ret a => some a
  | .fail => none
  | .br c t e => cond c (run t) (run e)
theorem all_bind {α β : Type} {P : β → Prop} {f : α → T β} : ∀ {t : T α}, All P (bind t f) → All (fun a => All P (f a)) t
  | .ret _, h => h
  | .fail, h => h
  | .br _ _ _, h => ⟨fun c => all_bind (h.1 c), fun c => all_bind (h.2 c)⟩
theorem all_mono {α : Type} {P P' : α → Prop} (hp : ∀ a, P a → P' a) : ∀ {t : T α}, All P t → All P' t
  | .ret _, h => hp _ h
  | .fail, h => h
  | .br _ _ _, h => ⟨fun c => all_mono hp (h.1 c), fun c => all_mono hp (h.2 c)⟩
theorem all_of_run {α : Type} {P : α → Prop} {a : α} (p : P a) : ∀ {t : T α}, run t = some a → All P t
  | .ret _, h => by cases h; exact p
  | .fail, h => by cases h
  | .br true _ _, h => ⟨fun _ => all_of_run p h, fun q => (nomatch q)⟩
  | .br false _ _, h => ⟨fun q => (nomatch q), fun _ => all_of_run p h⟩
noncomputable def need {α : Type} (c : Bool) (t : T α) : T α := .br c t .fail
theorem all_need {α : Type} {P : α → Prop} {c : Bool} {t : T α} (h : All P (need c t)) : c = true ∧ All P t := by
  cases c with
  | true => exact ⟨rfl, h.1 rfl⟩
  | false => exact (h.2 rfl).elim
end T
noncomputable abbrev Loc := List (Str × AV)
noncomputable abbrev HP := List AO
inductive AF where | next | ret (v : AV) | brk | cont
structure Fns where
  ev : Nat → Scope → Expr → Loc → HP → T (AV × HP)
  xs : Nat → Scope → List Stmt → Loc → HP → T (AF × Loc × HP)
  cl : Nat → Nat → List AV → HP → T (AV × HP)
inductive CAttr where
  | field | int (i : Int) | fn (k : Nat) | lst (k : Nat)
structure FnR where
  names : List Str
  body : List Stmt
  scope : Scope
structure Ifc where
  glob : Str → Option AV
  init : FnR
  cls : Str → Option CAttr
  fns : Nat → Option FnR
  lst : Nat → Option (List LIt)
  iLs : Nat → Option (List Int)
section
variable (I : Ifc)
noncomputable def fld (H : HP) (v : AV) : Option (Nat × List (Str × AV)) := match v with
  | .obj i => match H[i]? with
    | some (.inst d) => match H[d]? with
      | some (.ns fs) => some (d, fs)
      | _ => none
    | _ => none
  | _ => none
noncomputable def getA (attr : Str) (v : AV) (H : HP) : T (AV × HP) := match fld H v with
  | some (_, fs) => (match I.cls attr, fs.lookup attr with
    | some .field, some (.bi _) => .fail
    | some .field, some x => .ret (x, H)
    | some (.int i), none => .ret (.int i, H)
    | some (.lst k), none => .ret (.lst k, H)
    | some (.fn k), none => .ret (.obj H.length, H ++ [.meth k v])
    | _, _ => .fail)
  | none => .fail
noncomputable def getM (attr : Str) (v : AV) (H : HP) : T (Nat × HP) := match fld H v with
  | some (_, fs) => (match I.cls attr, fs.lookup attr with
    | some (.fn k), none => .ret (k, H)
    | _, _ => .fail)
  | none => .fail
noncomputable def setF (x : Str) (v : AV) : List (Str × AV) → List (Str × AV)
  | [] => [(x, v)]
  | (y, u) :: r => if y = x then (y, v) :: r else (y, u) :: setF x v r
noncomputable def setA (attr : Str) (o v : AV) (H : HP) : T HP := match fld H o with
  | some (d, fs) => (match I.cls attr with
    | some .field => .need (decide ((setF attr v fs).length ≤ 1000)) (.ret (H.set d (.ns (setF attr v fs))))
    | _ => .fail)
  | none => .fail
noncomputable def binI (op : Operator) (a b : AV) (H : HP) : T (AV × HP) := match a, b with
  | .int x, .int y => (match op with
    | .Add => .ret (.int (x + y), H)
    | .Sub => .ret (.int (x - y), H)
    | .BitAnd => .ret (.int (Builtin.bitAnd x y), H)
    | .BitOr => .ret (.int (Builtin.bitOr x y), H)
    | .BitXor => .ret (.int (Builtin.bitXor x y), H)
    | .LShift => .need (decide (0 ≤ y) && decide (y ≤ 1000000) && decide (x.natAbs < 2 ^ 64)) (.ret (.int (x * 2 ^ y.toNat), H))
    | .RShift => .need (decide (0 ≤ y)) (.ret (.int (x.fdiv (2 ^ y.toNat)), H))
    | .Mult => .need (decide (x.natAbs < 1073741824) || decide (y.natAbs < 1073741824)) (.ret (.int (x * y), H))
    | .FloorDiv => .need (y != 0 && decide (y.natAbs < 1073741824)) (.ret (.int (x.fdiv y), H))
    | .Mod => .need (y != 0) (.ret (.int (x.fmod y), H))
    | _ => .fail)
  | .obj a, .int k => (match op, H[a]? with
    | .Mult, some (.nums xs) => .need (decide (0 ≤ k) && decide (k < 2 ^ 63) && decide (xs.length * k.toNat ≤ 2 ^ 24)) (.ret (.obj H.length, H ++ [.nums (List.replicate k.toNat xs).flatten]))
    | _, _ => .fail)
  | _, _ => .fail
noncomputable def extI (op : Operator) (a : Nat) (b : AV) (H : HP) : T HP := match op, H[a]?, b with
  | .Add, some (.nums xs), .obj b => (match H[b]? with
    | some (.nums ys) => .need (decide (a ≠ b) && !ys.isEmpty && decide (xs.length + ys.length ≤ 2 ^ 24)) (.ret (H.set a (.nums (xs ++ ys))))
    | _ => .fail)
  | _, _, _ => .fail
noncomputable def bltI (id : String) (vs : List AV) (H : HP) : T (AV × HP) := match id, vs with
  | "len", [.obj a] => (match H[a]? with
    | some (.nums xs) => .need (decide (xs.length < 2 ^ 62)) (.ret (.int xs.length, H))
    | _ => .fail)
  | "divmod", [.int x, .int y] => .need (y != 0 && decide (y.natAbs < 1073741824)) (.ret (.obj H.length, H ++ [.seq true [.int (x.fdiv y), .int (x.fmod y)]]))
  | _, _ => .fail
noncomputable def isInts : List AV → Option (List Int)
  | [] => some []
  | .int i :: r => (isInts r).map (i :: ·)
  | _ => none
noncomputable def dispI (tup : Bool) (vs : List AV) (H : HP) : T (AV × HP) := match tup, isInts vs with
  | false, some xs => .need (decide (xs.length ≤ 100000)) (.ret (.obj H.length, H ++ [.nums xs]))
  | true, _ => .need (decide (vs.length ≤ 100000)) (.ret (.obj H.length, H ++ [.seq true vs]))
  | _, _ => .fail
noncomputable def seqInts (H : HP) (a : Nat) : Option (Bool × List Int) := match H[a]? with
  | some (.nums xs) => some (false, xs)
  | some (.seq true vs) => (isInts vs).map (true, ·)
  | _ => none
noncomputable def loI (v : Option Int) (n : Nat) : Nat := match v with
  | none => 0
  | some x => if x < 0 then n - (-x).toNat else min x.toNat n
noncomputable def hiI (v : Option Int) (n : Nat) : Nat := match v with
  | none => n
  | some y => if y < 0 then n - (-y).toNat else min y.toNat n
noncomputable def pickI (xs : List Int) (lo hi : Option Int) : List Int := (xs.drop (loI lo xs.length)).take (hiI hi xs.length - loI lo xs.length)
noncomputable def litInts : List LIt → Option (List Int)
  | [] => some []
  | .int i :: r => (litInts r).map (i :: ·)
  | _ => none
noncomputable def sliceI (o : AV) (lo hi : Option Int) (H : HP) : T (AV × HP) := match o with
  | .obj a => (match H[a]? with
    | some (.nums xs) => .need (decide (xs.length ≤ 2 ^ 24)) (.ret (.obj H.length, H ++ [.nums (pickI xs lo hi)]))
    | _ => .fail)
  | .lst a => (match I.iLs a with
    | some xs => .need (decide (xs.length ≤ 2 ^ 24)) (.ret (.obj H.length, H ++ [.nums (pickI xs lo hi)]))
    | none => .fail)
  | _ => .fail
noncomputable def cmpI (op : CmpOp) (a b : AV) (H : HP) : T Bool := match op, a, b with
  | .Eq, .int x, .int y => .ret (x == y)
  | .NotEq, .int x, .int y => .ret (x != y)
  | .Lt, .int x, .int y => .ret (decide (x < y))
  | .LtE, .int x, .int y => .ret (decide (x ≤ y))
  | .Gt, .int x, .int y => .ret (decide (x > y))
  | .GtE, .int x, .int y => .ret (decide (x ≥ y))
  | .Is, .none, .none => .ret true
  | .Is, .obj _, .none => .ret false
  | .Is, .int _, .none => .ret false
  | .Eq, .obj a, .obj b => (match seqInts H a, seqInts H b with
    | some (t, xs), some (u, ys) => .need (t == u) (.ret (decide (xs = ys)))
    | _, _ => .fail)
  | .NotEq, .obj a, .obj b => (match seqInts H a, seqInts H b with
    | some (t, xs), some (u, ys) => .need (t == u) (.ret (!decide (xs = ys)))
    | _, _ => .fail)
  | _, _, _ => .fail
noncomputable def itemI (o i : AV) (H : HP) : T (AV × HP) := match o, i with
  | .obj a, .int k => (match H[a]? with
    | some (.nums xs) => .need (decide (0 ≤ k) && decide (k < 2 ^ 63) && decide (k.toNat < xs.length)) (.ret (.int (xs.getD k.toNat 0), H))
    | _ => .fail)
  | .lst a, .int k => (match I.lst a with
    | some xs => (match xs[k.toNat]? with
      | some (.int x) => .need (decide (0 ≤ k) && decide (k < 2 ^ 63)) (.ret (.int x, H))
      | some (.fn f) => .need (decide (0 ≤ k) && decide (k < 2 ^ 63)) (.ret (.fn f, H))
      | none => .fail)
    | none => .fail)
  | _, _ => .fail
noncomputable def setI (o i v : AV) (H : HP) : T HP := match o, i, v with
  | .obj a, .int k, .int x => (match H[a]? with
    | some (.nums xs) => .need (decide (0 ≤ k) && decide (k < 2 ^ 63) && decide (k.toNat < xs.length)) (.ret (H.set a (.nums (xs.set k.toNat x))))
    | _ => .fail)
  | _, _, _ => .fail
noncomputable def noSlice : Expr → Bool
  | .Slice .. => false
  | _ => true
noncomputable def noSet : Expr → Bool
  | .Set .. => false
  | _ => true
noncomputable def plainE : Expr → Bool
  | .ListComp .. | .SetComp .. | .DictComp .. => false
  | _ => true
noncomputable def notStar : Expr → Bool
  | .Starred .. => false
  | _ => true
variable (F : Fns)
noncomputable def evs (dp : Nat) (sc : Scope) : List Expr → Loc → HP → T (List AV × HP)
  | [], _, H => .ret ([], H)
  | e :: r, l, H => match notStar e with
    | true => (F.ev dp sc e l H).bind fun p => (evs dp sc r l p.2).bind fun q => .ret (p.1 :: q.1, q.2)
    | false => .fail
noncomputable def callI (dp : Nat) (f : AV) (vs : List AV) (H : HP) : T (AV × HP) := match f with
  | .fn a => (match I.fns a with
    | some _ => F.cl dp a vs H
    | none => .fail)
  | .obj i => (match H[i]? with
    | some (.meth g self) => (match I.fns g with
      | some _ => F.cl dp g (self :: vs) H
      | none => .fail)
    | _ => .fail)
  | .bi id => bltI id vs H
  | _ => .fail
noncomputable def renV (a b : Nat) : AV → Option AV
  | .obj j => match Nat.beq j a with | true => some (.obj b) | false => none
  | v => some v
noncomputable def renF (a b : Nat) : List (Str × AV) → Option (List (Str × AV))
  | [] => some []
  | p :: r => match renV a b p.2, renF a b r with
    | some v, some r' => some ((p.1, v) :: r')
    | _, _ => none
noncomputable def objOf : List (Str × AV) → Option Nat
  | [] => none
  | (_, .obj j) :: _ => some j
  | _ :: r => objOf r
noncomputable def back3 (i d m : Nat) (H : HP) (r : AV × HP) : T (AV × HP) := match r with
  | (.obj 0, [.inst 1, .ns fs, .nums xs]) => (match renF 2 m fs with
    | some fs' => .ret (.obj i, (H.set d (.ns fs')).set m (.nums xs))
    | none => .fail)
  | _ => .fail
noncomputable def clC (dp : Nat) (nm : Str) (k : Nat) (vs : List AV) (H : HP) : T (AV × HP) := match nm == ("step" : Str) with
  | false => F.cl dp k vs H
  | true => (match vs with
    | [.obj i] => (match fld H (.obj i) with
      | some (d, fs) => (match objOf fs with
        | some m => (match H[m]?, renF m 2 fs with
          | some (.nums xs), some fs2 => (F.cl dp k [.obj 0] [.inst 1, .ns fs2, .nums xs]).bind fun r => back3 i d m H r
          | _, _ => .fail)
        | none => .fail)
      | none => .fail)
    | _ => .fail)
noncomputable def makeI (dp : Nat) (k1 k2 : Str) (v1 v2 : AV) (H : HP) : T (AV × HP) := match dp, I.init.names with
  | dp + 2, [s, n1, n2] => (match n1 == k1 && n2 == k2 && !(s == k1) && !(s == k2) && !(k1 == k2) with
    | true => (F.xs dp I.init.scope I.init.body [(n2, v2), (n1, v1), (s, .obj H.length)] (H ++ [.inst (H.length + 1), .ns []])).bind fun r => (match r.1 with
        | .ret .none => .ret (.obj H.length, r.2.2)
        | .next => .ret (.obj H.length, r.2.2)
        | _ => .fail)
    | false => .fail)
  | _, _ => .fail
noncomputable def evO (dp : Nat) (sc : Scope) (e : Option Expr) (l : Loc) (H : HP) : T (Option Int × HP) := match e with
  | none => .ret (none, H)
  | some e => (F.ev dp sc e l H).bind fun r => (match r.1 with | .int i => .need (decide (-(2 ^ 62) ≤ i) && decide (i ≤ 2 ^ 62)) (.ret (some i, r.2)) | _ => .fail)
noncomputable def truI (v : AV) : T Bool := match v with
  | .int x => .ret (x != 0)
  | .bool b => .ret b
  | .none => .ret false
  | _ => .fail
noncomputable def tstI (dp : Nat) (sc : Scope) (e : Expr) (l : Loc) (H : HP) : T (Bool × HP) := match e with
  | .Compare a ops bs _ => (match ops, bs with
    | [op], [b] => (match noSet b with
      | false => .fail
      | true => (F.ev dp sc a l H).bind fun r => (F.ev dp sc b l r.2).bind fun q => (cmpI op r.1 q.1 q.2).bind fun c => .ret (c, q.2))
    | _, _ => .fail)
  | .BinOp .. | .Name .. | .Attribute .. => (F.ev dp sc e l H).bind fun r => (truI r.1).bind fun c => .ret (c, r.2)
  | _ => .fail
noncomputable def evAttr (dp : Nat) (sc : Scope) (o : Expr) (attr : Str) (l : Loc) (H : HP) : T (AV × HP) := match o with
  | .Name x p => (F.ev dp sc (.Name x p) l H).bind fun r => getA I attr r.1 r.2
  | _ => .fail
noncomputable def evUn (dp : Nat) (sc : Scope) (op : UnaryOp) (a : Expr) (l : Loc) (H : HP) : T (AV × HP) := match op with
  | .Invert => (F.ev dp sc a l H).bind fun r => (match r.1 with | .int x => .ret (.int (Builtin.bitNot x), r.2) | _ => .fail)
  | _ => .fail
noncomputable def evCmp (dp : Nat) (sc : Scope) (a : Expr) (ops : List CmpOp) (bs : List Expr) (l : Loc) (H : HP) : T (AV × HP) := match ops, bs with
  | [op], [b] => (match noSet b with
    | false => .fail
    | true => (F.ev dp sc a l H).bind fun r => (F.ev dp sc b l r.2).bind fun q => (cmpI op r.1 q.1 q.2).bind fun c => .ret (.bool c, q.2))
  | _, _ => .fail
noncomputable def evSli (dp : Nat) (sc : Scope) (v : Expr) (lo hi st : Option Expr) (l : Loc) (H : HP) : T (AV × HP) := match v, st with
  | .Name x p, none => (F.ev dp sc (.Name x p) l H).bind fun r => (evO F dp sc lo l r.2).bind fun a => (evO F dp sc hi l a.2).bind fun b => sliceI I r.1 a.1 b.1 b.2
  | _, _ => .fail
noncomputable def evSub (dp : Nat) (sc : Scope) (v i : Expr) (l : Loc) (H : HP) : T (AV × HP) := match i with
  | .Slice lo hi st _ => evSli I F dp sc v lo hi st l H
  | _ => (match noSlice i with
    | false => .fail
    | true => (F.ev dp sc v l H).bind fun r => (F.ev dp sc i l r.2).bind fun q => itemI I r.1 q.1 q.2)
noncomputable def evMeth (dp : Nat) (sc : Scope) (o : Expr) (m : Str) (ap : Pos) (args : List Expr) (pos : Pos) (l : Loc) (H : HP) : T (AV × HP) := match o with
  | .Name x p => (match ap.endLine == pos.line && decide (args.length < 30) && args.all notStar with
    | true => (F.ev dp sc (.Name x p) l H).bind fun r => (getM I m r.1 r.2).bind fun g => (evs F dp sc args l g.2).bind fun q => clC F dp m g.1 (r.1 :: q.1) q.2
    | false => .fail)
  | _ => .fail
noncomputable def evMake (dp : Nat) (sc : Scope) (f : Expr) (args : List Expr) (k1 k2 : Keyword) (l : Loc) (H : HP) : T (AV × HP) := match f, args, k1, k2 with
  | .Name x p, [], ⟨some n1, e1, _⟩, ⟨some n2, e2, _⟩ => (F.ev dp sc (.Name x p) l H).bind fun r => (match r.1 with
    | .cls => (F.ev dp sc e1 l r.2).bind fun a => (F.ev dp sc e2 l a.2).bind fun b => makeI I F dp n1 n2 a.1 b.1 b.2
    | _ => .fail)
  | _, _, _, _ => .fail
noncomputable def evFun (dp : Nat) (sc : Scope) (f : Expr) (args : List Expr) (l : Loc) (H : HP) : T (AV × HP) := match args.all notStar with
  | true => (F.ev dp sc f l H).bind fun r => (evs F dp sc args l r.2).bind fun q => callI I F dp r.1 q.1 q.2
  | false => .fail
noncomputable def evPos (dp : Nat) (sc : Scope) (f : Expr) (args : List Expr) (pos : Pos) (l : Loc) (H : HP) : T (AV × HP) := match f with
  | .Attribute o m ap => evMeth I F dp sc o m ap args pos l H
  | .Name x p => evFun I F dp sc (.Name x p) args l H
  | .Subscript v i sp => evFun I F dp sc (.Subscript v i sp) args l H
  | _ => .fail
noncomputable def evCall (dp : Nat) (sc : Scope) (f : Expr) (args : List Expr) (kws : List Keyword) (pos : Pos) (l : Loc) (H : HP) : T (AV × HP) := match kws with
  | [] => evPos I F dp sc f args pos l H
  | [k1, k2] => evMake I F dp sc f args k1 k2 l H
  | _ => .fail
noncomputable def evBool (dp : Nat) (sc : Scope) (op : BoolOp) (vs : List Expr) (l : Loc) (H : HP) : T (AV × HP) := match op, vs with
  | .And, [a, b] => (F.ev dp sc a l H).bind fun r => (match r.1 with
    | .bool c => .br c (F.ev dp sc b l r.2) (.ret (.bool false, r.2))
    | _ => .fail)
  | _, _ => .fail
noncomputable def evI (dp : Nat) (sc : Scope) (e : Expr) (l : Loc) (H : HP) : T (AV × HP) := match e with
  | .Constant c _ _ => (match c with
    | .int i => .ret (.int i, H)
    | .none => .ret (.none, H)
    | .bool b => .ret (.bool b, H)
    | .str x => .ret (.str x, H)
    | _ => .fail)
  | .Name x _ => (match sc.names.lookup x, x == ("__debug__" : Str) with
    | some .local, false => (match l.lookup x with | some v => .ret (v, H) | none => .fail)
    | some .globalImplicit, false => (match I.glob x with | some v => .ret (v, H) | none => .fail)
    | _, _ => .fail)
  | .Attribute o attr _ => evAttr I F dp sc o attr l H
  | .BinOp a op b _ => (F.ev dp sc a l H).bind fun r => (F.ev dp sc b l r.2).bind fun q => binI op r.1 q.1 q.2
  | .UnaryOp op a _ => evUn F dp sc op a l H
  | .Compare a ops bs _ => evCmp F dp sc a ops bs l H
  | .Subscript v i _ => evSub I F dp sc v i l H
  | .Call f args kws pos => evCall I F dp sc f args kws pos l H
  | .List elts _ => (match elts.all notStar with
    | true => (evs F dp sc elts l H).bind fun q => dispI false q.1 q.2
    | false => .fail)
  | .Tuple elts _ _ => (match elts.all notStar with
    | true => (evs F dp sc elts l H).bind fun q => dispI true q.1 q.2
    | false => .fail)
  | .BoolOp op vs _ => evBool F dp sc op vs l H
  | _ => .fail
noncomputable def setL (x : Str) (v : AV) (l : Loc) : Loc := setF x v l
noncomputable def asgI (dp : Nat) (sc : Scope) (t : Expr) (v : AV) (l : Loc) (H : HP) : T (Loc × HP) := match t with
  | .Name x _ => (match sc.names.lookup x with
    | some .local => .ret (setL x v l, H)
    | _ => .fail)
  | .Subscript (.Name x p) i _ => (match noSlice i with
    | true => (F.ev dp sc (.Name x p) l H).bind fun q => (F.ev dp sc i l q.2).bind fun t => (setI q.1 t.1 v t.2).bind fun H' => .ret (l, H')
    | false => .fail)
  | .Attribute (.Name x p) attr _ => (F.ev dp sc (.Name x p) l H).bind fun q => (setA I attr q.1 v q.2).bind fun H' => .ret (l, H')
  | _ => .fail
noncomputable def asgsI (dp : Nat) (sc : Scope) : List Expr → List AV → Loc → HP → T (Loc × HP)
  | [], [], l, H => .ret (l, H)
  | t :: ts, v :: vs, l, H => (asgI I F dp sc t v l H).bind fun r => asgsI dp sc ts vs r.1 r.2
  | _, _, _, _ => .fail
noncomputable def swapOk (ts : List Expr) (e : Expr) : Bool := match e with
  | .Tuple vs _ _ => ts.any (fun t => match t with | .Name .. => false | _ => true) || vs.all (foldedForSure 8)
  | _ => true
noncomputable def bndName (sc : Scope) (x : Str) (v : AV) (l : Loc) : T Loc := match sc.names.lookup x with
  | some .local => .ret (setL x v l)
  | _ => .fail
noncomputable def dropL (x : Str) (l : Loc) : Loc := l.filter fun p => !(p.1 == x)
noncomputable def allBelow (n : Nat) : AV → Bool
  | .obj i => decide (i < n)
  | _ => true
noncomputable def objBelow (n : Nat) : AO → Bool
  | .inst d => decide (d < n)
  | .ns fs => fs.all fun p => allBelow n p.2
  | .nums _ => true
  | .seq _ xs => xs.all (allBelow n)
  | .meth _ s => allBelow n s
noncomputable def sweepL (n : Nat) (l : Loc) (H : HP) : HP := match l.all (fun p => allBelow n p.2) && (H.take n).all (objBelow n) with
  | true => H.take n
  | false => H
noncomputable def forN (dp : Nat) (sc : Scope) (x : Str) (body : List Stmt) (next : Nat → HP → Option (Option AV)) (n0 : Nat) : Nat → Nat → Loc → HP → T (AF × Loc × HP)
  | 0, _, _, _ => .fail
  | n + 1, k, l, H => match next k H with
    | none => .fail
    | some none => .ret (.next, dropL x l, H)
    | some (some v) => (bndName sc x v l).bind fun l1 => (F.xs dp sc body l1 H).bind fun r => (match r.1 with
      | .next | .cont => forN dp sc x body next n0 n (k + 1) r.2.1 (sweepL n0 r.2.1 r.2.2)
      | .brk => .ret (.next, dropL x r.2.1, sweepL n0 r.2.1 r.2.2)
      | .ret v => .ret (.ret v, r.2.1, r.2.2))
noncomputable def nxList (a : Nat) (k : Nat) (H : HP) : Option (Option AV) := match H[a]? with
  | some (.nums xs) => some ((xs[k]?).map .int)
  | _ => none
noncomputable def nxRange (n : Nat) (k : Nat) (_ : HP) : Option (Option AV) := if k < n then some (some (.int k)) else some none
noncomputable def lenAt (H : HP) (a : Nat) : Nat := match H[a]? with
  | some (.nums xs) => xs.length
  | _ => 0
noncomputable def bndPair (sc : Scope) (x y : Str) (k : Nat) (v : AV) (l : Loc) : T Loc := match sc.names.lookup x, sc.names.lookup y with
  | some .local, some .local => .ret (setL y v (setL x (.int k) l))
  | _, _ => .fail
noncomputable def forE (dp : Nat) (sc : Scope) (x y : Str) (body : List Stmt) (a : Nat) (n0 : Nat) : Nat → Nat → Loc → HP → T (AF × Loc × HP)
  | 0, _, _, _ => .fail
  | n + 1, k, l, H => match nxList a k H with
    | none => .fail
    | some none => .ret (.next, dropL y (dropL x l), H)
    | some (some v) => (bndPair sc x y k v l).bind fun l1 => (F.xs dp sc body l1 H).bind fun r => (match r.1 with
      | .next | .cont => forE dp sc x y body a n0 n (k + 1) r.2.1 (sweepL n0 r.2.1 r.2.2)
      | .brk => .ret (.next, dropL y (dropL x r.2.1), sweepL n0 r.2.1 r.2.2)
      | .ret v => .ret (.ret v, r.2.1, r.2.2))
noncomputable def isGlob (sc : Scope) (f : Str) (v : AV) : Bool := sc.names.lookup f == some .globalImplicit && !(f == ("__debug__" : Str)) && (match I.glob f, v with | some (.ty a), .ty b => a == b | _, _ => false)
noncomputable def asgS (dp : Nat) (sc : Scope) (t e : Expr) (l : Loc) (H : HP) : T (AF × Loc × HP) := match t with
  | .Name x _ => (match plainE e, sc.names.lookup x with
    | true, some .local => (F.ev dp sc e l H).bind fun r => .ret (.next, setL x r.1 l, r.2)
    | _, _ => .fail)
  | .Attribute o attr _ => (match o, plainE e with
    | .Name x p, true => (F.ev dp sc e l H).bind fun r => (F.ev dp sc (.Name x p) l r.2).bind fun q => (setA I attr q.1 r.1 q.2).bind fun H' => .ret (.next, l, H')
    | _, _ => .fail)
  | .Subscript o i _ => (match plainE e with
    | true => (F.ev dp sc e l H).bind fun r => (F.ev dp sc o l r.2).bind fun q => (F.ev dp sc i l q.2).bind fun t => (setI q.1 t.1 r.1 t.2).bind fun H' => .ret (.next, l, H')
    | false => .fail)
  | .Tuple ts _ _ => (match plainE e && swapOk ts e && ts.all notStar with
    | true => (F.ev dp sc e l H).bind fun r => (match r.1 with
      | .obj a => (match r.2[a]? with
        | some (.seq true vs) => (asgsI I F dp sc ts vs l r.2).bind fun q => .ret (.next, q.1, q.2)
        | _ => .fail)
      | _ => .fail)
    | false => .fail)
  | _ => .fail
noncomputable def augS (dp : Nat) (sc : Scope) (t : Expr) (op : Operator) (e : Expr) (l : Loc) (H : HP) : T (AF × Loc × HP) := match t with
  | .Name x _ => (match sc.names.lookup x with
    | some .local => (match l.lookup x with
      | some (.int a) => (F.ev dp sc e l H).bind fun r => (binI op (.int a) r.1 r.2).bind fun q => .ret (.next, setL x q.1 l, q.2)
      | some (.obj a) => (F.ev dp sc e l H).bind fun r => (extI op a r.1 r.2).bind fun H' => .ret (.next, setL x (.obj a) l, H')
      | _ => .fail)
    | _ => .fail)
  | .Attribute o attr _ => (match o with
    | .Name x p => (F.ev dp sc (.Name x p) l H).bind fun o => (getA I attr o.1 o.2).bind fun a => (match a.1 with
      | .int a' => (F.ev dp sc e l a.2).bind fun r => (binI op (.int a') r.1 r.2).bind fun q => (setA I attr o.1 q.1 q.2).bind fun H' => .ret (.next, l, H')
      | _ => .fail)
    | _ => .fail)
  | _ => .fail
noncomputable def forNm (dp : Nat) (sc : Scope) (x : Str) (e : Expr) (body : List Stmt) (l : Loc) (H : HP) : T (AF × Loc × HP) := match noSet e with
  | false => .fail
  | true => (match e with
    | .Call (.Name f _) [n] [] _ => (match isGlob I sc f (.ty "range") && notStar n with
      | true => (F.ev dp sc n l H).bind fun r => (match r.1 with
        | .int i => .need (decide (0 ≤ i) && decide (i ≤ 1000000)) (forN F dp sc x body (nxRange i.toNat) r.2.length (i.toNat + 1) 0 l r.2)
        | _ => .fail)
      | false => .fail)
    | _ => (F.ev dp sc e l H).bind fun r => (match r.1 with
      | .obj a => forN F dp sc x body (nxList a) r.2.length (lenAt r.2 a + 1) 0 l r.2
      | _ => .fail))
noncomputable def forTp (dp : Nat) (sc : Scope) (x y : Str) (e : Expr) (body : List Stmt) (l : Loc) (H : HP) : T (AF × Loc × HP) := match e with
  | .Call (.Name f _) [e] [] _ => (match isGlob I sc f (.ty "enumerate") && notStar e with
    | true => (F.ev dp sc e l H).bind fun r => (match r.1 with
      | .obj a => forE F dp sc x y body a r.2.length (lenAt r.2 a + 1) 0 l r.2
      | _ => .fail)
    | false => .fail)
  | _ => .fail
noncomputable def forS (dp : Nat) (sc : Scope) (t e : Expr) (body : List Stmt) (l : Loc) (H : HP) : T (AF × Loc × HP) := match t with
  | .Name x _ => forNm I F dp sc x e body l H
  | .Tuple ts _ _ => (match ts with
    | [.Name x _, .Name y _] => forTp I F dp sc x y e body l H
    | _ => .fail)
  | _ => .fail
noncomputable def stI (dp : Nat) (sc : Scope) (s : Stmt) (l : Loc) (H : HP) : T (AF × Loc × HP) := match s with
  | .Pass _ => .ret (.next, l, H)
  | .Return eo _ => (match eo with
    | some e => (F.ev dp sc e l H).bind fun r => .ret (.ret r.1, l, r.2)
    | none => .ret (.ret .none, l, H))
  | .Expr e _ => (match plainE e with
    | true => (F.ev dp sc e l H).bind fun r => .ret (.next, l, r.2)
    | false => .fail)
  | .Assign ts e _ => (match ts with
    | [t] => asgS I F dp sc t e l H
    | _ => .fail)
  | .AugAssign t op e _ => augS I F dp sc t op e l H
  | .If t b o _ => (tstI F dp sc t l H).bind fun r => .br r.1 (F.xs dp sc b l r.2) (F.xs dp sc o l r.2)
  | .Break _ => .ret (.brk, l, H)
  | .For t e body els _ => (match els with
    | [] => forS I F dp sc t e body l H
    | _ => .fail)
  | _ => .fail
noncomputable def xsI (dp : Nat) (sc : Scope) (ss : List Stmt) (l : Loc) (H : HP) : T (AF × Loc × HP) := match ss with
  | [] => .ret (.next, l, H)
  | s :: r => (stI I F dp sc s l H).bind fun p => (match p.1 with
    | .next => F.xs dp sc r p.2.1 p.2.2
    | f => .ret (f, p.2.1, p.2.2))
noncomputable def sweep (n : Nat) (v : AV) (H : HP) : AV × HP := match allBelow n v && (H.take n).all (objBelow n) with
  | true => (v, H.take n)
  | false => (v, H)
noncomputable def clI (dp : Nat) (k : Nat) (vs : List AV) (H : HP) : T (AV × HP) := match dp with
  | 0 => .fail
  | dp + 1 => (match I.fns k with
    | some r => (match decide (r.names.length = vs.length) with
      | true => (F.xs dp r.scope r.body (r.names.zip vs).reverse H).bind fun r => (match r.1 with
        | .ret v => .ret (sweep H.length v r.2.2)
        | .next => .ret (sweep H.length .none r.2.2)
        | _ => .fail)
      | false => .fail)
    | none => .fail)
noncomputable def stepF : Fns := ⟨evI I F, xsI I F, clI I F⟩
end
noncomputable def failF : Fns := ⟨fun _ _ _ _ _ => .fail, fun _ _ _ _ _ => .fail, fun _ _ _ _ => .fail⟩
noncomputable def fns (I : Ifc) : Nat → Fns
  | 0 => failF
  | n + 1 => stepF I (fns I n)
noncomputable def parsOf (p : Arguments) : Option (List Str) := match p with
  | ⟨[], as, none, [], [], none, []⟩ => some (as.map (·.arg))
  | _ => none
end Mine
end
section
open PySem PySem.W PySem.Calls PyProof.Rows
namespace Mine
structure Ph where
  cls : Addr
  fn : Nat → Addr
  lst : Nat → Addr
noncomputable def RepV (Φ : Ph) (ρ : List Addr) (v : Value) : AV → Prop
  | .none => v = .none
  | .bool b => v = .bool b
  | .int i => ∃ t, v = .int i t
  | .str s => ∃ t, v = .str s t
  | .obj i => ∃ a, ρ[i]? = some a ∧ v = .ref a
  | .fn k => v = .ref (Φ.fn k)
  | .lst k => v = .ref (Φ.lst k)
  | .cls => v = .ref Φ.cls
  | .bi id => v = .builtin id
  | .ty n => v = .type n
noncomputable def RepFs (Φ : Ph) (ρ : List Addr) : List DictEntry → List (Str × AV) → Prop
  | [], [] => True
  | e :: es, f :: fs => (∃ t, e.key = .str f.1 t) ∧ RepV Φ ρ e.val f.2 ∧ RepFs Φ ρ es fs
  | _, _ => False
noncomputable def RepVs (Φ : Ph) (ρ : List Addr) : List Value → List AV → Prop
  | [], [] => True
  | v :: vs, x :: xs => RepV Φ ρ v x ∧ RepVs Φ ρ vs xs
  | _, _ => False
noncomputable def RepO (Φ : Ph) (ρ : List Addr) (o : Obj) : AO → Prop
  | .inst d => ∃ a, ρ[d]? = some a ∧ o = instObj Φ.cls a
  | .ns fs => ∃ es n, o = dictOf es n ∧ RepFs Φ ρ es fs
  | .nums xs => ∃ vs n, o = listOf vs n ∧ IntsAre vs.toList xs
  | .seq tup xs => ∃ vs n, o = { cls := .type (if tup then "tuple" else "list"), data := .seq vs n } ∧ RepVs Φ ρ vs.toList xs
  | .meth f self => ∃ v, o = methodObj (.ref (Φ.fn f)) v ∧ RepV Φ ρ v self
noncomputable def ledger (ρ : List Addr) (c : Addr → Obj) : List (Addr × Obj) := ρ.map fun a => (a, c a)
noncomputable def Cf (Φ : Ph) (g : Heap) (L : Addr) (rest : List (Addr × Obj)) (h : Heap) (ρ : List Addr) (H : HP) : Prop :=
  ∃ c : Addr → Obj, News g L h (ledger ρ c ++ rest) ∧ (ρ ++ rest.map (·.1)).Nodup ∧ ρ.length = H.length ∧ ∀ (i : Nat) (a : Addr) (ao : AO), ρ[i]? = some a → H[i]? = some ao → RepO Φ ρ (c a) ao
theorem RepV.mono {Φ : Ph} {ρ ρ' : List Addr} (p : ρ <+: ρ') {v : Value} {x : AV} (h : RepV Φ ρ v x) : RepV Φ ρ' v x := by
  cases x <;> first | exact h | exact (let ⟨a, q, e⟩ := h; ⟨a, pre_get p q, e⟩)
theorem RepFs.mono {Φ : Ph} {ρ ρ' : List Addr} (p : ρ <+: ρ') : ∀ {es : List DictEntry} {fs : List (Str × AV)}, RepFs Φ ρ es fs → RepFs Φ ρ' es fs
  | [], [], h => h
  | _ :: _, _ :: _, h => ⟨h.1, h.2.1.mono p, h.2.2.mono p⟩
  | [], _ :: _, h => h.elim
  | _ :: _, [], h => h.elim
theorem RepVs.mono {Φ : Ph} {ρ ρ' : List Addr} (p : ρ <+: ρ') : ∀ {es : List Value} {fs : List AV}, RepVs Φ ρ es fs → RepVs Φ ρ' es fs
  | [], [], h => h
  | _ :: _, _ :: _, h => ⟨h.1.mono p, h.2.mono p⟩
  | [], _ :: _, h => h.elim
  | _ :: _, [], h => h.elim
theorem RepO.mono {Φ : Ph} {ρ ρ' : List Addr} (p : ρ <+: ρ') {o : Obj} {x : AO} (h : RepO Φ ρ o x) : RepO Φ ρ' o x := by
  cases x with
  | inst d => exact (let ⟨a, q, e⟩ := h; ⟨a, pre_get p q, e⟩)
  | ns fs => exact (let ⟨es, n, e, q⟩ := h; ⟨es, n, e, q.mono p⟩)
  | nums xs => exact h
  | seq b xs => exact (let ⟨es, n, e, q⟩ := h; ⟨es, n, e, q.mono p⟩)
  | meth f s => exact (let ⟨v, e, q⟩ := h; ⟨v, e, q.mono p⟩)
theorem RepO.free {Φ : Ph} {ρ : List Addr} {o : Obj} {x : AO} (h : RepO Φ ρ o x) : o.isFreed = false := by
  cases x with
  | inst d => obtain ⟨a, q, rfl⟩ := h; rfl
  | ns fs => obtain ⟨es, n, rfl, q⟩ := h; rfl
  | nums xs => obtain ⟨es, n, rfl, q⟩ := h; rfl
  | seq b xs => obtain ⟨es, n, rfl, q⟩ := h; rfl
  | meth f s => obtain ⟨v, rfl, q⟩ := h; rfl
section
variable {Φ : Ph} {g h h' : Heap} {L : Addr} {rest : List (Addr × Obj)} {ρ ρ' : List Addr} {H : HP} {m : Str → Option Value}
theorem mem_ledger {c : Addr → Obj} {a : Addr} {i : Nat} (e : ρ[i]? = some a) : (a, c a) ∈ ledger ρ c := List.mem_map.mpr ⟨a, List.mem_of_getElem? e, rfl⟩
theorem Cf.get (C : Cf Φ g L rest h ρ H) {i : Nat} {ao : AO} (e : H[i]? = some ao) : ∃ a o, ρ[i]? = some a ∧ h.get? a = some o ∧ RepO Φ ρ o ao := by
  obtain ⟨c, N, nd, len, r⟩ := C
  have hi : i < ρ.length := len ▸ (List.getElem?_eq_some_iff.mp e).1
  have ea : ρ[i]? = some ρ[i] := List.getElem?_eq_getElem hi
  exact ⟨ρ[i], c ρ[i], ea, (N _ (List.mem_append_left _ (mem_ledger ea))).1, r i _ _ ea e⟩
theorem Cf.set (C : Cf Φ g L rest h ρ H) (hs : Heap.SameBut L h h') : Cf Φ g L rest h' ρ H := by
  obtain ⟨c, N, nd, len, r⟩ := C
  exact ⟨c, N.set hs, nd, len, r⟩
theorem Cf.fresh (C : Cf Φ g L rest h ρ H) {i : Nat} {a : Addr} (e : ρ[i]? = some a) : g.get? a = none ∧ a ≠ L := by
  obtain ⟨c, N, nd, len, r⟩ := C
  have := N _ (List.mem_append_left _ (mem_ledger e))
  exact ⟨this.2.2, this.2.1⟩
theorem nodup_ne (nd : ρ.Nodup) {i j : Nat} {a b : Addr} (ei : ρ[i]? = some a) (ej : ρ[j]? = some b) (h : i ≠ j) : a ≠ b := by
  intro e
  subst e
  obtain ⟨hi, ei⟩ := List.getElem?_eq_some_iff.mp ei
  obtain ⟨hj, ej⟩ := List.getElem?_eq_some_iff.mp ej
  have q := List.pairwise_iff_getElem.mp nd
  rcases Nat.lt_or_gt_of_ne h with hl | hl
  · exact q i j hi hj hl (ei.trans ej.symm)
  · exact q j i hj hi hl (ej.trans ei.symm)
theorem Cf.upd (C : Cf Φ g L rest h ρ H) (F : Fr g L h m) {i : Nat} {a : Addr} {ao : AO} {o : Obj} (e : ρ[i]? = some a) (hs : Heap.SameBut a h h') (ho : h'.get? a = some o) (R : RepO Φ ρ o ao) :
    Cf Φ g L rest h' ρ (H.set i ao) ∧ Fr g L h' m := by
  have fr := C.fresh e
  obtain ⟨c, N, nd, len, r⟩ := C
  refine ⟨⟨fun b => if b = a then o else c b, fun p hp => ?_, nd, by rw [List.length_set]; exact len, fun j b bo ej eo => ?_⟩, ?_⟩
  · rcases List.mem_append.mp hp with q | q
    · obtain ⟨b, hb, rfl⟩ := List.mem_map.mp q
      have P := N (b, c b) (List.mem_append_left _ (List.mem_map.mpr ⟨b, hb, rfl⟩))
      refine ⟨?_, P.2⟩
      by_cases hba : b = a
      · subst hba; simp only [if_true]; exact ho
      · simp only [hba, if_false]; rw [hs.2 b hba]; exact P.1
    · have P := N p (List.mem_append_right _ q)
      refine ⟨?_, P.2⟩
      rw [hs.2 p.1 ?_]; exact P.1
      intro hpa
      exact (List.nodup_append.mp nd).2.2 a (List.mem_of_getElem? e) p.1 (List.mem_map.mpr ⟨p, q, rfl⟩) hpa.symm
  · by_cases hij : i = j
    · subst hij
      have hi : i < H.length := by rw [← len]; exact (List.getElem?_eq_some_iff.mp e).1
      rw [List.getElem?_set_self hi] at eo
      cases eo
      rw [e] at ej; cases ej
      simp only [if_true]; exact R
    · rw [List.getElem?_set_ne hij] at eo
      have hba : b ≠ a := nodup_ne (List.nodup_append.mp nd).1 ej e (Ne.symm hij)
      simp only [hba, if_false]; exact r j b bo ej eo
  · obtain ⟨oL, es, ep, hL, q⟩ := F.ns
    exact ⟨⟨oL, es, ep, (hs.2 L (Ne.symm fr.2)).trans hL, q⟩, fun b x ex => (hs.2 b (fun hb => by subst hb; rw [fr.1] at ex; cases ex)).trans (F.keep b x ex), F.above⟩
theorem Cf.push (C : Cf Φ g L rest h ρ H) (F : Fr g L h m) {o : Obj} {ao : AO} (R : RepO Φ ρ o ao) :
    Cf Φ g L rest (h.push o) (ρ ++ [h.objs.size]) (H ++ [ao]) ∧ Fr g L (h.push o) m := by
  obtain ⟨c, N, nd, len, r⟩ := C
  have N' := News.push F N o R.free
  have new : ∀ p ∈ ledger ρ c ++ rest, p.1 ≠ h.objs.size := fun p hp => Nat.ne_of_lt (Heap.lt_size (N p hp).1)
  refine ⟨⟨fun b => if b = h.objs.size then o else c b, fun p hp => ?_, ?_, by simp [len], fun j b bo ej eo => ?_⟩, F.push o⟩
  · rcases List.mem_append.mp hp with q | q
    · obtain ⟨b, hb, rfl⟩ := List.mem_map.mp q
      rcases List.mem_append.mp hb with hb | hb
      · have : b ≠ h.objs.size := new (b, c b) (List.mem_append_left _ (List.mem_map.mpr ⟨b, hb, rfl⟩))
        simp only [this, if_false]
        exact N' (b, c b) (List.mem_cons_of_mem _ (List.mem_append_left _ (List.mem_map.mpr ⟨b, hb, rfl⟩)))
      · obtain rfl := List.mem_singleton.mp hb
        simp only [if_true]
        exact N' _ List.mem_cons_self
    · exact N' p (List.mem_cons_of_mem _ (List.mem_append_right _ q))
  · rw [List.append_assoc]
    refine List.nodup_append.mpr ⟨(List.nodup_append.mp nd).1, ?_, ?_⟩
    · refine List.nodup_cons.mpr ⟨fun q => ?_, (List.nodup_append.mp nd).2.1⟩
      obtain ⟨p, hp, e⟩ := List.mem_map.mp q
      exact new p (List.mem_append_right _ hp) e
    · intro a ha b hb
      rcases List.mem_cons.mp hb with rfl | hb
      · exact new (a, c a) (List.mem_append_left _ (List.mem_map.mpr ⟨a, ha, rfl⟩))
      · exact (List.nodup_append.mp nd).2.2 a ha b hb
  · by_cases hj : j < ρ.length
    · rw [List.getElem?_append_left hj] at ej
      rw [List.getElem?_append_left (len ▸ hj)] at eo
      have : b ≠ h.objs.size := new (b, c b) (List.mem_append_left _ (mem_ledger ej))
      simp only [this, if_false]
      exact (r j b bo ej eo).mono (List.prefix_append _ _)
    · have hj' : j = ρ.length := by
        have := (List.getElem?_eq_some_iff.mp ej).1
        simp at this; lia
      subst hj'
      rw [List.getElem?_append_right (Nat.le_refl _)] at ej
      rw [len, List.getElem?_append_right (Nat.le_refl _)] at eo
      simp at ej eo
      subst ej; subst eo
      simp only [if_true]
      exact R.mono (List.prefix_append _ _)
theorem Cf.keeps (C : Cf Φ g L rest h ρ H) (k : ∀ b o, h.get? b = some o → h'.get? b = some o) : Cf Φ g L rest h' ρ H := by
  obtain ⟨c, N, nd, len, r⟩ := C
  exact ⟨c, fun p hp => ⟨k _ _ (N p hp).1, (N p hp).2⟩, nd, len, r⟩
theorem Cf.add {c : Addr → Obj} {D : Addr} {o : Obj} {ao : AO} (N' : News g L h' ((D, o) :: (ledger ρ c ++ rest))) (nd : (ρ ++ rest.map (·.1)).Nodup) (len : ρ.length = H.length)
    (rp : ∀ (i : Nat) (a : Addr) (ao : AO), ρ[i]? = some a → H[i]? = some ao → RepO Φ ρ (c a) ao) (hD : ∀ p ∈ ledger ρ c ++ rest, p.1 < D) (R : RepO Φ ρ o ao) : Cf Φ g L rest h' (ρ ++ [D]) (H ++ [ao]) := by
  have new : ∀ p ∈ ledger ρ c ++ rest, p.1 ≠ D := fun p hp => Nat.ne_of_lt (hD p hp)
  refine ⟨fun b => if b = D then o else c b, fun p hp => ?_, ?_, by simp [len], fun j b bo ej eo => ?_⟩
  · rcases List.mem_append.mp hp with q | q
    · obtain ⟨b, hb, rfl⟩ := List.mem_map.mp q
      rcases List.mem_append.mp hb with hb | hb
      · have : b ≠ D := new (b, c b) (List.mem_append_left _ (List.mem_map.mpr ⟨b, hb, rfl⟩))
        simp only [this, if_false]
        exact N' (b, c b) (List.mem_cons_of_mem _ (List.mem_append_left _ (List.mem_map.mpr ⟨b, hb, rfl⟩)))
      · obtain rfl := List.mem_singleton.mp hb
        simp only [if_true]
        exact N' _ List.mem_cons_self
    · exact N' p (List.mem_cons_of_mem _ (List.mem_append_right _ q))
  · rw [List.append_assoc]
    refine List.nodup_append.mpr ⟨(List.nodup_append.mp nd).1, ?_, ?_⟩
    · refine List.nodup_cons.mpr ⟨fun q => ?_, (List.nodup_append.mp nd).2.1⟩
      obtain ⟨p, hp, e⟩ := List.mem_map.mp q
      exact new p (List.mem_append_right _ hp) e
    · intro a ha b hb
      rcases List.mem_cons.mp hb with rfl | hb
      · exact new (a, c a) (List.mem_append_left _ (List.mem_map.mpr ⟨a, ha, rfl⟩))
      · exact (List.nodup_append.mp nd).2.2 a ha b hb
  · by_cases hj : j < ρ.length
    · rw [List.getElem?_append_left hj] at ej
      rw [List.getElem?_append_left (len ▸ hj)] at eo
      have : b ≠ D := new (b, c b) (List.mem_append_left _ (mem_ledger ej))
      simp only [this, if_false]
      exact (rp j b bo ej eo).mono (List.prefix_append _ _)
    · have hj' : j = ρ.length := by
        have := (List.getElem?_eq_some_iff.mp ej).1
        simp at this; lia
      subst hj'
      rw [List.getElem?_append_right (Nat.le_refl _)] at ej
      rw [len, List.getElem?_append_right (Nat.le_refl _)] at eo
      simp at ej eo
      subst ej; subst eo
      simp only [if_true]
      exact R.mono (List.prefix_append _ _)
theorem Cf.hide {b : Addr} {o : Obj} (C : Cf Φ g L rest h ρ H) (e : h.get? b = some o) (fg : g.get? b = none) (fL : b ≠ L) (fr : b ∉ ρ) (fs : b ∉ rest.map (·.1)) : Cf Φ g L ((b, o) :: rest) h ρ H := by
  obtain ⟨c, N, nd, len, r⟩ := C
  refine ⟨c, fun p hp => ?_, ?_, len, r⟩
  · rcases List.mem_append.mp hp with q | q
    · exact N p (List.mem_append_left _ q)
    · rcases List.mem_cons.mp q with rfl | q
      · exact ⟨e, fL, fg⟩
      · exact N p (List.mem_append_right _ q)
  · obtain ⟨n1, n2, n3⟩ := List.nodup_append.mp nd
    refine List.nodup_append.mpr ⟨n1, List.nodup_cons.mpr ⟨fs, n2⟩, fun a ha x hx => ?_⟩
    rcases List.mem_cons.mp hx with rfl | hx
    · intro z; exact fr (z ▸ ha)
    · exact n3 a ha x hx
theorem Cf.hidden {b : Addr} {o : Obj} (C : Cf Φ g L ((b, o) :: rest) h ρ H) : h.get? b = some o ∧ b ≠ L ∧ g.get? b = none ∧ b ∉ ρ ∧ b ∉ rest.map (·.1) := by
  obtain ⟨c, N, nd, len, r⟩ := C
  obtain ⟨n1, n2, n3⟩ := List.nodup_append.mp nd
  have := N (b, o) (List.mem_append_right _ List.mem_cons_self)
  exact ⟨this.1, this.2.1, this.2.2, fun z => n3 b z b List.mem_cons_self rfl, (List.nodup_cons.mp n2).1⟩
theorem Cf.unhide {b : Addr} {o : Obj} (C : Cf Φ g L ((b, o) :: rest) h ρ H) : Cf Φ g L rest h ρ H := by
  obtain ⟨c, N, nd, len, r⟩ := C
  obtain ⟨n1, n2, n3⟩ := List.nodup_append.mp nd
  refine ⟨c, fun p hp => N p ?_, List.nodup_append.mpr ⟨n1, (List.nodup_cons.mp n2).2, fun a ha x hx => n3 a ha x (List.mem_cons_of_mem _ hx)⟩, len, r⟩
  rcases List.mem_append.mp hp with q | q
  · exact List.mem_append_left _ q
  · exact List.mem_append_right _ (List.mem_cons_of_mem _ q)
theorem Cf.off {b : Addr} (C : Cf Φ g L rest h ρ H) (k : Heap.ExtBut b h h') (fr : b ∉ ρ) (fs : b ∉ rest.map (·.1)) : Cf Φ g L rest h' ρ H := by
  obtain ⟨c, N, nd, len, r⟩ := C
  refine ⟨c, fun p hp => ⟨k _ _ (fun z => ?_) (N p hp).1, (N p hp).2⟩, nd, len, r⟩
  rcases List.mem_append.mp hp with q | q
  · obtain ⟨a, ha, rfl⟩ := List.mem_map.mp q; exact fr (z ▸ ha)
  · exact fs (z ▸ List.mem_map.mpr ⟨p, q, rfl⟩)
theorem frOff {b : Addr} (F : Fr g L h m) (k : Heap.ExtBut b h h') (fg : g.get? b = none) (fL : b ≠ L) : Fr g L h' m :=
  ⟨F.ns.at' fun o e => k _ _ (Ne.symm fL) e, fun a o e => k _ _ (fun z => by rw [z, fg] at e; cases e) (F.keep a o e), F.above⟩
theorem frKeeps (F : Fr g L h m) (k : ∀ b o, h.get? b = some o → h'.get? b = some o) : Fr g L h' m :=
  ⟨F.ns.at' fun o e => k _ _ e, fun a o e => k _ _ (F.keep a o e), F.above⟩
theorem Cf.turn {b : Addr} {o o' : Obj} (C : Cf Φ g L ((b, o) :: rest) h ρ H) (F : Fr g L h m) (k : Heap.ExtBut b h h') (e : h'.get? b = some o') : Cf Φ g L ((b, o') :: rest) h' ρ H ∧ Fr g L h' m := by
  obtain ⟨_, h2, h3, h4, h5⟩ := C.hidden
  exact ⟨(C.unhide.off k h4 h5).hide e h3 h2 h4 h5, frOff F k h3 h2⟩
end
end Mine
end
section
open PySem PySem.W PySem.Calls PyProof.Rows
namespace Mine
noncomputable def RepIt (Φ : Ph) (v : Value) : LIt → Prop
  | .int i => ∃ t, v = .int i t
  | .fn k => v = .ref (Φ.fn k)
noncomputable def RepIts (Φ : Ph) : List Value → List LIt → Prop
  | [], [] => True
  | v :: vs, x :: xs => RepIt Φ v x ∧ RepIts Φ vs xs
  | _, _ => False
theorem RepIts.get {Φ : Ph} : ∀ {vs : List Value} {xs : List LIt} {i : Nat} {x : LIt}, RepIts Φ vs xs → xs[i]? = some x → ∃ v, vs[i]? = some v ∧ RepIt Φ v x
  | _ :: _, _ :: _, 0, _, h, e => by cases e; exact ⟨_, rfl, h.1⟩
  | _ :: _, _ :: _, i + 1, _, h, e => by
    obtain ⟨v, e', r⟩ := RepIts.get h.2 (by simpa using e)
    exact ⟨v, by simpa using e', r⟩
  | [], [], _, _, _, e => by cases e
  | [], _ :: _, _, _, h, _ => h.elim
  | _ :: _, [], _, _, h, _ => h.elim
noncomputable def FnOk (K : Frag) (Φ : Ph) (k : Nat) (r : FnR) : Prop :=
  ∃ dd sl name qual params dV kV doc pm an cdv ct, K.lookup (Φ.fn k) = some ⟨.type "function", dd, .func (fnOf name qual params r.body r.scope dV kV doc pm an cdv ct), sl⟩ ∧ codeIn K cdv qual = true ∧
    parsOf params = some r.names ∧ dV = .none ∧ r.names.Nodup ∧ (∀ x ∈ r.names, r.scope.names.lookup x = some .local) ∧ r.scope.isCoroutine = false ∧ r.scope.isGenerator = false ∧ r.scope.kind = .function ∧ ∀ x ∈ r.scope.names, x.2 ≠ .cell
noncomputable def InitOk (K : Frag) (Φ : Ph) (r : FnR) : Prop :=
  ∃ fI dd sl name qual params dV kV doc pm an cdv ct T dT vs nT slT, findIn K (.ref Φ.cls) "__init__" = some (some (.ref fI)) ∧ K.lookup fI = some ⟨.type "function", dd, .func (fnOf name qual params r.body r.scope dV kV doc pm an cdv ct), sl⟩ ∧ codeIn K cdv qual = true ∧
    (∃ as df, params = ⟨[], as, none, [], [], none, df⟩ ∧ as.map (·.arg) = r.names) ∧ dV = .ref T ∧ K.lookup T = some ⟨.type "tuple", dT, .seq vs nT, slT⟩ ∧ r.names.Nodup ∧ (∀ x ∈ r.names, r.scope.names.lookup x = some .local) ∧ r.scope.isCoroutine = false ∧ r.scope.isGenerator = false ∧ r.scope.kind = .function ∧ ∀ x ∈ r.scope.names, x.2 ≠ .cell
structure KOk (K : Frag) (Φ : Ph) (I : Ifc) : Prop where
  glob : ∀ x v, I.glob x = some v → ∃ u, (nsIn K mainGlobals x = some (some u) ∨ (nsIn K mainGlobals x = some none ∧ nsIn K builtinsNs x = some (some u))) ∧ RepV Φ [] u v
  makes : makesIn K Φ.cls = true
  init : InitOk K Φ I.init
  plain : plainGet K Φ.cls "" = true
  hasD : hasDictIn K Φ.cls = true
  setattr : findIn K (.ref Φ.cls) "__setattr__" = some (some (.builtin "object.__setattr__"))
  over : plainOver K Φ.cls = true
  field : ∀ x, I.cls x = some .field → findIn K (.ref Φ.cls) x = some none
  int : ∀ x i, I.cls x = some (.int i) → (∃ t, findIn K (.ref Φ.cls) x = some (some (.int i t))) ∧ copiedNames.contains x = false
  lst : ∀ x k, I.cls x = some (.lst k) → findIn K (.ref Φ.cls) x = some (some (.ref (Φ.lst k))) ∧ copiedNames.contains x = false ∧ ∃ dd dat sl, K.lookup (Φ.lst k) = some ⟨.type "list", dd, dat, sl⟩
  fn : ∀ x k, I.cls x = some (.fn k) → findIn K (.ref Φ.cls) x = some (some (.ref (Φ.fn k))) ∧ copiedNames.contains x = false ∧ ∃ dd fd sl, K.lookup (Φ.fn k) = some ⟨.type "function", dd, .func fd, sl⟩
  lists : ∀ k xs, I.lst k = some xs → ∃ vs dd n sl, K.lookup (Φ.lst k) = some ⟨.type "list", dd, .seq (List.toArray vs) n, sl⟩ ∧ RepIts Φ vs xs
  fns : ∀ k r, I.fns k = some r → FnOk K Φ k r
  iLs : ∀ k xs, I.iLs k = some xs → ∃ its, I.lst k = some its ∧ litInts its = some xs
theorem special_int (K : Frag) (i : Int) (t : Tok) : specialIn K (.int i t) "__get__" = some none := by kernel_rfl
theorem special_list : findIn [] (.type "list") "__get__" = some none := by kernel_rfl
theorem special_fn1 : findIn [] (.type "function") "__get__" = some (some (.builtin "function.__get__")) := by kernel_rfl
theorem special_fn2 : findIn [] (.type "function") "__set__" = some none := by kernel_rfl
theorem special_fn3 : findIn [] (.type "function") "__delete__" = some none := by kernel_rfl
section
variable {K : Frag} {a : Addr} {dd : Option Addr} {dat : Data} {sl : Array (Option Value)}
theorem spec_list (h : K.lookup a = some ⟨.type "list", dd, dat, sl⟩) : specialIn K (.ref a) "__get__" = some none := by
  unfold specialIn; rw [show typeIn K (.ref a) = some (.type "list") by show Option.map _ (List.lookup a K) = _; rw [h]; rfl]; exact special_list
theorem spec_fn (h : K.lookup a = some ⟨.type "function", dd, dat, sl⟩) : specialIn K (.ref a) "__get__" = some (some (.builtin "function.__get__")) ∧ takesIn K (.ref a) = some false ∧ isFn K (.ref a) = true := by
  have t : typeIn K (.ref a) = some (.type "function") := by show Option.map _ (List.lookup a K) = _; rw [h]; rfl
  refine ⟨?_, ?_, ?_⟩
  · unfold specialIn; rw [t]; exact special_fn1
  · unfold takesIn
    rw [show specialIn K (.ref a) "__set__" = some none by unfold specialIn; rw [t]; exact special_fn2]
    dsimp only
    rw [show specialIn K (.ref a) "__delete__" = some none by unfold specialIn; rw [t]; exact special_fn3]; rfl
  · unfold isFn; rw [t]; exact beq_iff_eq.mpr rfl
end
theorem lookup_cons_eq {x : Str} {f : Str × AV} {fs : List (Str × AV)} : (f :: fs).lookup x = if f.1 = x then some f.2 else fs.lookup x := by
  rw [List.lookup_cons]
  by_cases h : f.1 = x
  · subst h; simp
  · have : (x == f.1) = false := beq_eq_false_iff_ne.mpr (Ne.symm h)
    simp [this, h]
theorem getL_cons {x : Str} {e : DictEntry} {es : List DictEntry} {s : Str} {t : Tok} (k : e.key = .str s t) : getL x (e :: es) = if s = x then some (some e.val) else getL x es := by
  unfold getL
  have hr : e.refKey = false := by unfold DictEntry.refKey; rw [k]
  rw [List.find?_cons, k, isStr_str]
  by_cases h : s = x
  · simp [h]
  · simp only [h, decide_false, if_false, List.any_cons, hr, Bool.false_or]
theorem RepFs.getL {Φ : Ph} {ρ : List Addr} {x : Str} : ∀ {es : List DictEntry} {fs : List (Str × AV)}, RepFs Φ ρ es fs → match fs.lookup x with
    | some y => ∃ v, getL x es = some (some v) ∧ RepV Φ ρ v y
    | none => PySem.W.getL x es = some none
  | [], [], _ => rfl
  | e :: es, f :: fs, h => by
    obtain ⟨⟨t, k⟩, hv, hr⟩ := h
    rw [lookup_cons_eq, getL_cons k]
    by_cases q : f.1 = x
    · simp only [q, if_true]; exact ⟨_, rfl, hv⟩
    · simp only [q, if_false]; exact hr.getL
  | [], _ :: _, h => h.elim
  | _ :: _, [], h => h.elim
theorem RepFs.hit {Φ : Ph} {ρ : List Addr} {x : Str} {y : AV} {es : List DictEntry} {fs : List (Str × AV)} (h : RepFs Φ ρ es fs) (e : fs.lookup x = some y) : ∃ v, PySem.W.getL x es = some (some v) ∧ RepV Φ ρ v y := by
  have := h.getL (x := x); rw [e] at this; exact this
theorem RepFs.miss {Φ : Ph} {ρ : List Addr} {x : Str} {es : List DictEntry} {fs : List (Str × AV)} (h : RepFs Φ ρ es fs) (e : fs.lookup x = none) : PySem.W.getL x es = some none := by
  have := h.getL (x := x); rw [e] at this; exact this
theorem RepFs.isSome {Φ : Ph} {ρ : List Addr} {x : Str} {es : List DictEntry} {fs : List (Str × AV)} (h : RepFs Φ ρ es fs) : (PySem.W.getL x es).isSome = true := by
  cases e : fs.lookup x with
  | none => rw [h.miss e]; rfl
  | some y => obtain ⟨v, q, _⟩ := h.hit e; rw [q]; rfl
theorem RepFs.put {Φ : Ph} {ρ : List Addr} {x : Str} {hsh : Int} {t : Tok} {v : Value} {y : AV} (hv : RepV Φ ρ v y) : ∀ {es : List DictEntry} {fs : List (Str × AV)}, RepFs Φ ρ es fs → RepFs Φ ρ (putL x hsh (.str x t) v es) (setF x y fs)
  | [], [], _ => ⟨⟨t, rfl⟩, hv, trivial⟩
  | e :: es, f :: fs, h => by
    obtain ⟨⟨t', k⟩, hw, hr⟩ := h
    unfold putL setF
    rw [k, isStr_str]
    by_cases q : f.1 = x
    · simp only [q, decide_true, if_true]; exact ⟨⟨t', by simp⟩, hv, hr⟩
    · simp only [q, decide_false, if_false, Bool.false_eq_true]; exact ⟨⟨t', k⟩, hw, hr.put hv⟩
  | [], _ :: _, h => h.elim
  | _ :: _, [], h => h.elim
theorem RepFs.length {Φ : Ph} {ρ : List Addr} : ∀ {es : List DictEntry} {fs : List (Str × AV)}, RepFs Φ ρ es fs → es.length = fs.length
  | [], [], _ => rfl
  | _ :: _, _ :: _, h => congrArg (· + 1) h.2.2.length
  | [], _ :: _, h => h.elim
  | _ :: _, [], h => h.elim
theorem upd_of {d : Addr} {o o' : Obj} {c : Addr → Obj} (hd : c d = o) : ∀ {ρ : List Addr} {rest : List (Addr × Obj)}, (ρ ++ rest.map (·.1)).Nodup → d ∈ ρ →
    Upd d o o' (ledger ρ c ++ rest) (ledger ρ (fun b => if b = d then o' else c b) ++ rest)
  | [], _, _, h => by cases h
  | a :: ρ, rest, nd, h => by
    have nd' := List.nodup_cons.mp nd
    by_cases q : a = d
    · subst q
      have e : ledger ρ (fun b => if b = a then o' else c b) = ledger ρ c := by
        refine List.map_congr_left fun b hb => ?_
        have : b ≠ a := fun e => nd'.1 (List.mem_append_left _ (e ▸ hb))
        simp [this]
      show Upd a o o' ((a, c a) :: (ledger ρ c ++ rest)) ((a, if a = a then o' else c a) :: (ledger ρ (fun b => if b = a then o' else c b) ++ rest))
      rw [e, hd, if_pos rfl]
      refine .head fun p hp => ?_
      rintro rfl
      rcases List.mem_append.mp hp with z | z
      · obtain ⟨b, hb, e⟩ := List.mem_map.mp z
        exact nd'.1 (List.mem_append_left _ (by rw [← e]; exact hb))
      · exact nd'.1 (List.mem_append_right _ (List.mem_map.mpr ⟨p, z, rfl⟩))
    · show Upd d o o' ((a, c a) :: (ledger ρ c ++ rest)) ((a, if a = d then o' else c a) :: (ledger ρ (fun b => if b = d then o' else c b) ++ rest))
      rw [if_neg q]
      refine .tail q (upd_of hd nd'.2 ?_)
      rcases List.mem_cons.mp h with z | z
      · exact absurd z.symm q
      · exact z
section
variable {prog : Program} {w : World} {A : Around} {E : Value → Shared → Prop} {s : Shared} {K : Frag} {Φ : Ph} {I : Ifc} {g : Heap} {L : Addr} {rest : List (Addr × Obj)} {ρ : List Addr} {H : HP} {m : Str → Option Value}
theorem fld_at (C : Cf Φ g L rest s.heap ρ H) {v : Value} {x : AV} {d : Nat} {fs : List (Str × AV)} (r : RepV Φ ρ v x) (e : fld H x = some (d, fs)) :
    ∃ a da es n, v = .ref a ∧ ρ[d]? = some da ∧ H[d]? = some (.ns fs) ∧ s.heap.get? da = some (dictOf es n) ∧ RepFs Φ ρ es fs ∧ InstAt s.heap a (instObj Φ.cls da) Φ.cls (some (dictOf es n)) := by
  unfold fld at e
  split at e
  · rename_i i
    split at e
    · rename_i d' hi
      split at e
      · rename_i fs' hd
        cases e
        obtain ⟨a, ha, rfl⟩ := r
        obtain ⟨a', o, ha', ho, da, hda, rfl⟩ := C.get hi
        rw [ha] at ha'; cases ha'
        obtain ⟨da', od, hda', hod, es, n, rfl, hf⟩ := C.get hd
        rw [hda] at hda'; cases hda'
        exact ⟨a, da, es, n, rfl, hda, hd, hod, hf, ⟨ho, rfl, rfl, hod⟩⟩
      · cases e
    · cases e
  · cases e
noncomputable abbrev After (Φ : Ph) (g : Heap) (L : Addr) (rest : List (Addr × Obj)) (ρ : List Addr) (m : Str → Option Value) (s : Shared) (Q : Value → Shared → Prop) (r : AV × HP) : Prop :=
  ∀ ρ' v h' tk, ρ <+: ρ' → Fr g L h' m → Cf Φ g L rest h' ρ' r.2 → RepV Φ ρ' v r.1 → Q v { s with heap := h', toks := tk }
theorem getA_ok (O : KOk K Φ I) {attr : Str} {expr : Bool} {v : Value} {x : AV} {Q : Value → Shared → Prop} (X : K.In g) (F : Fr g L s.heap m) (C : Cf Φ g L rest s.heap ρ H) (r : RepV Φ ρ v x)
    (h : (getA I attr x H).All (After Φ g L rest ρ m s Q)) : wpAny (model prog w) A (getAttr v attr expr) Q E s := by
  unfold getA at h
  split at h
  · rename_i d fs e
    obtain ⟨a, da, es, n, rfl, hda, hd, hod, hf, I'⟩ := fld_at C r e
    split at h
    · exact h.elim
    · rename_i y hnb hc hy
      obtain ⟨u, hu, ru⟩ := hf.hit hy
      refine get_own F X I' O.plain O.hasD (O.field _ hc) rfl hu ?_ (h ρ u s.heap _ (List.prefix_refl _) F C ru)
      cases y <;> first | (obtain ⟨_, rfl⟩ := ru; rfl) | (obtain ⟨_, _, rfl⟩ := ru; rfl) | (obtain rfl : u = _ := ru; first | rfl | exact (hnb _ rfl).elim)
    · rename_i i hc hy
      obtain ⟨⟨t, ha⟩, hcp⟩ := O.int _ _ hc
      exact get_cls F X I' O.plain O.hasD ha (special_int K i t) rfl hcp (hf.miss hy) (h ρ _ s.heap _ (List.prefix_refl _) F C ⟨t, rfl⟩)
    · rename_i k hc hy
      obtain ⟨ha, hcp, dd, dat, sl, hb⟩ := O.lst _ _ hc
      exact get_cls F X I' O.plain O.hasD ha (spec_list hb) rfl hcp (hf.miss hy) (h ρ _ s.heap _ (List.prefix_refl _) F C rfl)
    · rename_i k hc hy
      obtain ⟨ha, hcp, dd, dat, sl, hb⟩ := O.fn _ _ hc
      obtain ⟨z1, z2, z3⟩ := spec_fn hb
      have hX := X.keeps F.keep
      refine get_bind hX I' (plainGet_of (name := attr) O.plain).1 (findObj_fn O.hasD ha z1 z2 hcp (by show lookIn attr (dictOf es n) = _; rw [lookIn_dict, hf.miss hy])) (plainGet_of (name := attr) O.plain).2
        (wpAny_call (fn_get (s := { s with toks := s.toks + 1 }) hX (beq_iff_eq.mp z3) (handed_on rfl ?_)))
      obtain ⟨C', F'⟩ := C.push F (o := methodObj (.ref (Φ.fn k)) (.ref a)) (ao := .meth k x) ⟨_, rfl, r⟩
      obtain ⟨_, _, _, hl, _⟩ := id C
      exact h (ρ ++ [s.heap.objs.size]) _ _ _ (List.prefix_append _ _) F' C' ⟨s.heap.objs.size, by rw [← hl, List.getElem?_append_right (Nat.le_refl _)]; simp, rfl⟩
    · exact h.elim
  · exact h.elim
theorem getM_ok (O : KOk K Φ I) {attr : Str} {pl : Sem Bool} {v : Value} {x : AV} {Q : Value × List Value → Shared → Prop} (X : K.In g) (F : Fr g L s.heap m) (C : Cf Φ g L rest s.heap ρ H) (r : RepV Φ ρ v x)
    (h : (getM I attr x H).All (fun q => q.2 = H → (∃ dd fd sl, K.lookup (Φ.fn q.1) = some ⟨.type "function", dd, .func fd, sl⟩) → Q (.ref (Φ.fn q.1), [v]) s)) : wpAny (model prog w) A (getMethod v attr pl) Q E s := by
  unfold getM at h
  split at h
  · rename_i d fs e
    obtain ⟨a, da, es, n, rfl, hda, hd, hod, hf, I'⟩ := fld_at C r e
    split at h
    · rename_i k hc hy
      obtain ⟨ha, hcp, hb⟩ := O.fn _ _ hc
      obtain ⟨dd, fd, sl, hb'⟩ := hb
      exact method_inst F X I' O.plain ha (spec_fn hb').2.2 (hf.miss hy) (h rfl ⟨dd, fd, sl, hb'⟩)
    · exact h.elim
  · exact h.elim
theorem setA_ok (O : KOk K Φ I) {attr : Str} {o v : Value} {ox x : AV} {Q : Unit → Shared → Prop} (X : K.In g) (F : Fr g L s.heap m) (C : Cf Φ g L rest s.heap ρ H) (r : RepV Φ ρ o ox) (rv : RepV Φ ρ v x)
    (h : (setA I attr ox x H).All (fun H' => ∀ h' tk, Fr g L h' m → Cf Φ g L rest h' ρ H' → Q () { s with heap := h', toks := tk })) : wpAny (model prog w) A (setAttr o attr v) Q E s := by
  unfold setA at h
  split at h
  · rename_i d fs e
    obtain ⟨a, da, es, n, rfl, hda, hd, hod, hf, I'⟩ := fld_at C r e
    split at h
    · rename_i hc
      have ht : takerIn K Φ.cls attr = some none := by unfold takerIn; rw [O.field _ hc]; rfl
      obtain ⟨hz, h⟩ := T.all_need h
      obtain ⟨c, N, nd, len, rp⟩ := id C
      have hc : c da = dictOf es n := by
        have := (N _ (List.mem_append_left _ (mem_ledger hda))).1
        rw [hod] at this; exact (Option.some.inj this).symm
      have rp' := hf.put (x := attr) (hsh := PyData.keyHash w.params attr) (t := s.toks + 1) rv
      refine set_dict F X N I' rfl O.setattr O.over ht O.hasD hf.isSome (es' := putL attr (PyData.keyHash w.params attr) (.str attr (s.toks + 1)) v es) (n' := putN attr es n) rfl
        (upd_of hc nd (List.mem_of_getElem? hda)) ?_ fun h' F' N' => h h' _ F' ⟨_, N', nd, by rw [List.length_set]; exact len, fun j b bo ej eo => ?_⟩
      · rw [rp'.length]; exact of_decide_eq_true hz
      · by_cases hij : d = j
        · subst hij
          have hi : d < H.length := by rw [← len]; exact (List.getElem?_eq_some_iff.mp hda).1
          rw [List.getElem?_set_self hi] at eo
          cases eo
          rw [hda] at ej; cases ej
          simp only [if_true]; exact ⟨_, _, rfl, rp'⟩
        · rw [List.getElem?_set_ne hij] at eo
          have hba : b ≠ da := nodup_ne (List.nodup_append.mp nd).1 ej hda (Ne.symm hij)
          simp only [hba, if_false]; exact rp j b bo ej eo
    · exact h.elim
  · exact h.elim
end
end Mine
end
section
open PySem PySem.W PySem.Calls PyProof.Rows PySem.SeqAt
namespace Mine
theorem ints_get : ∀ {vs : List Value} {xs : List Int} {i : Nat}, IntsAre vs xs → i < xs.length → ∃ t, vs[i]? = some (.int (xs.getD i 0) t)
  | _, _, 0, .cons n t _, _ => ⟨t, rfl⟩
  | _, _, i + 1, .cons _ _ r, h => by
    obtain ⟨t, e⟩ := ints_get r (Nat.lt_of_succ_lt_succ h)
    exact ⟨t, by simpa using e⟩
theorem ints_set {x : Int} {t : Tok} : ∀ {vs : List Value} {xs : List Int} {i : Nat}, IntsAre vs xs → IntsAre (vs.set i (.int x t)) (xs.set i x)
  | _, _, _, .nil => .nil
  | _, _, 0, .cons _ _ r => .cons _ _ r
  | _, _, _ + 1, .cons _ _ r => .cons _ _ (ints_set r)
section
variable {prog : Program} {w : World} {A : Around} {E : Value → Shared → Prop} {s : Shared} {K : Frag} {Φ : Ph} {I : Ifc} {g : Heap} {L : Addr} {rest : List (Addr × Obj)} {ρ : List Addr} {H : HP} {m : Str → Option Value}
theorem subs_of {slice : Expr} {o i : Value} (h : noSlice slice = true) : subscripted slice false o i = operate [o, i] (getItem o i) := by
  cases slice <;> first | rfl | cases h
theorem itemI_ok (O : KOk K Φ I) {value slice : Expr} {o i : Value} {x y : AV} {Q : Value → Shared → Prop} (hn : noSlice slice = true) (X : K.In g) (F : Fr g L s.heap m) (C : Cf Φ g L rest s.heap ρ H) (r : RepV Φ ρ o x) (q : RepV Φ ρ i y)
    (h : (itemI I x y H).All (After Φ g L rest ρ m s Q)) : wpAny (model prog w) A (subscriptTail value slice o i) Q E s := by
  unfold itemI at h
  split at h
  · rename_i a k
    obtain ⟨ad, ha, rfl⟩ := r
    obtain ⟨t, rfl⟩ := q
    split at h
    · rename_i xs hx
      obtain ⟨c, h⟩ := T.all_need h
      simp only [Bool.and_eq_true, decide_eq_true_eq] at c
      obtain ⟨ad', ob, ha', ho, vs, n, rfl, hi⟩ := C.get hx
      rw [ha] at ha'; cases ha'
      obtain ⟨t', e⟩ := ints_get hi c.2
      have hl : s.heap.IsList ad vs := ⟨_, ho, rfl, n, rfl⟩
      exact tail_any hl.typeIs slot_list_getitem.lookup (wpAny_getItem_list hl c.1.1 c.1.2 (by rw [← Array.getElem?_toList]; exact e) (h ρ _ s.heap s.toks (List.prefix_refl _) F C ⟨t', rfl⟩)) (subs_of hn)
    · exact h.elim
  · rename_i a k
    obtain rfl : o = _ := r
    obtain ⟨t, rfl⟩ := q
    split at h
    · rename_i xs hx
      obtain ⟨vs, dd, n, sl, hl', rp⟩ := O.lists _ _ hx
      split at h
      · rename_i z e
        obtain ⟨u, e', t', rfl⟩ := rp.get e
        obtain ⟨c, h⟩ := T.all_need h
        simp only [Bool.and_eq_true, decide_eq_true_eq] at c
        exact topList_K F X hl' c.1 c.2 e' (h ρ _ s.heap s.toks (List.prefix_refl _) F C ⟨t', rfl⟩) (subs_of hn)
      · rename_i f e
        obtain ⟨u, e', rfl⟩ := rp.get e
        obtain ⟨c, h⟩ := T.all_need h
        simp only [Bool.and_eq_true, decide_eq_true_eq] at c
        exact topList_K F X hl' c.1 c.2 e' (h ρ _ s.heap s.toks (List.prefix_refl _) F C rfl) (subs_of hn)
      · exact h.elim
    · exact h.elim
  · exact h.elim
theorem setI_ok {o i v : Value} {x y z : AV} {Q : Unit → Shared → Prop} (F : Fr g L s.heap m) (C : Cf Φ g L rest s.heap ρ H) (r : RepV Φ ρ o x) (q : RepV Φ ρ i y) (rv : RepV Φ ρ v z)
    (h : (setI x y z H).All (fun H' => ∀ h' tk, Fr g L h' m → Cf Φ g L rest h' ρ H' → Q () { s with heap := h', toks := tk })) : wpAny (model prog w) A (setItem o i v) Q E s := by
  unfold setI at h
  split at h
  · rename_i a k u
    obtain ⟨ad, ha, rfl⟩ := r
    obtain ⟨t, rfl⟩ := q
    obtain ⟨tu, rfl⟩ := rv
    split at h
    · rename_i xs hx
      obtain ⟨c, h⟩ := T.all_need h
      simp only [Bool.and_eq_true, decide_eq_true_eq] at c
      obtain ⟨ad', ob, ha', ho, vs, n, rfl, hi⟩ := C.get hx
      rw [ha] at ha'; cases ha'
      have hlen : vs.size = xs.length := by rw [← Array.length_toList]; exact hi.length
      refine ki_setAt ho c.1.1 c.1.2 (by omega) ?_
      have hu := PySem.IsL.update ho (fun a => a.setIfInBounds k.toNat (.int u tu))
      obtain ⟨C', F'⟩ := C.upd F ha (Heap.SameBut.update s.heap ad (Obj.mapSeq fun a => a.setIfInBounds k.toNat (.int u tu))) hu (ao := .nums (xs.set k.toNat u)) ⟨_, _, rfl, by rw [Array.toList_setIfInBounds]; exact ints_set hi⟩
      exact h _ s.toks F' C'
    · exact h.elim
  · exact h.elim
theorem small_bits {x : Int} (h : x.natAbs < 1073741824) : Builtin.Int.intBits x ≤ 64 := by
  unfold Builtin.Int.intBits
  split
  · lia
  · rename_i h0
    have hx : x.natAbs ≠ 0 := fun e => h0 (by rw [Int.natAbs_eq_zero.mp e]; rfl)
    have := (Nat.log2_lt hx).mpr (show x.natAbs < 2 ^ 30 by lia)
    lia
theorem binI_ok {op : Operator} {a b : Value} {x y : AV} {Q : Value → Shared → Prop} (F : Fr g L s.heap m) (C : Cf Φ g L rest s.heap ρ H) (r : RepV Φ ρ a x) (q : RepV Φ ρ b y)
    (h : (binI op x y H).All (After Φ g L rest ρ m s Q)) : wpAny (model prog w) A (binaryOp op a b) Q E s ∧ ((∃ i, x = .int i) → wpAny (model prog w) A (inplaceOp op a b) Q E s) := by
  unfold binI at h
  split at h
  · rename_i x y
    obtain ⟨t, rfl⟩ := r
    obtain ⟨u, rfl⟩ := q
    split at h
    · have h := h ρ _ s.heap (s.toks + 1) (List.prefix_refl _) F C ⟨s.toks, rfl⟩
      exact ⟨P.add_int h, fun _ => P.iadd_int h⟩
    · have h := h ρ _ s.heap (s.toks + 1) (List.prefix_refl _) F C ⟨s.toks, rfl⟩
      exact ⟨P.sub_int h, fun _ => P.isub_int h⟩
    · have h := h ρ _ s.heap (s.toks + 1) (List.prefix_refl _) F C ⟨s.toks, rfl⟩
      exact ⟨and_int h, fun _ => iand_int h⟩
    · have h := h ρ _ s.heap (s.toks + 1) (List.prefix_refl _) F C ⟨s.toks, rfl⟩
      exact ⟨or_int h, fun _ => ior_int h⟩
    · have h := h ρ _ s.heap (s.toks + 1) (List.prefix_refl _) F C ⟨s.toks, rfl⟩
      exact ⟨xor_int h, fun _ => ixor_int h⟩
    · obtain ⟨c, h⟩ := T.all_need h
      simp only [Bool.and_eq_true, decide_eq_true_eq] at c
      have h := h ρ _ s.heap (s.toks + 1) (List.prefix_refl _) F C ⟨s.toks, rfl⟩
      exact ⟨lshift_int_small c.1.1 c.1.2 c.2 h, fun _ => ilshift_int_small c.1.1 c.1.2 c.2 h⟩
    · obtain ⟨c, h⟩ := T.all_need h
      have c := of_decide_eq_true c
      have h := h ρ _ s.heap (s.toks + 1) (List.prefix_refl _) F C ⟨s.toks, rfl⟩
      exact ⟨rshift_int c h, fun _ => irshift_int c h⟩
    · obtain ⟨c, h⟩ := T.all_need h
      simp only [Bool.or_eq_true, decide_eq_true_eq] at c
      have hm : IntMulOk _ _ := c.elim (fun c => IntMulOk.of_left (small_bits c)) fun c => IntMulOk.of_right (small_bits c)
      have h := h ρ _ s.heap (s.toks + 1) (List.prefix_refl _) F C ⟨s.toks, rfl⟩
      exact ⟨PyProof.Rows.mul_int h hm, fun _ => PyProof.Rows.imul_int h hm⟩
    · obtain ⟨c, h⟩ := T.all_need h
      simp only [Bool.and_eq_true, decide_eq_true_eq, bne_iff_ne] at c
      have h := h ρ _ s.heap (s.toks + 1) (List.prefix_refl _) F C ⟨s.toks, rfl⟩
      have c1 : ¬ (y == 0) = true := by simpa using c.1
      have c2 := PyProof.noPylong_small (x := x) c.2
      exact ⟨AutoIntOps.floordiv_1 c1 (by rw [c2]; exact Bool.false_ne_true) h, fun _ => AutoIntOps.ifloordiv_1 c1 (by rw [c2]; exact Bool.false_ne_true) h⟩
    · obtain ⟨c, h⟩ := T.all_need h
      simp only [bne_iff_ne] at c
      have h := h ρ _ s.heap (s.toks + 1) (List.prefix_refl _) F C ⟨s.toks, rfl⟩
      exact ⟨PyProof.Rows.mod_int c h, fun _ => PyProof.Rows.imod_int c h⟩
    · exact h.elim
  · rename_i a k
    obtain ⟨ad, ha, rfl⟩ := r
    obtain ⟨t, rfl⟩ := q
    split at h
    · rename_i xs hx
      obtain ⟨c, h⟩ := T.all_need h
      simp only [Bool.and_eq_true, decide_eq_true_eq] at c
      obtain ⟨ad', ob, ha', ho, vs, n, rfl, hi⟩ := C.get hx
      rw [ha] at ha'; cases ha'
      refine ⟨?_, fun ⟨i, e⟩ => by cases e⟩
      obtain ⟨c', N, nd, len, rp⟩ := id C
      have hl : s.heap.IsList ad vs.toList.toArray := ⟨_, ho, rfl, n, by simp [PySem.W.listOf]⟩
      refine KM.mul F N hl hi (by lia) c.1.2 (by rw [hi.length]; exact c.2) fun D h' F' N' hD hI _ _ _ _ _ => ?_
      exact h (ρ ++ [D]) _ h' s.toks (List.prefix_append _ _) F' (Cf.add N' nd len rp hD ⟨_, _, rfl, hI⟩) ⟨D, by rw [← len, List.getElem?_append_right (Nat.le_refl _)]; simp, rfl⟩
    · exact h.elim
  · exact h.elim
theorem ints_of_rep {vs : List Value} : ∀ {xs : List AV} {is : List Int}, RepVs Φ ρ vs xs → isInts xs = some is → IntsAre vs is := by
  induction vs with
  | nil => intro xs is h e; cases xs with
    | nil => cases e; exact .nil
    | cons _ _ => exact h.elim
  | cons v vs ih =>
    intro xs is h e
    cases xs with
    | nil => exact h.elim
    | cons x xs =>
      cases x <;> first | (simp only [isInts] at e; cases e; done) | skip
      simp only [isInts] at e
      obtain ⟨js, e1, rfl⟩ := Option.map_eq_some_iff.mp e
      obtain ⟨⟨t, rfl⟩, h2⟩ := h
      exact .cons _ _ (ih h2 e1)
theorem reads_tup {h : Heap} {a : Addr} {vs : Array Value} {n : Nat} {ns : List Int} (e : h.get? a = some { cls := .type "tuple", data := .seq vs n }) (hi : IntsAre vs.toList ns) : Reads h (.ref a) (.tuple (ns.map PyData.int)) [] :=
  .tuple e rfl rfl (readsAll_of_ints hi)
theorem seq_reads (C : Cf Φ g L rest s.heap ρ H) {i : Nat} {t : Bool} {xs : List Int} (e : seqInts H i = some (t, xs)) {v : Value} (r : RepV Φ ρ v (.obj i)) :
    ∃ as, Reads s.heap v (if t then .tuple (xs.map PyData.int) else .list (xs.map PyData.int)) as := by
  obtain ⟨ad, ha, rfl⟩ := r
  unfold seqInts at e
  split at e
  · rename_i ys hx
    cases e
    obtain ⟨ad', ob, ha', ho, vs, n, rfl, hi⟩ := C.get hx
    rw [ha] at ha'; cases ha'
    exact ⟨_, reads_of_ints (vs := vs.toList) ⟨_, ho, rfl, n, by simp⟩ hi⟩
  · rename_i ys hx
    obtain ⟨js, e1, e2⟩ := Option.map_eq_some_iff.mp e
    cases e2
    obtain ⟨ad', ob, ha', ho, vs, n, rfl, hr⟩ := C.get hx
    rw [ha] at ha'; cases ha'
    exact ⟨_, reads_tup ho (ints_of_rep hr e1)⟩
  · cases e
theorem shaped_tup (ns : List Int) : shaped (.tuple (ns.map PyData.int)) = true := shaped_ints ns
theorem same_seq (t : Bool) (xs ys : List Int) : PySem.Spec.same (if t then .tuple (xs.map PyData.int) else .list (xs.map PyData.int)) (if t then .tuple (ys.map PyData.int) else .list (ys.map PyData.int)) = decide (xs = ys) := by
  cases t <;> simp only [Bool.false_eq_true, if_false, if_true, PySem.Spec.same] <;> exact same_ints xs ys
theorem cmp_seq {op : CmpOp} {a b : Value} {i j : Nat} {t : Bool} {xs ys : List Int} {Q : Value → Shared → Prop} (hop : op = .Eq ∨ op = .NotEq) (C : Cf Φ g L rest s.heap ρ H) (hu : A.units + 64 < cLine) (r : RepV Φ ρ a (.obj i)) (q : RepV Φ ρ b (.obj j))
    (e1 : seqInts H i = some (t, xs)) (e2 : seqInts H j = some (t, ys)) (h : Q (.bool (if op = .Eq then decide (xs = ys) else !decide (xs = ys))) s) : wpAny (model prog w) A (compareOp op a b) Q E s := by
  obtain ⟨as, R1⟩ := seq_reads C e1 r
  obtain ⟨bs, R2⟩ := seq_reads C e2 q
  have hs : ∀ zs : List Int, shaped (if t then .tuple (zs.map PyData.int) else .list (zs.map PyData.int)) = true := fun zs => by cases t; exact shaped_ints zs; exact shaped_tup zs
  have hm : noMix (if t then .tuple (xs.map PyData.int) else .list (xs.map PyData.int)) (if t then .tuple (ys.map PyData.int) else .list (ys.map PyData.int)) = true := by cases t <;> (simp only [Bool.false_eq_true, if_false, if_true, noMix]; exact noMix_ints xs ys)
  rcases hop with rfl | rfl
  · exact eq_dataH_same R1 R2 (hs _) (hs _) hu hm (by rw [same_seq]; simpa using h)
  · exact ne_dataH_same R1 R2 (hs _) (hs _) hu hm (by rw [same_seq]; simpa using h)
theorem cmpI_ok {op : CmpOp} {a b : Value} {x y : AV} {Q : Value → Shared → Prop} (C : Cf Φ g L rest s.heap ρ H) (hu : A.units + 64 < cLine) (r : RepV Φ ρ a x) (q : RepV Φ ρ b y)
    (h : (cmpI op x y H).All (fun c => Q (.bool c) s)) : wpAny (model prog w) A (compareOp op a b) Q E s := by
  cases op with
  | Eq =>
    cases x with
    | int x =>
      cases y with
      | int y => obtain ⟨t, rfl⟩ := r; obtain ⟨u, rfl⟩ := q; exact P.eq_int h
      | _ => exact False.elim h
    | obj i =>
      cases y with
      | obj j =>
        unfold cmpI at h
        dsimp only at h
        split at h
        · rename_i t xs u ys e1 e2
          obtain ⟨c, h2⟩ := T.all_need h
          obtain rfl := beq_iff_eq.mp c
          exact cmp_seq (.inl rfl) C hu r q e1 e2 (by rw [if_pos rfl]; exact h2)
        · exact h.elim
      | _ => exact False.elim h
    | _ => exact False.elim h
  | NotEq =>
    cases x with
    | int x =>
      cases y with
      | int y => obtain ⟨t, rfl⟩ := r; obtain ⟨u, rfl⟩ := q; exact P.ne_int h
      | _ => exact False.elim h
    | obj i =>
      cases y with
      | obj j =>
        unfold cmpI at h
        dsimp only at h
        split at h
        · rename_i t xs u ys e1 e2
          obtain ⟨c, h2⟩ := T.all_need h
          obtain rfl := beq_iff_eq.mp c
          exact cmp_seq (.inr rfl) C hu r q e1 e2 (by rw [if_neg (by decide)]; exact h2)
        · exact h.elim
      | _ => exact False.elim h
    | _ => exact False.elim h
  | Lt =>
    cases x with
    | int x =>
      cases y with
      | int y => obtain ⟨t, rfl⟩ := r; obtain ⟨u, rfl⟩ := q; exact P.lt_int h
      | _ => exact False.elim h
    | _ => exact False.elim h
  | LtE =>
    cases x with
    | int x =>
      cases y with
      | int y => obtain ⟨t, rfl⟩ := r; obtain ⟨u, rfl⟩ := q; exact P.le_int h
      | _ => exact False.elim h
    | _ => exact False.elim h
  | Gt =>
    cases x with
    | int x =>
      cases y with
      | int y => obtain ⟨t, rfl⟩ := r; obtain ⟨u, rfl⟩ := q; exact P.gt_int h
      | _ => exact False.elim h
    | _ => exact False.elim h
  | GtE =>
    cases x with
    | int x =>
      cases y with
      | int y => obtain ⟨t, rfl⟩ := r; obtain ⟨u, rfl⟩ := q; exact P.ge_int h
      | _ => exact False.elim h
    | _ => exact False.elim h
  | Is =>
    cases x with
    | none =>
      cases y with
      | none => obtain rfl : a = _ := r; obtain rfl : b = _ := q; exact is_none_none h
      | _ => exact False.elim h
    | obj i =>
      cases y with
      | none => obtain ⟨_, _, rfl⟩ := r; obtain rfl : b = _ := q; exact is_none_ne (fun e => by cases e) h
      | _ => exact False.elim h
    | int i =>
      cases y with
      | none => obtain ⟨_, rfl⟩ := r; obtain rfl : b = _ := q; exact is_none_ne (fun e => by cases e) h
      | _ => exact False.elim h
    | _ => exact False.elim h
  | _ => exact False.elim h
theorem truI_ok {a : Value} {x : AV} {Q : Bool → Shared → Prop} (r : RepV Φ ρ a x) (h : (truI x).All (fun c => Q c s)) : wpAny (model prog w) A (truthy a) Q E s := by
  unfold truI at h
  split at h
  · obtain ⟨t, rfl⟩ := r; exact P.truthy_int h
  · obtain rfl : a = _ := r; exact wpAny_truthy_bool h
  · obtain rfl : a = _ := r; exact truthy_none h
  · exact h.elim
end
end Mine
end
section
open PySem PySem.W PySem.Calls PyProof.Rows
namespace Mine
theorem fm_congr {α β : Type} {f g : α → Option β} : ∀ {l : List α}, (∀ x ∈ l, f x = g x) → l.filterMap f = l.filterMap g
  | [], _ => rfl
  | a :: l, h => by
    rw [List.filterMap_cons, List.filterMap_cons, h a List.mem_cons_self, fm_congr fun x hx => h x (List.mem_cons_of_mem _ hx)]
theorem zip_lookup_some {α : Type} : ∀ {ps : List Str} {vs : List α}, ps.length = vs.length → ∀ p ∈ ps, ((ps.zip vs).lookup p).isSome = true
  | p :: ps, v :: vs, h, q, hq => by
    rw [List.zip_cons_cons, List.lookup_cons]
    by_cases e : q = p
    · subst e; simp
    · have : (q == p) = false := beq_eq_false_iff_ne.mpr e
      rw [this]
      rcases List.mem_cons.mp hq with r | r
      · exact absurd r e
      · exact zip_lookup_some (Nat.succ.inj h) q r
  | [], _, _, _, hq => by cases hq
theorem zip_filterMap {α : Type} : ∀ {ps : List Str} {vs : List α}, ps.Nodup → ps.length = vs.length → (ps.filterMap fun n => ((ps.zip vs).lookup n).map (n, ·)) = ps.zip vs
  | [], [], _, _ => rfl
  | p :: ps, v :: vs, nd, h => by
    obtain ⟨n1, n2⟩ := List.nodup_cons.mp nd
    rw [List.zip_cons_cons, List.filterMap_cons, List.lookup_cons]
    simp only [beq_self_eq_true, Option.map_some]
    congr 1
    refine Eq.trans (fm_congr fun q hq => ?_) (zip_filterMap n2 (Nat.succ.inj h))
    have : (q == p) = false := beq_eq_false_iff_ne.mpr (fun e => n1 (e ▸ hq))
    rw [List.lookup_cons, this]
  | [], _ :: _, _, h => by cases h
  | _ :: _, [], _, h => by cases h
theorem bind_plain {fd : FuncData} {ps : List Str} {vs : List Value} (hp : parsOf fd.params = some ps) (hd : fd.defaults = .none) (hl : ps.length = vs.length) (nd : ps.Nodup) : bindArgs fd ⟨vs, []⟩ = pure (ps.zip vs) := by
  obtain ⟨nm, qn, ⟨po, as, va, ko, kd, kw, df⟩, body, sc, gl, clo, dflt, kwd, r1, r2, r3, r4, r5, r6⟩ := fd
  unfold parsOf at hp
  dsimp only at hp hd
  subst hd
  split at hp
  · rename_i as' e
    cases e
    cases hp
    have e1 : ((as.map (·.arg)).take (as.map (·.arg)).length).filter (fun n => ((List.zip (as.map (·.arg)) vs).lookup n).isNone) = [] := by
      rw [List.take_length]
      refine List.filter_eq_nil_iff.mpr fun p hp => ?_
      have := zip_lookup_some hl p hp
      rw [Option.isNone_iff_eq_none]
      intro q; rw [q] at this; cases this
    have e2 : ¬ (vs.length > (as.map (·.arg)).length) := by rw [hl]; exact Nat.lt_irrefl _
    have e3 := zip_filterMap nd hl
    unfold bindArgs
    simp only [List.map_nil, List.nil_append, List.append_nil, List.forIn_nil, pure_bind, seqItems?, notAStandIn, Option.getD_none, List.length_nil, Nat.sub_zero, List.drop_nil, List.zip_nil_right, Nat.zero_sub, Option.isNone_none, Bool.and_true, decide_eq_true_eq, if_neg e2, e1, List.isEmpty_nil, Bool.not_true, Bool.false_eq_true, if_false, e3]
    first | rfl | skip
  · cases hp
theorem fill_none {slots : List (Str × Value)} : ∀ {zs : List (Str × Value)}, (∀ z ∈ zs, (slots.lookup z.1).isNone = false) →
    (forIn zs slots fun (z : Str × Value) (r : List (Str × Value)) => if (r.lookup z.1).isNone = true then (pure (.yield (r ++ [(z.1, z.2)])) : Sem _) else pure (.yield r)) = pure slots
  | [], _ => rfl
  | z :: zs, h => by
    rw [List.forIn_cons, h z List.mem_cons_self]
    simp only [Bool.false_eq_true, if_false, pure_bind]
    exact fill_none fun y hy => h y (List.mem_cons_of_mem _ hy)
theorem bind_kw2 {s : Shared} {fd : FuncData} {a1 n1 n2 : Str} {as : List Arg} {df : List Expr} {x v1 v2 : Value} {T : Addr} {o : Obj} {items : Array Value} {n : Nat} (hp : fd.params = ⟨[], as, none, [], [], none, df⟩) (ha : as.map (·.arg) = [a1, n1, n2])
    (hd : fd.defaults = .ref T) (ho : s.heap.get? T = some o) (hs : o.data = .seq items n) (d1 : (n1 == a1) = false) (d2 : (n2 == a1) = false) (d3 : (n2 == n1) = false) : BindsTo s fd ⟨[x], [(n1, v1), (n2, v2)]⟩ [(a1, x), (n1, v1), (n2, v2)] := by
  refine BindsTo.of_defaults (k := ?k) hd ho hs ?h1 ?h2
  case h1 =>
    unfold bindArgs
    simp only [hp, ha, List.map_nil, List.nil_append, List.append_nil, List.zip_cons_cons, List.zip_nil_right, List.forIn_cons, List.forIn_nil, List.contains_cons, List.contains_nil, beq_self_eq_true, Bool.or_true, Bool.true_or, if_true, List.lookup_cons, List.lookup_nil, d1, d2, d3, Option.isSome_none, Bool.false_eq_true, if_false, pure_bind, List.cons_append, Bool.or_false, Bool.false_or]
    rfl
  case h2 =>
    have lk : ∀ y : Str, y ∈ [a1, n1, n2] → (List.lookup y [(a1, x), (n1, v1), (n2, v2)]).isNone = false := by
      intro y hy
      simp only [List.mem_cons, List.not_mem_nil, or_false] at hy
      rcases hy with rfl | rfl | rfl
      · simp
      · simp [List.lookup_cons, d1]
      · simp [List.lookup_cons, d2, d3]
    have e1 : ∀ k : Nat, ([a1, n1, n2].take k).filter (fun y => (List.lookup y [(a1, x), (n1, v1), (n2, v2)]).isNone) = [] := fun k => by
      refine List.filter_eq_nil_iff.mpr fun y hy => ?_
      rw [lk y (List.mem_of_mem_take hy)]; decide
    have e2 : ∀ (k : Nat) (ds : List Value), ∀ z ∈ ([a1, n1, n2].drop k).zip ds, ([(a1, x), (n1, v1), (n2, v2)].lookup z.1).isNone = false := fun k ds z hz => lk _ (List.mem_of_mem_drop (List.of_mem_zip hz).1)
    simp only [List.length_cons, List.length_nil, Nat.zero_add, e1, List.isEmpty_nil, Bool.not_true, Bool.false_eq_true, if_false, gt_iff_lt, Nat.reduceAdd, Nat.reduceLT, decide_false, Bool.false_and]
    have e3 : ∀ k : Nat, ¬ ((!(([a1, n1, n2].take k).filter (fun y => (List.lookup y [(a1, x), (n1, v1), (n2, v2)]).isNone)).isEmpty) = true) := fun k => by rw [e1]; decide
    refine (if_neg (e3 _)).trans ?_
    rw [fill_none (e2 _ _)]
    simp only [pure_bind, List.filterMap_cons, List.filterMap_nil, List.lookup_cons, beq_self_eq_true, d1, d2, d3, Option.map_some]
noncomputable def RepP (Φ : Ph) (ρ : List Addr) : List (Str × Value) → List (Str × AV) → Prop
  | [], [] => True
  | p :: ps, q :: qs => p.1 = q.1 ∧ RepV Φ ρ p.2 q.2 ∧ RepP Φ ρ ps qs
  | _, _ => False
theorem RepP.append {Φ : Ph} {ρ : List Addr} : ∀ {a : List (Str × Value)} {b : List (Str × AV)} {c : List (Str × Value)} {d : List (Str × AV)}, RepP Φ ρ a b → RepP Φ ρ c d → RepP Φ ρ (a ++ c) (b ++ d)
  | [], [], _, _, _, h => h
  | _ :: _, _ :: _, _, _, h, k => ⟨h.1, h.2.1, h.2.2.append k⟩
  | [], _ :: _, _, _, h, _ => h.elim
  | _ :: _, [], _, _, h, _ => h.elim
theorem RepP.reverse {Φ : Ph} {ρ : List Addr} : ∀ {a : List (Str × Value)} {b : List (Str × AV)}, RepP Φ ρ a b → RepP Φ ρ a.reverse b.reverse
  | [], [], h => h
  | p :: ps, q :: qs, h => by
    rw [List.reverse_cons, List.reverse_cons]
    exact h.2.2.reverse.append ⟨h.1, h.2.1, trivial⟩
  | [], _ :: _, h => h.elim
  | _ :: _, [], h => h.elim
theorem RepP.lookup {Φ : Ph} {ρ : List Addr} {x : Str} : ∀ {a : List (Str × Value)} {b : List (Str × AV)}, RepP Φ ρ a b → ∀ y, b.lookup x = some y → ∃ u, a.lookup x = some u ∧ RepV Φ ρ u y
  | [], [], _, _, e => by cases e
  | p :: ps, q :: qs, h, y, e => by
    rw [List.lookup_cons] at e ⊢
    rw [h.1]
    cases hx : (x == q.1) with
    | true => rw [hx] at e; cases e; exact ⟨_, rfl, h.2.1⟩
    | false => rw [hx] at e; exact h.2.2.lookup y e
  | [], _ :: _, h, _, _ => h.elim
  | _ :: _, [], h, _, _ => h.elim
theorem RepP.zip {Φ : Ph} {ρ : List Addr} : ∀ {ps : List Str} {vs : List Value} {xs : List AV}, RepVs Φ ρ vs xs → RepP Φ ρ (ps.zip vs) (ps.zip xs)
  | [], _, _, _ => by simp [RepP]
  | _ :: _, [], [], _ => trivial
  | p :: ps, v :: vs, x :: xs, h => ⟨rfl, h.1, RepP.zip h.2⟩
  | _ :: _, [], _ :: _, h => h.elim
  | _ :: _, _ :: _, [], h => h.elim
theorem RepVs.length {Φ : Ph} {ρ : List Addr} : ∀ {vs : List Value} {xs : List AV}, RepVs Φ ρ vs xs → vs.length = xs.length
  | [], [], _ => rfl
  | _ :: _, _ :: _, h => congrArg (· + 1) h.2.length
  | [], _ :: _, h => h.elim
  | _ :: _, [], h => h.elim
noncomputable def RepL (Φ : Ph) (ρ : List Addr) (m : Str → Option Value) (l : Loc) : Prop := ∀ x y, l.lookup x = some y → ∃ u, m x = some u ∧ RepV Φ ρ u y
theorem RepL.mono {Φ : Ph} {ρ ρ' : List Addr} {m : Str → Option Value} {l : Loc} (p : ρ <+: ρ') (h : RepL Φ ρ m l) : RepL Φ ρ' m l := fun x y e => let ⟨u, a, b⟩ := h x y e; ⟨u, a, b.mono p⟩
theorem lookup_setF {x y : Str} {v : AV} : ∀ {l : List (Str × AV)}, (setF x v l).lookup y = if x = y then some v else l.lookup y
  | [] => by unfold setF; rw [lookup_cons_eq]
  | (z, u) :: l => by
    unfold setF
    by_cases h : z = x
    · subst h; rw [if_pos rfl, lookup_cons_eq, lookup_cons_eq]
      by_cases q : z = y
      · simp only [q, if_true]
      · simp only [q, if_false]
    · rw [if_neg h, lookup_cons_eq, lookup_cons_eq, lookup_setF]
      by_cases q : z = y
      · subst q; simp only [if_true, Ne.symm h, if_false]
      · simp only [q, if_false]
theorem RepL.set {Φ : Ph} {ρ : List Addr} {m : Str → Option Value} {l : Loc} {x : Str} {v : Value} {a : AV} (h : RepL Φ ρ m l) (r : RepV Φ ρ v a) : RepL Φ ρ (fun y => if y = x then some v else m y) (setL x a l) := fun y b e => by
  unfold setL at e
  rw [lookup_setF] at e
  by_cases q : x = y
  · subst q; simp only [if_true] at e; cases e; exact ⟨v, by simp, r⟩
  · simp only [q, if_false] at e
    obtain ⟨u, e1, e2⟩ := h y b e
    exact ⟨u, by simp only [Ne.symm q, if_false]; exact e1, e2⟩
theorem lookup_no {y : Str} {b : AV} : ∀ {l : Loc}, (∀ q ∈ l, q.1 ≠ y) → List.lookup y l = some b → False
  | [], _, e => by cases e
  | p :: l, h, e => by
    rw [lookup_cons_eq, if_neg (h p List.mem_cons_self)] at e
    exact lookup_no (fun q hq => h q (List.mem_cons_of_mem _ hq)) e
theorem RepL.drop {Φ : Ph} {ρ : List Addr} {m : Str → Option Value} {l : Loc} {x : Str} (h : RepL Φ ρ m l) : RepL Φ ρ m (dropL x l) := fun y b e => by
  refine h y b ?_
  unfold dropL at e
  clear h
  induction l with
  | nil => exact e
  | cons p l ih =>
    rw [List.filter_cons] at e
    rw [List.lookup_cons]
    cases hp : (p.1 == x) with
    | true =>
      rw [hp] at e
      have hx := beq_iff_eq.mp hp
      have e' := ih (by simpa using e)
      cases hy : (y == p.1) with
      | false => exact e'
      | true =>
        exfalso
        have hy := beq_iff_eq.mp hy
        have hno : ∀ q ∈ (l.filter fun p => !(p.1 == x)), q.1 ≠ y := fun q hq e => by
          have := (List.mem_filter.mp hq).2
          rw [e, hy, hp] at this; cases this
        have e2 : List.lookup y (l.filter fun p => !(p.1 == x)) = some b := by simpa using e
        exact lookup_no hno e2
    | false =>
      rw [hp] at e
      simp only [Bool.not_false, if_true] at e
      rw [List.lookup_cons] at e
      cases hy : (y == p.1) with
      | true => rw [hy] at e; exact e
      | false => rw [hy] at e; exact ih e
theorem take_get {α : Type} {l : List α} {n i : Nat} (h : i < n) : (l.take n)[i]? = l[i]? := by rw [List.getElem?_take]; simp [h]
theorem RepV.take {Φ : Ph} {ρ : List Addr} {n : Nat} {v : Value} {x : AV} (h : RepV Φ ρ v x) (b : allBelow n x = true) : RepV Φ (ρ.take n) v x := by
  cases x <;> first | exact h | skip
  rename_i i
  obtain ⟨a, e, r⟩ := h
  exact ⟨a, by rw [take_get (of_decide_eq_true b)]; exact e, r⟩
theorem RepFs.take {Φ : Ph} {ρ : List Addr} {n : Nat} : ∀ {es : List DictEntry} {fs : List (Str × AV)}, RepFs Φ ρ es fs → (fs.all fun p => allBelow n p.2) = true → RepFs Φ (ρ.take n) es fs
  | [], [], _, _ => trivial
  | _ :: _, _ :: _, h, b => by
    rw [List.all_cons, Bool.and_eq_true] at b
    exact ⟨h.1, h.2.1.take b.1, h.2.2.take b.2⟩
  | [], _ :: _, h, _ => h.elim
  | _ :: _, [], h, _ => h.elim
theorem RepVs.take {Φ : Ph} {ρ : List Addr} {n : Nat} : ∀ {es : List Value} {fs : List AV}, RepVs Φ ρ es fs → (fs.all (allBelow n)) = true → RepVs Φ (ρ.take n) es fs
  | [], [], _, _ => trivial
  | _ :: _, _ :: _, h, b => by
    rw [List.all_cons, Bool.and_eq_true] at b
    exact ⟨h.1.take b.1, h.2.take b.2⟩
  | [], _ :: _, h, _ => h.elim
  | _ :: _, [], h, _ => h.elim
theorem RepO.take {Φ : Ph} {ρ : List Addr} {n : Nat} {o : Obj} {x : AO} (h : RepO Φ ρ o x) (b : objBelow n x = true) : RepO Φ (ρ.take n) o x := by
  cases x with
  | inst d => obtain ⟨a, e, r⟩ := h; exact ⟨a, by rw [take_get (of_decide_eq_true b)]; exact e, r⟩
  | ns fs => exact (let ⟨es, n', e, q⟩ := h; ⟨es, n', e, q.take b⟩)
  | nums xs => exact h
  | seq t xs => exact (let ⟨es, n', e, q⟩ := h; ⟨es, n', e, q.take b⟩)
  | meth f s => exact (let ⟨v, e, q⟩ := h; ⟨v, e, q.take b⟩)
theorem Cf.take {Φ : Ph} {g h : Heap} {L : Addr} {rest : List (Addr × Obj)} {ρ : List Addr} {H : HP} {n : Nat} (C : Cf Φ g L rest h ρ H) (b : (H.take n).all (objBelow n) = true) : Cf Φ g L rest h (ρ.take n) (H.take n) := by
  obtain ⟨c, N, nd, len, r⟩ := C
  refine ⟨c, fun p hp => N p ?_, ?_, by rw [List.length_take, List.length_take, len], fun i a ao ea eo => ?_⟩
  · rcases List.mem_append.mp hp with q | q
    · obtain ⟨a, ha, e⟩ := List.mem_map.mp q
      exact List.mem_append_left _ (List.mem_map.mpr ⟨a, List.mem_of_mem_take ha, e⟩)
    · exact List.mem_append_right _ q
  · exact List.Nodup.sublist (List.Sublist.append_right (List.take_sublist _ _) _) nd
  · have hi : i < n := by have := (List.getElem?_eq_some_iff.mp ea).1; rw [List.length_take] at this; lia
    have hb : objBelow n ao = true := List.all_eq_true.mp b ao (List.mem_of_getElem? eo)
    rw [take_get hi] at ea eo
    exact (r i a ao ea eo).take hb
theorem sweep_ok {Φ : Ph} {g h : Heap} {L : Addr} {rest : List (Addr × Obj)} {ρ ρ' : List Addr} {H : HP} {n : Nat} {v : Value} {x : AV} (p : ρ <+: ρ') (hn : ρ.length = n) (C : Cf Φ g L rest h ρ' H) (r : RepV Φ ρ' v x) :
    ∃ ρ'', ρ <+: ρ'' ∧ Cf Φ g L rest h ρ'' (sweep n x H).2 ∧ RepV Φ ρ'' v (sweep n x H).1 := by
  unfold sweep
  split
  · rename_i b
    rw [Bool.and_eq_true] at b
    refine ⟨ρ'.take n, ?_, C.take b.2, r.take b.1⟩
    obtain ⟨t, rfl⟩ := p
    rw [← hn, List.take_left']
    exact List.prefix_refl _
    rfl
  · exact ⟨ρ', p, C, r⟩
theorem lookup_in' {x : Str} {y : AV} : ∀ {l : Loc}, l.lookup x = some y → ∃ p ∈ l, p.2 = y
  | [], e => by cases e
  | p :: l, e => by
    rw [List.lookup_cons] at e
    cases hx : (x == p.1) with
    | true => rw [hx] at e; cases e; exact ⟨p, List.mem_cons_self, rfl⟩
    | false => rw [hx] at e; obtain ⟨q, h1, h2⟩ := lookup_in' e; exact ⟨q, List.mem_cons_of_mem _ h1, h2⟩
theorem RepL.take {Φ : Ph} {ρ : List Addr} {n : Nat} {m : Str → Option Value} {l : Loc} (h : RepL Φ ρ m l) (b : (l.all fun p => allBelow n p.2) = true) : RepL Φ (ρ.take n) m l := fun x y e => by
  obtain ⟨u, h1, h2⟩ := h x y e
  obtain ⟨p, hp, rfl⟩ := lookup_in' e
  exact ⟨u, h1, h2.take (List.all_eq_true.mp b p hp)⟩
theorem sweepL_ok {Φ : Ph} {g h : Heap} {L : Addr} {rest : List (Addr × Obj)} {ρ ρ' : List Addr} {H : HP} {n : Nat} {m : Str → Option Value} {l : Loc} (p : ρ <+: ρ') (hn : ρ.length = n) (C : Cf Φ g L rest h ρ' H) (r : RepL Φ ρ' m l) :
    ∃ ρ'', ρ <+: ρ'' ∧ Cf Φ g L rest h ρ'' (sweepL n l H) ∧ RepL Φ ρ'' m l := by
  unfold sweepL
  split
  · rename_i b
    rw [Bool.and_eq_true] at b
    refine ⟨ρ'.take n, ?_, C.take b.2, r.take b.1⟩
    obtain ⟨t, rfl⟩ := p
    rw [← hn, List.take_left']
    exact List.prefix_refl _
    rfl
  · exact ⟨ρ', p, C, r⟩
theorem star_of {e : Expr} {rest : List Expr} {env : Env} (h : notStar e = true) : starEach (e :: rest) env = (false, eval e env) :: starEach rest env := by
  cases e <;> first | rfl | cases h
theorem stars_all {env : Env} {pos : Pos} : ∀ {es : List Expr}, es.all notStar = true → (backTo pos (starEach es env)).any (·.1) = false ∧ (backTo pos (starEach es env)).all (!·.1) = true
  | [], _ => ⟨rfl, rfl⟩
  | e :: es, h => by
    rw [List.all_cons, Bool.and_eq_true] at h
    rw [star_of h.1]
    obtain ⟨a, b⟩ := stars_all (env := env) (pos := pos) h.2
    exact ⟨by show (false || _) = false; rw [Bool.false_or]; exact a, by show (true && _) = true; rw [Bool.true_and]; exact b⟩
end Mine
end
section
open PySem PySem.W PySem.Calls PyProof.Rows PySem.SeqAt
namespace Mine
section
variable {prog : Program} {w : World} {A : Around} {E : Value → Shared → Prop} {s : Shared} {K : Frag} {Φ : Ph} {I : Ifc} {g : Heap} {L : Addr} {rest : List (Addr × Obj)} {ρ : List Addr} {H : HP} {m : Str → Option Value}
theorem fillsI_list : fillsInplaceSlot (.type "list") "add" (Operator.Add == .Add) = pure false := by
  unfold fillsInplaceSlot
  show (typeLookup (.type "list") (dunderI "add") >>= fun fi => pure (fi.isSome && !isSeqSlot fi)) = pure false
  rw [PySem.F.slot_list_iadd.lookup]
  kernel_rfl
theorem seqI_list : seqSlot? (.type "list") (dunderI "add") = pure (some (.builtin "list.__iadd__")) := by
  unfold seqSlot?
  rw [PySem.F.slot_list_iadd.lookup]
  kernel_rfl
theorem new_at (len : ρ.length = H.length) (D : Addr) : (ρ ++ [D])[H.length]? = some D := by rw [← len, List.getElem?_append_right (Nat.le_refl _)]; simp
theorem extI_ok {op : Operator} {a b : Value} {i : Nat} {y : AV} {Q : Value → Shared → Prop} (F : Fr g L s.heap m) (C : Cf Φ g L rest s.heap ρ H) (r : RepV Φ ρ a (.obj i)) (q : RepV Φ ρ b y)
    (h : (extI op i y H).All (fun H' => ∀ h', Fr g L h' m → Cf Φ g L rest h' ρ H' → Q a { s with heap := h' })) : wpAny (model prog w) A (inplaceOp op a b) Q E s := by
  unfold extI at h
  split at h
  · rename_i xs j hx
    obtain ⟨ad, ha, rfl⟩ := r
    obtain ⟨bd, hb, rfl⟩ := q
    split at h
    · rename_i ys hy
      obtain ⟨c, h⟩ := T.all_need h
      simp only [Bool.and_eq_true, decide_eq_true_eq, Bool.not_eq_true'] at c
      obtain ⟨ad', ob, ha', ho, vs, n, rfl, hi⟩ := C.get hx
      rw [ha] at ha'; cases ha'
      obtain ⟨bd', ob', hb', ho', us, n', rfl, hj⟩ := C.get hy
      rw [hb] at hb'; cases hb'
      have e1 : vs.size = xs.length := by rw [← Array.length_toList]; exact hi.length
      have e2 : us.size = ys.length := by rw [← Array.length_toList]; exact hj.length
      have TA : s.TypeIs (.ref ad) "list" := ⟨_, ho, rfl⟩
      have TB : s.TypeIs (.ref bd) "list" := ⟨_, ho', rfl⟩
      unfold inplaceOp
      refine wpAny_holding ?_
      refine wpAny_bind (wpAny_typeOf TA (wpAny_bind (wpAny_of_eq fillsI_list ?_)))
      show wpAny _ A (if false = true then _ else _) Q E s
      rw [if_neg Bool.false_ne_true]
      refine wpAny_bind (binaryOp1_none (nm := "add") TA TB noFill_list_add ?_)
      refine wpAny_bind (wpAny_of_eq seqI_list ?_)
      refine wpAny_bind (wpAny_rule ?_)
      refine call_meets PySem.F.slot_list_iadd TA PySem.F.entry_list_iadd (PySem.F.args_list_iadd_2 _ _) (PySem.AutoSeq1.list___iadd___list_list_0 ad vs n bd us n' ?_ ?_ ?_) ⟨ho, ho', ?_⟩
      · intro z
        simp only [Bool.and_eq_true, Builtin.List.listTooLong] at z
        have := z.2
        simp [sizeLine] at this
        omega
      · simp [sizeLine]; omega
      · simp [sizeLine]; omega
      · have hu := Heap.get?_update_self (h := s.heap) (a := ad) (Obj.mapSeq fun x => x ++ us) ho rfl
        obtain ⟨C', F'⟩ := C.upd F ha (Heap.SameBut.update s.heap ad (Obj.mapSeq fun x => x ++ us)) hu (ao := .nums (xs ++ ys)) ⟨vs ++ us, _, rfl, by rw [Array.toList_append]; exact IntsAre.append hi hj⟩
        exact h _ F' C'
    · exact h.elim
  · exact h.elim
theorem dispI_ok {tup : Bool} {vs : List Value} {xs : List AV} {Q : Value → Shared → Prop} (F : Fr g L s.heap m) (C : Cf Φ g L rest s.heap ρ H) (r : RepVs Φ ρ vs xs) (h : (dispI tup xs H).All (After Φ g L rest ρ m s Q)) :
    vs.length ≤ sizeLine ∧ Q (.ref s.heap.objs.size) { s with heap := s.heap.push { cls := .type (if tup then "tuple" else "list"), data := .seq vs.toArray } } := by
  have hl := r.length
  obtain ⟨_, _, _, len, _⟩ := id C
  unfold dispI at h
  split at h
  · rename_i is e
    obtain ⟨c, h⟩ := T.all_need h
    have c := of_decide_eq_true c
    have hi := ints_of_rep r e
    obtain ⟨C', F'⟩ := C.push F (o := { cls := .type "list", data := .seq vs.toArray }) (ao := .nums is) ⟨vs.toArray, _, rfl, by simpa using hi⟩
    exact ⟨by rw [hi.length]; simp [sizeLine]; lia, h _ _ _ s.toks (List.prefix_append _ _) F' C' ⟨_, new_at len _, rfl⟩⟩
  · obtain ⟨c, h⟩ := T.all_need h
    have c := of_decide_eq_true c
    obtain ⟨C', F'⟩ := C.push F (o := { cls := .type "tuple", data := .seq vs.toArray }) (ao := .seq true xs) ⟨vs.toArray, _, rfl, by simpa using r⟩
    exact ⟨by rw [hl]; simp [sizeLine]; lia, h _ _ _ s.toks (List.prefix_append _ _) F' C' ⟨_, new_at len _, rfl⟩⟩
  · exact h.elim
theorem bltI_ok {id : String} {vs : List Value} {xs : List AV} {Q : Value → Shared → Prop} (hh : A.handled = none) (F : Fr g L s.heap m) (C : Cf Φ g L rest s.heap ρ H) (r : RepVs Φ ρ vs xs) (h : (bltI id xs H).All (After Φ g L rest ρ m s Q)) :
    wpAny (model prog w) A (call (.builtin id) vs) Q E s := by
  obtain ⟨c0, N, nd, len, rp⟩ := C
  have C : Cf Φ g L rest s.heap ρ H := ⟨c0, N, nd, len, rp⟩
  unfold bltI at h
  split at h
  · rename_i a
    match vs, r with
    | [v], r =>
      obtain ⟨⟨ad, ha, rfl⟩, _⟩ := r
      split at h
      · rename_i ys hx
        obtain ⟨c, h⟩ := T.all_need h
        have c := of_decide_eq_true c
        obtain ⟨ad', ob, ha', ho, us, n, rfl, hi⟩ := C.get hx
        rw [ha] at ha'; cases ha'
        have e1 : us.size = ys.length := by rw [← Array.length_toList]; exact hi.length
        refine Calls.call_len_list (items := us) ⟨_, ho, rfl, n, rfl⟩ (by lia) ?_
        rw [e1]
        exact h ρ _ s.heap _ (List.prefix_refl _) F C ⟨_, rfl⟩
      · exact h.elim
  · rename_i x y
    match vs, r with
    | [v, u], r =>
      obtain ⟨⟨t, rfl⟩, ⟨t', rfl⟩, _⟩ := r
      obtain ⟨c, h⟩ := T.all_need h
      simp only [Bool.and_eq_true, decide_eq_true_eq, bne_iff_ne] at c
      refine divmod_int c.1 ?_ (.inl (PyProof.noPylong_small c.2))
      obtain ⟨C', F'⟩ := C.push F (o := { cls := .type "tuple", data := .seq #[.int (x.fdiv y) s.toks, .int (x.fmod y) (s.toks + 1)] }) (ao := .seq true [.int (x.fdiv y), .int (x.fmod y)]) ⟨_, _, rfl, ⟨_, rfl⟩, ⟨_, rfl⟩, trivial⟩
      exact h _ _ _ _ (List.prefix_append _ _) F' C' ⟨_, new_at len _, rfl⟩
  · exact h.elim
theorem ints_drop : ∀ {vs : List Value} {xs : List Int} (n : Nat), IntsAre vs xs → IntsAre (vs.drop n) (xs.drop n)
  | _, _, 0, h => h
  | _, _, _ + 1, .nil => .nil
  | _, _, n + 1, .cons _ _ h => ints_drop n h
theorem ints_take : ∀ {vs : List Value} {xs : List Int} (n : Nat), IntsAre vs xs → IntsAre (vs.take n) (xs.take n)
  | _, _, 0, _ => .nil
  | _, _, _ + 1, .nil => .nil
  | _, _, n + 1, .cons i t h => .cons i t (ints_take n h)
theorem ints_pick {vs : List Value} {xs : List Int} {lo hi : Option Int} (h : IntsAre vs xs) : IntsAre (kms_pick vs lo hi) (pickI xs lo hi) := by
  have e : vs.length = xs.length := h.length
  have e1 : kms_lo lo vs.length = loI lo xs.length := by rw [e]; cases lo <;> rfl
  have e2 : kms_hi hi vs.length = hiI hi xs.length := by rw [e]; cases hi <;> rfl
  unfold kms_pick pickI
  rw [e1, e2]
  exact ints_take _ (ints_drop _ h)
theorem lits_ints {Φ : Ph} : ∀ {vs : List Value} {its : List LIt} {xs : List Int}, RepIts Φ vs its → litInts its = some xs → IntsAre vs xs
  | [], [], _, _, e => by cases e; exact .nil
  | v :: vs, .int i :: its, xs, h, e => by
    obtain ⟨ys, e1, rfl⟩ := Option.map_eq_some_iff.mp e
    obtain ⟨t, rfl⟩ := h.1
    exact .cons i t (lits_ints h.2 e1)
  | _ :: _, .fn _ :: _, _, _, e => by cases e
  | [], _ :: _, _, h, _ => h.elim
  | _ :: _, [], _, h, _ => h.elim
theorem sliceI_ok {K : Frag} {I : Ifc} (O : KOk K Φ I) (X : K.In g) (lim : True) {x : Str} {xp sp : Pos} {slo shi : Option Expr} {o vl vu : Value} {ox : AV} {lo hi : Option Int} {Q : Value → Shared → Prop} (F : Fr g L s.heap m) (C : Cf Φ g L rest s.heap ρ H) (r : RepV Φ ρ o ox) (pl : IsPart vl lo) (pu : IsPart vu hi)
    (h : (sliceI I ox lo hi H).All (After Φ g L rest ρ m s Q)) : wpAny (model prog w) A (subscriptTail (.Name x xp) (.Slice slo shi none sp) o (.ref s.heap.objs.size)) Q E { s with heap := s.heap.push { cls := .type "slice", data := .fields #[vl, vu, .none] } } := by
  obtain ⟨c0, N, nd, len, rp⟩ := C
  have C : Cf Φ g L rest s.heap ρ H := ⟨c0, N, nd, len, rp⟩
  unfold sliceI at h
  split at h
  · obtain ⟨ad, ha, rfl⟩ := r
    split at h
    · rename_i xs hx
      obtain ⟨c, h⟩ := T.all_need h
      have c := of_decide_eq_true c
      obtain ⟨ad', ob, ha', ho, us, n, rfl, hi'⟩ := C.get hx
      rw [ha] at ha'; cases ha'
      have e1 : us.size = xs.length := by rw [← Array.length_toList]; exact hi'.length
      refine kms_slice_lit F N (its := us) ⟨_, ho, rfl, n, rfl⟩ pl pu rfl (fun D h' F' N' hD => ?_) rfl (fun _ => rfl) (by rw [e1]; simp [sizeLine]; omega)
      exact h (ρ ++ [D]) _ h' s.toks (List.prefix_append _ _) F' (Cf.add N' nd len rp hD ⟨_, _, rfl, by simpa using ints_pick hi'⟩) ⟨D, new_at len D, rfl⟩
    · exact h.elim
  · rename_i a
    obtain rfl : o = _ := r
    split at h
    · rename_i xs hx
      obtain ⟨its, h1, h2⟩ := O.iLs _ _ hx
      obtain ⟨c, h⟩ := T.all_need h
      have c := of_decide_eq_true c
      obtain ⟨us, dd, n, sl, ho, hi'⟩ := O.lists _ _ h1
      have hi' := lits_ints hi' h2
      have e1 : us.toArray.size = xs.length := by rw [List.size_toArray]; exact hi'.length
      refine kms_slice_lit F N (its := us.toArray) ⟨_, (X.keeps F.keep) _ _ ho, rfl, n, rfl⟩ pl pu rfl (fun D h' F' N' hD => ?_) rfl (fun _ => rfl) (by rw [e1]; simp [sizeLine]; omega)
      exact h (ρ ++ [D]) _ h' s.toks (List.prefix_append _ _) F' (Cf.add N' nd len rp hD ⟨_, _, rfl, by simpa using ints_pick hi'⟩) ⟨D, new_at len D, rfl⟩
    · exact h.elim
  · exact h.elim
end
end Mine
end
section
open PySem PySem.W PySem.Calls PyProof.Rows
namespace Mine
structure Fx (K : Frag) (A₀ A : Around) (base g : Heap) (outer : List Env) (L : Addr) (qual : Str) (sc : Scope) (f : Addr) (cdv : Value) (dp : Nat) : Prop where
  below : Below A₀ base outer g
  frames : A.frames = some (envOf qual sc L f cdv :: outer)
  X : K.In g
  lim : g.NoLimit
  room : A.depth + dp < recursionLimit
  kind : sc.kind = .function
  handled : A.handled = none
  units : A.units + 4 * dp + 100 < cLine
section
variable (prog : Program) (w : World) (K : Frag) (Φ : Ph)
noncomputable def SEv (F : Fns) : Prop := ∀ {A₀ A : Around} {base g : Heap} {outer : List Env} {L : Addr} {qual : Str} {sc : Scope} {f : Addr} {cdv : Value} {dp : Nat} {E : Value → Shared → Prop} {s : Shared} {rest : List (Addr × Obj)} {ρ : List Addr} {H : HP} {m : Str → Option Value} {l : Loc} {e : Expr} {Q : Value → Shared → Prop},
  Fx K A₀ A base g outer L qual sc f cdv dp → Fr g L s.heap m → RepL Φ ρ m l → Cf Φ g L rest s.heap ρ H → (F.ev dp sc e l H).All (After Φ g L rest ρ m s Q) → wpAny (model prog w) A (eval e (envOf qual sc L f cdv)) Q E s
noncomputable def RepF (Φ : Ph) (ρ : List Addr) (fl : Flow) : AF → Prop
  | .next => fl = .next
  | .ret x => ∃ v, fl = .ret v ∧ RepV Φ ρ v x
  | .brk => fl = .brk
  | .cont => fl = .cont
noncomputable abbrev AfterS (Φ : Ph) (g : Heap) (L : Addr) (rest : List (Addr × Obj)) (ρ : List Addr) (s : Shared) (Q : Flow → Shared → Prop) (r : AF × Loc × HP) : Prop :=
  ∀ ρ' m' fl h' tk, ρ <+: ρ' → Fr g L h' m' → RepL Φ ρ' m' r.2.1 → Cf Φ g L rest h' ρ' r.2.2 → RepF Φ ρ' fl r.1 → Q fl { s with heap := h', toks := tk }
noncomputable def SXs (F : Fns) : Prop := ∀ {A₀ A : Around} {base g : Heap} {outer : List Env} {L : Addr} {qual : Str} {sc : Scope} {f : Addr} {cdv : Value} {dp : Nat} {E : Value → Shared → Prop} {s : Shared} {rest : List (Addr × Obj)} {ρ : List Addr} {H : HP} {m : Str → Option Value} {l : Loc} {ss : List Stmt} {Q : Flow → Shared → Prop},
  Fx K A₀ A base g outer L qual sc f cdv dp → Fr g L s.heap m → RepL Φ ρ m l → Cf Φ g L rest s.heap ρ H → (F.xs dp sc ss l H).All (AfterS Φ g L rest ρ s Q) → wpAny (model prog w) A (execs ss (envOf qual sc L f cdv)) Q E s
noncomputable def SCl (F : Fns) : Prop := ∀ {A₀ A : Around} {base g : Heap} {outer : List Env} {L : Addr} {qual : Str} {sc : Scope} {f : Addr} {cdv : Value} {dp : Nat} {E : Value → Shared → Prop} {s : Shared} {rest : List (Addr × Obj)} {ρ : List Addr} {H : HP} {m : Str → Option Value} {a : Nat} {vs : List Value} {xs : List AV} {Q : Value → Shared → Prop},
  Fx K A₀ A base g outer L qual sc f cdv dp → Fr g L s.heap m → Cf Φ g L rest s.heap ρ H → RepVs Φ ρ vs xs → (F.cl dp a xs H).All (After Φ g L rest ρ m s Q) →
  codeAny (model prog w) A (.call (.ref (Φ.fn a)) ⟨vs, []⟩) (fun r s' => match r with | .ok (.ret v) => Q v s' | .ok _ => False | .error e => E e s') s
structure Sound (F : Fns) : Prop where
  ev : SEv prog w K Φ F
  xs : SXs prog w K Φ F
  cl : SCl prog w K Φ F
end
section
variable {prog : Program} {w : World} {K : Frag} {Φ : Ph} {I : Ifc} {F : Fns}
variable {A₀ A : Around} {base g : Heap} {outer : List Env} {L : Addr} {qual : Str} {sc : Scope} {f : Addr} {cdv : Value} {dp : Nat} {E : Value → Shared → Prop} {s : Shared} {rest : List (Addr × Obj)} {ρ : List Addr} {H : HP} {m : Str → Option Value} {l : Loc}
theorem pre_trans {a b c : List Addr} (x : a <+: b) (y : b <+: c) : a <+: c := List.IsPrefix.trans x y
theorem ev_then (S : Sound prog w K Φ F) (X : Fx K A₀ A base g outer L qual sc f cdv dp) (Fm : Fr g L s.heap m) (R : RepL Φ ρ m l) (C : Cf Φ g L rest s.heap ρ H)
    {β : Type} {e : Expr} {k : AV × HP → T β} {P : β → Prop} {Q : Value → Shared → Prop} (h : ((F.ev dp sc e l H).bind k).All P)
    (go : ∀ r ρ' v h' tk, (k r).All P → ρ <+: ρ' → Fr g L h' m → RepL Φ ρ' m l → Cf Φ g L rest h' ρ' r.2 → RepV Φ ρ' v r.1 → Q v { s with heap := h', toks := tk }) : wpAny (model prog w) A (eval e (envOf qual sc L f cdv)) Q E s :=
  S.ev X Fm R C (T.all_mono (fun r hr ρ' v h' tk p' F' C' r' => go r ρ' v h' tk hr p' F' (R.mono p') C' r') (T.all_bind h))
theorem evs_ok (S : Sound prog w K Φ F) (X : Fx K A₀ A base g outer L qual sc f cdv dp) {pos : Pos} : ∀ {es : List Expr} {s : Shared} {ρ : List Addr} {H : HP} {Q : List Value → Shared → Prop},
    Fr g L s.heap m → RepL Φ ρ m l → Cf Φ g L rest s.heap ρ H →
    (evs F dp sc es l H).All (fun r => ∀ ρ' vs h' tk, ρ <+: ρ' → Fr g L h' m → Cf Φ g L rest h' ρ' r.2 → RepVs Φ ρ' vs r.1 → Q vs { s with heap := h', toks := tk }) →
    wpAny (model prog w) A (spliced (backTo pos (starEach es (envOf qual sc L f cdv)))) Q E s
  | [], s, ρ, H, Q, Fm, R, C, h => args_nil (h ρ [] s.heap s.toks (List.prefix_refl _) Fm C trivial)
  | e :: es, s, ρ, H, Q, Fm, R, C, h => by
    unfold evs at h
    split at h
    · rename_i hs
      refine args_cons (ev_then S X Fm R C h fun r ρ' v h' tk hr p' F' R' C' r' => ?_) (star_of hs)
      refine evs_ok S X F' R' C' (T.all_mono (fun q hq ρ2 vs h2 tk2 p2 F2 C2 r2 => ?_) (T.all_bind hr))
      exact hq ρ2 (v :: vs) h2 tk2 (pre_trans p' p2) F2 C2 ⟨r'.mono p2, r2⟩
    · exact h.elim
theorem loadL (X : Fx K A₀ A base g outer L qual sc f cdv dp) (Fm : Fr g L s.heap m) (R : RepL Φ ρ m l) {x : Str} {y : AV} {Q : Value → Shared → Prop} (hl : sc.names.lookup x = some .local) (e : l.lookup x = some y)
    (h : ∀ v, RepV Φ ρ v y → Q v s) : wpAny (model prog w) A (loadName (envOf qual sc L f cdv) x) Q E s := by
  obtain ⟨u, hu, ru⟩ := R x y e
  exact ldn Fm hu (h u ru) X.kind hl
theorem loadG (O : KOk K Φ I) (X : Fx K A₀ A base g outer L qual sc f cdv dp) (Fm : Fr g L s.heap m) {x : Str} {y : AV} {Q : Value → Shared → Prop} (hl : sc.names.lookup x = some .globalImplicit) (e : I.glob x = some y)
    (h : ∀ v, RepV Φ [] v y → Q v s) : wpAny (model prog w) A (loadName (envOf qual sc L f cdv) x) Q E s := by
  obtain ⟨u, hu, ru⟩ := O.glob x y e
  have hX := X.X.keeps Fm.keep
  have q := h u ru
  obtain ⟨hp, gs, d, tk, os⟩ := s
  unfold loadName Env.kindOf Env.blockKind
  have hk : (envOf qual sc L f cdv).scope.kind = .function := X.kind
  have hl' : (envOf qual sc L f cdv).scope.names.lookup x = some .globalImplicit := hl
  simp only [hk, hl', ScopeKind.isAnnotationScope, Bool.false_and, Bool.false_eq_true, if_false]
  unfold loadGlobal
  rcases hu with hu | ⟨hu, hv⟩
  · exact wpAny_bind ((looks_nsIn hX hu).at (wpAny_pure q))
  · exact wpAny_bind ((looks_nsIn hX hu).at (wpAny_bind ((looks_nsIn hX hv).at (wpAny_pure q))))
theorem RepV.nil {ρ : List Addr} {v : Value} {x : AV} (h : RepV Φ [] v x) : RepV Φ ρ v x := h.mono (List.nil_prefix)
theorem evO_ok (S : Sound prog w K Φ F) (X : Fx K A₀ A base g outer L qual sc f cdv dp) (Fm : Fr g L s.heap m) (R : RepL Φ ρ m l) (C : Cf Φ g L rest s.heap ρ H) {e : Option Expr} {β : Type} {k : Option Int × HP → T β} {P : β → Prop} {Q : Value → Shared → Prop} (h : ((evO F dp sc e l H).bind k).All P)
    (go : ∀ r ρ' v h' tk, (k r).All P → ρ <+: ρ' → Fr g L h' m → RepL Φ ρ' m l → Cf Φ g L rest h' ρ' r.2 → IsPart v r.1 → Q v { s with heap := h', toks := tk }) : wpAny (model prog w) A (valueOrNone (evalOpt e (envOf qual sc L f cdv))) Q E s := by
  cases e with
  | none => exact wpAny_pure (go (none, H) ρ _ s.heap s.toks h (List.prefix_refl _) Fm R C .none)
  | some e =>
    have hb := T.all_bind h
    refine ev_then S X Fm R C hb fun r ρ' v h' tk hr p' F' R' C' r' => ?_
    split at hr
    · rename_i i hi
      rw [hi] at r'
      obtain ⟨t, rfl⟩ := r'
      obtain ⟨_, hr⟩ := T.all_need hr
      exact go (some i, r.2) ρ' _ h' tk hr p' F' R' C' (.int i t)
    · exact hr.elim
theorem methodForm {x : Str} {xp apos pos : Pos} {name : Str} {es : List Expr} {env : Env} (h : (apos.endLine == pos.line && decide (es.length < 30) && es.all notStar) = true) :
    eval (.Call (.Attribute (.Name x xp) name apos) es [] pos) env = (do
      let ov ← eval (.Name x xp) env
      standAt apos.atName
      let (f, first) ← holding [ov] (getMethod ov name (do return (← importBound (.Name x xp) env).getD true))
      callWith pos f first (backTo pos (starEach es env)) []) := by
  simp only [Bool.and_eq_true] at h
  obtain ⟨⟨h1, h2⟩, h3⟩ := h
  have h2 := of_decide_eq_true h2
  have hm : methodCallForm (es.length + 0) (backTo pos (starEach es env)) [] = true := by
    unfold methodCallForm
    rw [(stars_all h3).2]
    simp [h2]
  show (do
    let ov ← eval (.Name x xp) env
    standAt apos.atName
    methodCall (.Name x xp) name apos pos env ov (es.length + 0) (backTo pos (starEach es env)) []) = _
  congr 1
  funext ov
  congr 1
  funext _
  unfold methodCall calleeOf methodCallPos
  rw [hm, h1]
  simp
theorem callWith_fn {fa : Addr} {dd : Option Addr} {fd : FuncData} {sl : Array (Option Value)} {pos : Pos} {first : List Value} (X : Fx K A₀ A base g outer L qual sc f cdv dp) (S : Sound prog w K Φ F)
    (hf : K.lookup fa = some ⟨.type "function", dd, .func fd, sl⟩) {es : List Expr} {Q : Value → Shared → Prop} (ha : es.all notStar = true) (Fm : Fr g L s.heap m) (R : RepL Φ ρ m l) (C : Cf Φ g L rest s.heap ρ H)
    (h : (evs F dp sc es l H).All (fun r => ∀ ρ' vs h' tk, ρ <+: ρ' → Fr g L h' m → Cf Φ g L rest h' ρ' r.2 → RepVs Φ ρ' vs r.1 → wpAny (model prog w) A (call (.ref fa) (first ++ vs)) Q E { s with heap := h', toks := tk })) :
    wpAny (model prog w) A (callWith pos (.ref fa) first (backTo pos (starEach es (envOf qual sc L f cdv))) []) Q E s := by
  have hk : keepIn K (.ref fa) = true := by unfold keepIn; dsimp only; rw [hf]
  refine callWith_of (P := K.In) (by rw [(stars_all ha).1]; rfl) (keeps_K hk) ?_
  have key : wpAny (model prog w) A (spliced (backTo pos (starEach es (envOf qual sc L f cdv)))) (fun vs s₁ => K.In s₁.heap ∧ wpAny (model prog w) A (call (.ref fa) (first ++ vs)) Q E s₁) E s :=
    evs_ok S X Fm R C (T.all_mono (fun r hr ρ' vs h' tk p' F' C' r' => ⟨X.X.keeps F'.keep, hr ρ' vs h' tk p' F' C' r'⟩) h)
  cases es with
  | nil => exact evalArgs_nil3 ⟨X.X.keeps Fm.keep, by
      exact h ρ [] s.heap s.toks (List.prefix_refl _) Fm C trivial⟩
  | cons e es =>
    rw [List.all_cons, Bool.and_eq_true] at ha
    rw [star_of ha.1] at key ⊢
    exact evalArgs_plain key
theorem fnIn_of {k : Nat} {r : FnR} (O : KOk K Φ I) (h : I.fns k = some r) : fnIn K (Φ.fn k) = true ∧ keepIn K (.ref (Φ.fn k)) = true := by
  obtain ⟨dd, sl, name, qual, params, dV, kV, doc, pm, an, cdv, ct, e, _⟩ := O.fns _ _ h
  exact ⟨by unfold fnIn; rw [e], by unfold keepIn; dsimp only; rw [e]⟩
theorem callWith_top {pos : Pos} (O : KOk K Φ I) (X : Fx K A₀ A base g outer L qual sc f cdv dp) (S : Sound prog w K Φ F)
    {fv : AV} {v : Value} {es : List Expr} {Q : Value → Shared → Prop} (ha : es.all notStar = true) (Fm : Fr g L s.heap m) (R : RepL Φ ρ m l) (C : Cf Φ g L rest s.heap ρ H) (r : RepV Φ ρ v fv)
    (h : ((evs F dp sc es l H).bind fun q => callI I F dp fv q.1 q.2).All (After Φ g L rest ρ m s Q)) :
    wpAny (model prog w) A (callWith pos v [] (backTo pos (starEach es (envOf qual sc L f cdv))) []) Q E s := by
  have hb := T.all_bind h
  let P : Heap → Prop := fun h => ∃ k, (k = Keeper.frame ∨ k = Keeper.machine ∨ k = Keeper.boundFrame) ∧ Looks (model prog w) h (keeperOf v) k
  have body : ∀ (q : List AV × HP) ρ' vs h' tk, (callI I F dp fv q.1 q.2).All (After Φ g L rest ρ m s Q) → ρ <+: ρ' → Fr g L h' m → Cf Φ g L rest h' ρ' q.2 → RepVs Φ ρ' vs q.1 →
      P h' ∧ wpAny (model prog w) A (call v ([] ++ vs)) Q E { s with heap := h', toks := tk } := by
    intro q ρ' vs h' tk hq p' F' C' r'
    rw [List.nil_append]
    unfold callI at hq
    split at hq
    · rename_i a
      obtain rfl : v = _ := r
      split at hq
      · rename_i fr hf
        refine ⟨keeps_K (fnIn_of O hf).2 _ (X.X.keeps F'.keep), wpAny_call (S.cl X F' C' r' (T.all_mono (fun z hz ρ2 v2 h2 tk2 p2 F2 C2 r2 => ?_) hq))⟩
        exact hz ρ2 v2 h2 tk2 (pre_trans p' p2) F2 C2 r2
      · exact hq.elim
    · rename_i i
      obtain ⟨a, ha, rfl⟩ := r
      split at hq
      · rename_i g' self hi
        split at hq
        · rename_i fr hf
          obtain ⟨a', o, ha', ho, sv, rfl, hs⟩ := C'.get hi
          rw [pre_get p' ha] at ha'; cases ha'
          refine ⟨keeps_M (fnIn_of O hf).1 _ ⟨ho, X.X.keeps F'.keep⟩, wpAny_call (method_call ho (S.cl X F' C' (vs := sv :: vs) (xs := self :: q.1) ⟨hs, r'⟩ (T.all_mono (fun z hz ρ2 v2 h2 tk2 p2 F2 C2 r2 => ?_) hq)))⟩
          exact hz ρ2 v2 h2 tk2 (pre_trans p' p2) F2 C2 r2
        · exact hq.elim
      · exact hq.elim
    · rename_i id
      obtain rfl : v = _ := r
      refine ⟨⟨.machine, .inr (.inl rfl), Looks.now⟩, bltI_ok (s := { s with heap := h', toks := tk }) X.handled F' C' r' (T.all_mono (fun z hz ρ2 v2 h2 tk2 p2 F2 C2 r2 => hz ρ2 v2 h2 tk2 (pre_trans p' p2) F2 C2 r2) hq)⟩
    · exact hq.elim
  refine callWith_of (P := P) (by rw [(stars_all ha).1]; rfl) (fun _ x => x) ?_
  cases es with
  | nil =>
    refine evalArgs_nil3 ?_
    exact body ([], H) ρ [] s.heap s.toks hb (List.prefix_refl _) Fm C trivial
  | cons e es =>
    have key : wpAny (model prog w) A (spliced (backTo pos (starEach (e :: es) (envOf qual sc L f cdv)))) (fun vs s₁ => P s₁.heap ∧ wpAny (model prog w) A (call v ([] ++ vs)) Q E s₁) E s :=
      evs_ok S X Fm R C (T.all_mono (fun q hq ρ' vs h' tk p' F' C' r' => body q ρ' vs h' tk hq p' F' C' r') hb)
    rw [List.all_cons, Bool.and_eq_true] at ha
    rw [star_of ha.1] at key ⊢
    exact evalArgs_plain key
theorem marks_of {op : CmpOp} {b : Expr} (h : noSet b = true) : behindInMarks op b = false := by
  cases b <;> first | rfl | cases h
theorem renV_ok {ρ ρ' : List Addr} {a b : Nat} (hab : ∀ ad, ρ[a]? = some ad → ρ'[b]? = some ad) {v : Value} {x y : AV} (e : renV a b x = some y) (h : RepV Φ ρ v x) : RepV Φ ρ' v y := by
  cases x with
  | obj j =>
    unfold renV at e
    dsimp only at e
    cases hj : Nat.beq j a with
    | true =>
      rw [hj] at e
      have hj := Nat.eq_of_beq_eq_true hj
      subst hj
      cases e
      obtain ⟨ad, h1, h2⟩ := h
      exact ⟨ad, hab ad h1, h2⟩
    | false => rw [hj] at e; cases e
  | _ => cases e; exact h
theorem renF_ok {ρ ρ' : List Addr} {a b : Nat} (hab : ∀ ad, ρ[a]? = some ad → ρ'[b]? = some ad) : ∀ {es : List DictEntry} {fs fs' : List (Str × AV)}, renF a b fs = some fs' → RepFs Φ ρ es fs → RepFs Φ ρ' es fs'
  | [], [], _, e, _ => by cases e; trivial
  | en :: es, p :: fs, fs', e, h => by
    unfold renF at e
    split at e
    · rename_i v r' e1 e2
      cases e
      exact ⟨h.1, renV_ok hab e1 h.2.1, renF_ok hab e2 h.2.2⟩
    · cases e
  | [], _ :: _, _, _, h => h.elim
  | _ :: _, [], _, _, h => h.elim
theorem clC_ok (S : Sound prog w K Φ F) (X : Fx K A₀ A base g outer L qual sc f cdv dp) (Fm : Fr g L s.heap m) (C : Cf Φ g L rest s.heap ρ H) {nm : Str} {k : Nat} {vs : List Value} {xs : List AV} {Q : Value → Shared → Prop} (r : RepVs Φ ρ vs xs)
    (h : (clC F dp nm k xs H).All (After Φ g L rest ρ m s Q)) : codeAny (model prog w) A (.call (.ref (Φ.fn k)) ⟨vs, []⟩) (fun r s' => match r with | .ok (.ret v) => Q v s' | .ok _ => False | .error e => E e s') s := by
  unfold clC at h
  split at h
  · exact S.cl X Fm C r h
  · split at h
    · rename_i i
      split at h
      · rename_i d fs hfld
        split at h
        · rename_i mm hobj
          split at h
          · rename_i ys fs2 hm hren
            match vs, r with
            | [v], r =>
              obtain ⟨⟨ai, hai, rfl⟩, _⟩ := r
              unfold fld at hfld
              dsimp only at hfld
              split at hfld
              · rename_i d' hi
                split at hfld
                · rename_i fs' hd
                  cases hfld
                  obtain ⟨ai', oi, hai', hoi, ri⟩ := C.get hi
                  rw [hai] at hai'; cases hai'
                  obtain ⟨ad, od, had, hod, rd⟩ := C.get hd
                  obtain ⟨am, om, ham, hom, rm⟩ := C.get hm
                  obtain ⟨c, N, nd, len, rp⟩ := id C
                  have nid : i ≠ d := fun z => by rw [z, hd] at hi; cases hi
                  have nim : i ≠ mm := fun z => by rw [z, hm] at hi; cases hi
                  have ndm : d ≠ mm := fun z => by rw [z, hm] at hd; cases hd
                  have ndρ := (List.nodup_append.mp nd).1
                  have xid := nodup_ne ndρ hai had nid
                  have xim := nodup_ne ndρ hai ham nim
                  have xdm := nodup_ne ndρ had ham ndm
                  let rest' := (ledger ρ c).filter (fun p => decide (p.1 ∉ [ai, ad, am])) ++ rest
                  have hci : c ai = oi := by have := (N _ (List.mem_append_left _ (mem_ledger hai))).1; rw [hoi] at this; cases this; rfl
                  have hcd : c ad = od := by have := (N _ (List.mem_append_left _ (mem_ledger had))).1; rw [hod] at this; cases this; rfl
                  have hcm : c am = om := by have := (N _ (List.mem_append_left _ (mem_ledger ham))).1; rw [hom] at this; cases this; rfl
                  have inρ : ∀ b ∈ [ai, ad, am], b ∈ ρ := fun b hb => by
                    simp only [List.mem_cons, List.not_mem_nil, or_false] at hb
                    rcases hb with rfl | rfl | rfl
                    · exact List.mem_of_getElem? hai
                    · exact List.mem_of_getElem? had
                    · exact List.mem_of_getElem? ham
                  have C3 : Cf Φ g L rest' s.heap [ai, ad, am] [.inst 1, .ns fs2, .nums ys] := by
                    refine ⟨c, fun p hp => N p ?_, ?_, rfl, fun j b bo ej eo => ?_⟩
                    · rcases List.mem_append.mp hp with q | q
                      · obtain ⟨b, hb, rfl⟩ := List.mem_map.mp q
                        exact List.mem_append_left _ (List.mem_map.mpr ⟨b, inρ b hb, rfl⟩)
                      · rcases List.mem_append.mp q with q | q
                        · exact List.mem_append_left _ (List.mem_filter.mp q).1
                        · exact List.mem_append_right _ q
                    · refine List.nodup_append.mpr ⟨by simp [xid, xim, xdm], ?_, ?_⟩
                      · rw [List.map_append]
                        obtain ⟨n1, n2, n3⟩ := List.nodup_append.mp nd
                        refine List.nodup_append.mpr ⟨?_, n2, ?_⟩
                        · have : ((ledger ρ c).map (·.1)) = ρ := by unfold ledger; rw [List.map_map]; simp [Function.comp_def]
                          refine List.Nodup.sublist (List.Sublist.map _ List.filter_sublist) ?_
                          rw [this]; exact n1
                        · intro a ha b hb
                          obtain ⟨p, hp, rfl⟩ := List.mem_map.mp ha
                          obtain ⟨q, hq, e⟩ := List.mem_map.mp (List.mem_filter.mp hp).1
                          subst e
                          exact n3 q hq b hb
                      · intro a ha b hb
                        rw [List.map_append] at hb
                        rcases List.mem_append.mp hb with hb | hb
                        · obtain ⟨p, hp, rfl⟩ := List.mem_map.mp hb
                          have := of_decide_eq_true (List.mem_filter.mp hp).2
                          intro z; exact this (z ▸ ha)
                        · exact (List.nodup_append.mp nd).2.2 a (inρ a ha) b hb
                    · match j, ej, eo with
                      | 0, ej, eo =>
                        cases ej; cases eo
                        obtain ⟨q, q1, q2⟩ := ri
                        rw [had] at q1; cases q1
                        exact ⟨ad, rfl, hci.trans q2⟩
                      | 1, ej, eo =>
                        cases ej; cases eo
                        obtain ⟨es, n, q1, q2⟩ := rd
                        exact ⟨es, n, hcd.trans q1, renF_ok (fun z hz => by rw [ham] at hz; cases hz; rfl) hren q2⟩
                      | 2, ej, eo =>
                        cases ej; cases eo
                        obtain ⟨es, n, q1, q2⟩ := rm
                        exact ⟨es, n, hcm.trans q1, q2⟩
                      | _ + 3, ej, _ => cases ej
                  refine S.cl (rest := rest') (ρ := [ai, ad, am]) (H := [.inst 1, .ns fs2, .nums ys]) (xs := [.obj 0]) X Fm C3 ⟨⟨ai, rfl, rfl⟩, trivial⟩ (T.all_mono (fun z hz ρ2 v2 h2 tk2 p2 F2 C2 r2 => ?_) (T.all_bind h))
                  unfold back3 at hz
                  split at hz
                  · rename_i fs3 zs
                    split at hz
                    · rename_i fs4 hren2
                      obtain ⟨c2, N2, nd2, len2, rp2⟩ := id C2
                      obtain rfl : ρ2 = [ai, ad, am] := by
                        obtain ⟨t, rfl⟩ := p2
                        have : t = [] := by simpa using len2
                        subst this; rfl
                      obtain ⟨w1, hw1, rfl⟩ := r2
                      cases hw1
                      refine hz ρ (.ref ai) h2 tk2 (List.prefix_refl _) F2 ?_ ⟨ai, hai, rfl⟩
                      refine ⟨fun b => if b ∈ [ai, ad, am] then c2 b else c b, fun p hp => ?_, nd, by simp [len], fun j b bo ej eo => ?_⟩
                      · rcases List.mem_append.mp hp with q | q
                        · obtain ⟨b, hb, rfl⟩ := List.mem_map.mp q
                          by_cases hb3 : b ∈ [ai, ad, am]
                          · simp only [hb3, if_true]
                            exact N2 _ (List.mem_append_left _ (List.mem_map.mpr ⟨b, hb3, rfl⟩))
                          · simp only [hb3, if_false]
                            exact N2 (b, c b) (List.mem_append_right _ (List.mem_append_left _ (List.mem_filter.mpr ⟨List.mem_map.mpr ⟨b, hb, rfl⟩, decide_eq_true hb3⟩)))
                        · exact N2 p (List.mem_append_right _ (List.mem_append_right _ q))
                      · have hl : d < H.length := (List.getElem?_eq_some_iff.mp hd).1
                        have hl2 : mm < H.length := (List.getElem?_eq_some_iff.mp hm).1
                        by_cases jm : j = mm
                        · subst jm
                          rw [List.getElem?_set_self (by simpa using hl2)] at eo
                          cases eo
                          rw [ham] at ej; cases ej
                          dsimp only
                          rw [if_pos (by simp)]
                          exact rp2 2 am (.nums zs) rfl rfl
                        · rw [List.getElem?_set_ne (Ne.symm jm)] at eo
                          by_cases jd : j = d
                          · subst jd
                            rw [List.getElem?_set_self hl] at eo
                            cases eo
                            rw [had] at ej; cases ej
                            dsimp only
                            rw [if_pos (by simp)]
                            obtain ⟨es, n, q1, q2⟩ := rp2 1 ad (.ns fs3) rfl rfl
                            exact ⟨es, n, q1, renF_ok (fun z hz => by cases hz; exact ham) hren2 q2⟩
                          · rw [List.getElem?_set_ne (Ne.symm jd)] at eo
                            by_cases ji : j = i
                            · subst ji
                              rw [hi] at eo; cases eo
                              rw [hai] at ej; cases ej
                              dsimp only
                              rw [if_pos (by simp)]
                              obtain ⟨q, q1, q2⟩ := rp2 0 ai (.inst 1) rfl rfl
                              cases q1
                              exact ⟨ad, had, q2⟩
                            · have hb3 : b ∉ [ai, ad, am] := fun hb => by
                                simp only [List.mem_cons, List.not_mem_nil, or_false] at hb
                                rcases hb with rfl | rfl | rfl
                                · exact nodup_ne ndρ ej hai ji rfl
                                · exact nodup_ne ndρ ej had jd rfl
                                · exact nodup_ne ndρ ej ham jm rfl
                              dsimp only
                              rw [if_neg hb3]
                              exact rp j b bo ej eo
                    · exact hz.elim
                  · exact hz.elim
                · cases hfld
              · cases hfld
          · exact h.elim
        · exact h.elim
      · exact h.elim
    · exact h.elim
theorem Cf.make {x dx : Addr} {h' : Heap} {c : Addr → Obj} (N' : News g L h' ((x, instObj Φ.cls dx) :: (dx, emptyDict) :: (ledger ρ c ++ rest))) (nd : (ρ ++ rest.map (·.1)).Nodup) (len : ρ.length = H.length)
    (rp : ∀ (i : Nat) (a : Addr) (ao : AO), ρ[i]? = some a → H[i]? = some ao → RepO Φ ρ (c a) ao) (hD : ∀ p ∈ ledger ρ c ++ rest, p.1 < dx) (hx : dx < x) : Cf Φ g L rest h' (ρ ++ [x, dx]) (H ++ [.inst (H.length + 1), .ns []]) := by
  have new : ∀ p ∈ ledger ρ c ++ rest, p.1 ≠ dx ∧ p.1 ≠ x := fun p hp => ⟨Nat.ne_of_lt (hD p hp), Nat.ne_of_lt (Nat.lt_trans (hD p hp) hx)⟩
  have hne : dx ≠ x := Nat.ne_of_lt hx
  refine ⟨fun b => if b = x then instObj Φ.cls dx else if b = dx then emptyDict else c b, fun p hp => ?_, ?_, by simp [len], fun j b bo ej eo => ?_⟩
  · rcases List.mem_append.mp hp with q | q
    · obtain ⟨b, hb, rfl⟩ := List.mem_map.mp q
      rcases List.mem_append.mp hb with hb | hb
      · have hb' : (b, c b) ∈ ledger ρ c ++ rest := List.mem_append_left _ (List.mem_map.mpr ⟨b, hb, rfl⟩)
        have := new _ hb'
        simp only [this.1, this.2, if_false]
        exact N' (b, c b) (List.mem_cons_of_mem _ (List.mem_cons_of_mem _ hb'))
      · simp only [List.mem_cons, List.not_mem_nil, or_false] at hb
        rcases hb with rfl | rfl
        · simp only [if_true]; exact N' _ List.mem_cons_self
        · simp only [hne, if_false, if_true]; exact N' _ (List.mem_cons_of_mem _ List.mem_cons_self)
    · exact N' p (List.mem_cons_of_mem _ (List.mem_cons_of_mem _ (List.mem_append_right _ q)))
  · rw [List.append_assoc]
    have n2 := (List.nodup_append.mp nd)
    have nr : ∀ q ∈ rest.map (·.1), q ≠ dx ∧ q ≠ x := fun q hq => by
      obtain ⟨p, hp, rfl⟩ := List.mem_map.mp hq
      exact new p (List.mem_append_right _ hp)
    refine List.nodup_append.mpr ⟨n2.1, ?_, ?_⟩
    · refine List.nodup_cons.mpr ⟨fun q => ?_, List.nodup_cons.mpr ⟨fun q => (nr _ q).1 rfl, n2.2.1⟩⟩
      rcases List.mem_cons.mp q with q | q
      · exact hne q.symm
      · exact (nr _ q).2 rfl
    · intro a ha b hb
      have na := new (a, c a) (List.mem_append_left _ (List.mem_map.mpr ⟨a, ha, rfl⟩))
      rcases List.mem_cons.mp hb with rfl | hb
      · exact na.2
      · rcases List.mem_cons.mp hb with rfl | hb
        · exact na.1
        · exact n2.2.2 a ha b hb
  · by_cases hj : j < ρ.length
    · rw [List.getElem?_append_left hj] at ej
      rw [List.getElem?_append_left (len ▸ hj)] at eo
      have := new (b, c b) (List.mem_append_left _ (mem_ledger ej))
      simp only [this.1, this.2, if_false]
      exact (rp j b bo ej eo).mono (List.prefix_append _ _)
    · have hj' : j = ρ.length ∨ j = ρ.length + 1 := by
        have := (List.getElem?_eq_some_iff.mp ej).1
        simp at this; lia
      rcases hj' with rfl | rfl
      · rw [List.getElem?_append_right (Nat.le_refl _)] at ej
        rw [len, List.getElem?_append_right (Nat.le_refl _)] at eo
        simp at ej eo
        subst ej; subst eo
        simp only [if_true]
        refine ⟨dx, ?_, rfl⟩
        rw [List.getElem?_append_right (by lia)]
        simp [len]
      · rw [List.getElem?_append_right (by lia)] at ej
        rw [len, List.getElem?_append_right (by lia)] at eo
        simp at ej eo
        subst ej; subst eo
        simp only [hne, if_false, if_true]
        exact ⟨[], 0, rfl, trivial⟩
theorem keeps_cls {K : Frag} {C : Addr} (h : makesIn K C = true) : keepIn K (.ref C) = true := by
  unfold makesIn at h
  unfold keepIn
  dsimp only
  split at h
  · rename_i e
    rw [e]
    simp only [Bool.and_eq_true] at h
    exact h.1.2
  · cases h
theorem tc_under (A : Around) (C : Addr) (vs : List Value) (kw : List (Str × Value)) : (A.under (.builtin "type.__call__" ⟨.ref C :: vs, kw⟩)).depth = A.depth + 1 ∧ (A.under (.builtin "type.__call__" ⟨.ref C :: vs, kw⟩)).frames = A.frames ∧
    (A.under (.builtin "type.__call__" ⟨.ref C :: vs, kw⟩)).units = A.units + 1 ∧ (A.under (.builtin "type.__call__" ⟨.ref C :: vs, kw⟩)).handled = A.handled := ⟨rfl, rfl, rfl, rfl⟩
theorem make_ok (O : KOk K Φ I) (S : Sound prog w K Φ F) (X : Fx K A₀ A base g outer L qual sc f cdv dp) (Fm : Fr g L s.heap m) (C : Cf Φ g L rest s.heap ρ H) {k1 k2 : Str} {v1 v2 : Value} {y1 y2 : AV} {Q : Value → Shared → Prop} (r1 : RepV Φ ρ v1 y1) (r2 : RepV Φ ρ v2 y2)
    (h : (makeI I F dp k1 k2 y1 y2 H).All (After Φ g L rest ρ m s Q)) : wpAny (model prog w) A (call (.ref Φ.cls) [] [(k1, v1), (k2, v2)]) Q E s := by
  unfold makeI at h
  split at h
  · rename_i dp sn n1 n2 hnm
    split at h
    · rename_i hc
      simp only [Bool.and_eq_true, beq_iff_eq, Bool.not_eq_true', beq_eq_false_iff_ne] at hc
      obtain ⟨⟨⟨⟨rfl, rfl⟩, c1⟩, c2⟩, c3⟩ := hc
      obtain ⟨fI, dd, sl, name, qual', params, dV, kV, doc, pm, an, cdv', ct, T, dT, vs, nT, slT, hfind, hfl, hcd, ⟨as, df, hpar, hnames⟩, rfl, hT, nd, hloc, hco, hgen, hk, hcell⟩ := O.init
      obtain ⟨c, N, nod, len, rp⟩ := id C
      have hb := Mine.T.all_bind h
      have Kh := X.X.keeps Fm.keep
      refine wpAny_call (make_K (fI := fI) Fm N Kh O.makes hfind (by show Option.map _ (List.lookup fI K) = _; rw [hfl]; rfl) fun x dx h1 F1 N1 lt1 lt2 => ?_)
      obtain ⟨u1, u2, u3, u4⟩ := tc_under A Φ.cls [] [(n1, v1), (n2, v2)]
      generalize A.under (.builtin "type.__call__" ⟨.ref Φ.cls :: [], [(n1, v1), (n2, v2)]⟩) = A1 at u1 u2 u3 u4 ⊢
      have C1 := Cf.make N1 nod len rp lt1 lt2
      rw [hnm] at hnames hloc
      obtain ⟨c1', N1', nod1, len1, rp1⟩ := id C1
      refine callX_plain (cl := []) (binds := [(sn, .ref x), (n1, v1), (n2, v2)]) X.below F1 N1' X.lim (u2.trans X.frames) rfl X.kind ((X.X.keeps F1.keep) _ _ hfl) rfl (codeRec_of (X.X.keeps F1.keep) hcd) (by have := X.room; lia)
        (bind_kw2 (s := { s with heap := h1 }) hpar hnames rfl ((X.X.keeps F1.keep) _ _ hT) rfl (beq_eq_false_iff_ne.mpr (Ne.symm c1)) (beq_eq_false_iff_ne.mpr (Ne.symm c2)) (beq_eq_false_iff_ne.mpr (Ne.symm c3))) (fun y hy => ?_) (fun g' L' h₁ FG F' N' B' st _ => ?_) hcell hco hgen hk
      · simp only [List.mem_cons, List.not_mem_nil, or_false] at hy
        rcases hy with rfl | rfl | rfl
        · exact hloc _ (by simp)
        · exact hloc _ (by simp)
        · exact hloc _ (by simp)
      have X' : Fx K A1 (A1.deeper (envOf qual' I.init.scope L' fI cdv')) base g' (envOf qual sc L f cdv :: outer) L' qual' I.init.scope fI cdv' dp :=
        ⟨B', by show A1.frames.map _ = _; rw [u2, X.frames]; rfl, X.X.keeps st, X.lim.keeps st, by show A1.depth + 1 + dp < _; have := X.room; lia, hk, u4.trans X.handled, by show A1.units + 3 + 4 * dp + 100 < cLine; have := X.units; lia⟩
      have pre : ρ <+: ρ ++ [x, dx] := List.prefix_append _ _
      have rx : RepV Φ (ρ ++ [x, dx]) (.ref x) (.obj H.length) := ⟨x, by rw [← len, List.getElem?_append_right (Nat.le_refl _)]; simp, rfl⟩
      have RL : RepL Φ (ρ ++ [x, dx]) (fun y => ([(sn, .ref x), (n1, v1), (n2, v2)] : List (Str × Value)).reverse.lookup y) [(n2, y2), (n1, y1), (sn, .obj H.length)] :=
        fun z y ey => (show RepP Φ (ρ ++ [x, dx]) [(n2, v2), (n1, v1), (sn, .ref x)] [(n2, y2), (n1, y1), (sn, .obj H.length)] from ⟨rfl, r2.mono pre, rfl, r1.mono pre, rfl, rx, trivial⟩).lookup y ey
      refine S.xs X' F' RL ⟨c1', N', nod1, len1, rp1⟩ (Mine.T.all_mono (fun z hz ρ2 m2 fl h2 tk2 p2 F2 R2 C2 r2 => ?_) hb)
      have fin : (After Φ g L rest ρ m s Q (.obj H.length, z.2.2)) → LeaveK g L m g' (InitBack x (fun r s' => match r with | .ok (.ret v) => Q v s' | .ok _ => False | .error e => E e s')) .none { s with heap := h2, toks := tk2 } := by
        intro hx
        obtain ⟨c2, N2, nod2, len2, rp2⟩ := id C2
        refine leaveK_ F2 N2 fun F3 N3 => ⟨rfl, ?_⟩
        exact hx ρ2 (.ref x) h2 tk2 (pre_trans pre p2) F3 ⟨c2, N3, nod2, len2, rp2⟩ (rx.mono p2)
      obtain ⟨z1, z2, z3⟩ := z
      cases z1 with
      | next => obtain rfl : fl = _ := r2; exact fin hz
      | ret x =>
        cases x with
        | none => obtain ⟨v, rfl, rv⟩ := r2; obtain rfl : v = _ := rv; exact fin hz
        | _ => exact hz.elim
      | brk => exact hz.elim
      | cont => exact hz.elim
    · exact h.elim
  · exact h.elim
theorem tst_ok (S : Sound prog w K Φ F) (X : Fx K A₀ A base g outer L qual sc f cdv dp) (Fm : Fr g L s.heap m) (R : RepL Φ ρ m l) (C : Cf Φ g L rest s.heap ρ H) {e : Expr} {Q : Bool → Shared → Prop}
    (h : (tstI F dp sc e l H).All (fun r => ∀ ρ' h' tk, ρ <+: ρ' → Fr g L h' m → RepL Φ ρ' m l → Cf Φ g L rest h' ρ' r.2 → Q r.1 { s with heap := h', toks := tk })) :
    wpAny (model prog w) A (isTrue e (envOf qual sc L f cdv) (eval e (envOf qual sc L f cdv))) Q E s := by
  have gen : ((F.ev dp sc e l H).bind fun r => (truI r.1).bind fun c => .ret (c, r.2)).All (fun r => ∀ ρ' h' tk, ρ <+: ρ' → Fr g L h' m → RepL Φ ρ' m l → Cf Φ g L rest h' ρ' r.2 → Q r.1 { s with heap := h', toks := tk }) →
      wpAny (model prog w) A (eval e (envOf qual sc L f cdv)) (fun v s₁ => wpAny (model prog w) A (truthy v) Q E s₁) E s := fun h =>
    ev_then S X Fm R C h fun r ρ' v h' tk hr p' F' R' C' r' => truI_ok r' (T.all_mono (fun c hc => hc ρ' h' tk p' F' R' C') (T.all_bind hr))
  unfold tstI at h
  split at h
  · split at h
    · split at h
      · exact h.elim
      · rename_i hb
        refine wpAny_isTrue_Compare1 (ev_then S X Fm R C h fun r ρ' v h' tk hr p' F' R' C' r' => ?_) (marks_of hb)
        refine ev_then S X F' R' C' hr fun q ρ2 v2 h2 tk2 hq p2 F2 R2 C2 r2 => ?_
        exact cmpI_ok C2 (by have := X.units; lia) (r'.mono p2) r2 (T.all_mono (fun c hc => wpAny_truthy_bool (hc ρ2 h2 tk2 (pre_trans p' p2) F2 R2 C2)) (T.all_bind hq))
    · exact h.elim
  · exact isTrue_plain (gen h)
  · exact isTrue_plain (gen h)
  · exact isTrue_plain (gen h)
  · exact h.elim
end
end Mine
end
section
open PySem PySem.W PySem.Calls PyProof.Rows
namespace Mine
section
variable {prog : Program} {w : World} {K : Frag} {Φ : Ph} {I : Ifc} {F : Fns}
variable {A₀ A : Around} {base g : Heap} {outer : List Env} {L : Addr} {qual : Str} {sc : Scope} {f : Addr} {cdv : Value} {dp : Nat} {E : Value → Shared → Prop} {s : Shared} {rest : List (Addr × Obj)} {ρ : List Addr} {H : HP} {m : Str → Option Value} {l : Loc}
theorem folded_of {e : Expr} {env : Env} (h : noSet e = true) : ∀ x, foldedSetIterable e env x = pure x := by
  intro x
  cases e <;> first | rfl | cases h
theorem evI_ok (O : KOk K Φ I) (S : Sound prog w K Φ F) : SEv prog w K Φ (stepF I F) := by
  intro A₀ A base g outer L qual sc f cdv dp E s rest ρ H m l e Q X Fm R C h
  change (evI I F dp sc e l H).All _ at h
  cases e with
  | Constant c k p =>
    cases c with
    | int i =>
      exact wpAny_Constant_int (h ρ _ s.heap _ (List.prefix_refl _) Fm C ⟨_, rfl⟩)
    | none =>
      exact Constant_none (h ρ _ s.heap s.toks (List.prefix_refl _) Fm C rfl)
    | bool b =>
      exact Constant_bool (h ρ _ s.heap s.toks (List.prefix_refl _) Fm C rfl)
    | str x =>
      exact wpAny_Constant_str (h ρ _ s.heap _ (List.prefix_refl _) Fm C ⟨_, rfl⟩)
    | _ => exact False.elim h
  | Name x p =>
    unfold evI at h
    dsimp only at h
    split at h
    · rename_i hl hd
      split at h
      · rename_i y e
        exact wpAny_Name (loadL X Fm R hl e fun v r => h ρ _ s.heap s.toks (List.prefix_refl _) Fm C r) hd
      · exact h.elim
    · rename_i hl hd
      split at h
      · rename_i y e
        exact wpAny_Name (loadG O X Fm hl e fun v r => h ρ _ s.heap s.toks (List.prefix_refl _) Fm C (RepV.nil r)) hd
      · exact h.elim
    · exact h.elim
  | Attribute o attr p =>
    cases o with
    | Name x xp =>
      refine Attribute_Name_ (ev_then S X Fm R C h fun r ρ' v h' tk hr p' F' R' C' r' => ?_)
      exact getA_ok O X.X F' C' r' (T.all_mono (fun z hz ρ2 v2 h2 tk2 p2 F2 C2 r2 => hz ρ2 v2 h2 tk2 (pre_trans p' p2) F2 C2 r2) hr)
    | _ => exact False.elim h
  | BinOp a op b p =>
    refine wpAny_BinOp (ev_then S X Fm R C h fun r ρ' v h' tk hr p' F' R' C' r' => ?_)
    refine ev_then S X F' R' C' hr fun q ρ2 v2 h2 tk2 hq p2 F2 R2 C2 r2 => ?_
    exact (binI_ok F2 C2 (r'.mono p2) r2 (T.all_mono (fun z hz ρ3 v3 h3 tk3 p3 F3 C3 r3 => hz ρ3 v3 h3 tk3 (pre_trans (pre_trans p' p2) p3) F3 C3 r3) hq)).1
  | UnaryOp op a p =>
    cases op with
    | Invert =>
      refine UnaryOp_ (ev_then S X Fm R C h fun r ρ' v h' tk hr p' F' R' C' r' => ?_)
      split at hr
      · rename_i x e
        rw [e] at r'
        obtain ⟨t, rfl⟩ := r'
        exact invert_int (hr ρ' _ h' _ p' F' C' ⟨_, rfl⟩)
      · exact hr.elim
    | _ => exact False.elim h
  | Compare a ops bs p =>
    replace h : (evCmp F dp sc a ops bs l H).All _ := h
    unfold evCmp at h
    split at h
    · split at h
      · exact h.elim
      · rename_i hb
        refine wpAny_Compare1 (ev_then S X Fm R C h fun r ρ' v h' tk hr p' F' R' C' r' => ?_) (marks_of hb)
        refine ev_then S X F' R' C' hr fun q ρ2 v2 h2 tk2 hq p2 F2 R2 C2 r2 => ?_
        exact cmpI_ok C2 (by have := X.units; lia) (r'.mono p2) r2 (T.all_mono (fun c hc => hc ρ2 _ h2 tk2 (pre_trans p' p2) F2 C2 rfl) (T.all_bind hq))
    · exact h.elim
  | Subscript vv ii p =>
    replace h : (evSub I F dp sc vv ii l H).All _ := h
    unfold evSub at h
    split at h
    · rename_i lo hi st sp
      cases vv with
      | Name x xp =>
        cases st with
        | none =>
          refine Subscript_ (ev_then S X Fm R C h fun r ρ' v h' tk hr p' F' R' C' r' => ?_)
          rw [arm_eval_Slice]
          refine wpAny_bind (evO_ok (s := { s with heap := h', toks := tk }) S X F' R' C' hr fun a ρ2 v2 h2 tk2 ha p2 F2 R2 C2 r2 => ?_)
          refine wpAny_bind (wpAny_holding (evO_ok (s := { s with heap := h2, toks := tk2 }) S X F2 R2 C2 ha fun b ρ3 v3 h3 tk3 hb p3 F3 R3 C3 r3 => ?_))
          refine wpAny_bind (wpAny_holding (wpAny_pure (wpAny_newObj_type ?_ (by size_fits))))
          exact sliceI_ok (s := { s with heap := h3, toks := tk3 }) O X.X trivial F3 C3 (r'.mono (pre_trans p2 p3)) r2 r3 (T.all_mono (fun z hz ρ4 v4 h4 tk4 p4 F4 C4 r4 => hz ρ4 v4 h4 tk4 (pre_trans (pre_trans p' (pre_trans p2 p3)) p4) F4 C4 r4) hb)
        | some _ => exact False.elim h
      | _ => exact False.elim h
    · split at h
      · exact h.elim
      · rename_i hb
        refine Subscript_ (ev_then S X Fm R C h fun r ρ' v h' tk hr p' F' R' C' r' => ?_)
        refine ev_then S X F' R' C' hr fun q ρ2 v2 h2 tk2 hq p2 F2 R2 C2 r2 => ?_
        exact itemI_ok O hb X.X F2 C2 (r'.mono p2) r2 (T.all_mono (fun z hz ρ3 v3 h3 tk3 p3 F3 C3 r3 => hz ρ3 v3 h3 tk3 (pre_trans (pre_trans p' p2) p3) F3 C3 r3) hq)
  | Call ff aa kk pos =>
    replace h : (evCall I F dp sc ff aa kk pos l H).All _ := h
    unfold evCall at h
    split at h
    · cases ff with
      | Attribute oo mm ap =>
        replace h : (evMeth I F dp sc oo mm ap aa pos l H).All _ := h
        cases oo with
        | Name x xp =>
          unfold evMeth at h
          dsimp only at h
          split at h
          · rename_i hc
            refine MethodCall_ (ev_then S X Fm R C h fun r ρ' v h' tk hr p' F' R' C' r' => ?_) (methodForm hc)
            refine getM_ok O X.X F' C' r' (T.all_mono (fun z hz hH hf => ?_) (T.all_bind hr))
            obtain ⟨dd, fd, sl, hf⟩ := hf
            have hs : List.all _ notStar = true := (Bool.and_eq_true_iff.mp hc).2
            rw [hH] at hz
            refine callWith_fn X S hf hs F' R' C' (T.all_mono (fun q hq ρ2 vs h2 tk2 p2 F2 C2 r2 => ?_) (T.all_bind hz))
            refine wpAny_call (clC_ok S X F2 C2 (vs := v :: vs) (xs := r.1 :: q.1) ⟨r'.mono p2, r2⟩ (T.all_mono (fun z hz ρ3 v3 h3 tk3 p3 F3 C3 r3 => ?_) hq))
            exact hz ρ3 v3 h3 tk3 (pre_trans (pre_trans p' p2) p3) F3 C3 r3
          · exact h.elim
        | _ => exact False.elim h
      | Name xf xfp =>
        replace h : (evFun I F dp sc (.Name xf xfp) aa l H).All _ := h
        unfold evFun at h
        split at h
        · rename_i hs
          refine Call_ (ev_then S X Fm R C h fun r ρ' v h' tk hr p' F' R' C' r' => ?_)
          exact callWith_top O X S hs F' R' C' r' (T.all_mono (fun z hz ρ3 v3 h3 tk3 p3 F3 C3 r3 => hz ρ3 v3 h3 tk3 (pre_trans p' p3) F3 C3 r3) hr)
        · exact h.elim
      | Subscript vf sf sfp =>
        replace h : (evFun I F dp sc (.Subscript vf sf sfp) aa l H).All _ := h
        unfold evFun at h
        split at h
        · rename_i hs
          refine Call_ (ev_then S X Fm R C h fun r ρ' v h' tk hr p' F' R' C' r' => ?_)
          exact callWith_top O X S hs F' R' C' r' (T.all_mono (fun z hz ρ3 v3 h3 tk3 p3 F3 C3 r3 => hz ρ3 v3 h3 tk3 (pre_trans p' p3) F3 C3 r3) hr)
        · exact h.elim
      | _ => exact False.elim h
    · rename_i k1 k2
      cases ff with
      | Name x p =>
        cases aa with
        | nil =>
          obtain ⟨kn1, e1, q1⟩ := k1
          obtain ⟨kn2, e2, q2⟩ := k2
          cases kn1 with
          | none => exact False.elim h
          | some n1 =>
            cases kn2 with
            | none => exact False.elim h
            | some n2 =>
              rw [show eval (.Call (.Name x p) [] [⟨some n1, e1, q1⟩, ⟨some n2, e2, q2⟩] pos) (envOf qual sc L f cdv) = (do callWith pos (← eval (.Name x p) (envOf qual sc L f cdv)) [] (backTo pos (starEach [] (envOf qual sc L f cdv))) (backToKw pos (keywordEach [⟨some n1, e1, q1⟩, ⟨some n2, e2, q2⟩] (envOf qual sc L f cdv)))) from rfl]
              refine wpAny_bind (ev_then S X Fm R C h fun r ρ' v h' tk hr p' F' R' C' r' => ?_)
              split at hr
              · rename_i e
                rw [e] at r'
                obtain rfl : v = _ := r'
                refine callWith_of (P := K.In) rfl (keeps_K (keeps_cls O.makes)) ?_
                refine evalArgs_kw2_nil rfl ?_
                refine kwAll_cons (ev_then (s := { s with heap := h', toks := tk }) S X F' R' C' hr fun a ρ2 v2 h2 tk2 ha p2 F2 R2 C2 r2 => ?_)
                refine kwAll_cons (ev_then (s := { s with heap := h2, toks := tk2 }) S X F2 R2 C2 ha fun b ρ3 v3 h3 tk3 hb p3 F3 R3 C3 r3 => kwAll_nil ⟨X.X.keeps F3.keep, ?_⟩)
                exact make_ok (s := { s with heap := h3, toks := tk3 }) O S X F3 C3 (r2.mono p3) r3 (T.all_mono (fun z hz ρ4 v4 h4 tk4 p4 F4 C4 r4 => hz ρ4 v4 h4 tk4 (pre_trans (pre_trans p' (pre_trans p2 p3)) p4) F4 C4 r4) hb)
              · exact hr.elim
        | cons _ _ => exact False.elim h
      | _ => exact False.elim h
    · exact h.elim
  | List elts p =>
    unfold evI at h
    dsimp only at h
    split at h
    · rename_i hs
      refine wpAny_List_spliced (evs_ok S X Fm R C (T.all_mono (fun q hq ρ' vs h' tk p' F' C' r' => ?_) (T.all_bind h)))
      exact dispI_ok (tup := false) (s := { s with heap := h', toks := tk }) F' C' r' (T.all_mono (fun z hz ρ4 v4 h4 tk4 p4 F4 C4 r4 => hz ρ4 v4 h4 tk4 (pre_trans p' p4) F4 C4 r4) hq)
    · exact h.elim
  | Tuple elts p q =>
    unfold evI at h
    dsimp only at h
    split at h
    · rename_i hs
      refine wpAny_Tuple_spliced (evs_ok S X Fm R C (T.all_mono (fun q hq ρ' vs h' tk p' F' C' r' => ?_) (T.all_bind h)))
      exact dispI_ok (tup := true) (s := { s with heap := h', toks := tk }) F' C' r' (T.all_mono (fun z hz ρ4 v4 h4 tk4 p4 F4 C4 r4 => hz ρ4 v4 h4 tk4 (pre_trans p' p4) F4 C4 r4) hq)
    · exact h.elim
  | BoolOp op vs p =>
    replace h : (evBool F dp sc op vs l H).All _ := h
    cases op with
    | And =>
      unfold evBool at h
      split at h
      · rename_i heq
        cases heq
        refine BoolOp_and (ev_then S X Fm R C h fun r ρ' v h' tk hr p' F' R' C' r' => ?_)
        split at hr
        · rename_i c e
          rw [e] at r'
          obtain rfl : v = _ := r'
          refine wpAny_truthy_bool ?_
          cases c with
          | true =>
            simp only [if_true]
            exact BoolOp_one (S.ev X F' R' C' (T.all_mono (fun z hz ρ4 v4 h4 tk4 p4 F4 C4 r4 => hz ρ4 v4 h4 tk4 (pre_trans p' p4) F4 C4 r4) (hr.1 rfl)))
          | false =>
            simp only [Bool.false_eq_true, if_false]
            exact hr.2 rfl ρ' _ h' tk p' F' C' rfl
        · exact hr.elim
      · exact h.elim
    | _ => exact False.elim h
  | _ => exact False.elim h
theorem swaps_of {e : Expr} {t : Option Expr} {n : Nat} {env : Env} (h : plainE e = true) : swapsWith e t n env = pure false := by
  cases e <;> first | rfl | cases h
theorem sole_of {e t : Expr} {n : Nat} {env : Env} (h : plainE e = true) : swapsWithSole [t] e n env = pure false := swaps_of (t := some t) (n := n) (env := env) h
theorem hint_of (X : Fx K A₀ A base g outer L qual sc f cdv dp) : (sc.kind == .class || (sc.kind == .module && L != mainGlobals)) = false := by rw [X.kind]; rfl
structure Nexts (prog : Program) (w : World) (Φ : Ph) (A : Around) (g : Heap) (L : Addr) (rest : List (Addr × Obj)) (ρ₀ : List Addr) (it : Addr) (ItP : Nat → Obj → Prop) (next : Nat → HP → Option (Option AV)) : Prop where
  item : ∀ {k : Nat} {v : AV} {o : Obj} {s : Shared} {ρ : List Addr} {H : HP} {m : Str → Option Value} {Q : Option Value → Shared → Prop} {E : Value → Shared → Prop}, ρ₀ <+: ρ → ItP k o → Fr g L s.heap m → Cf Φ g L ((it, o) :: rest) s.heap ρ H → next k H = some (some v) →
    (∀ u h' tk o', RepV Φ ρ u v → ItP (k + 1) o' → Heap.ExtBut it s.heap h' → h'.get? it = some o' → Q (some u) { s with heap := h', toks := tk }) → wpAny (model prog w) A (pyNext (.ref it)) Q E s
  done : ∀ {k : Nat} {o : Obj} {s : Shared} {ρ : List Addr} {H : HP} {m : Str → Option Value} {Q : Option Value → Shared → Prop} {E : Value → Shared → Prop}, ρ₀ <+: ρ → ItP k o → Fr g L s.heap m → Cf Φ g L ((it, o) :: rest) s.heap ρ H → next k H = some none →
    (∀ h', Heap.ExtBut it s.heap h' → Q none { s with heap := h' }) → wpAny (model prog w) A (pyNext (.ref it)) Q E s
theorem forN_ok (S : Sound prog w K Φ F) (X : Fx K A₀ A base g outer L qual sc f cdv dp) {x : Str} {px : Pos} {body : List Stmt} {it : Addr} {ItP : Nat → Obj → Prop} {next : Nat → HP → Option (Option AV)} {Q : Flow → Shared → Prop} {E' : Value → Shared → Prop}
    (W : Nexts prog w Φ A g L rest ρ it ItP next) {n : Nat} {o : Obj} (h0 : ItP 0 o) (Fm : Fr g L s.heap m) (R : RepL Φ ρ m l) (C : Cf Φ g L ((it, o) :: rest) s.heap ρ H)
    (h : (forN F dp sc x body next H.length n 0 l H).All (AfterS Φ g L rest ρ s Q)) :
    codeAny (model prog w) A (.forLoop (.Name x px) (.ref it) body [] (envOf qual sc L f cdv)) (fun r s' => match r with | .ok f => Q f s' | .error e => E' e s') s := by
  have hlen : ρ.length = H.length := by obtain ⟨_, _, _, len, _⟩ := id C; exact len
  refine codeAny_forLoop (fun n s' => ∃ ρ' H' l' m' k h' tk o', s' = { s with heap := h', toks := tk } ∧ ρ <+: ρ' ∧ ItP k o' ∧ Fr g L h' m' ∧ RepL Φ ρ' m' l' ∧ Cf Φ g L ((it, o') :: rest) h' ρ' H' ∧ (forN F dp sc x body next H.length n k l' H').All (AfterS Φ g L rest ρ s Q)) ?_ n
    ⟨ρ, H, l, m, 0, s.heap, s.toks, o, rfl, List.prefix_refl _, h0, Fm, R, C, h⟩
  rintro n _ ⟨ρ', H', l', m', k, h', tk, o', rfl, p', hI, F', R', C', hN⟩
  cases n with
  | zero => exact hN.elim
  | succ n =>
    unfold forN at hN
    split at hN
    · exact hN.elim
    · rename_i e
      refine W.done (s := { s with heap := h', toks := tk }) p' hI F' C' e fun h1 k1 => wpAny_execs_nil ?_
      obtain ⟨_, b2, b3, b4, b5⟩ := C'.hidden
      exact hN ρ' m' _ h1 tk p' (frOff F' k1 b3 b2) R'.drop (C'.unhide.off k1 b4 b5) rfl
    · rename_i v e
      refine W.item (s := { s with heap := h', toks := tk }) p' hI F' C' e fun u h1 tk1 o1 ru hI1 k1 e1 => ?_
      obtain ⟨C1, F1⟩ := C'.turn F' k1 e1
      have hb := T.all_bind hN
      generalize hbe : bndName sc x v l' = bb at hb
      unfold bndName at hbe
      split at hbe
      · rename_i hx
        subst hbe
        refine wpAny_assign_Name (wpAny_storeName_local hx F1.ns (fun h2 hn hs => ?_) (hint_of X))
        refine S.xs (s := { s with heap := h2, toks := tk1 + 1 }) X (F1.set hn hs) (R'.set ru) (C1.set hs) (T.all_mono (fun z hz ρ2 m2 fl h3 tk3 p2 F2 R2 C2 r2 => ?_) (T.all_bind hb))
        obtain ⟨z1, z2, z3⟩ := z
        cases z1 with
        | next =>
          obtain rfl : fl = _ := r2
          obtain ⟨ρ3, p3, C3, R3⟩ := sweepL_ok (pre_trans p' p2) hlen C2 R2
          exact ⟨n, Nat.lt_succ_self n, ρ3, _, z2, m2, k + 1, h3, tk3, o1, rfl, p3, hI1, F2, R3, C3, hz⟩
        | cont =>
          obtain rfl : fl = _ := r2
          obtain ⟨ρ3, p3, C3, R3⟩ := sweepL_ok (pre_trans p' p2) hlen C2 R2
          exact ⟨n, Nat.lt_succ_self n, ρ3, _, z2, m2, k + 1, h3, tk3, o1, rfl, p3, hI1, F2, R3, C3, hz⟩
        | brk =>
          obtain rfl : fl = _ := r2
          obtain ⟨ρ3, p3, C3, R3⟩ := sweepL_ok (pre_trans p' p2) hlen C2 R2
          exact hz ρ3 m2 _ h3 tk3 p3 F2 R3.drop C3.unhide rfl
        | ret y => obtain ⟨u', rfl, ru'⟩ := r2; exact hz ρ2 m2 _ h3 tk3 (pre_trans p' p2) F2 R2 C2.unhide ⟨u', rfl, ru'⟩
      · subst hbe; exact hb.elim
theorem nexts_list (hh : A.handled = none) {i : Nat} {la it : Addr} (ha : ρ[i]? = some la) : Nexts prog w Φ A g L rest ρ it (fun k o => o.cls = .type "list_iterator" ∧ o.data = .fields #[.ref la, .int k 0]) (nxList i) where
  item := by
    intro k v o s ρ' H m Q E p hI F C e h
    unfold nxList at e
    split at e
    · rename_i xs hx
      obtain ⟨y, e1, e2⟩ := Option.map_eq_some_iff.mp (Option.some.inj e)
      subst e2
      obtain ⟨ad', ob, ha', ho, us, n, rfl, hi⟩ := C.get hx
      rw [pre_get p ha] at ha'; cases ha'
      have hk : k < xs.length := (List.getElem?_eq_some_iff.mp e1).1
      obtain ⟨t, eu⟩ := ints_get hi hk
      have ey : xs.getD k 0 = y := by rw [List.getD_eq_getElem?_getD, e1]; rfl
      rw [ey] at eu
      refine wpAny_pyNext_list_item (items := us) ⟨o, C.hidden.1, hI.1, hI.2⟩ ⟨_, ho, rfl, n, rfl⟩ (by rw [← Array.getElem?_toList]; exact eu) fun h' hit hs => ?_
      obtain ⟨o', e', c', d'⟩ := hit
      exact h _ h' s.toks o' ⟨t, rfl⟩ ⟨c', by rw [d']⟩ hs.extBut e'
    · cases e
  done := by
    intro k o s ρ' H m Q E p hI F C e h
    unfold nxList at e
    split at e
    · rename_i xs hx
      have e1 := Option.map_eq_none_iff.mp (Option.some.inj e)
      obtain ⟨ad', ob, ha', ho, us, n, rfl, hi⟩ := C.get hx
      rw [pre_get p ha] at ha'; cases ha'
      refine wpAny_pyNext_list_end (items := us) hh ⟨o, C.hidden.1, hI.1, hI.2⟩ ⟨_, ho, rfl, n, rfl⟩ ?_ h
      rw [← Array.getElem?_toList]
      rw [List.getElem?_eq_none_iff] at e1 ⊢
      rw [hi.length]; exact e1
    · cases e
theorem nexts_range (hh : A.handled = none) {n : Nat} {it : Addr} : Nexts prog w Φ A g L rest ρ it (fun k o => o = { cls := .type "range_iterator", dict := none, data := .fields #[rawInt k, rawInt ((n : Int) - k), rawInt 1], slots := #[] }) (nxRange n) where
  item := by
    intro k v o s ρ' H m Q E p hI F C e h
    unfold nxRange at e
    split at e
    · rename_i hk
      cases e
      subst hI
      refine wpAny_pyNext_range_item C.hidden.1 (by lia) fun h' hit hs => ?_
      exact h _ h' _ _ ⟨_, rfl⟩ rfl hs.extBut (by
        have : ((k + 1 : Nat) : Int) = (k : Int) + 1 := by lia
        rw [this, show (n : Int) - ((k : Int) + 1) = (n : Int) - k - 1 by lia]; exact hit)
    · cases e
  done := by
    intro k o s ρ' H m Q E p hI F C e h
    unfold nxRange at e
    split at e
    · cases e
    · rename_i hk
      subst hI
      exact wpAny_pyNext_range_end hh C.hidden.1 (by lia) h
theorem eachOf {t : Expr} {ts : List Expr} {env : Env} (h : notStar t = true) : assignEach (t :: ts) env = (false, assign t env) :: assignEach ts env := by
  cases t <;> first | rfl | cases h
theorem eachAll {env : Env} : ∀ {ts : List Expr}, ts.all notStar = true → (assignEach ts env).length = ts.length ∧ (assignEach ts env).findIdx? (·.1) = none
  | [], _ => ⟨rfl, rfl⟩
  | t :: ts, h => by
    rw [List.all_cons, Bool.and_eq_true] at h
    obtain ⟨a, b⟩ := eachAll (env := env) h.2
    rw [eachOf h.1]
    refine ⟨by simp [a], ?_⟩
    rw [List.findIdx?_cons]
    simp [b]
theorem filterMap_lt {α β : Type} {f : α → Option β} : ∀ {xs : List α}, (xs.filterMap f).length ≤ xs.length ∧ ((∃ x ∈ xs, f x = none) → (xs.filterMap f).length < xs.length)
  | [] => ⟨Nat.le_refl _, fun ⟨_, h, _⟩ => by cases h⟩
  | x :: xs => by
    obtain ⟨a, b⟩ := filterMap_lt (f := f) (xs := xs)
    rw [List.filterMap_cons]
    cases hx : f x with
    | none => exact ⟨Nat.le_succ_of_le a, fun _ => Nat.lt_succ_of_le a⟩
    | some y =>
      refine ⟨Nat.succ_le_succ a, fun ⟨z, hz, e⟩ => ?_⟩
      rcases List.mem_cons.mp hz with rfl | hz
      · rw [hx] at e; cases e
      · exact Nat.succ_lt_succ (b ⟨z, hz, e⟩)
theorem swapped_of {ts : List Expr} {e : Expr} {k : Nat} {tpos : Pos} {env : Env} (h : swapOk ts e = true) : swappedStores [.Tuple ts k tpos] e env = pure none := by
  cases e with
  | Tuple vs k' p' =>
    unfold swapOk at h
    unfold swappedStores
    simp only [Bool.or_eq_true] at h
    dsimp only
    split
    · rfl
    · split
      · rfl
      · split
        · rfl
        · rename_i hn
          rcases h with h | h
          · exfalso
            apply hn
            simp only [Bool.or_eq_true, bne_iff_ne]
            left
            obtain ⟨t, ht, hk⟩ := List.any_eq_true.mp h
            have := (filterMap_lt (f := fun (x : Expr) => match x with
              | .Name id pos => if (env.kindOf id == some .local && pos.line == ((ts.head?.map (·.pos.line)).getD 0)) = true then some id else none
              | _ => none) (xs := ts)).2 ⟨t, ht, by cases t <;> first | rfl | cases hk⟩
            exact Nat.ne_of_lt this
          · rw [if_pos h]
  | _ => rfl
theorem size_of {i : Int} (h : 0 ≤ i) : Builtin.Range.rangeSize 0 i 1 = ((i.toNat : Nat) : Int) := by
  unfold Builtin.Range.rangeSize
  simp only [gt_iff_lt, Int.zero_lt_one, if_true]
  split <;> lia
theorem small_of {i : Int} (h : 0 ≤ i) (h2 : i ≤ 1000000) : Builtin.Range.small 0 i 1 = true := by
  unfold Builtin.Range.small
  rw [size_of h]
  have e : ((i.toNat : Nat) : Int) = i := by lia
  rw [e]
  have k : ∀ j : Int, 0 ≤ j → j ≤ 1000000 → Builtin.Range.rangeFitsLong j = true := fun j a b => by
    unfold Builtin.Range.rangeFitsLong
    rw [Bool.and_eq_true, decide_eq_true_eq, decide_eq_true_eq]
    constructor
    · exact Int.le_trans (by decide) a
    · exact Int.lt_of_le_of_lt b (by decide)
  rw [k 0 (by lia) (by lia), k i h h2, k 1 (by lia) (by lia), if_pos (by lia), k (i + (1 - 1)) (by lia) (by lia)]
  simp
theorem asg_ok (O : KOk K Φ I) (S : Sound prog w K Φ F) (X : Fx K A₀ A base g outer L qual sc f cdv dp) (Fm : Fr g L s.heap m) (R : RepL Φ ρ m l) (C : Cf Φ g L rest s.heap ρ H) {t : Expr} {v : Value} {y : AV} {Q : Unit → Shared → Prop} (rv : RepV Φ ρ v y)
    (h : (asgI I F dp sc t y l H).All (fun r => ∀ ρ' m' h' tk, ρ <+: ρ' → Fr g L h' m' → RepL Φ ρ' m' r.1 → Cf Φ g L rest h' ρ' r.2 → Q () { s with heap := h', toks := tk })) : wpAny (model prog w) A (assign t (envOf qual sc L f cdv) v) Q E s := by
  cases t with
  | Name x xp =>
    unfold asgI at h
    dsimp only at h
    split at h
    · rename_i hl
      exact wpAny_assign_Name (wpAny_storeName_local hl Fm.ns (fun h2 hn hs => h ρ _ h2 _ (List.prefix_refl _) (Fm.set hn hs) (R.set rv) (C.set hs)) (hint_of X))
    · exact h.elim
  | Subscript o i sp =>
    cases o with
    | Name x xp =>
      unfold asgI at h
      dsimp only at h
      split at h
      · rw [arm_assign_Subscript]
        refine wpAny_bind (wpAny_holding (ev_then S X Fm R C h fun q ρ2 v2 h2 tk2 hq p2 F2 R2 C2 r2 => ?_))
        refine wpAny_bind (wpAny_holding (ev_then (s := { s with heap := h2, toks := tk2 }) S X F2 R2 C2 hq fun z ρ3 v3 h3 tk3 hz p3 F3 R3 C3 r3 => ?_))
        refine wpAny_bind (wpAny_standAt (wpAny_bind (wpAny_holding ?_)))
        exact setI_ok F3 C3 (r2.mono p3) r3 (rv.mono (pre_trans p2 p3)) (T.all_mono (fun H4 h4 h' tk F4 C4 => wpAny_release (h4 ρ3 m h' tk (pre_trans p2 p3) F4 R3 C4)) (T.all_bind hz))
      · exact h.elim
    | _ => exact False.elim h
  | Attribute o attr ap =>
    cases o with
    | Name x xp =>
      rw [arm_assign_Attribute]
      refine wpAny_bind (wpAny_holding (ev_then S X Fm R C h fun q ρ2 v2 h2 tk2 hq p2 F2 R2 C2 r2 => ?_))
      refine wpAny_bind (wpAny_standAt (wpAny_bind (wpAny_holding ?_)))
      exact setA_ok O X.X F2 C2 r2 (rv.mono p2) (T.all_mono (fun H3 h3 h' tk F3 C3 => wpAny_release (h3 ρ2 m h' tk p2 F3 R2 C3)) (T.all_bind hq))
    | _ => exact False.elim h
  | _ => exact False.elim h
theorem asgs_ok (O : KOk K Φ I) (S : Sound prog w K Φ F) (X : Fx K A₀ A base g outer L qual sc f cdv dp) {Q : Unit → Shared → Prop} : ∀ {ts : List Expr} {vs : List Value} {ys : List AV} {s : Shared} {ρ : List Addr} {H : HP} {m : Str → Option Value} {l : Loc}, ts.all notStar = true →
    Fr g L s.heap m → RepL Φ ρ m l → Cf Φ g L rest s.heap ρ H → RepVs Φ ρ vs ys →
    (asgsI I F dp sc ts ys l H).All (fun r => ∀ ρ' m' h' tk, ρ <+: ρ' → Fr g L h' m' → RepL Φ ρ' m' r.1 → Cf Φ g L rest h' ρ' r.2 → Q () { s with heap := h', toks := tk }) → wpAny (model prog w) A (assignInOrder ((assignEach ts (envOf qual sc L f cdv)).map (·.2)) vs) Q E s
  | [], [], [], s, ρ, H, m, l, _, Fm, R, C, _, h => wpAny_pure (h ρ m s.heap s.toks (List.prefix_refl _) Fm R C)
  | t :: ts, v :: vs, y :: ys, s, ρ, H, m, l, hs, Fm, R, C, rv, h => by
    rw [List.all_cons, Bool.and_eq_true] at hs
    rw [eachOf hs.1]
    refine wpAny_bind (wpAny_holding (asg_ok O S X Fm R C rv.1 (T.all_mono (fun r hr ρ' m' h' tk p' F' R' C' => ?_) (T.all_bind h))))
    exact asgs_ok (s := { s with heap := h', toks := tk }) O S X hs.2 F' R' C' (rv.2.mono p') (T.all_mono (fun r2 hr2 ρ2 m2 h2 tk2 p2 F2 R2 C2 => hr2 ρ2 m2 h2 tk2 (pre_trans p' p2) F2 R2 C2) hr)
  | [], _ :: _, _, _, _, _, _, _, _, _, _, _, rv, h => by
    rename_i ys _ _ _ _ _ _ _ _ _
    cases ys with
    | nil => exact rv.elim
    | cons _ _ => exact h.elim
  | [], [], _ :: _, _, _, _, _, _, _, _, _, _, rv, h => rv.elim
  | _ :: _, [], [], _, _, _, _, _, _, _, _, _, rv, h => h.elim
  | _ :: _, [], _ :: _, _, _, _, _, _, _, _, _, _, rv, h => rv.elim
  | _ :: _, _ :: _, [], _, _, _, _, _, _, _, _, _, rv, h => rv.elim
theorem T.all_ex {α : Type} {P : α → Prop} : ∀ {t : T α}, t.All P → ∃ a, P a
  | .ret a, h => ⟨a, h⟩
  | .fail, h => h.elim
  | .br true _ _, h => T.all_ex (h.1 rfl)
  | .br false _ _, h => T.all_ex (h.2 rfl)
theorem asgs_len {F : Fns} {P : Loc × HP → Prop} : ∀ {ts : List Expr} {ys : List AV} {l : Loc} {H : HP}, (asgsI I F dp sc ts ys l H).All P → ts.length = ys.length
  | [], [], _, _, _ => rfl
  | _ :: ts, _ :: ys, _, _, h => by
    obtain ⟨r, hr⟩ := T.all_ex (T.all_bind h)
    have := asgs_len hr
    simp only [List.length_cons, this]
  | [], _ :: _, _, _, h => h.elim
  | _ :: _, [], _, _, h => h.elim
theorem isGlob_ok {fx : Str} {b : String} (h : isGlob I sc fx (.ty b) = true) : sc.names.lookup fx = some .globalImplicit ∧ (fx == ("__debug__" : Str)) = false ∧ I.glob fx = some (.ty b) := by
  unfold isGlob at h
  simp only [Bool.and_eq_true, Bool.not_eq_true', beq_iff_eq] at h
  obtain ⟨⟨h1, h2⟩, h3⟩ := h
  refine ⟨h1, h2, ?_⟩
  split at h3
  · rename_i a b' e e2
    rw [e]
    cases e2
    rw [eq_of_beq h3]
  · cases h3
theorem callTy1 (O : KOk K Φ I) (S : Sound prog w K Φ F) (X : Fx K A₀ A base g outer L qual sc f cdv dp) (Fm : Fr g L s.heap m) (R : RepL Φ ρ m l) (C : Cf Φ g L rest s.heap ρ H) {fx : Str} {fp pos : Pos} {b : String} {e : Expr}
    {β : Type} {k : AV × HP → T β} {P : β → Prop} {Q : Value → Shared → Prop} (hg : isGlob I sc fx (.ty b) = true) (hs : notStar e = true) (h : ((F.ev dp sc e l H).bind k).All P)
    (go : ∀ r ρ' v h' tk, (k r).All P → ρ <+: ρ' → Fr g L h' m → RepL Φ ρ' m l → Cf Φ g L rest h' ρ' r.2 → RepV Φ ρ' v r.1 → wpAny (model prog w) A (call (.type b) [v]) Q E { s with heap := h', toks := tk }) :
    wpAny (model prog w) A (eval (.Call (.Name fx fp) [e] [] pos) (envOf qual sc L f cdv)) Q E s := by
  obtain ⟨h1, h2, h3⟩ := isGlob_ok hg
  refine Call_ (wpAny_Name (loadG O X Fm h1 h3 fun v rv => ?_) h2)
  obtain rfl : v = _ := rv
  refine callWith_of (P := fun _ => True) (by rw [(stars_all (es := [e]) (by simp [hs])).1]; rfl) (fun _ _ => ⟨.machine, .inr (.inl rfl), Looks.now⟩) ?_
  have key : wpAny (model prog w) A (spliced (backTo pos (starEach [e] (envOf qual sc L f cdv)))) (fun vs s₁ => True ∧ wpAny (model prog w) A (call (.type b) ([] ++ vs)) Q E s₁) E s :=
    args_cons (ev_then S X Fm R C h fun r ρ' v h' tk hr p' F' R' C' r' => args_nil ⟨trivial, go r ρ' v h' tk hr p' F' R' C' r'⟩) (star_of hs)
  rw [star_of hs] at key ⊢
  exact evalArgs_plain key
theorem hideNew (C : Cf Φ g L rest h ρ H) (Fm : Fr g L h m) (o : Obj) (hf : o.isFreed = false) : Cf Φ g L ((h.objs.size, o) :: rest) (h.push o) ρ H ∧ Fr g L (h.push o) m := by
  obtain ⟨c, N, nd, len, r⟩ := C
  have N' := News.push Fm N o hf
  have q := N' _ List.mem_cons_self
  refine ⟨Cf.hide ⟨c, fun p hp => N' p (List.mem_cons_of_mem _ hp), nd, len, r⟩ q.1 q.2.2 q.2.1 (fun z => ?_) (fun z => ?_), Fm.push o⟩
  · exact Nat.lt_irrefl _ (Heap.lt_size (N _ (List.mem_append_left _ (List.mem_map.mpr ⟨_, z, rfl⟩))).1)
  · obtain ⟨p, hp, e⟩ := List.mem_map.mp z
    have := Heap.lt_size (N _ (List.mem_append_right _ hp)).1
    rw [e] at this
    exact Nat.lt_irrefl _ this
theorem Cf.off' {h h' : Heap} {bs : List Addr} (C : Cf Φ g L rest h ρ H) (k : ∀ b o, b ∉ bs → h.get? b = some o → h'.get? b = some o) (fr : ∀ b ∈ bs, b ∉ ρ) (fs : ∀ b ∈ bs, b ∉ rest.map (·.1)) : Cf Φ g L rest h' ρ H := by
  obtain ⟨c, N, nd, len, r⟩ := C
  refine ⟨c, fun p hp => ⟨k _ _ (fun z => ?_) (N p hp).1, (N p hp).2⟩, nd, len, r⟩
  rcases List.mem_append.mp hp with q | q
  · obtain ⟨a, ha, rfl⟩ := List.mem_map.mp q; exact fr _ z ha
  · exact fs _ z (List.mem_map.mpr ⟨p, q, rfl⟩)
noncomputable abbrev enumObj (it : Addr) (i : Int) (old : Value) : Obj := { cls := .type "enumerate", dict := none, data := .fields #[.none, .bool false, .ref it, rawInt i, .none, old], slots := #[] }
theorem forE_ok (S : Sound prog w K Φ F) (X : Fx K A₀ A base g outer L qual sc f cdv dp) {x y : Str} {px py pt : Pos} {kk : Nat} {body : List Stmt} {a : Nat} {la e it : Addr} {Q : Flow → Shared → Prop} {E' : Value → Shared → Prop}
    {n : Nat} {o oi : Obj} (ha : ρ[a]? = some la) (h0 : o = enumObj it 0 .none) (hi0 : oi.cls = .type "list_iterator" ∧ oi.data = .fields #[.ref la, .int 0 0]) (Fm : Fr g L s.heap m) (R : RepL Φ ρ m l) (C : Cf Φ g L ((e, o) :: (it, oi) :: rest) s.heap ρ H)
    (h : (forE F dp sc x y body a H.length n 0 l H).All (AfterS Φ g L rest ρ s Q)) :
    codeAny (model prog w) A (.forLoop (.Tuple [.Name x px, .Name y py] kk pt) (.ref e) body [] (envOf qual sc L f cdv)) (fun r s' => match r with | .ok f => Q f s' | .error e => E' e s') s := by
  have hlen : ρ.length = H.length := by obtain ⟨_, _, _, len, _⟩ := id C; exact len
  refine codeAny_forLoop_any (fun n s' => ∃ ρ' H' l' m' k h' tk old oi', s' = { s with heap := h', toks := tk } ∧ ρ <+: ρ' ∧ (oi'.cls = .type "list_iterator" ∧ oi'.data = .fields #[.ref la, .int (k : Nat) 0]) ∧ Fr g L h' m' ∧ RepL Φ ρ' m' l' ∧ Cf Φ g L ((e, enumObj it (k : Nat) old) :: (it, oi') :: rest) h' ρ' H' ∧ (forE F dp sc x y body a H.length n k l' H').All (AfterS Φ g L rest ρ s Q)) ?_ n
    ⟨ρ, H, l, m, 0, s.heap, s.toks, .none, oi, rfl, List.prefix_refl _, hi0, Fm, R, by subst h0; exact C, h⟩
  rintro n _ ⟨ρ', H', l', m', k, h', tk, old, oi', rfl, p', hI, F', R', C', hN⟩
  cases n with
  | zero => exact hN.elim
  | succ n =>
    obtain ⟨a1, a2, a3, a4, a5⟩ := C'.hidden
    obtain ⟨b1, b2, b3, b4, b5⟩ := C'.unhide.hidden
    have hei : e ≠ it := fun z => a5 (by rw [z]; exact List.mem_cons_self)
    unfold forE at hN
    cases hnx : nxList a k H' with
    | none => rw [hnx] at hN; exact hN.elim
    | some nx =>
      have hnx0 := hnx
      rw [hnx] at hN
      unfold nxList at hnx
      split at hnx
      · rename_i xs hx
        obtain ⟨ad', ob, ha', ho, us, num, rfl, hi⟩ := C'.get hx
        rw [pre_get p' ha] at ha'; cases ha'
        have hl : Heap.IsList h' la us := ⟨_, ho, rfl, num, rfl⟩
        cases nx with
        | none =>
          have e1 := Option.map_eq_none_iff.mp (Option.some.inj hnx)
          refine wpAny_pyNext_enum_end (i := k) (l := la) (items := us) X.handled a1 ⟨_, b1, hI.1, hI.2⟩ hl ?_ fun h1 k1 => wpAny_execs_nil ?_
          · rw [← Array.getElem?_toList]
            rw [List.getElem?_eq_none_iff] at e1 ⊢
            rw [hi.length]; exact e1
          · exact hN ρ' m' _ h1 tk p' (frOff F' k1 b3 b2) R'.drop.drop (C'.unhide.unhide.off k1 b4 b5) rfl
        | some v =>
          obtain ⟨z, e1, e2⟩ := Option.map_eq_some_iff.mp (Option.some.inj hnx)
          subst e2
          have hk : k < xs.length := (List.getElem?_eq_some_iff.mp e1).1
          obtain ⟨t, eu⟩ := ints_get hi hk
          have ey : xs.getD k 0 = z := by rw [List.getD_eq_getElem?_getD, e1]; rfl
          rw [ey] at eu
          refine wpAny_pyNext_enum_item (i := k) (l := la) (items := us) (s := { s with heap := h', toks := tk }) a1 ⟨_, b1, hI.1, hI.2⟩ hl (by rw [← Array.getElem?_toList]; exact eu) hei fun h1 heo hit1 ht1 hz1 hk1 => ?_
          refine wpAny_letOwnedTupleGo_enum heo fun h2 he2 hs2 => ?_
          replace hs2 : Heap.SameBut e h1 h2 := hs2
          have heH : e < h'.objs.size := Heap.lt_size a1
          have ht2 : h2.IsTuple h'.objs.size #[.int k tk, .int z t] := ⟨_, (hs2.2 _ (Nat.ne_of_gt heH)).trans ht1, rfl, _, rfl⟩
          have hz2 : h2.objs.size = h'.objs.size + 1 := hs2.1.trans hz1
          refine wpAny_assign_Tuple X.handled ht2 rfl rfl fun h3 hx3 => ?_
          replace hx3 : Heap.ExtBut h2.objs.size h2 h3 := hx3
          have old3 : ∀ b o, b < h'.objs.size → h2.get? b = some o → h3.get? b = some o := fun b o hb q => hx3 b o (by rw [hz2]; exact Nat.ne_of_lt (Nat.lt_succ_of_lt hb)) q
          obtain ⟨oi1, f1, f2, f3⟩ := hit1
          have keep3 : ∀ b o, b ∉ [e, it] → h'.get? b = some o → h3.get? b = some o := fun b o hb q => by
            simp only [List.mem_cons, List.not_mem_nil, or_false, not_or] at hb
            exact old3 b o (Heap.lt_size q) ((hs2.2 b hb.1).trans (hk1 b o hb.1 hb.2 q))
          have F3 : Fr g L h3 m' := ⟨F'.ns.at' fun o q => keep3 _ o (by simp [Ne.symm a2, Ne.symm b2]) q, fun b o q => keep3 b o (by
            simp only [List.mem_cons, List.not_mem_nil, or_false, not_or]
            constructor
            · intro z; rw [z, a3] at q; cases q
            · intro z; rw [z, b3] at q; cases q) (F'.keep b o q), F'.above⟩
          have e3 : h3.get? e = some (enumObj it ((k : Int) + 1) (.int z t)) := old3 e _ heH he2
          have i3 : h3.get? it = some oi1 := old3 it _ (Heap.lt_size b1) ((hs2.2 it (Ne.symm hei)).trans f1)
          have C3 : Cf Φ g L ((e, enumObj it ((k : Int) + 1) (.int z t)) :: (it, oi1) :: rest) h3 ρ' H' := by
            refine Cf.hide (Cf.hide (C'.unhide.unhide.off' (bs := [e, it]) keep3 ?_ ?_) i3 b3 b2 b4 b5) e3 a3 a2 a4 a5
            · intro b hb; simp only [List.mem_cons, List.not_mem_nil, or_false] at hb; rcases hb with rfl | rfl; exact a4; exact b4
            · intro b hb; simp only [List.mem_cons, List.not_mem_nil, or_false] at hb; rcases hb with rfl | rfl
              · exact fun q => a5 (List.mem_cons_of_mem _ q)
              · exact b5
          have hb := T.all_bind hN
          generalize hbe : bndPair sc x y k (.int z) l' = bb at hb
          unfold bndPair at hbe
          split at hbe
          · rename_i hlx hly
            subst hbe
            show wpAny _ A (do holding [.int z t] (assign (.Name x px) (envOf qual sc L f cdv) (.int k tk)); do holding [] (assign (.Name y py) (envOf qual sc L f cdv) (.int z t)); pure ()) _ _ _
            refine wpAny_bind (wpAny_holding (wpAny_assign_Name (wpAny_storeName_local hlx F3.ns (fun h4 hn4 hs4 => ?_) (hint_of X))))
            refine wpAny_bind (wpAny_holding (wpAny_assign_Name (wpAny_storeName_local hly hn4 (fun h5 hn5 hs5 => wpAny_pure ?_) (hint_of X))))
            refine S.xs (s := { s with heap := h5, toks := _ }) X ((F3.set hn4 hs4).set hn5 hs5) (RepL.set (a := .int z) (RepL.set (a := .int (k : Nat)) R' ⟨_, rfl⟩) ⟨_, rfl⟩) ((C3.set hs4).set hs5) (T.all_mono (fun z hz ρ2 m2 fl h6 tk6 p2 F2 R2 C2 r2 => ?_) (T.all_bind hb))
            obtain ⟨z1, z2, z3⟩ := z
            cases z1 with
            | next =>
              obtain rfl : fl = _ := r2
              obtain ⟨ρ3, p3, C3, R3⟩ := sweepL_ok (pre_trans p' p2) hlen C2 R2
              exact ⟨n, Nat.lt_succ_self n, ρ3, _, z2, m2, k + 1, h6, tk6, _, oi1, rfl, p3, ⟨f2, f3⟩, F2, R3, C3, hz⟩
            | cont =>
              obtain rfl : fl = _ := r2
              obtain ⟨ρ3, p3, C3, R3⟩ := sweepL_ok (pre_trans p' p2) hlen C2 R2
              exact ⟨n, Nat.lt_succ_self n, ρ3, _, z2, m2, k + 1, h6, tk6, _, oi1, rfl, p3, ⟨f2, f3⟩, F2, R3, C3, hz⟩
            | brk =>
              obtain rfl : fl = _ := r2
              obtain ⟨ρ3, p3, C3, R3⟩ := sweepL_ok (pre_trans p' p2) hlen C2 R2
              exact hz ρ3 m2 _ h6 tk6 p3 F2 R3.drop.drop C3.unhide.unhide rfl
            | ret y => obtain ⟨u', rfl, ru'⟩ := r2; exact hz ρ2 m2 _ h6 tk6 (pre_trans p' p2) F2 R2 C2.unhide.unhide ⟨u', rfl, ru'⟩
          · subst hbe; exact hb.elim
      · cases hnx
theorem stI_ok (O : KOk K Φ I) (S : Sound prog w K Φ F) (X : Fx K A₀ A base g outer L qual sc f cdv dp) (Fm : Fr g L s.heap m) (R : RepL Φ ρ m l) (C : Cf Φ g L rest s.heap ρ H) {st : Stmt} {Q : Flow → Shared → Prop}
    (h : (stI I F dp sc st l H).All (AfterS Φ g L rest ρ s Q)) : wpAny (model prog w) A (exec st (envOf qual sc L f cdv)) Q E s := by
  have hint : interactive (envOf qual sc L f cdv) = false := by
    show (sc.kind == .module && _) = false
    rw [X.kind]; rfl
  have hks : (sc.kind == .class || (sc.kind == .module && L != mainGlobals)) = false := by rw [X.kind]; rfl
  cases st with
  | Pass p =>
    exact wpAny_Pass (h ρ m _ s.heap s.toks (List.prefix_refl _) Fm R C rfl)
  | Return eo p =>
    cases eo with
    | some e =>
      refine wpAny_Return_some (ev_then S X Fm R C h fun r ρ' v h' tk hr p' F' R' C' r' => ?_)
      exact hr ρ' m _ h' tk p' F' R' C' ⟨v, rfl, r'⟩
    | none =>
      exact wpAny_Return_none (h ρ m _ s.heap s.toks (List.prefix_refl _) Fm R C ⟨_, rfl, rfl⟩)
  | Expr e p =>
    unfold stI at h
    dsimp only at h
    split at h
    · rename_i hp
      rw [exec_Expr _ _ _ hint (swaps_of hp)]
      refine wpAny_bind (wpAny_standAt (wpAny_bind (wpAny_mono (ev_then (Q := fun _ s' => Q .next s') S X Fm R C h fun r ρ' v h' tk hr p' F' R' C' r' => hr ρ' m _ h' tk p' F' R' C' rfl) (fun v s' hv => wpAny_dropValue hv) fun _ _ z => z)))
    · exact h.elim
  | Assign ts e p =>
    unfold stI at h
    dsimp only at h
    split at h
    · rename_i t
      cases t with
      | Name x xp =>
        unfold asgS at h
        dsimp only at h
        split at h
        · rename_i hp hl
          refine wpAny_Assign_Name (ev_then S X Fm R C h fun r ρ' v h' tk hr p' F' R' C' r' => ?_) (swaps_of hp)
          refine wpAny_storeName_local hl F'.ns (fun h2 hn hs => ?_) hks
          exact hr ρ' _ _ h2 _ p' (F'.set hn hs) (R'.set r') (C'.set hs) rfl
        · exact h.elim
      | Attribute o attr ap =>
        cases o with
        | Name x xp =>
          unfold asgS at h
          dsimp only at h
          cases hp : plainE e with
          | true =>
            rw [hp] at h
            refine plainObj_wpAny_Assign_Attribute (ev_then S X Fm R C h fun r ρ' v h' tk hr p' F' R' C' r' => ?_) (swaps_of hp)
            refine ev_then S X F' R' C' hr fun q ρ2 v2 h2 tk2 hq p2 F2 R2 C2 r2 => ?_
            exact setA_ok O X.X F2 C2 r2 (r'.mono p2) (T.all_mono (fun H3 h3 h' tk F3 C3 => h3 ρ2 m _ h' tk (pre_trans p' p2) F3 R2 C3 rfl) (T.all_bind hq))
          | false => rw [hp] at h; exact False.elim h
        | _ => exact False.elim h
      | Subscript o i sp =>
        unfold asgS at h
        dsimp only at h
        split at h
        · rename_i hp
          refine wpAny_Assign_Subscript (ev_then S X Fm R C h fun r ρ' v h' tk hr p' F' R' C' r' => ?_) (swaps_of hp)
          refine ev_then S X F' R' C' hr fun q ρ2 v2 h2 tk2 hq p2 F2 R2 C2 r2 => ?_
          refine ev_then S X F2 R2 C2 hq fun z ρ3 v3 h3 tk3 hz p3 F3 R3 C3 r3 => ?_
          exact setI_ok F3 C3 (r2.mono p3) r3 (r'.mono (pre_trans p2 p3)) (T.all_mono (fun H4 h4 h' tk F4 C4 => h4 ρ3 m _ h' tk (pre_trans p' (pre_trans p2 p3)) F4 R3 C4 rfl) (T.all_bind hz))
        · exact h.elim
      | Tuple us q1 q2 =>
        unfold asgS at h
        dsimp only at h
        split at h
        · rename_i hc
          simp only [Bool.and_eq_true] at hc
          obtain ⟨⟨hp, hw⟩, hs⟩ := hc
          refine Assign_Tuple (ev_then S X Fm R C h fun r ρ' v h' tk hr p' F' R' C' r' => ?_) (sole_of hp) (swapped_of hw)
          split at hr
          · rename_i a e
            rw [e] at r'
            obtain ⟨ad, ha, rfl⟩ := r'
            split at hr
            · rename_i ys hx
              obtain ⟨ad', ob, ha', ho, us, n, rfl, hi⟩ := C'.get hx
              rw [ha] at ha'; cases ha'
              have hz := T.all_bind hr
              have hlen : us.size = ys.length := by rw [← Array.length_toList]; exact hi.length
              refine wpAny_assign_Tuple (items := us) X.handled ⟨_, ho, rfl, n, rfl⟩ ((eachAll hs).1.trans ((asgs_len hz).trans hlen.symm)) (eachAll hs).2 fun h2 k2 => ?_
              have k3 : ∀ b o, h'.get? b = some o → h2.get? b = some o := fun b o e => k2 b o (Nat.ne_of_lt (Heap.lt_size e)) e
              refine asgs_ok (s := { s with heap := h2, toks := tk }) O S X hs (frKeeps F' k3) R' (C'.keeps k3) hi (T.all_mono (fun q hq ρ3 m3 h3 tk3 p3 F3 R3 C3 => ?_) hz)
              exact hq ρ3 m3 _ h3 tk3 (pre_trans p' p3) F3 R3 C3 rfl
            · exact hr.elim
          · exact hr.elim
        · exact h.elim
      | _ => exact False.elim h
    · exact h.elim
  | AugAssign t op e p =>
    replace h : (augS I F dp sc t op e l H).All _ := h
    cases t with
    | Name x xp =>
      unfold augS at h
      dsimp only at h
      split at h
      · rename_i hl
        split at h
        · rename_i a e
          refine wpAny_AugAssign_Name (loadL X Fm R hl e fun u ru => ?_)
          refine ev_then S X Fm R C h fun r ρ' v h' tk hr p' F' R' C' r' => ?_
          refine (binI_ok F' C' (ru.mono p') r' (T.all_mono (fun z hz ρ2 v2 h2 tk2 p2 F2 C2 r2 => ?_) (T.all_bind hr))).2 ⟨_, rfl⟩
          refine wpAny_storeName_local hl F2.ns (fun h3 hn hs => ?_) hks
          exact hz ρ2 _ _ h3 _ (pre_trans p' p2) (F2.set hn hs) ((R'.mono p2).set r2) (C2.set hs) rfl
        · rename_i a e
          refine wpAny_AugAssign_Name (loadL X Fm R hl e fun u ru => ?_)
          refine ev_then S X Fm R C h fun r ρ' v h' tk hr p' F' R' C' r' => ?_
          refine extI_ok (s := { s with heap := h', toks := tk }) F' C' (ru.mono p') r' (T.all_mono (fun H' hz h2 F2 C2 => ?_) (T.all_bind hr))
          refine wpAny_storeName_local hl F2.ns (fun h3 hn hs => ?_) hks
          exact hz ρ' _ _ h3 _ p' (F2.set hn hs) (R'.set (ru.mono p')) (C2.set hs) rfl
        · exact h.elim
      · exact h.elim
    | Attribute o attr ap =>
      cases o with
      | Name x xp =>
        refine wpAny_AugAssign_AttributeAny (ev_then S X Fm R C h fun o ρ' ov h' tk hr p' F' R' C' r' => ?_)
        refine getA_ok O X.X F' C' r' (T.all_mono (fun a ha ρ2 v2 h2 tk2 p2 F2 C2 r2 => ?_) (T.all_bind hr))
        split at ha
        · rename_i a' e
          rw [e] at r2
          refine ev_then S X F2 (R'.mono p2) C2 ha fun r ρ3 v3 h3 tk3 hz p3 F3 R3 C3 r3 => ?_
          refine (binI_ok F3 C3 (r2.mono p3) r3 (T.all_mono (fun q hq ρ4 v4 h4 tk4 p4 F4 C4 r4 => ?_) (T.all_bind hz))).2 ⟨_, rfl⟩
          exact setA_ok O X.X F4 C4 (r'.mono (pre_trans p2 (pre_trans p3 p4))) r4 (T.all_mono (fun H5 h5 h' tk F5 C5 => h5 ρ4 m _ h' tk (pre_trans p' (pre_trans p2 (pre_trans p3 p4))) F5 (R3.mono p4) C5 rfl) (T.all_bind hq))
        · exact ha.elim
      | _ => exact False.elim h
    | _ => exact False.elim h
  | If t b o p =>
    refine wpAny_If (tst_ok S X Fm R C (T.all_mono (fun r hr ρ' h' tk p' F' R' C' => ?_) (T.all_bind h)))
    have go : ∀ {ss : List Stmt}, (F.xs dp sc ss l r.2).All (AfterS Φ g L rest ρ s Q) → wpAny (model prog w) A (execs ss (envOf qual sc L f cdv)) Q E { s with heap := h', toks := tk } := fun hx =>
      S.xs X F' R' C' (T.all_mono (fun z hz ρ2 m2 fl h2 tk2 p2 F2 R2 C2 r2 => hz ρ2 m2 fl h2 tk2 (pre_trans p' p2) F2 R2 C2 r2) hx)
    cases hc : r.1 with
    | true => simp only [if_true]; exact go (hr.1 hc)
    | false => simp only [Bool.false_eq_true, if_false]; exact go (hr.2 hc)
  | Break p =>
    exact wpAny_Break (h ρ m _ s.heap s.toks (List.prefix_refl _) Fm R C rfl)
  | For t e body els p =>
    cases els with
    | nil =>
      replace h : (forS I F dp sc t e body l H).All _ := h
      cases t with
      | Name x xp =>
        replace h : (forNm I F dp sc x e body l H).All _ := h
        unfold forNm at h
        split at h
        · exact h.elim
        · rename_i hns
          split at h
          · split at h
            · rename_i hc
              rw [Bool.and_eq_true] at hc
              refine wpAny_For (callTy1 O S X Fm R C hc.1 hc.2 h fun r ρ' v h' tk hr p' F' R' C' r' => ?_) (folded_of hns)
              split at hr
              · rename_i i e
                rw [e] at r'
                obtain ⟨t, rfl⟩ := r'
                obtain ⟨hc2, hr⟩ := T.all_need hr
                simp only [Bool.and_eq_true, decide_eq_true_eq] at hc2
                refine call_range_1 (wpAny_pyIter_range (IsRange.new ..) ?_ ?_)
                · exact small_of hc2.1 hc2.2
                · obtain ⟨C1, F1⟩ := hideNew C' F' { cls := .type "range", data := .fields #[.int 0 tk, .int i t, .int 1 (tk + 1)] } rfl
                  rw [size_of hc2.1]
                  obtain ⟨C2, F2⟩ := hideNew C1.unhide F1 { cls := .type "range_iterator", data := .fields #[rawInt 0, rawInt ((i.toNat : Nat) : Int), rawInt 1] } rfl
                  refine forN_ok S X (nexts_range X.handled (n := i.toNat)) ?_ F2 R' C2 (T.all_mono (fun z hz ρ3 m3 fl h3 tk3 p3 F3 R3 C3 r3 => hz ρ3 m3 fl h3 tk3 (pre_trans p' p3) F3 R3 C3 r3) hr)
                  show _ = _
                  rw [Int.natCast_zero, Int.sub_zero]
              · exact hr.elim
            · exact h.elim
          · refine wpAny_For (ev_then S X Fm R C h fun r ρ' v h' tk hr p' F' R' C' r' => ?_) (folded_of hns)
            split at hr
            · rename_i a e
              rw [e] at r'
              obtain ⟨ad, ha, rfl⟩ := r'
              cases hx : r.2[a]? with
              | none => unfold forN nxList at hr; rw [hx] at hr; exact hr.elim
              | some ao =>
                cases ao with
                | nums xs =>
                  obtain ⟨ad', ob, ha', ho, us, n, rfl, hi⟩ := C'.get hx
                  rw [ha] at ha'; cases ha'
                  refine wpAny_pyIter_list (items := us) ⟨_, ho, rfl, n, rfl⟩ ?_
                  obtain ⟨C2, F2⟩ := hideNew C' F' { cls := .type "list_iterator", data := .fields #[.ref ad, .int 0 0] } rfl
                  exact forN_ok S X (nexts_list X.handled ha) ⟨rfl, rfl⟩ F2 R' C2 (T.all_mono (fun z hz ρ3 m3 fl h3 tk3 p3 F3 R3 C3 r3 => hz ρ3 m3 fl h3 tk3 (pre_trans p' p3) F3 R3 C3 r3) hr)
                | _ => unfold forN nxList at hr; rw [hx] at hr; exact hr.elim
            · exact hr.elim
      | Tuple us q1 q2 =>
        unfold forS at h
        dsimp only at h
        split at h
        · unfold forTp at h
          split at h
          · split at h
            · rename_i hc
              rw [Bool.and_eq_true] at hc
              refine wpAny_For (callTy1 O S X Fm R C hc.1 hc.2 h fun r ρ' v h' tk hr p' F' R' C' r' => ?_) (folded_of rfl)
              split at hr
              · rename_i a e
                rw [e] at r'
                obtain ⟨ad, ha, rfl⟩ := r'
                cases hx : r.2[a]? with
                | none => unfold forE nxList at hr; rw [hx] at hr; exact hr.elim
                | some ao =>
                  cases ao with
                  | nums xs =>
                    obtain ⟨ad', ob, ha', ho, us, n, rfl, hi⟩ := C'.get hx
                    rw [ha] at ha'; cases ha'
                    refine call_enumerate_list (items := us) ⟨_, ho, rfl, n, rfl⟩ fun h1 en1 il1 sz1 kp1 => ?_
                    obtain ⟨oi, i1, i2, i3⟩ := il1
                    have C1 := C'.keeps kp1
                    have F1 := frKeeps F' kp1
                    have fresh : ∀ {b : Addr}, h'.objs.size ≤ b → h1.get? b ≠ none → b ≠ L ∧ g.get? b = none ∧ b ∉ ρ' ∧ b ∉ rest.map (·.1) := by
                      intro b hb _
                      obtain ⟨c, N, nd, len, rp⟩ := C'
                      refine ⟨Nat.ne_of_gt (Nat.lt_of_lt_of_le F'.ns.lt hb), ?_, fun z => ?_, fun z => ?_⟩
                      · cases hq : g.get? b with
                        | none => rfl
                        | some o' => exact absurd (Heap.lt_size (F'.keep _ _ hq)) (Nat.not_lt.mpr hb)
                      · exact absurd (Heap.lt_size (N _ (List.mem_append_left _ (List.mem_map.mpr ⟨_, z, rfl⟩))).1) (Nat.not_lt.mpr hb)
                      · obtain ⟨p, hp, e⟩ := List.mem_map.mp z
                        have := Heap.lt_size (N _ (List.mem_append_right _ hp)).1
                        rw [e] at this
                        exact absurd this (Nat.not_lt.mpr hb)
                    obtain ⟨u1, u2, u3, u4⟩ := fresh (Nat.le_refl _) (by rw [i1]; simp)
                    obtain ⟨v1, v2, v3, v4⟩ := fresh (Nat.le_succ _) (by rw [en1]; simp)
                    have C2 := Cf.hide (Cf.hide C1 i1 u2 u1 u3 u4) en1 v2 v1 v3 (fun z => (List.mem_cons.mp z).elim (fun z => absurd z (Nat.succ_ne_self _)) v4)
                    refine wpAny_pyIter_enum en1 ?_
                    exact forE_ok S X ha rfl ⟨i2, i3⟩ F1 R' C2 (T.all_mono (fun z hz ρ3 m3 fl h3 tk3 p3 F3 R3 C3 r3 => hz ρ3 m3 fl h3 tk3 (pre_trans p' p3) F3 R3 C3 r3) hr)
                  | _ => unfold forE nxList at hr; rw [hx] at hr; exact hr.elim
              · exact hr.elim
            · exact h.elim
          · exact h.elim
        · exact h.elim
      | _ => exact False.elim h
    | cons _ _ => exact False.elim h
  | _ => exact False.elim h
theorem xsI_ok (O : KOk K Φ I) (S : Sound prog w K Φ F) : SXs prog w K Φ (stepF I F) := by
  intro A₀ A base g outer L qual sc f cdv dp E s rest ρ H m l ss Q X Fm R C h
  change (xsI I F dp sc ss l H).All _ at h
  unfold xsI at h
  split at h
  · exact wpAny_execs_nil (h ρ m _ s.heap s.toks (List.prefix_refl _) Fm R C rfl)
  · refine wpAny_execs_cons (stI_ok O S X Fm R C (T.all_mono (fun r hr ρ' m' fl h' tk p' F' R' C' r' => ?_) (T.all_bind h)))
    obtain ⟨r1, l1, H1⟩ := r
    cases r1 with
    | next =>
      obtain rfl : fl = _ := r'
      exact S.xs X F' R' C' (T.all_mono (fun z hz ρ2 m2 fl h2 tk2 p2 F2 R2 C2 r2 => hz ρ2 m2 fl h2 tk2 (pre_trans p' p2) F2 R2 C2 r2) hr)
    | ret v =>
      obtain ⟨u, rfl, ru⟩ := r'
      exact hr ρ' m' _ h' tk p' F' R' C' ⟨u, rfl, ru⟩
    | brk =>
      obtain rfl : fl = _ := r'
      exact hr ρ' m' _ h' tk p' F' R' C' rfl
    | cont =>
      obtain rfl : fl = _ := r'
      exact hr ρ' m' _ h' tk p' F' R' C' rfl
theorem clI_ok (O : KOk K Φ I) (S : Sound prog w K Φ F) : SCl prog w K Φ (stepF I F) := by
  intro A₀ A base g outer L qual sc f cdv dp E s rest ρ H m a vs xs Q X Fm C R h
  change (clI I F dp a xs H).All _ at h
  unfold clI at h
  split at h
  · exact h.elim
  · rename_i dp
    split at h
    · rename_i r hr
      split at h
      · rename_i hl
        have hl := of_decide_eq_true hl
        obtain ⟨dd, sl, name, qual', params, dV, kV, doc, pm, an, cdv', ct, e, hcd, hp, rfl, nd, hloc, hco, hgen, hk, hcell⟩ := O.fns _ _ hr
        obtain ⟨c, N, nod, len, rp⟩ := id C
        have hb := T.all_bind h
        have hlv : r.names.length = vs.length := by rw [R.length]; exact hl
        refine callX_plain (cl := []) X.below Fm N X.lim X.frames rfl X.kind ((X.X.keeps Fm.keep) _ _ e) rfl (codeRec_of (X.X.keeps Fm.keep) hcd) (by have := X.room; lia)
          (BindsTo.of_eq (bind_plain hp rfl hlv nd)) (fun y hy => hloc _ (List.of_mem_zip hy).1) (fun g' L' h₁ FG F' N' B' st _ => ?_) hcell hco hgen hk
        have X' : Fx K A (A.deeper (envOf qual' r.scope L' (Φ.fn a) cdv')) base g' (envOf qual sc L f cdv :: outer) L' qual' r.scope (Φ.fn a) cdv' dp :=
          ⟨B', by show A.frames.map _ = _; rw [X.frames]; rfl, X.X.keeps st, X.lim.keeps st, by show A.depth + 1 + dp < _; have := X.room; lia, hk, X.handled, by show A.units + 3 + 4 * dp + 100 < cLine; have := X.units; lia⟩
        refine S.xs X' F' (rest := rest) (ρ := ρ) (H := H) (l := (r.names.zip xs).reverse) (fun x y ey => (RepP.zip R).reverse.lookup y ey) ⟨c, N', nod, len, rp⟩ (T.all_mono (fun z hz ρ2 m2 fl h2 tk2 p2 F2 R2 C2 r2 => ?_) hb)
        have fin : ∀ (v : Value) (x : AV), RepV Φ ρ2 v x → (After Φ g L rest ρ m s Q (sweep H.length x z.2.2)) → LeaveK g L m g' (fun r s' => match r with | .ok (.ret v) => Q v s' | .ok _ => False | .error e => E e s') v { s with heap := h2, toks := tk2 } := by
          intro v x rv hx
          obtain ⟨c2, N2, nod2, len2, rp2⟩ := id C2
          refine leaveK_ F2 N2 fun F3 N3 => ?_
          obtain ⟨ρ3, p3, C3, r3⟩ := sweep_ok (n := H.length) p2 len (⟨c2, N3, nod2, len2, rp2⟩ : Cf Φ g L rest h2 ρ2 z.2.2) rv
          exact hx ρ3 v h2 tk2 p3 F3 C3 r3
        obtain ⟨z1, z2, z3⟩ := z
        cases z1 with
        | next => obtain rfl : fl = _ := r2; exact fin .none .none rfl hz
        | ret x => obtain ⟨v, rfl, rv⟩ := r2; exact fin v x rv hz
        | brk => exact hz.elim
        | cont => exact hz.elim
      · exact h.elim
    · exact h.elim
theorem sound_fail : Sound prog w K Φ failF :=
  ⟨fun _ _ _ _ h => h.elim, fun _ _ _ _ h => h.elim, fun _ _ _ _ h => h.elim⟩
theorem sound (O : KOk K Φ I) : ∀ n, Sound prog w K Φ (fns I n)
  | 0 => sound_fail
  | n + 1 => ⟨evI_ok O (sound O n), xsI_ok O (sound O n), clI_ok O (sound O n)⟩
end
end Mine
end
section
open PySem PySem.W PySem.Calls PyProof.Rows PySem.Builtin
namespace Mine
noncomputable def firstDef : Nat := 15
noncomputable def defCount : Nat := 199
noncomputable def clsTab : List (Str × CAttr) := [(Str.ofString "memory", CAttr.field), (Str.ofString "pc", CAttr.field), (Str.ofString "p", CAttr.field), (Str.ofString "a", CAttr.field), (Str.ofString "x", CAttr.field), (Str.ofString "y", CAttr.field), (Str.ofString "sp", CAttr.field), (Str.ofString "addrMask", CAttr.field), (Str.ofString "byteMask", CAttr.field), (Str.ofString "addcycles", CAttr.field), (Str.ofString "excycles", CAttr.field), (Str.ofString "processorCycles", CAttr.field), (Str.ofString "addrHighMask", CAttr.field), (Str.ofString "spBase", CAttr.field), (Str.ofString "start_pc", CAttr.field), (Str.ofString "name", CAttr.field), (Str.ofString "instruct", CAttr.lst 0), (Str.ofString "cycletime", CAttr.lst 1), (Str.ofString "extracycles", CAttr.lst 2), (Str.ofString "RESET", CAttr.int 65532), (Str.ofString "NMI", CAttr.int 65530), (Str.ofString "IRQ", CAttr.int 65534), (Str.ofString "NEGATIVE", CAttr.int 128), (Str.ofString "OVERFLOW", CAttr.int 64), (Str.ofString "UNUSED", CAttr.int 32), (Str.ofString "BREAK", CAttr.int 16), (Str.ofString "DECIMAL", CAttr.int 8), (Str.ofString "INTERRUPT", CAttr.int 4), (Str.ofString "ZERO", CAttr.int 2), (Str.ofString "CARRY", CAttr.int 1), (Str.ofString "BYTE_WIDTH", CAttr.int 8), (Str.ofString "ADDR_WIDTH", CAttr.int 16), (Str.ofString "__init__", CAttr.fn 0), (Str.ofString "step", CAttr.fn 1), (Str.ofString "reset", CAttr.fn 2), (Str.ofString "irq", CAttr.fn 3), (Str.ofString "nmi", CAttr.fn 4), (Str.ofString "ByteAt", CAttr.fn 5), (Str.ofString "WordAt", CAttr.fn 6), (Str.ofString "WrapAt", CAttr.fn 7), (Str.ofString "ProgramCounter", CAttr.fn 8), (Str.ofString "ImmediateByte", CAttr.fn 9), (Str.ofString "ZeroPageAddr", CAttr.fn 10), (Str.ofString "ZeroPageXAddr", CAttr.fn 11), (Str.ofString "ZeroPageYAddr", CAttr.fn 12), (Str.ofString "IndirectXAddr", CAttr.fn 13), (Str.ofString "IndirectYAddr", CAttr.fn 14), (Str.ofString "AbsoluteAddr", CAttr.fn 15), (Str.ofString "AbsoluteXAddr", CAttr.fn 16), (Str.ofString "AbsoluteYAddr", CAttr.fn 17), (Str.ofString "BranchRelAddr", CAttr.fn 18), (Str.ofString "stPush", CAttr.fn 19), (Str.ofString "stPop", CAttr.fn 20), (Str.ofString "stPushWord", CAttr.fn 21), (Str.ofString "stPopWord", CAttr.fn 22), (Str.ofString "FlagsNZ", CAttr.fn 23), (Str.ofString "opORA", CAttr.fn 24), (Str.ofString "opASL", CAttr.fn 25), (Str.ofString "opLSR", CAttr.fn 26), (Str.ofString "opBCL", CAttr.fn 27), (Str.ofString "opBST", CAttr.fn 28), (Str.ofString "opCLR", CAttr.fn 29), (Str.ofString "opSET", CAttr.fn 30), (Str.ofString "opAND", CAttr.fn 31), (Str.ofString "opBIT", CAttr.fn 32), (Str.ofString "opROL", CAttr.fn 33), (Str.ofString "opEOR", CAttr.fn 34), (Str.ofString "opADC", CAttr.fn 35), (Str.ofString "opROR", CAttr.fn 36), (Str.ofString "opSTA", CAttr.fn 37), (Str.ofString "opSTY", CAttr.fn 38), (Str.ofString "opSTX", CAttr.fn 39), (Str.ofString "opCMPR", CAttr.fn 40), (Str.ofString "opSBC", CAttr.fn 41), (Str.ofString "opDECR", CAttr.fn 42), (Str.ofString "opINCR", CAttr.fn 43), (Str.ofString "opLDA", CAttr.fn 44), (Str.ofString "opLDY", CAttr.fn 45), (Str.ofString "opLDX", CAttr.fn 46), (Str.ofString "inst_not_implemented", CAttr.fn 47), (Str.ofString "inst_0x00", CAttr.fn 48), (Str.ofString "inst_0x01", CAttr.fn 49), (Str.ofString "inst_0x05", CAttr.fn 50), (Str.ofString "inst_0x06", CAttr.fn 51), (Str.ofString "inst_0x08", CAttr.fn 52), (Str.ofString "inst_0x09", CAttr.fn 53), (Str.ofString "inst_0x0a", CAttr.fn 54), (Str.ofString "inst_0x0d", CAttr.fn 55), (Str.ofString "inst_0x0e", CAttr.fn 56), (Str.ofString "inst_0x10", CAttr.fn 57), (Str.ofString "inst_0x11", CAttr.fn 58), (Str.ofString "inst_0x15", CAttr.fn 59), (Str.ofString "inst_0x16", CAttr.fn 60), (Str.ofString "inst_0x18", CAttr.fn 61), (Str.ofString "inst_0x19", CAttr.fn 62), (Str.ofString "inst_0x1d", CAttr.fn 63), (Str.ofString "inst_0x1e", CAttr.fn 64), (Str.ofString "inst_0x20", CAttr.fn 65), (Str.ofString "inst_0x21", CAttr.fn 66), (Str.ofString "inst_0x24", CAttr.fn 67), (Str.ofString "inst_0x25", CAttr.fn 68), (Str.ofString "inst_0x26", CAttr.fn 69), (Str.ofString "inst_0x28", CAttr.fn 70), (Str.ofString "inst_0x29", CAttr.fn 71), (Str.ofString "inst_0x2a", CAttr.fn 72), (Str.ofString "inst_0x2c", CAttr.fn 73), (Str.ofString "inst_0x2d", CAttr.fn 74), (Str.ofString "inst_0x2e", CAttr.fn 75), (Str.ofString "inst_0x30", CAttr.fn 76), (Str.ofString "inst_0x31", CAttr.fn 77), (Str.ofString "inst_0x35", CAttr.fn 78), (Str.ofString "inst_0x36", CAttr.fn 79), (Str.ofString "inst_0x38", CAttr.fn 80), (Str.ofString "inst_0x39", CAttr.fn 81), (Str.ofString "inst_0x3d", CAttr.fn 82), (Str.ofString "inst_0x3e", CAttr.fn 83), (Str.ofString "inst_0x40", CAttr.fn 84), (Str.ofString "inst_0x41", CAttr.fn 85), (Str.ofString "inst_0x45", CAttr.fn 86), (Str.ofString "inst_0x46", CAttr.fn 87), (Str.ofString "inst_0x48", CAttr.fn 88), (Str.ofString "inst_0x49", CAttr.fn 89), (Str.ofString "inst_0x4a", CAttr.fn 90), (Str.ofString "inst_0x4c", CAttr.fn 91), (Str.ofString "inst_0x4d", CAttr.fn 92), (Str.ofString "inst_0x4e", CAttr.fn 93), (Str.ofString "inst_0x50", CAttr.fn 94), (Str.ofString "inst_0x51", CAttr.fn 95), (Str.ofString "inst_0x55", CAttr.fn 96), (Str.ofString "inst_0x56", CAttr.fn 97), (Str.ofString "inst_0x58", CAttr.fn 98), (Str.ofString "inst_0x59", CAttr.fn 99), (Str.ofString "inst_0x5d", CAttr.fn 100), (Str.ofString "inst_0x5e", CAttr.fn 101), (Str.ofString "inst_0x60", CAttr.fn 102), (Str.ofString "inst_0x61", CAttr.fn 103), (Str.ofString "inst_0x65", CAttr.fn 104), (Str.ofString "inst_0x66", CAttr.fn 105), (Str.ofString "inst_0x68", CAttr.fn 106), (Str.ofString "inst_0x69", CAttr.fn 107), (Str.ofString "inst_0x6a", CAttr.fn 108), (Str.ofString "inst_0x6c", CAttr.fn 109), (Str.ofString "inst_0x6d", CAttr.fn 110), (Str.ofString "inst_0x6e", CAttr.fn 111), (Str.ofString "inst_0x70", CAttr.fn 112), (Str.ofString "inst_0x71", CAttr.fn 113), (Str.ofString "inst_0x75", CAttr.fn 114), (Str.ofString "inst_0x76", CAttr.fn 115), (Str.ofString "inst_0x78", CAttr.fn 116), (Str.ofString "inst_0x79", CAttr.fn 117), (Str.ofString "inst_0x7d", CAttr.fn 118), (Str.ofString "inst_0x7e", CAttr.fn 119), (Str.ofString "inst_0x81", CAttr.fn 120), (Str.ofString "inst_0x84", CAttr.fn 121), (Str.ofString "inst_0x85", CAttr.fn 122), (Str.ofString "inst_0x86", CAttr.fn 123), (Str.ofString "inst_0x88", CAttr.fn 124), (Str.ofString "inst_0x8a", CAttr.fn 125), (Str.ofString "inst_0x8c", CAttr.fn 126), (Str.ofString "inst_0x8d", CAttr.fn 127), (Str.ofString "inst_0x8e", CAttr.fn 128), (Str.ofString "inst_0x90", CAttr.fn 129), (Str.ofString "inst_0x91", CAttr.fn 130), (Str.ofString "inst_0x94", CAttr.fn 131), (Str.ofString "inst_0x95", CAttr.fn 132), (Str.ofString "inst_0x96", CAttr.fn 133), (Str.ofString "inst_0x98", CAttr.fn 134), (Str.ofString "inst_0x99", CAttr.fn 135), (Str.ofString "inst_0x9a", CAttr.fn 136), (Str.ofString "inst_0x9d", CAttr.fn 137), (Str.ofString "inst_0xa0", CAttr.fn 138), (Str.ofString "inst_0xa1", CAttr.fn 139), (Str.ofString "inst_0xa2", CAttr.fn 140), (Str.ofString "inst_0xa4", CAttr.fn 141), (Str.ofString "inst_0xa5", CAttr.fn 142), (Str.ofString "inst_0xa6", CAttr.fn 143), (Str.ofString "inst_0xa8", CAttr.fn 144), (Str.ofString "inst_0xa9", CAttr.fn 145), (Str.ofString "inst_0xaa", CAttr.fn 146), (Str.ofString "inst_0xac", CAttr.fn 147), (Str.ofString "inst_0xad", CAttr.fn 148), (Str.ofString "inst_0xae", CAttr.fn 149), (Str.ofString "inst_0xb0", CAttr.fn 150), (Str.ofString "inst_0xb1", CAttr.fn 151), (Str.ofString "inst_0xb4", CAttr.fn 152), (Str.ofString "inst_0xb5", CAttr.fn 153), (Str.ofString "inst_0xb6", CAttr.fn 154), (Str.ofString "inst_0xb8", CAttr.fn 155), (Str.ofString "inst_0xb9", CAttr.fn 156), (Str.ofString "inst_0xba", CAttr.fn 157), (Str.ofString "inst_0xbc", CAttr.fn 158), (Str.ofString "inst_0xbd", CAttr.fn 159), (Str.ofString "inst_0xbe", CAttr.fn 160), (Str.ofString "inst_0xc0", CAttr.fn 161), (Str.ofString "inst_0xc1", CAttr.fn 162), (Str.ofString "inst_0xc4", CAttr.fn 163), (Str.ofString "inst_0xc5", CAttr.fn 164), (Str.ofString "inst_0xc6", CAttr.fn 165), (Str.ofString "inst_0xc8", CAttr.fn 166), (Str.ofString "inst_0xc9", CAttr.fn 167), (Str.ofString "inst_0xca", CAttr.fn 168), (Str.ofString "inst_0xcc", CAttr.fn 169), (Str.ofString "inst_0xcd", CAttr.fn 170), (Str.ofString "inst_0xce", CAttr.fn 171), (Str.ofString "inst_0xd0", CAttr.fn 172), (Str.ofString "inst_0xd1", CAttr.fn 173), (Str.ofString "inst_0xd5", CAttr.fn 174), (Str.ofString "inst_0xd6", CAttr.fn 175), (Str.ofString "inst_0xd8", CAttr.fn 176), (Str.ofString "inst_0xd9", CAttr.fn 177), (Str.ofString "inst_0xdd", CAttr.fn 178), (Str.ofString "inst_0xde", CAttr.fn 179), (Str.ofString "inst_0xe0", CAttr.fn 180), (Str.ofString "inst_0xe1", CAttr.fn 181), (Str.ofString "inst_0xe4", CAttr.fn 182), (Str.ofString "inst_0xe5", CAttr.fn 183), (Str.ofString "inst_0xe6", CAttr.fn 184), (Str.ofString "inst_0xe8", CAttr.fn 185), (Str.ofString "inst_0xe9", CAttr.fn 186), (Str.ofString "inst_0xea", CAttr.fn 187), (Str.ofString "inst_0xec", CAttr.fn 188), (Str.ofString "inst_0xed", CAttr.fn 189), (Str.ofString "inst_0xee", CAttr.fn 190), (Str.ofString "inst_0xf0", CAttr.fn 191), (Str.ofString "inst_0xf1", CAttr.fn 192), (Str.ofString "inst_0xf5", CAttr.fn 193), (Str.ofString "inst_0xf6", CAttr.fn 194), (Str.ofString "inst_0xf8", CAttr.fn 195), (Str.ofString "inst_0xf9", CAttr.fn 196), (Str.ofString "inst_0xfd", CAttr.fn 197), (Str.ofString "inst_0xfe", CAttr.fn 198)]
noncomputable def lst0 : List LIt := [LIt.fn 48, LIt.fn 49, LIt.fn 47, LIt.fn 47, LIt.fn 47, LIt.fn 50, LIt.fn 51, LIt.fn 47, LIt.fn 52, LIt.fn 53, LIt.fn 54, LIt.fn 47, LIt.fn 47, LIt.fn 55, LIt.fn 56, LIt.fn 47, LIt.fn 57, LIt.fn 58, LIt.fn 47, LIt.fn 47, LIt.fn 47, LIt.fn 59, LIt.fn 60, LIt.fn 47, LIt.fn 61, LIt.fn 62, LIt.fn 47, LIt.fn 47, LIt.fn 47, LIt.fn 63, LIt.fn 64, LIt.fn 47, LIt.fn 65, LIt.fn 66, LIt.fn 47, LIt.fn 47, LIt.fn 67, LIt.fn 68, LIt.fn 69, LIt.fn 47, LIt.fn 70, LIt.fn 71, LIt.fn 72, LIt.fn 47, LIt.fn 73, LIt.fn 74, LIt.fn 75, LIt.fn 47, LIt.fn 76, LIt.fn 77, LIt.fn 47, LIt.fn 47, LIt.fn 47, LIt.fn 78, LIt.fn 79, LIt.fn 47, LIt.fn 80, LIt.fn 81, LIt.fn 47, LIt.fn 47, LIt.fn 47, LIt.fn 82, LIt.fn 83, LIt.fn 47, LIt.fn 84, LIt.fn 85, LIt.fn 47, LIt.fn 47, LIt.fn 47, LIt.fn 86, LIt.fn 87, LIt.fn 47, LIt.fn 88, LIt.fn 89, LIt.fn 90, LIt.fn 47, LIt.fn 91, LIt.fn 92, LIt.fn 93, LIt.fn 47, LIt.fn 94, LIt.fn 95, LIt.fn 47, LIt.fn 47, LIt.fn 47, LIt.fn 96, LIt.fn 97, LIt.fn 47, LIt.fn 98, LIt.fn 99, LIt.fn 47, LIt.fn 47, LIt.fn 47, LIt.fn 100, LIt.fn 101, LIt.fn 47, LIt.fn 102, LIt.fn 103, LIt.fn 47, LIt.fn 47, LIt.fn 47, LIt.fn 104, LIt.fn 105, LIt.fn 47, LIt.fn 106, LIt.fn 107, LIt.fn 108, LIt.fn 47, LIt.fn 109, LIt.fn 110, LIt.fn 111, LIt.fn 47, LIt.fn 112, LIt.fn 113, LIt.fn 47, LIt.fn 47, LIt.fn 47, LIt.fn 114, LIt.fn 115, LIt.fn 47, LIt.fn 116, LIt.fn 117, LIt.fn 47, LIt.fn 47, LIt.fn 47, LIt.fn 118, LIt.fn 119, LIt.fn 47, LIt.fn 47, LIt.fn 120, LIt.fn 47, LIt.fn 47, LIt.fn 121, LIt.fn 122, LIt.fn 123, LIt.fn 47, LIt.fn 124, LIt.fn 47, LIt.fn 125, LIt.fn 47, LIt.fn 126, LIt.fn 127, LIt.fn 128, LIt.fn 47, LIt.fn 129, LIt.fn 130, LIt.fn 47, LIt.fn 47, LIt.fn 131, LIt.fn 132, LIt.fn 133, LIt.fn 47, LIt.fn 134, LIt.fn 135, LIt.fn 136, LIt.fn 47, LIt.fn 47, LIt.fn 137, LIt.fn 47, LIt.fn 47, LIt.fn 138, LIt.fn 139, LIt.fn 140, LIt.fn 47, LIt.fn 141, LIt.fn 142, LIt.fn 143, LIt.fn 47, LIt.fn 144, LIt.fn 145, LIt.fn 146, LIt.fn 47, LIt.fn 147, LIt.fn 148, LIt.fn 149, LIt.fn 47, LIt.fn 150, LIt.fn 151, LIt.fn 47, LIt.fn 47, LIt.fn 152, LIt.fn 153, LIt.fn 154, LIt.fn 47, LIt.fn 155, LIt.fn 156, LIt.fn 157, LIt.fn 47, LIt.fn 158, LIt.fn 159, LIt.fn 160, LIt.fn 47, LIt.fn 161, LIt.fn 162, LIt.fn 47, LIt.fn 47, LIt.fn 163, LIt.fn 164, LIt.fn 165, LIt.fn 47, LIt.fn 166, LIt.fn 167, LIt.fn 168, LIt.fn 47, LIt.fn 169, LIt.fn 170, LIt.fn 171, LIt.fn 47, LIt.fn 172, LIt.fn 173, LIt.fn 47, LIt.fn 47, LIt.fn 47, LIt.fn 174, LIt.fn 175, LIt.fn 47, LIt.fn 176, LIt.fn 177, LIt.fn 47, LIt.fn 47, LIt.fn 47, LIt.fn 178, LIt.fn 179, LIt.fn 47, LIt.fn 180, LIt.fn 181, LIt.fn 47, LIt.fn 47, LIt.fn 182, LIt.fn 183, LIt.fn 184, LIt.fn 47, LIt.fn 185, LIt.fn 186, LIt.fn 187, LIt.fn 47, LIt.fn 188, LIt.fn 189, LIt.fn 190, LIt.fn 47, LIt.fn 191, LIt.fn 192, LIt.fn 47, LIt.fn 47, LIt.fn 47, LIt.fn 193, LIt.fn 194, LIt.fn 47, LIt.fn 195, LIt.fn 196, LIt.fn 47, LIt.fn 47, LIt.fn 47, LIt.fn 197, LIt.fn 198, LIt.fn 47]
noncomputable def lst1 : List LIt := [LIt.int 7, LIt.int 6, LIt.int 0, LIt.int 0, LIt.int 0, LIt.int 3, LIt.int 5, LIt.int 0, LIt.int 3, LIt.int 2, LIt.int 2, LIt.int 0, LIt.int 0, LIt.int 4, LIt.int 6, LIt.int 0, LIt.int 2, LIt.int 5, LIt.int 0, LIt.int 0, LIt.int 0, LIt.int 4, LIt.int 6, LIt.int 0, LIt.int 2, LIt.int 4, LIt.int 0, LIt.int 0, LIt.int 0, LIt.int 4, LIt.int 7, LIt.int 0, LIt.int 6, LIt.int 6, LIt.int 0, LIt.int 0, LIt.int 3, LIt.int 3, LIt.int 5, LIt.int 0, LIt.int 4, LIt.int 2, LIt.int 2, LIt.int 0, LIt.int 4, LIt.int 4, LIt.int 6, LIt.int 0, LIt.int 2, LIt.int 5, LIt.int 0, LIt.int 0, LIt.int 0, LIt.int 4, LIt.int 6, LIt.int 0, LIt.int 2, LIt.int 4, LIt.int 0, LIt.int 0, LIt.int 0, LIt.int 4, LIt.int 7, LIt.int 0, LIt.int 6, LIt.int 6, LIt.int 0, LIt.int 0, LIt.int 0, LIt.int 3, LIt.int 5, LIt.int 0, LIt.int 3, LIt.int 2, LIt.int 2, LIt.int 0, LIt.int 3, LIt.int 4, LIt.int 6, LIt.int 0, LIt.int 2, LIt.int 5, LIt.int 0, LIt.int 0, LIt.int 0, LIt.int 4, LIt.int 6, LIt.int 0, LIt.int 2, LIt.int 4, LIt.int 0, LIt.int 0, LIt.int 0, LIt.int 4, LIt.int 7, LIt.int 0, LIt.int 6, LIt.int 6, LIt.int 0, LIt.int 0, LIt.int 0, LIt.int 3, LIt.int 5, LIt.int 0, LIt.int 4, LIt.int 2, LIt.int 2, LIt.int 0, LIt.int 5, LIt.int 4, LIt.int 6, LIt.int 0, LIt.int 2, LIt.int 5, LIt.int 0, LIt.int 0, LIt.int 0, LIt.int 4, LIt.int 6, LIt.int 0, LIt.int 2, LIt.int 4, LIt.int 0, LIt.int 0, LIt.int 0, LIt.int 4, LIt.int 7, LIt.int 0, LIt.int 0, LIt.int 6, LIt.int 0, LIt.int 0, LIt.int 3, LIt.int 3, LIt.int 3, LIt.int 0, LIt.int 2, LIt.int 0, LIt.int 2, LIt.int 0, LIt.int 4, LIt.int 4, LIt.int 4, LIt.int 0, LIt.int 2, LIt.int 6, LIt.int 0, LIt.int 0, LIt.int 4, LIt.int 4, LIt.int 4, LIt.int 0, LIt.int 2, LIt.int 5, LIt.int 2, LIt.int 0, LIt.int 0, LIt.int 5, LIt.int 0, LIt.int 0, LIt.int 2, LIt.int 6, LIt.int 2, LIt.int 0, LIt.int 3, LIt.int 3, LIt.int 3, LIt.int 0, LIt.int 2, LIt.int 2, LIt.int 2, LIt.int 0, LIt.int 4, LIt.int 4, LIt.int 4, LIt.int 0, LIt.int 2, LIt.int 5, LIt.int 0, LIt.int 0, LIt.int 4, LIt.int 4, LIt.int 4, LIt.int 0, LIt.int 2, LIt.int 4, LIt.int 2, LIt.int 0, LIt.int 4, LIt.int 4, LIt.int 4, LIt.int 0, LIt.int 2, LIt.int 6, LIt.int 0, LIt.int 0, LIt.int 3, LIt.int 3, LIt.int 5, LIt.int 0, LIt.int 2, LIt.int 2, LIt.int 2, LIt.int 0, LIt.int 4, LIt.int 4, LIt.int 3, LIt.int 0, LIt.int 2, LIt.int 5, LIt.int 0, LIt.int 0, LIt.int 0, LIt.int 4, LIt.int 6, LIt.int 0, LIt.int 2, LIt.int 4, LIt.int 0, LIt.int 0, LIt.int 0, LIt.int 4, LIt.int 7, LIt.int 0, LIt.int 2, LIt.int 6, LIt.int 0, LIt.int 0, LIt.int 3, LIt.int 3, LIt.int 5, LIt.int 0, LIt.int 2, LIt.int 2, LIt.int 2, LIt.int 0, LIt.int 4, LIt.int 4, LIt.int 6, LIt.int 0, LIt.int 2, LIt.int 5, LIt.int 0, LIt.int 0, LIt.int 0, LIt.int 4, LIt.int 6, LIt.int 0, LIt.int 2, LIt.int 4, LIt.int 0, LIt.int 0, LIt.int 0, LIt.int 4, LIt.int 7, LIt.int 0]
noncomputable def lst2 : List LIt := [LIt.int 0, LIt.int 0, LIt.int 0, LIt.int 0, LIt.int 0, LIt.int 0, LIt.int 0, LIt.int 0, LIt.int 0, LIt.int 0, LIt.int 0, LIt.int 0, LIt.int 0, LIt.int 0, LIt.int 0, LIt.int 0, LIt.int 2, LIt.int 1, LIt.int 0, LIt.int 0, LIt.int 0, LIt.int 0, LIt.int 0, LIt.int 0, LIt.int 0, LIt.int 1, LIt.int 0, LIt.int 0, LIt.int 0, LIt.int 1, LIt.int 0, LIt.int 0, LIt.int 0, LIt.int 0, LIt.int 0, LIt.int 0, LIt.int 0, LIt.int 0, LIt.int 0, LIt.int 0, LIt.int 0, LIt.int 0, LIt.int 0, LIt.int 0, LIt.int 0, LIt.int 0, LIt.int 0, LIt.int 0, LIt.int 2, LIt.int 1, LIt.int 0, LIt.int 0, LIt.int 0, LIt.int 0, LIt.int 0, LIt.int 0, LIt.int 0, LIt.int 1, LIt.int 0, LIt.int 0, LIt.int 0, LIt.int 1, LIt.int 0, LIt.int 0, LIt.int 0, LIt.int 0, LIt.int 0, LIt.int 0, LIt.int 0, LIt.int 0, LIt.int 0, LIt.int 0, LIt.int 0, LIt.int 0, LIt.int 0, LIt.int 0, LIt.int 0, LIt.int 0, LIt.int 0, LIt.int 0, LIt.int 2, LIt.int 1, LIt.int 0, LIt.int 0, LIt.int 0, LIt.int 0, LIt.int 0, LIt.int 0, LIt.int 0, LIt.int 1, LIt.int 0, LIt.int 0, LIt.int 0, LIt.int 1, LIt.int 0, LIt.int 0, LIt.int 0, LIt.int 0, LIt.int 0, LIt.int 0, LIt.int 0, LIt.int 0, LIt.int 0, LIt.int 0, LIt.int 0, LIt.int 0, LIt.int 0, LIt.int 0, LIt.int 0, LIt.int 0, LIt.int 0, LIt.int 0, LIt.int 2, LIt.int 1, LIt.int 0, LIt.int 0, LIt.int 0, LIt.int 0, LIt.int 0, LIt.int 0, LIt.int 0, LIt.int 1, LIt.int 0, LIt.int 0, LIt.int 0, LIt.int 1, LIt.int 0, LIt.int 0, LIt.int 0, LIt.int 0, LIt.int 0, LIt.int 0, LIt.int 0, LIt.int 0, LIt.int 0, LIt.int 0, LIt.int 0, LIt.int 0, LIt.int 0, LIt.int 0, LIt.int 0, LIt.int 0, LIt.int 0, LIt.int 0, LIt.int 2, LIt.int 0, LIt.int 0, LIt.int 0, LIt.int 0, LIt.int 0, LIt.int 0, LIt.int 0, LIt.int 0, LIt.int 0, LIt.int 0, LIt.int 0, LIt.int 0, LIt.int 0, LIt.int 0, LIt.int 0, LIt.int 0, LIt.int 0, LIt.int 0, LIt.int 0, LIt.int 0, LIt.int 0, LIt.int 0, LIt.int 0, LIt.int 0, LIt.int 0, LIt.int 0, LIt.int 0, LIt.int 0, LIt.int 0, LIt.int 0, LIt.int 0, LIt.int 2, LIt.int 1, LIt.int 0, LIt.int 0, LIt.int 0, LIt.int 0, LIt.int 0, LIt.int 0, LIt.int 0, LIt.int 1, LIt.int 0, LIt.int 0, LIt.int 1, LIt.int 1, LIt.int 1, LIt.int 0, LIt.int 0, LIt.int 0, LIt.int 0, LIt.int 0, LIt.int 0, LIt.int 0, LIt.int 0, LIt.int 0, LIt.int 0, LIt.int 0, LIt.int 0, LIt.int 0, LIt.int 0, LIt.int 0, LIt.int 0, LIt.int 0, LIt.int 2, LIt.int 1, LIt.int 0, LIt.int 0, LIt.int 0, LIt.int 0, LIt.int 0, LIt.int 0, LIt.int 0, LIt.int 1, LIt.int 0, LIt.int 0, LIt.int 0, LIt.int 1, LIt.int 0, LIt.int 0, LIt.int 0, LIt.int 0, LIt.int 0, LIt.int 0, LIt.int 0, LIt.int 0, LIt.int 0, LIt.int 0, LIt.int 0, LIt.int 0, LIt.int 0, LIt.int 0, LIt.int 0, LIt.int 0, LIt.int 0, LIt.int 0, LIt.int 2, LIt.int 1, LIt.int 0, LIt.int 0, LIt.int 0, LIt.int 0, LIt.int 0, LIt.int 0, LIt.int 0, LIt.int 1, LIt.int 0, LIt.int 0, LIt.int 0, LIt.int 1, LIt.int 0, LIt.int 0]
noncomputable def fnOfStmt (s : Stmt) : Option FnR := (parsOf (dPars s)).map fun ns => ⟨ns, dBody s, dScope s⟩
noncomputable def clsStm (p : Program) (i : Nat) : Stmt := (cBody (nthS p 2)).getD i (.Pass default)
noncomputable def globTab : List (Str × AV) := [("MPU", .cls), ("len", .bi "len"), ("divmod", .bi "divmod"), ("range", .ty "range"), ("enumerate", .ty "enumerate"), ("sum", .bi "sum"), ("max", .bi "max")]
noncomputable def topGlob (k : Nat) : List (Stmt × Str) → List (Str × AV)
  | [] => []
  | d :: r => (d.2, .fn k) :: topGlob (k + 1) r
noncomputable def initOf (s : Stmt) : FnR := ⟨(dPars s).args.map (·.arg), dBody s, dScope s⟩
noncomputable def ifc (p : Program) (ds : List (Stmt × Str)) (xs : List Int) : Ifc where
  glob := fun x => (topGlob defCount ds ++ globTab).lookup x
  init := initOf (clsStm p firstDef)
  cls := fun x => clsTab.lookup x
  fns := fun k => match Nat.blt k defCount with | true => (match Nat.beq k 7 with | true => none | false => fnOfStmt (clsStm p (firstDef + k))) | false => (match ds[k - defCount]? with | some d => fnOfStmt d.1 | none => none)
  lst := fun k => match k with | 0 => some lst0 | 1 => some lst1 | 2 => some lst2 | 3 => some (xs.map .int) | _ => none
  iLs := fun k => match k with | 3 => some xs | _ => none
noncomputable def acV : Bool ⊕ Int → AV
  | .inl b => .bool b
  | .inr i => .int i
structure Cpu where
  exc : Int
  ac : Bool ⊕ Int
  cyc : Int
  start : Int
  pc : Int
  sp : Int
  a : Int
  x : Int
  y : Int
  p : Int
  mem : List Int
noncomputable def flds (c : Cpu) (m : Nat) : List (Str × AV) := [("name", .str "6502"), ("byteMask", .int 255), ("addrMask", .int 65535), ("addrHighMask", .int 65280), ("spBase", .int 256), ("excycles", .int c.exc), ("addcycles", acV c.ac), ("processorCycles", .int c.cyc), ("memory", .obj m), ("start_pc", .int c.start), ("pc", .int c.pc), ("sp", .int c.sp), ("a", .int c.a), ("x", .int c.x), ("y", .int c.y), ("p", .int c.p)]
noncomputable def hpC (c : Cpu) : HP := [.inst 1, .ns (flds c 2), .nums c.mem]
end Mine
end
section
open PySem PySem.W PySem.Calls PyProof.Rows PySem.Builtin
namespace Mine
noncomputable def inB (a : Int) (xs : List Int) : Bool := decide (0 ≤ a) && decide (a < 2 ^ 63) && decide (a.toNat < xs.length)
noncomputable def bAt (c : Cpu) (a : Int) : T Int := .need (inB a c.mem) (.ret (c.mem.getD a.toNat 0))
noncomputable def bSt (c : Cpu) (a v : Int) : T Cpu := .need (inB a c.mem) (.ret { c with mem := c.mem.set a.toNat v })
noncomputable abbrev bA := Builtin.bitAnd
noncomputable abbrev bO := Builtin.bitOr
noncomputable abbrev bX := Builtin.bitXor
noncomputable abbrev bN := Builtin.bitNot
noncomputable def shl (v n : Int) : T Int := .need (decide (0 ≤ n) && decide (n ≤ 1000000) && decide (v.natAbs < 2 ^ 64)) (.ret (v * 2 ^ n.toNat))
noncomputable def shr (v n : Int) : T Int := .need (decide (0 ≤ n)) (.ret (v.fdiv (2 ^ n.toNat)))
noncomputable def flagsNZ (v : Int) (c : Cpu) : T Cpu := .br (v == 0) (.ret { c with p := bO (bA c.p (bN (bO 2 128))) 2 }) (.ret { c with p := bO (bA c.p (bN (bO 2 128))) (bA v 128) })
noncomputable def adv (n : Int) (c : Cpu) : T Cpu := .ret { c with pc := c.pc + n }
noncomputable abbrev Mode := Cpu → T (Int × Cpu)
noncomputable def mImm : Mode := fun c => .ret (c.pc, c)
noncomputable def mZp : Mode := fun c => (bAt c c.pc).bind fun v => .ret (v, c)
noncomputable def opLDA (m : Mode) (c : Cpu) : T Cpu := (m c).bind fun r => (bAt r.2 r.1).bind fun v => flagsNZ v { r.2 with a := v }
noncomputable def opLDX (m : Mode) (c : Cpu) : T Cpu := (m c).bind fun r => (bAt r.2 r.1).bind fun v => flagsNZ v { r.2 with x := v }
noncomputable def opLDY (m : Mode) (c : Cpu) : T Cpu := (m c).bind fun r => (bAt r.2 r.1).bind fun v => flagsNZ v { r.2 with y := v }
noncomputable def opSTA (m : Mode) (c : Cpu) : T Cpu := (m c).bind fun r => bSt r.2 r.1 r.2.a
noncomputable def opSTY (m : Mode) (c : Cpu) : T Cpu := (m c).bind fun r => bSt r.2 r.1 r.2.y
noncomputable def orP (q : Int) (c : Cpu) : T Cpu := .ret { c with p := bO c.p q }
noncomputable def andP (q : Int) (c : Cpu) : T Cpu := .ret { c with p := bA c.p q }
noncomputable def when (b : Bool) (f : Cpu → T Cpu) (c : Cpu) : T Cpu := .br b (f c) (.ret c)
noncomputable def zn (t : Int) (c : Cpu) : T Cpu := .br (t != 0) (orP (bA t 128) c) (orP 2 c)
noncomputable def rmw (m : Option Mode) (f : Int → Cpu → T (Int × Cpu)) (c : Cpu) : T Cpu := match m with
  | none => (f c.a c).bind fun r => .ret { r.2 with a := r.1 }
  | some m => (m c).bind fun q => (bAt q.2 q.1).bind fun v => (f v q.2).bind fun r => bSt r.2 q.1 r.1
noncomputable def fASL (t : Int) (c : Cpu) : T (Int × Cpu) := (andP (bN (bO (bO 1 128) 2)) c).bind fun c => (when (bA t 128 != 0) (orP 1) c).bind fun c => (shl t 1).bind fun u => (zn (bA u 255) c).bind fun c => .ret (bA u 255, c)
noncomputable def fROL (t : Int) (c : Cpu) : T (Int × Cpu) := (.br (bA c.p 1 != 0)
    ((.br (bA t 128 != 0) (.ret c) (andP (bN 1) c) : T Cpu).bind fun c => (shl t 1).bind fun u => .ret (bO u 1, c))
    ((when (bA t 128 != 0) (orP 1) c).bind fun c => (shl t 1).bind fun u => .ret (u, c)) : T (Int × Cpu)).bind fun r => (flagsNZ (bA r.1 255) r.2).bind fun c => .ret (bA r.1 255, c)
noncomputable def fINC (d : Int) (t : Int) (c : Cpu) : T (Int × Cpu) := (andP (bN (bO 2 128)) c).bind fun c => (zn (bA (t + d) 255) c).bind fun c => .ret (bA (t + d) 255, c)
noncomputable def opSBC (m : Mode) (c : Cpu) : T Cpu := (m c).bind fun q => (bAt q.2 q.1).bind fun d => let c := q.2; .br (bA c.p 8 != 0)
  (let n0 := bA c.a 15 + bA (bN d) 15 + bA c.p 1
   (.br (decide (n0 ≤ 15)) (.ret (0, 10)) (.ret (1, 0)) : T (Int × Int)).bind fun h =>
   (shr c.a 4).bind fun a4 => (shr (bN d) 4).bind fun d4 => let n1 := bA a4 15 + bA d4 15 + h.1
   (.br (decide (n1 ≤ 15)) ((shl 10 4).bind fun u => .ret u) (.ret 0) : T Int).bind fun g =>
   let al := c.a + bA (bN d) 255 + bA c.p 1
   (.br (decide (al > 255)) (.ret 1) (.ret 0) : T Int).bind fun dc => let alu := bA al 255
   (shr (alu + g) 4).bind fun hi =>
   (andP (bN (bO (bO (bO 1 2) 128) 64)) c).bind fun c' =>
   (.br (alu == 0) (orP 2 c') (orP (bA alu 128) c') : T Cpu).bind fun c' => (when (dc == 1) (orP 1) c').bind fun c' =>
   (when (bA (bA (bX c.a d) (bX c.a alu)) 128 != 0) (orP 64) c').bind fun c' =>
   (shl (bA hi 15) 4).bind fun hi' => .ret { c' with a := hi' + bA (alu + h.2) 15 })
  (let r := c.a + bA (bN d) 255 + bA c.p 1
   (andP (bN (bO (bO (bO 1 2) 64) 128)) c).bind fun c' => (when (bA (bA (bX c.a d) (bX c.a r)) 128 != 0) (orP 64) c').bind fun c' =>
   (when (bA r 255 == 0) (orP 2) c').bind fun c' => (when (decide (r > 255)) (orP 1) c').bind fun c' => (orP (bA (bA r 255) 128) c').bind fun c' => .ret { c' with a := bA r 255 })
noncomputable def branch (c : Cpu) : T Cpu := (bAt c c.pc).bind fun o => let pc := c.pc + 1
  (.br (bA o 128 != 0) (.ret (pc - bX o 255 - 1)) (.ret (pc + o)) : T Int).bind fun ad =>
  (.br (bA pc 65280 != bA ad 65280) (.ret (c.exc + 1 + 1)) (.ret (c.exc + 1)) : T Int).bind fun e => .ret { c with pc := bA ad 65535, exc := e }
noncomputable def opBCL (x : Int) (c : Cpu) : T Cpu := .br (bA c.p x != 0) (adv 1 c) (branch c)
noncomputable def opTAY (c : Cpu) : T Cpu := flagsNZ c.a { c with y := c.a }
noncomputable def opDEX (c : Cpu) : T Cpu := flagsNZ (bA (c.x - 1) 255) { c with x := bA (c.x - 1) 255 }
noncomputable def opDEY (c : Cpu) : T Cpu := flagsNZ (bA (c.y - 1) 255) { c with y := bA (c.y - 1) 255 }
noncomputable def ex (cy xc : Int) (f : Cpu → T Cpu) (c : Cpu) : T Cpu :=
  (f { c with pc := bA (c.pc + 1) 65535, exc := 0, ac := .inr xc }).bind fun c => .ret { c with pc := bA c.pc 65535, cyc := c.cyc + (cy + c.exc) }
section
variable (p : Program) (ds : List (Stmt × Str)) (xs : List Int)
noncomputable def stepS : Stmt := clsStm p (firstDef + 1)
noncomputable def stepT (op : Int) (c : Cpu) : T (AV × HP) := ((fns (ifc p ds xs) 58).xs 59 (dScope (stepS p)) ((dBody (stepS p)).drop 1) [("self", .obj 0), ("instructCode", .int op)] (hpC c)).bind fun r => (match r.1 with
        | .ret v => .ret (sweep 3 v r.2.2)
        | .next => .ret (sweep 3 .none r.2.2)
        | _ => .fail)
noncomputable abbrev Spec (op : Int) (e : Cpu → T Cpu) : Prop := ∀ c : Cpu, T.run (stepT p ds xs op c) = T.run ((e c).bind fun c' => .ret (.obj 0, hpC c'))
end
end Mine
end
section
open PySem PySem.W PySem.Calls PyProof.Rows PySem.Builtin
namespace Mine
theorem frag_nsw {h : Heap} {ns : Addr} {m : Str → Option Value} (hn : h.Ns ns m) (x : Str) : nsIn (fragOf h) ns x = some (m x) := by
  obtain ⟨⟨c, d, dt, sl⟩, es, n, ho, hd, hk, hm⟩ := hn
  dsimp only at hd
  subst hd
  unfold nsIn
  rw [frag_lookup, ho]
  dsimp only
  rw [← hm x, ← find_nsFind]
  cases hf : es.toList.find? (·.key.isStr x) with
  | some e => rfl
  | none =>
    have hany : es.toList.any (·.refKey) = false := by
      rw [List.any_eq_false]; intro e he; obtain ⟨n, t, h⟩ := hk e (Array.mem_toList_iff.mp he); simp [DictEntry.refKey, h]
    rw [hany]; rfl
theorem frag_code {h : Heap} {cd : Value} {q : Str} (x : h.CodeRec cd q) : codeIn (fragOf h) cd q = true := by
  obtain ⟨c, ⟨oc, od, dt, sl⟩, vs, t, rfl, ho, hd, hv⟩ := x
  dsimp only at hd
  subst hd
  unfold codeIn
  dsimp only
  rw [frag_lookup, ho]
  dsimp only
  rw [← Array.getElem?_toList] at hv
  match vs.toList, hv with
  | _ :: .str n _ :: _, hv => cases hv; simp
noncomputable def addrOf : Option Value → Addr
  | some (.ref a) => a
  | _ => 0
noncomputable def phOf (C : Addr) (φ ψ : List Addr) (mg : Str → Option Value) (ds : List (Stmt × Str)) (a : Addr) : Ph where
  cls := C
  fn := fun k => match Nat.blt k defCount with | true => φ.getD k 0 | false => (match ds[k - defCount]? with | some d => addrOf (mg d.2) | none => 0)
  lst := fun k => match Nat.beq k 3 with | true => a | false => ψ.getD k 0
noncomputable def endNames : List Str := ["__doc__", "__weakref__", "__dict__", "__qualname__", "__static_attributes__"]
theorem mcEnd_other {mc : Str → Option Value} {sa a1 a2 : Addr} {x : Str} (h : endNames.contains x = false) : mcEnd (mcSt mc sa) a1 a2 x = mc x := by
  have hn : ∀ y ∈ endNames, x ≠ y := fun y hy e => by rw [← e] at hy; rw [List.contains_iff_mem.mpr hy] at h; cases h
  unfold mcEnd mcSt
  simp only [hn "__doc__" (by simp [endNames]), hn "__weakref__" (by simp [endNames]), hn "__dict__" (by simp [endNames]), hn "__qualname__" (by simp [endNames]), hn "__static_attributes__" (by simp [endNames]), if_false]
noncomputable def chkA (st : CSt) (x : Str) : CAttr → Bool
  | .field => (st.tab.lookup x).isNone && !endNames.contains x && (fastBuiltinOwn "object" x).isNone
  | .int i => (match st.tab.lookup x with | some (.int j) => i == j | _ => false) && !endNames.contains x && !copiedNames.contains x
  | .fn k => (match st.tab.lookup x with | some (.fn j) => k == j | _ => false) && !endNames.contains x && !copiedNames.contains x && Nat.blt k defCount
  | .lst k => (match st.tab.lookup x with | some (.lst j) => k == j | _ => false) && !endNames.contains x && !copiedNames.contains x && Nat.blt k 3
noncomputable def okR (r : FnR) : Bool := decide r.names.Nodup && r.names.all (fun x => r.scope.names.lookup x == some .local) && !r.scope.isCoroutine && !r.scope.isGenerator && r.scope.kind == .function && r.scope.names.all (fun x => x.2 != .cell)
theorem okR_of {r : FnR} (h : okR r = true) : r.names.Nodup ∧ (∀ x ∈ r.names, r.scope.names.lookup x = some .local) ∧ r.scope.isCoroutine = false ∧ r.scope.isGenerator = false ∧ r.scope.kind = .function ∧ ∀ x ∈ r.scope.names, x.2 ≠ .cell := by
  unfold okR at h
  simp only [Bool.and_eq_true, decide_eq_true_eq, List.all_eq_true, beq_iff_eq, Bool.not_eq_true', bne_iff_ne] at h
  obtain ⟨⟨⟨⟨⟨h1, h2⟩, h3⟩, h4⟩, h5⟩, h6⟩ := h
  exact ⟨h1, h2, h3, h4, h5, h6⟩
structure Chk (p : Program) (ds : List (Stmt × Str)) (st : CSt) : Prop where
  tab : (clsTab.all fun e => chkA st e.1 e.2) = true
  fns : st.fns.map (fun f => (f.params, f.body, f.scope)) = (List.range defCount).map fun k => (dPars (clsStm p (firstDef + k)), dBody (clsStm p (firstDef + k)), dScope (clsStm p (firstDef + k)))
  lsts : st.lsts = [lst0, lst1, lst2]
  okF : ((List.range (defCount + ds.length)).all fun k => match (ifc p ds []).fns k with | some r => okR r | none => true) = true
  okI : okR (initOf (clsStm p firstDef)) = true
  ini : (match st.tab.lookup ("__init__" : Str) with | some (CV.fn 0) => true | _ => false) = true
  non : ((["__getattribute__", "__getattr__", "__setattr__"] : List Str).all fun x => (st.tab.lookup x).isNone) = true
  par : (match dPars (clsStm p firstDef) with | ⟨[], _, none, [], [], none, _ :: _⟩ => true | _ => false) = true
  glob : ((topGlob defCount ds).all fun e => !(["MPU", "len", "divmod", "range", "enumerate", "sum", "max"] : List Str).contains e.1) = true
theorem lookup_all {α : Type} {t : List (Str × α)} {f : Str × α → Bool} {x : Str} {a : α} (h : t.all f = true) (e : t.lookup x = some a) : f (x, a) = true := by
  induction t with
  | nil => cases e
  | cons p t ih =>
    rw [List.all_cons, Bool.and_eq_true] at h
    rw [List.lookup_cons] at e
    cases hx : (x == p.1) with
    | true => rw [hx] at e; cases e; have := beq_iff_eq.mp hx; subst this; exact h.1
    | false => rw [hx] at e; exact ih h.2 e
theorem topGlob_at {x : Str} {v : AV} : ∀ {ds : List (Stmt × Str)} {k : Nat}, (topGlob k ds).lookup x = some v → ∃ i d, ds[i]? = some d ∧ d.2 = x ∧ v = .fn (k + i)
  | [], _, e => by cases e
  | d :: ds, k, e => by
    unfold topGlob at e
    rw [List.lookup_cons] at e
    cases hx : (x == d.2) with
    | true => rw [hx] at e; cases e; exact ⟨0, d, rfl, (beq_iff_eq.mp hx).symm, rfl⟩
    | false =>
      rw [hx] at e
      obtain ⟨i, d', h1, h2, rfl⟩ := topGlob_at e
      exact ⟨i + 1, d', h1, h2, by rw [Nat.add_right_comm, Nat.add_assoc]⟩
theorem boot_len : bootBuiltins "len" = some (.builtin "len") := by kernel_rfl
theorem boot_divmod : bootBuiltins "divmod" = some (.builtin "divmod") := by kernel_rfl
theorem boot_range : bootBuiltins "range" = some (.type "range") := by kernel_rfl
theorem boot_sum : bootBuiltins "sum" = some (.builtin "sum") := by kernel_rfl
theorem boot_max : bootBuiltins "max" = some (.builtin "max") := by kernel_rfl
theorem boot_enum : bootBuiltins "enumerate" = some (.type "enumerate") := by kernel_rfl
theorem own_ga : fastBuiltinOwn "object" "__getattribute__" = some (.builtin "object.__getattribute__") ∧ fastBuiltinOwn "object" "__getattr__" = none ∧ fastBuiltinOwn "object" "__setattr__" = some (.builtin "object.__setattr__") := ⟨by kernel_rfl, by kernel_rfl, by kernel_rfl⟩
theorem find_tc : findIn [] (.type "type") "__call__" = some (some (.builtin "type.__call__")) := by kernel_rfl
theorem sub_tt : subIn [] (.type "type") (.type "type") = some true := by kernel_rfl
section
variable {p : Program} {Fin : Heap → (Str → Option Value) → Addr → Prop} {st : CSt} {h : Heap} {mg mb : Str → Option Value} {Pl B : Nat} {C ns : Addr} {φ ψ : List Addr} {mc : Str → Option Value} {sa a1 a2 : Addr} {ds : List (Stmt × Str)} {xs : List Int}
theorem Made.clsAt (M : Made h Pl B st C ns φ ψ mc sa a1 a2) : ClsAt h C ns (mcEnd (mcSt mc sa) a1 a2) := by
  obtain ⟨tn, tq, e⟩ := M.cls
  exact ⟨⟨_, _, e, rfl, rfl, rfl, rfl⟩, M.nd⟩
theorem find_fn (M : Made h Pl B st C ns φ ψ mc sa a1 a2) {x : Str} (hx : endNames.contains x = false) :
    findIn (fragOf h) (.ref C) x = some (match mc x with | some v => some v | none => fastBuiltinOwn "object" x) := by
  rw [M.clsAt.find x, mcEnd_other hx] <;> (cases mc x <;> rfl)
theorem at_fn (K : Chk p ds st) (M : Made h Pl B st C ns φ ψ mc sa a1 a2) {k : Nat} (hk : Nat.blt k defCount = true) :
    ∃ a fi dV vs, φ[k]? = some a ∧ st.fns[k]? = some fi ∧ FnAt B h a fi.name ("MPU" ++ "." ++ fi.name) fi.params fi.body fi.scope dV ∧ ConstVals fi.params.defaults vs ∧ h.DefaultsAt B vs dV ∧
      fi.params = dPars (clsStm p (firstDef + k)) ∧ fi.body = dBody (clsStm p (firstDef + k)) ∧ fi.scope = dScope (clsStm p (firstDef + k)) := by
  have hk : k < defCount := Nat.blt_eq.mp hk
  obtain ⟨ps, S⟩ := M.sm
  have len : st.fns.length = defCount := by have := congrArg List.length K.fns; simpa using this
  have hf : k < st.fns.length := by rw [len]; exact hk
  have hp : k < φ.length := by rw [S.flen]; exact hf
  obtain ⟨dV, vs, h1, h2, h3⟩ := S.fn k φ[k] st.fns[k] (List.getElem?_eq_getElem hp) (List.getElem?_eq_getElem hf)
  have e := congrArg (fun l => l[k]?) K.fns
  simp only [List.getElem?_map, List.getElem?_eq_getElem hf, Option.map_some, List.getElem?_range hk, Option.some.injEq, Prod.mk.injEq] at e
  exact ⟨_, _, dV, vs, List.getElem?_eq_getElem hp, List.getElem?_eq_getElem hf, h1, h2, h3, e.1, e.2.1, e.2.2⟩
theorem repIts_of {φ : List Addr} {Φ : Ph} (hΦ : ∀ i ad, φ[i]? = some ad → Φ.fn i = ad) : ∀ {vs : List Value} {its : List LIt}, RepIL φ vs its → RepIts Φ vs its
  | [], [], _ => trivial
  | v :: vs, .int i :: its, h => ⟨h.1, repIts_of hΦ h.2⟩
  | v :: vs, .fn k :: its, h => ⟨(by obtain ⟨ad, h1, rfl⟩ := h.1; show _ = Value.ref (Φ.fn k); rw [hΦ k ad h1]), repIts_of hΦ h.2⟩
  | [], _ :: _, h => h.elim
  | _ :: _, [], h => h.elim
theorem repIts_ints {Φ : Ph} : ∀ {vs : List Value} {xs : List Int}, IntsAre vs xs → RepIts Φ vs (xs.map .int)
  | _, _, .nil => trivial
  | _, _, .cons i t h => ⟨⟨t, rfl⟩, repIts_ints h⟩
theorem pars_nil {q : Arguments} {nm : List Str} (h : parsOf q = some nm) : q.defaults = [] := by
  unfold parsOf at h
  split at h
  · rfl
  · cases h
theorem litInts_map : ∀ xs : List Int, litInts (xs.map .int) = some xs
  | [] => rfl
  | x :: xs => by show (litInts (xs.map .int)).map (x :: ·) = _; rw [litInts_map xs]; rfl
theorem kok (R : Ready Fin st h mg mb Pl B C ns φ ψ mc sa a1 a2) (K : Chk p ds st) (D : ∀ d ∈ ds, DefAt h mg Pl d.1 d.2) {a : Addr} {o : Obj} {its : Array Value} {n : Nat} (ha : h.get? a = some o) (hc : o.cls = .type "list") (hd : o.data = .seq its n) (hi : IntsAre its.toList xs) :
    KOk (fragOf h) (phOf C φ ψ mg ds a) (ifc p ds xs) := by
  have M := R.made
  obtain ⟨tn, tq, hcls⟩ := M.cls
  obtain ⟨ps, S⟩ := M.sm
  have tabOf : ∀ x ca, (ifc p ds xs).cls x = some ca → chkA st x ca = true := fun x ca e => lookup_all (f := fun e => chkA st e.1 e.2) K.tab e
  have noTab : ∀ x, (st.tab.lookup x).isNone = true → mc x = none := fun x e => by
    have := S.tab x
    rw [Option.isNone_iff_eq_none.mp e] at this
    exact this
  have none3 : ∀ x ∈ (["__getattribute__", "__getattr__", "__setattr__"] : List Str), mc x = none := fun x hx => noTab x (List.all_eq_true.mp K.non x hx)
  have t : typeIn (fragOf h) (.ref C) = some (.type "type") := by show Option.map _ (List.lookup C (fragOf h)) = _; rw [frag_lookup, hcls]; rfl
  have lenF : st.fns.length = defCount := by have := congrArg List.length K.fns; simpa using this
  refine ⟨?glob, ?makes, ?init, ?plain, ?hasD, ?setattr, ?over, ?field, ?int, ?lst, ?fn, ?lists, ?fns, ?iLs⟩
  case glob =>
    intro x v e
    change (topGlob defCount ds ++ globTab).lookup x = some v at e
    rw [List.lookup_append] at e
    cases ht : (topGlob defCount ds).lookup x with
    | some y =>
      rw [ht] at e; cases e
      obtain ⟨i, d, h1, rfl, rfl⟩ := topGlob_at ht
      obtain ⟨ad, _, _, h2, _⟩ := D d (List.mem_of_getElem? h1)
      refine ⟨.ref ad, .inl (by rw [frag_nsw R.g, h2]), ?_⟩
      show Value.ref ad = .ref ((phOf C φ ψ mg ds a).fn (defCount + i))
      unfold phOf
      dsimp only
      have hb : Nat.blt (defCount + i) defCount = false := by
        cases hq : Nat.blt (defCount + i) defCount with
        | false => rfl
        | true => have := Nat.blt_eq.mp hq; lia
      rw [hb, Nat.add_sub_cancel_left, h1]
      dsimp only
      rw [h2]; rfl
    | none =>
      rw [ht, Option.none_or] at e
      unfold globTab at e
      simp only [List.lookup_cons, List.lookup_nil] at e
      split at e
      · rename_i hx; cases e; have := beq_iff_eq.mp hx; subst this
        exact ⟨.ref C, .inl (by rw [frag_nsw R.g, R.cls]), rfl⟩
      · split at e
        · rename_i hx; cases e; have := beq_iff_eq.mp hx; subst this
          exact ⟨_, .inr ⟨by rw [frag_nsw R.g, R.oth _ (by simp [blNames])], by rw [frag_nsw R.b, R.blt _ (by decide), boot_len]⟩, rfl⟩
        · split at e
          · rename_i hx; cases e; have := beq_iff_eq.mp hx; subst this
            exact ⟨_, .inr ⟨by rw [frag_nsw R.g, R.oth _ (by simp [blNames])], by rw [frag_nsw R.b, R.blt _ (by decide), boot_divmod]⟩, rfl⟩
          · split at e
            · rename_i hx; cases e; have := beq_iff_eq.mp hx; subst this
              exact ⟨_, .inr ⟨by rw [frag_nsw R.g, R.oth _ (by simp [blNames])], by rw [frag_nsw R.b, R.blt _ (by decide), boot_range]⟩, rfl⟩
            · split at e
              · rename_i hx; cases e; have := beq_iff_eq.mp hx; subst this
                exact ⟨_, .inr ⟨by rw [frag_nsw R.g, R.oth _ (by simp [blNames])], by rw [frag_nsw R.b, R.blt _ (by decide), boot_enum]⟩, rfl⟩
              · split at e
                · rename_i hx; cases e; have := beq_iff_eq.mp hx; subst this
                  exact ⟨_, .inr ⟨by rw [frag_nsw R.g, R.oth _ (by simp [blNames])], by rw [frag_nsw R.b, R.blt _ (by decide), boot_sum]⟩, rfl⟩
                · split at e
                  · rename_i hx; cases e; have := beq_iff_eq.mp hx; subst this
                    exact ⟨_, .inr ⟨by rw [frag_nsw R.g, R.oth _ (by simp [blNames])], by rw [frag_nsw R.b, R.blt _ (by decide), boot_max]⟩, rfl⟩
                  · cases e
  case makes =>
    show makesIn (fragOf h) C = true
    have s1 : specialIn (fragOf h) (.ref C) "__call__" = some (some (.builtin "type.__call__")) := by unfold specialIn; rw [t]; exact find_tc
    have s2 : instIn (fragOf h) (.ref C) (.type "type") = some true := by unfold instIn; rw [t]; exact sub_tt
    unfold makesIn
    rw [frag_lookup, hcls]
    dsimp only
    rw [s1, s2]
    simp
  case init =>
    obtain ⟨ad, fi, dV, vs, f1, f2, ⟨pm, c', doc, _, _, hget, hcode⟩, hcv, hdef, e1, e2, e3⟩ := at_fn K M (k := 0) rfl
    have hmc : mc "__init__" = some (.ref ad) := by
      have q := S.tab "__init__"
      have ki := K.ini
      split at ki
      · rename_i hq
        rw [hq] at q
        obtain ⟨v, h1, a', h2, rfl⟩ := q
        rw [f1] at h2; cases h2
        exact h1
      · cases ki
    obtain ⟨k1, k2, k3, k4, k5, k6⟩ := okR_of K.okI
    have kp := K.par
    have e1' : fi.params = dPars (clsStm p firstDef) := e1
    have e2' : fi.body = dBody (clsStm p firstDef) := e2
    have e3' : fi.scope = dScope (clsStm p firstDef) := e3
    rcases hdef with ⟨hv, _⟩ | ⟨hv, T, rfl, _, hT⟩
    · subst hv
      rw [e1'] at hcv
      split at kp
      · rename_i as d0 df hpar
        rw [hpar] at hcv
        exact hcv.elim
      · cases kp
    · split at kp
      · rename_i as d0 df hpar
        have hg' := (frag_lookup h ad).trans hget
        have hT' := (frag_lookup h T).trans hT
        rw [e2', e3'] at hg'
        refine ⟨ad, none, #[], fi.name, _, fi.params, _, .none, doc, pm, none, .ref c', _, T, none, _, _, _, ?_, hg', frag_code hcode, ⟨as, d0 :: df, e1'.trans hpar, ?_⟩, rfl, hT', k1, k2, k3, k4, k5, k6⟩
        · show findIn (fragOf h) (.ref C) "__init__" = _
          rw [find_fn M (by decide), hmc]
        · show _ = (dPars (clsStm p firstDef)).args.map (·.arg)
          rw [hpar]
      · cases kp
  case plain =>
    show plainGet (fragOf h) C "" = true
    unfold plainGet
    rw [find_fn M (by decide), find_fn M (by decide), none3 _ (by simp), none3 _ (by simp), own_ga.1, own_ga.2.1]
    rfl
  case hasD =>
    show hasDictIn (fragOf h) C = true
    unfold hasDictIn clsIn
    rw [frag_lookup, hcls]; rfl
  case setattr =>
    show findIn (fragOf h) (.ref C) "__setattr__" = _
    rw [find_fn M (by decide), none3 _ (by simp), own_ga.2.2]
  case over =>
    show plainOver (fragOf h) C = true
    unfold plainOver clsIn
    rw [frag_lookup, hcls]; rfl
  case field =>
    intro x e
    have k := tabOf x _ e
    unfold chkA at k
    simp only [Bool.and_eq_true, Bool.not_eq_true'] at k
    show findIn (fragOf h) (.ref C) x = _
    rw [find_fn M k.1.2, noTab x k.1.1, Option.isNone_iff_eq_none.mp k.2]
  case int =>
    intro x i e
    have k := tabOf x _ e
    unfold chkA at k
    simp only [Bool.and_eq_true, Bool.not_eq_true'] at k
    obtain ⟨⟨k1, k2⟩, k3⟩ := k
    refine ⟨?_, k3⟩
    show ∃ t, findIn (fragOf h) (.ref C) x = _
    have q := S.tab x
    split at k1
    · rename_i j hq
      rw [hq] at q
      obtain ⟨v, h1, tk, rfl⟩ := q
      have := beq_iff_eq.mp k1; subst this
      exact ⟨tk, by rw [find_fn M k2, h1]⟩
    · cases k1
  case lst =>
    intro x k e
    have kk := tabOf x _ e
    unfold chkA at kk
    simp only [Bool.and_eq_true, Bool.not_eq_true'] at kk
    obtain ⟨⟨⟨k1, k2⟩, k3⟩, k4⟩ := kk
    have q := S.tab x
    split at k1
    · rename_i j hq
      rw [hq] at q
      obtain ⟨v, h1, ad, h2, rfl⟩ := q
      have := beq_iff_eq.mp k1; subst this
      have hk3 : Nat.beq k 3 = false := by
        cases hq : Nat.beq k 3 with
        | false => rfl
        | true => have := Nat.eq_of_beq_eq_true hq; have := Nat.blt_eq.mp k4; lia
      have hl : (phOf C φ ψ mg ds a).lst k = ad := by
        unfold phOf; dsimp only; rw [hk3]; dsimp only
        rw [List.getD_eq_getElem?_getD, h2]; rfl
      have hk : k < st.lsts.length := by rw [K.lsts]; exact Nat.blt_eq.mp k4
      obtain ⟨vs, _, hg, _⟩ := S.lst k ad st.lsts[k] h2 (List.getElem?_eq_getElem hk)
      rw [hl]
      refine ⟨?_, k3, none, _, #[], by rw [frag_lookup, hg]⟩
      show findIn (fragOf h) (.ref C) x = _
      rw [find_fn M k2, h1]
    · cases k1
  case fn =>
    intro x k e
    have kk := tabOf x _ e
    unfold chkA at kk
    simp only [Bool.and_eq_true, Bool.not_eq_true'] at kk
    obtain ⟨⟨⟨k1, k2⟩, k3⟩, k4⟩ := kk
    have q := S.tab x
    split at k1
    · rename_i j hq
      rw [hq] at q
      obtain ⟨v, h1, ad, h2, rfl⟩ := q
      have := beq_iff_eq.mp k1; subst this
      obtain ⟨ad', fi, dV, vs, f1, f2, ⟨pm, c', doc, _, _, hget, hcode⟩, _⟩ := at_fn K M k4
      rw [h2] at f1; cases f1
      have hl : (phOf C φ ψ mg ds a).fn k = ad := by
        unfold phOf; dsimp only; rw [k4]; dsimp only
        rw [List.getD_eq_getElem?_getD, h2]; rfl
      rw [hl]
      refine ⟨?_, k3, none, _, #[], by rw [frag_lookup, hget]⟩
      show findIn (fragOf h) (.ref C) x = _
      rw [find_fn M k2, h1]
    · cases k1
  case lists =>
    intro k ys e
    have old : ∀ {j : Nat} {zs : List LIt}, j < 3 → st.lsts[j]? = some zs → ∃ vs dd n sl, (fragOf h).lookup ((phOf C φ ψ mg ds a).lst j) = some ⟨.type "list", dd, .seq (List.toArray vs) n, sl⟩ ∧ RepIts (phOf C φ ψ mg ds a) vs zs := by
      intro j zs hj hz
      have hp : j < ψ.length := by rw [S.llen, K.lsts]; exact hj
      obtain ⟨vs, _, hg, hr⟩ := S.lst j ψ[j] zs (List.getElem?_eq_getElem hp) hz
      have hj3 : Nat.beq j 3 = false := by
        cases hq : Nat.beq j 3 with
        | false => rfl
        | true => have := Nat.eq_of_beq_eq_true hq; lia
      have hl : (phOf C φ ψ mg ds a).lst j = ψ[j] := by
        unfold phOf; dsimp only; rw [hj3]; dsimp only
        rw [List.getD_eq_getElem?_getD, List.getElem?_eq_getElem hp]; rfl
      rw [hl]
      exact ⟨vs, none, _, #[], by rw [frag_lookup, hg], repIts_of (fun i ad hi => (by
        have hi' : i < φ.length := (List.getElem?_eq_some_iff.mp hi).1
        have hb : Nat.blt i defCount = true := Nat.blt_eq.mpr (by rw [S.flen, lenF] at hi'; exact hi')
        unfold phOf; dsimp only; rw [hb]; dsimp only
        rw [List.getD_eq_getElem?_getD, hi]; rfl)) hr⟩
    unfold ifc at e
    dsimp only at e
    match k, e with
    | 0, e => cases e; exact old (by lia) (by rw [K.lsts]; rfl)
    | 1, e => cases e; exact old (by lia) (by rw [K.lsts]; rfl)
    | 2, e => cases e; exact old (by lia) (by rw [K.lsts]; rfl)
    | 3, e =>
      cases e
      obtain ⟨oc, od, dt, sl⟩ := o
      dsimp only at hc hd
      subst hc; subst hd
      exact ⟨its.toList, od, n, sl, by show (fragOf h).lookup a = _; rw [frag_lookup, ha], repIts_ints hi⟩
    | _ + 4, e => cases e
  case fns =>
    intro k r e
    have okr : okR r = true := by
      have hk : k < defCount + ds.length := by
        change (match Nat.blt k defCount with | true => (match Nat.beq k 7 with | true => none | false => fnOfStmt (clsStm p (firstDef + k))) | false => (match ds[k - defCount]? with | some d => fnOfStmt d.1 | none => none)) = some r at e
        cases hb : Nat.blt k defCount with
        | true => have := Nat.blt_eq.mp hb; lia
        | false =>
          rw [hb] at e; dsimp only at e
          cases hd : ds[k - defCount]? with
          | none => rw [hd] at e; cases e
          | some d =>
            have := (List.getElem?_eq_some_iff.mp hd).1
            have hn : ¬ k < defCount := fun z => by rw [Nat.blt_eq.mpr z] at hb; cases hb
            lia
      have q := List.all_eq_true.mp K.okF k (List.mem_range.mpr hk)
      have e' : (ifc p ds []).fns k = some r := e
      rw [e'] at q
      exact q
    obtain ⟨k1, k2, k3, k4, k5, k6⟩ := okR_of okr
    change (match Nat.blt k defCount with | true => (match Nat.beq k 7 with | true => none | false => fnOfStmt (clsStm p (firstDef + k))) | false => (match ds[k - defCount]? with | some d => fnOfStmt d.1 | none => none)) = some r at e
    cases hb : Nat.blt k defCount with
    | true =>
      rw [hb] at e; dsimp only at e
      cases h7 : Nat.beq k 7 with
      | true => rw [h7] at e; cases e
      | false =>
      rw [h7] at e; dsimp only at e
      obtain ⟨nm, hn, rfl⟩ := Option.map_eq_some_iff.mp e
      obtain ⟨ad, fi, dV, vs, f1, f2, ⟨pm, c', doc, _, _, hget, hcode⟩, hcv, hdef, e1, e2, e3⟩ := at_fn K M hb
      have hl : (phOf C φ ψ mg ds a).fn k = ad := by
        unfold phOf; dsimp only; rw [hb]; dsimp only
        rw [List.getD_eq_getElem?_getD, f1]; rfl
      have hdv : dV = .none := by
        rw [← e1] at hn
        have hnil : fi.params.defaults = [] := pars_nil hn
        rw [hnil] at hcv
        have hv : vs = [] := by cases vs with | nil => rfl | cons _ _ => exact hcv.elim
        subst hv
        rcases hdef with ⟨_, h2⟩ | ⟨h1, _⟩
        · exact h2
        · exact absurd rfl h1
      subst hdv
      have hg' := (frag_lookup h ad).trans hget
      rw [e2, e3, ← hl] at hg'
      exact ⟨none, #[], fi.name, _, fi.params, .none, .none, doc, pm, none, .ref c', _, hg', frag_code hcode, by rw [e1]; exact hn, rfl, k1, k2, k3, k4, k5, k6⟩
    | false =>
      rw [hb] at e; dsimp only at e
      cases hd : ds[k - defCount]? with
      | none => rw [hd] at e; cases e
      | some d =>
        rw [hd] at e; dsimp only at e
        obtain ⟨nm, hn, rfl⟩ := Option.map_eq_some_iff.mp e
        obtain ⟨ad, c', pm, h2, hget, hcode, _⟩ := D d (List.mem_of_getElem? hd)
        have hl : (phOf C φ ψ mg ds a).fn k = ad := by
          unfold phOf; dsimp only; rw [hb]; dsimp only
          rw [hd]; dsimp only; rw [h2]; rfl
        have hg' := (frag_lookup h ad).trans hget
        rw [← hl] at hg'
        exact ⟨none, #[], d.2, _, dPars d.1, .none, .none, _, pm, none, .ref c', _, hg', frag_code hcode, hn, rfl, k1, k2, k3, k4, k5, k6⟩
  case iLs =>
    intro k ys e
    unfold ifc at e
    dsimp only at e
    match k, e with
    | 3, e => cases e; exact ⟨_, rfl, litInts_map xs⟩
    | 0, e => cases e
    | 1, e => cases e
    | 2, e => cases e
    | _ + 4, e => cases e
end
end Mine
end
section
open PySem PySem.W PySem.Calls PyProof.Rows PySem.Builtin
namespace Mine
noncomputable def qlk {β : Type} (x : Str) (l : List (Str × β)) : Option β :=
  @List.rec (Str × β) (fun _ => Option β) none (fun p _ ih => @Bool.rec (fun _ => Option β) ih (some p.2) (PySem.W.Fast.sEq x p.1)) l
theorem beq_q {x y : Str} : (x == y) = PySem.W.Fast.sEq x y := by
  rw [Bool.eq_iff_iff, beq_iff_eq, PySem.W.Fast.sEq_iff]
theorem lookup_q {β : Type} {x : Str} : ∀ (l : List (Str × β)), l.lookup x = qlk x l
  | [] => rfl
  | p :: r => by
    rw [List.lookup_cons, beq_q, lookup_q r]
    show _ = @Bool.rec (fun _ => Option β) (qlk x r) (some p.2) (PySem.W.Fast.sEq x p.1)
    cases PySem.W.Fast.sEq x p.1 <;> rfl
noncomputable def itemsG (sc : Scope) (tab : List (Str × CV)) : List Expr → Option (List LIt)
  | [] => some []
  | .Constant (.int i) _ _ :: r => (itemsG sc tab r).map (.int i :: ·)
  | .Name x _ :: r => (match (qlk x sc.names) == some .local && !(PySem.W.Fast.sEq x "__debug__"), qlk x tab with
    | true, some (.fn k) => (itemsG sc tab r).map (.fn k :: ·)
    | _, _ => none)
  | _ => none
theorem itemsG_eq {sc : Scope} {tab : List (Str × CV)} : ∀ es, itemsOf sc tab es = itemsG sc tab es := by
  intro es
  induction es with
  | nil => rfl
  | cons e r ih =>
    unfold itemsOf itemsG
    split
    · rename_i h; cases h
    · rename_i h; cases h; rw [ih]
    · rename_i h; cases h; rw [ih, lookup_q, lookup_q, beq_q] <;> rfl
    · rename_i h1 h2 h3
      first
        | rfl
        | (split
           · rename_i h; cases h
           · rename_i h; cases h; exact (h2 _ _ _ _ rfl).elim
           · rename_i h; cases h; exact (h3 _ _ _ rfl).elim
           · rfl)
noncomputable abbrev RG := List (Str × CV) × List FnI × List (List LIt)
noncomputable def stepG (sc : Scope) (s : Stmt) (k nl top : Nat) (tab : List (Str × CV)) : Option (Nat × Nat × Nat × (Str × CV) × List FnI × List (List LIt)) := match s with
  | .FunctionDef name params body decs ret tps scope ts bind pos =>
    (match (decs.isEmpty && ret.isNone && tps.isEmpty && ts.isNone) && (PySem.W.Fast.sEq bind name && noAnn params && params.defaults.all (·.isPlainConst) && scope.names.all (fun x => x.2 != .free) && (qlk name sc.names == some .local) && Nat.blt top pos.line) with
    | true => some (k + 1, nl, pos.line, (name, .fn k), [⟨name, params, body, scope⟩], [])
    | false => none)
  | .Assign [.Name x _] v _ => (match qlk x sc.names == some .local with
    | true => (match v with
      | .Constant (.int i) _ _ => some (k, nl, top, (x, .int i), [], [])
      | .Constant (.str t) _ _ => some (k, nl, top, (x, .str t), [], [])
      | .List elts _ => (match itemsG sc tab elts with
        | some its => (match decide (its.length ≤ 1000) with
          | true => some (k, nl + 1, top, (x, .lst nl), [], [its])
          | false => none)
        | none => none)
      | _ => none)
    | false => none)
  | _ => none
noncomputable def runG (sc : Scope) : List Stmt → Nat → Nat → Nat → List (Str × CV) → Option RG
  | [], _, _, _, tab => some (tab, [], [])
  | s :: r, k, nl, top, tab => match stepG sc s k nl top tab with
    | some (k', nl', top', e, f, l) => (runG sc r k' nl' top' (e :: tab)).map fun z => (z.1, f ++ z.2.1, l ++ z.2.2)
    | none => none
theorem stepG_ok {sc : Scope} {s : Stmt} {k nl top : Nat} {tab : List (Str × CV)} {k' nl' top' : Nat} {e : Str × CV} {f : List FnI} {l : List (List LIt)} {st : CSt} (h : stepG sc s k nl top tab = some (k', nl', top', e, f, l))
    (h1 : st.tab = tab) (h2 : st.fns.length = k) (h3 : st.lsts.length = nl) (h4 : ∀ q ∈ st.places, q.1 ≤ top) :
    ∃ pl, clsStep sc s st = some ⟨e :: tab, st.fns ++ f, st.lsts ++ l, pl⟩ ∧ (st.fns ++ f).length = k' ∧ (st.lsts ++ l).length = nl' ∧ ∀ q ∈ pl, q.1 ≤ top' := by
  subst h1; subst h2; subst h3
  unfold stepG at h
  split at h
  · rename_i name params body decs ret tps scope ts bind pos
    split at h
    · rename_i hb
      rw [Bool.and_eq_true] at hb
      obtain ⟨hsh, hb⟩ := hb
      simp only [Bool.and_eq_true] at hb
      obtain ⟨⟨⟨⟨⟨b1, b2⟩, b3⟩, b4⟩, b5⟩, b6⟩ := hb
      cases h
      have b6 := Nat.le_of_ble_eq_true b6
      refine ⟨(pos.line, pos.col) :: st.places, ?_, by simp, by simp, fun q hq => ?_⟩
      · unfold clsStep
        have : (bind == name && noAnn params && params.defaults.all (·.isPlainConst) && scope.names.all (fun x => x.2 != .free) && sc.names.lookup name == some .local && !st.places.contains (pos.line, pos.col)) = true := by
          simp only [Bool.and_eq_true]
          refine ⟨⟨⟨⟨⟨by rw [beq_q]; exact b1, b2⟩, b3⟩, b4⟩, by rw [lookup_q]; exact b5⟩, ?_⟩
          cases hc : st.places.contains (pos.line, pos.col) with
          | false => rfl
          | true =>
            have := h4 _ (List.contains_iff_mem.mp hc)
            dsimp only at this
            lia
        dsimp only
        rw [hsh, this, List.append_nil]; rfl
      · rcases List.mem_cons.mp hq with rfl | hq
        · exact Nat.le_refl _
        · exact Nat.le_trans (h4 _ hq) (by lia)
    · cases h
  · rename_i x xp v vp
    split at h
    · rename_i hb
      rw [← lookup_q] at hb
      split at h
      · cases h
        refine ⟨st.places, ?_, by simp, by simp, h4⟩
        unfold clsStep
        dsimp only
        rw [hb, List.append_nil, List.append_nil]
      · cases h
        refine ⟨st.places, ?_, by simp, by simp, h4⟩
        unfold clsStep
        dsimp only
        rw [hb, List.append_nil, List.append_nil]
      · rw [← itemsG_eq] at h
        split at h
        · rename_i its hi
          split at h
          · rename_i hl
            cases h
            refine ⟨st.places, ?_, by simp, by simp, h4⟩
            unfold clsStep
            dsimp only
            rw [hb]
            dsimp only
            rw [hi]
            dsimp only
            rw [hl, List.append_nil]
          · cases h
        · cases h
      · cases h
    · cases h
  · cases h
theorem runG_ok {sc : Scope} : ∀ (ss : List Stmt) {k nl top : Nat} {tab : List (Str × CV)} {z : RG} {st : CSt}, runG sc ss k nl top tab = some z → st.tab = tab → st.fns.length = k → st.lsts.length = nl → (∀ q ∈ st.places, q.1 ≤ top) →
    ∃ pl, clsRun sc ss st = some ⟨z.1, st.fns ++ z.2.1, st.lsts ++ z.2.2, pl⟩
  | [], k, nl, top, tab, z, st, h, h1, h2, h3, h4 => by
    cases h
    refine ⟨st.places, ?_⟩
    subst h1
    show some st = _
    rw [List.append_nil, List.append_nil]
  | s :: r, k, nl, top, tab, z, st, h, h1, h2, h3, h4 => by
    unfold runG at h
    split at h
    · rename_i k' nl' top' e f l hs
      obtain ⟨z', hz, rfl⟩ := Option.map_eq_some_iff.mp h
      obtain ⟨pl, g1, g2, g3, g4⟩ := stepG_ok hs h1 h2 h3 h4
      obtain ⟨pl', g⟩ := runG_ok r (st := ⟨e :: tab, st.fns ++ f, st.lsts ++ l, pl⟩) hz rfl g2 g3 g4
      refine ⟨pl', ?_⟩
      unfold clsRun
      rw [g1]
      dsimp only
      rw [g, List.append_assoc, List.append_assoc]
    · cases h
end Mine
end
section
open PySem PySem.W PySem.Calls PyProof.Rows PySem.Builtin
namespace Mine
noncomputable def inQ (x : Str) (l : List Str) : Bool := l.any fun y => PySem.W.Fast.sEq x y
theorem contains_q {x : Str} {l : List Str} : l.contains x = inQ x l := by
  unfold inQ
  induction l with
  | nil => rfl
  | cons y r ih => rw [List.contains_cons, List.any_cons, ih, beq_q]
noncomputable def chkQ (tab : List (Str × CV)) (x : Str) : CAttr → Bool
  | .field => (qlk x tab).isNone && !inQ x endNames && (fastBuiltinOwn "object" x).isNone
  | .int i => (match qlk x tab with | some (.int j) => i == j | _ => false) && !inQ x endNames && !inQ x copiedNames
  | .fn k => (match qlk x tab with | some (.fn j) => k == j | _ => false) && !inQ x endNames && !inQ x copiedNames && Nat.blt k defCount
  | .lst k => (match qlk x tab with | some (.lst j) => k == j | _ => false) && !inQ x endNames && !inQ x copiedNames && Nat.blt k 3
theorem chkQ_eq {st : CSt} {x : Str} {a : CAttr} : chkA st x a = chkQ st.tab x a := by
  cases a <;> simp only [chkA, chkQ, lookup_q, contains_q] <;> rfl
noncomputable def tabQ (tab : List (Str × CV)) : Bool :=
  (Nat.ble tab.length 900 && banned.all (fun x => (qlk x tab).isNone) && (match qlk "__qualname__" tab with | some (.str x) => PySem.W.Fast.sEq x "MPU" | _ => false) && (match qlk "__module__" tab with | some (.str _) => true | _ => false)) &&
  ((clsTab.all fun e => chkQ tab e.1 e.2) && (match qlk "__init__" tab with | some (CV.fn 0) => true | _ => false) && ((["__getattribute__", "__getattr__", "__setattr__"] : List Str).all fun x => (qlk x tab).isNone))
noncomputable def bools (st : CSt) : Bool := (clsTab.all fun e => chkA st e.1 e.2) && (match st.tab.lookup ("__init__" : Str) with | some (CV.fn 0) => true | _ => false) && ((["__getattribute__", "__getattr__", "__setattr__"] : List Str).all fun x => (st.tab.lookup x).isNone)
theorem tabQ_of {st : CSt} (h : tabQ st.tab = true) : okCls st = true ∧ bools st = true := by
  unfold tabQ at h
  rw [Bool.and_eq_true] at h
  obtain ⟨h1, h2⟩ := h
  refine ⟨?_, ?_⟩
  · unfold okCls
    rw [Bool.and_eq_true, Bool.and_eq_true, Bool.and_eq_true] at h1 ⊢
    obtain ⟨⟨⟨a, b⟩, c⟩, d⟩ := h1
    refine ⟨⟨⟨decide_eq_true (Nat.le_of_ble_eq_true a), ?_⟩, ?_⟩, ?_⟩
    · simp only [lookup_q]; exact b
    · rw [lookup_q]; simp only [beq_q]; exact c
    · rw [lookup_q]; exact d
  · unfold bools
    simp only [chkQ_eq, lookup_q]
    exact h2
noncomputable abbrev fnsOf (p : Program) : List (Arguments × List Stmt × Scope) := (List.range defCount).map fun k => (dPars (clsStm p (firstDef + k)), dBody (clsStm p (firstDef + k)), dScope (clsStm p (firstDef + k)))
theorem st_of {p : Program} {nm : Str} {fl : Int} (h : (runG (cScope (nthS p 2)) (cBody (nthS p 2)) 0 0 0 (st0 nm fl).tab).map (fun z => (tabQ z.1, z.2.1.map (fun f => (f.params, f.body, f.scope)), z.2.2)) = some (true, fnsOf p, [lst0, lst1, lst2])) :
    ∃ st, clsRun (cScope (nthS p 2)) (cBody (nthS p 2)) (st0 nm fl) = some st ∧ okCls st = true ∧ bools st = true ∧ st.fns.map (fun f => (f.params, f.body, f.scope)) = fnsOf p ∧ st.lsts = [lst0, lst1, lst2] := by
  obtain ⟨z, hz, e⟩ := Option.map_eq_some_iff.mp h
  obtain ⟨pl, g⟩ := runG_ok _ (st := st0 nm fl) hz rfl rfl rfl (fun q hq => by cases hq)
  simp only [Prod.mk.injEq] at e
  obtain ⟨e1, e2, e3⟩ := e
  have t := tabQ_of (st := ⟨z.1, (st0 nm fl).fns ++ z.2.1, (st0 nm fl).lsts ++ z.2.2, pl⟩) e1
  exact ⟨_, g, t.1, t.2, e2, e3⟩
theorem chk_of {p : Program} {ds : List (Stmt × Str)} {st : CSt} (h1 : bools st = true) (h2 : st.fns.map (fun f => (f.params, f.body, f.scope)) = fnsOf p) (h3 : st.lsts = [lst0, lst1, lst2])
    (okF : ((List.range (defCount + ds.length)).all fun k => match (ifc p ds []).fns k with | some r => okR r | none => true) = true) (okI : okR (initOf (clsStm p firstDef)) = true)
    (par : (match dPars (clsStm p firstDef) with | ⟨[], _, none, [], [], none, _ :: _⟩ => true | _ => false) = true) (glob : ((topGlob defCount ds).all fun e => !(["MPU", "len", "divmod", "range", "enumerate", "sum", "max"] : List Str).contains e.1) = true) : Chk p ds st := by
  unfold bools at h1
  rw [Bool.and_eq_true, Bool.and_eq_true] at h1
  exact ⟨h1.1.1, h2, h3, okF, okI, h1.1.2, h1.2, par, glob⟩
end Mine
end
section
open PySem PySem.W PySem.Calls PyProof.Rows PySem.Builtin
set_option maxHeartbeats 8000000
namespace Mine
noncomputable abbrev pw : Program := PySem.Challenge.pw_lq0010_01
theorem told_nil : TablesWhole.wSs TablesWhole.gather pw.main.scope ⟨pw.main.scope, [], [], [], none⟩ pw.main.scope pw.main.body = [] := by
  refine List.isEmpty_iff.mp ?_
  rw [PySem.W.Fast.te16421684217811934046, PySem.W.Fast.te12652042256554560961]; kernel_rfl
theorem tab2 : TablesWhole.noTwice pw.main.scope = true := by rw [PySem.W.Fast.te8331962902438777018]; kernel_rfl
noncomputable def holdsQ : TablesWhole.Alg Bool := ⟨fun sc n _ => (qlk n sc.names).isSome, fun _ _ _ ok => ok, fun _ => true, true, false, fun a b => a && b⟩
theorem holds_q : TablesWhole.holds = holdsQ := by
  unfold holdsQ
  simp only [← lookup_q]; rfl
theorem tab1 : TablesWhole.wSs TablesWhole.holds pw.main.scope ⟨pw.main.scope, [], [], [], none⟩ pw.main.scope pw.main.body = true := by
  rw [holds_q, PySem.W.Fast.te16421684217811934046]; kernel_rfl
theorem wMod (m : Module) (h0 : TablesWhole.wSs TablesWhole.gather m.scope ⟨m.scope, [], [], [], none⟩ m.scope m.body = [])
    (h2 : TablesWhole.noTwice m.scope = true) (h1 : TablesWhole.wSs TablesWhole.holds m.scope ⟨m.scope, [], [], [], none⟩ m.scope m.body = true) :
    TablesWhole.wModule TablesWhole.holds m = true := by
  unfold TablesWhole.wModule
  rw [h0]
  simp only [TablesWhole.Alg.all, List.foldr]
  rw [h1]
  show (true && (TablesWhole.noTwice m.scope && (true && true))) = true
  rw [h2]; rfl
theorem tabP (p : Program) (hm : p.modules = []) (hp : p.parses = []) (hh : p.harvested = []) (h : TablesWhole.wModule TablesWhole.holds p.main = true) : p.tablesWhole = true := by
  unfold Program.tablesWhole TablesWhole.wProgram
  rw [h, hm, hp, hh]; rfl
theorem tab : pw.tablesWhole = true := tabP _ rfl rfl rfl (wMod pw.main told_nil tab2 tab1)
theorem bare : pw.bare := ⟨rfl, rfl, rfl, rfl, by kernel_rfl, tab⟩
theorem ws : PySem.Challenge.rw_lq0010_01.wellSaid = true := by rw [PySem.W.Fast.te9446332074065402090]; kernel_rfl
theorem how : opensWell pw = true := by decide +kernel
noncomputable def ds01 : List (Stmt × Str) := [(nthS pw 4, "_law_pair"), (nthS pw 5, "law")]
theorem body01 : behindTheImports pw = nthS pw 0 :: nthS pw 1 :: nthS pw 2 :: nthS pw 3 :: ds01.map (·.1) := by kernel_rfl
theorem c1 : (hasAnns (nthS pw 0 :: nthS pw 1 :: nthS pw 2 :: nthS pw 3 :: ds01.map (·.1)) = false) ∧ (docOf (nthS pw 0 :: nthS pw 1 :: nthS pw 2 :: nthS pw 3 :: ds01.map (·.1)) = none) := ⟨by decide +kernel, by kernel_rfl⟩
theorem c2 : okDef pw (nthS pw 0) "_wall" = true := by decide +kernel
theorem c3 : isName (nthS pw 1) "py65.devices.mpu6502" = true := by decide +kernel
theorem c4 : okClass pw (nthS pw 2) = true := by decide +kernel
theorem c5 : isName (nthS pw 3) "law_lq0010_01" = true := by decide +kernel
theorem c6 : (((dPos (nthS pw 0)).line, (dPos (nthS pw 0)).col) == ((cPos (nthS pw 2)).line, (cPos (nthS pw 2)).col)) = false := by decide +kernel
end Mine
end
section
open PySem PySem.W PySem.Calls PyProof.Rows PySem.Builtin
set_option maxHeartbeats 8000000
namespace Mine
theorem run01' : (runG (cScope (nthS pw 2)) (cBody (nthS pw 2)) 0 0 0 (st0 "py65.devices.mpu6502" (cPos (nthS pw 2)).line).tab).map (fun z => (tabQ z.1, z.2.1.map (fun f => (f.params, f.body, f.scope)), z.2.2)) = some (true, fnsOf pw, [lst0, lst1, lst2]) := by kernel_rfl
noncomputable def st01 : CSt := (clsRun (cScope (nthS pw 2)) (cBody (nthS pw 2)) (st0 "py65.devices.mpu6502" (cPos (nthS pw 2)).line)).getD ⟨[], [], [], []⟩
theorem c8' : clsRun (cScope (nthS pw 2)) (cBody (nthS pw 2)) (st0 "py65.devices.mpu6502" (cPos (nthS pw 2)).line) = some st01 ∧ okCls st01 = true ∧ bools st01 = true ∧ st01.fns.map (fun f => (f.params, f.body, f.scope)) = fnsOf pw ∧ st01.lsts = [lst0, lst1, lst2] := by
  obtain ⟨st, e, h⟩ := st_of run01'
  have : st01 = st := by unfold st01; rw [e]; rfl
  rw [this]; exact ⟨e, h⟩
theorem c8 : clsRun (cScope (nthS pw 2)) (cBody (nthS pw 2)) (st0 "py65.devices.mpu6502" (cPos (nthS pw 2)).line) = some st01 ∧ okCls st01 = true := ⟨c8'.1, c8'.2.1⟩
theorem c9 : (ds01.all fun d => okDef pw d.1 d.2) = true := by decide +kernel
theorem c10 : decide (([((dPos (nthS pw 0)).line, (dPos (nthS pw 0)).col), ((cPos (nthS pw 2)).line, (cPos (nthS pw 2)).col)] ++ ds01.map fun d => ((dPos d.1).line, (dPos d.1).col)).Nodup) = true := by decide +kernel
theorem c11 : decide ((("MPU" : Str) :: ds01.map (·.2)).Nodup) = true := by decide +kernel
theorem c12 : pw.theDef "law" = some (dPars (nthS pw 5), dBody (nthS pw 5), dScope (nthS pw 5)) := by kernel_rfl
theorem promised : PySem.Challenge.rw_lq0010_01.row.toRowW.promised := ⟨[.list []], by decide +kernel, by decide +kernel⟩
noncomputable def Fin01 (h : Heap) (mg : Str → Option Value) (Pl : Addr) : Prop := ∀ d ∈ ds01, DefAt h mg Pl d.1 d.2
theorem law01 (duty : Duty pw "law" Fin01 st01) : PySem.Challenge.rw_lq0010_01.Holds :=
  law_holds (l := PySem.Challenge.rw_lq0010_01) (SL := nthS pw 5) (st := st01) (Fin := Fin01) (nms := (ds01.map (·.2)).reverse ++ [("__name__" : Str), "MPU", "__name__", "_wall"]) ws bare how promised rfl (by kernel_rfl) rfl (fun s => by kernel_rfl) body01 c1.1 c1.2 (by kernel_rfl) c2 c3 c4 c5 c6 c8.1 c8.2
    (fun w => walk_defs (by kernel_rfl) c9 c10 c11) (by decide +kernel) (by decide +kernel) (by decide +kernel) (by decide +kernel) (fun h h' mg Pl x k d hd => (x d hd).keep (fun b o _ _ e => k b o e) rfl) (fun h mg Pl x => x (nthS pw 5, "law") (by simp [ds01])) c12 (List.all_eq_true.mp c9 (nthS pw 5, "law") (by simp [ds01])) duty
end Mine
end
section
open PySem PySem.W PySem.Calls PyProof.Rows PySem.Builtin
namespace Mine
noncomputable def eF8 : Cpu → T Cpu := ex 2 0 fun c => orP 8 c
noncomputable def eA9 : Cpu → T Cpu := ex 2 0 fun c => (opLDA mImm c).bind (adv 1)
noncomputable def e85 : Cpu → T Cpu := ex 3 0 fun c => (opSTA mZp c).bind (adv 1)
noncomputable def eA2 : Cpu → T Cpu := ex 2 0 fun c => (opLDX mImm c).bind (adv 1)
noncomputable def eA0 : Cpu → T Cpu := ex 2 0 fun c => (opLDY mImm c).bind (adv 1)
noncomputable def e06 : Cpu → T Cpu := ex 5 0 fun c => (rmw (some mZp) fASL c).bind (adv 1)
noncomputable def e26 : Cpu → T Cpu := ex 5 0 fun c => (rmw (some mZp) fROL c).bind (adv 1)
noncomputable def e88 : Cpu → T Cpu := ex 2 0 fun c => opDEY c
noncomputable def eD0 : Cpu → T Cpu := ex 2 2 fun c => opBCL 2 c
noncomputable def e38 : Cpu → T Cpu := ex 2 0 fun c => orP 1 c
noncomputable def eA5 : Cpu → T Cpu := ex 3 0 fun c => (opLDA mZp c).bind (adv 1)
noncomputable def eE5 : Cpu → T Cpu := ex 3 0 fun c => (opSBC mZp c).bind (adv 1)
noncomputable def eA8 : Cpu → T Cpu := ex 2 0 fun c => opTAY c
noncomputable def eE9 : Cpu → T Cpu := ex 2 0 fun c => (opSBC mImm c).bind (adv 1)
noncomputable def e90 : Cpu → T Cpu := ex 2 2 fun c => opBCL 1 c
noncomputable def e84 : Cpu → T Cpu := ex 3 0 fun c => (opSTY mZp c).bind (adv 1)
noncomputable def eE6 : Cpu → T Cpu := ex 5 0 fun c => (rmw (some mZp) (fINC 1) c).bind (adv 1)
noncomputable def eCA : Cpu → T Cpu := ex 2 0 fun c => opDEX c
theorem sF8 (ds : List (Stmt × Str)) (xs : List Int) : Spec pw ds xs 248 eF8 := fun c => by kernel_rfl
theorem sA9 (ds : List (Stmt × Str)) (xs : List Int) : Spec pw ds xs 169 eA9 := fun c => by kernel_rfl
theorem s85 (ds : List (Stmt × Str)) (xs : List Int) : Spec pw ds xs 133 e85 := fun c => by kernel_rfl
theorem sA2 (ds : List (Stmt × Str)) (xs : List Int) : Spec pw ds xs 162 eA2 := fun c => by kernel_rfl
theorem sA0 (ds : List (Stmt × Str)) (xs : List Int) : Spec pw ds xs 160 eA0 := fun c => by kernel_rfl
theorem s06 (ds : List (Stmt × Str)) (xs : List Int) : Spec pw ds xs 6 e06 := fun c => by kernel_rfl
theorem s26 (ds : List (Stmt × Str)) (xs : List Int) : Spec pw ds xs 38 e26 := fun c => by kernel_rfl
theorem s88 (ds : List (Stmt × Str)) (xs : List Int) : Spec pw ds xs 136 e88 := fun c => by kernel_rfl
theorem sD0 (ds : List (Stmt × Str)) (xs : List Int) : Spec pw ds xs 208 eD0 := fun c => by kernel_rfl
theorem s38 (ds : List (Stmt × Str)) (xs : List Int) : Spec pw ds xs 56 e38 := fun c => by kernel_rfl
theorem sA5 (ds : List (Stmt × Str)) (xs : List Int) : Spec pw ds xs 165 eA5 := fun c => by kernel_rfl
theorem sE5 (ds : List (Stmt × Str)) (xs : List Int) : Spec pw ds xs 229 eE5 := fun c => by kernel_rfl
theorem sA8 (ds : List (Stmt × Str)) (xs : List Int) : Spec pw ds xs 168 eA8 := fun c => by kernel_rfl
theorem sE9 (ds : List (Stmt × Str)) (xs : List Int) : Spec pw ds xs 233 eE9 := fun c => by kernel_rfl
theorem s90 (ds : List (Stmt × Str)) (xs : List Int) : Spec pw ds xs 144 e90 := fun c => by kernel_rfl
theorem s84 (ds : List (Stmt × Str)) (xs : List Int) : Spec pw ds xs 132 e84 := fun c => by kernel_rfl
theorem sE6 (ds : List (Stmt × Str)) (xs : List Int) : Spec pw ds xs 230 eE6 := fun c => by kernel_rfl
theorem sCA (ds : List (Stmt × Str)) (xs : List Int) : Spec pw ds xs 202 eCA := fun c => by kernel_rfl
theorem fetch (ds : List (Stmt × Str)) (xs : List Int) (c : Cpu) : T.run ((fns (ifc pw ds xs) 60).cl 60 1 [.obj 0] (hpC c)) = cond (inB c.pc c.mem) (T.run (stepT pw ds xs (c.mem.getD c.pc.toNat 0) c)) none := by kernel_rfl
noncomputable def tab01 : List (Int × (Cpu → T Cpu)) := [(248, eF8), (169, eA9), (133, e85), (162, eA2), (160, eA0), (6, e06), (38, e26), (136, e88), (208, eD0), (56, e38), (165, eA5), (229, eE5), (168, eA8), (233, eE9), (144, e90), (132, e84), (230, eE6), (202, eCA)]
theorem tabOk (ds : List (Stmt × Str)) (xs : List Int) : ∀ q ∈ tab01, Spec pw ds xs q.1 q.2 := by
  intro q hq
  simp only [tab01, List.mem_cons, List.not_mem_nil, or_false] at hq
  rcases hq with rfl | rfl | rfl | rfl | rfl | rfl | rfl | rfl | rfl | rfl | rfl | rfl | rfl | rfl | rfl | rfl | rfl | rfl
  · exact sF8 ds xs
  · exact sA9 ds xs
  · exact s85 ds xs
  · exact sA2 ds xs
  · exact sA0 ds xs
  · exact s06 ds xs
  · exact s26 ds xs
  · exact s88 ds xs
  · exact sD0 ds xs
  · exact s38 ds xs
  · exact sA5 ds xs
  · exact sE5 ds xs
  · exact sA8 ds xs
  · exact sE9 ds xs
  · exact s90 ds xs
  · exact s84 ds xs
  · exact sE6 ds xs
  · exact sCA ds xs
noncomputable def stepC (c : Cpu) : Option Cpu := cond (inB c.pc c.mem) ((tab01.lookup (c.mem.getD c.pc.toNat 0)).bind fun e => T.run (e c)) none
theorem lookup_in {α β : Type} [BEq α] [LawfulBEq α] {x : α} {b : β} : ∀ {t : List (α × β)}, t.lookup x = some b → (x, b) ∈ t
  | [], e => by cases e
  | p :: t, e => by
    rw [List.lookup_cons] at e
    cases hx : (x == p.1) with
    | true => rw [hx] at e; cases e; have := eq_of_beq hx; subst this; exact List.mem_cons_self
    | false => rw [hx] at e; exact List.mem_cons_of_mem _ (lookup_in e)
theorem T.run_bind {α β : Type} {f : α → T β} : ∀ {t : T α}, T.run (t.bind f) = (T.run t).bind fun a => T.run (f a)
  | .ret _ => rfl
  | .fail => rfl
  | .br true t _ => T.run_bind (t := t)
  | .br false _ e => T.run_bind (t := e)
theorem glue {γ : Type} {b : Bool} {tab : List (Int × (Cpu → T Cpu))} {op : Int} {c c' : Cpu} {sT : Int → T γ} {g : Cpu → γ} (h : cond b ((tab.lookup op).bind fun e => T.run (e c)) none = some c')
    (ok : ∀ q ∈ tab, T.run (sT q.1) = T.run ((q.2 c).bind fun c' => .ret (g c'))) : cond b (T.run (sT op)) none = some (g c') := by
  cases b with
  | false => cases h
  | true =>
    obtain ⟨e, h1, h2⟩ := Option.bind_eq_some_iff.mp (show ((tab.lookup op).bind fun e => T.run (e c)) = some c' from h)
    show T.run (sT op) = _
    rw [ok _ (lookup_in h1), T.run_bind]
    show (T.run (e c)).bind _ = _
    rw [h2]; rfl
theorem stepC_ok (ds : List (Stmt × Str)) (xs : List Int) {c c' : Cpu} (h : stepC c = some c') : T.run ((fns (ifc pw ds xs) 60).cl 60 1 [.obj 0] (hpC c)) = some (.obj 0, hpC c') :=
  (fetch ds xs c).trans (glue (sT := fun op => stepT pw ds xs op c) (g := fun c' => (.obj 0, hpC c')) h fun q hq => tabOk ds xs q hq c)
end Mine
end
section
open PySem PySem.W PySem.Calls PyProof.Rows PySem.Builtin
namespace Mine
noncomputable def base01 : List Int := (List.replicate 192 [165, 90, 60, 195]).flatten
noncomputable def code01 : List Int := [248, 169, 0, 133, 19, 133, 20, 162, 4] ++ [160, 4, 6, 16, 38, 17, 38, 19, 38, 20, 136, 208, 245] ++ [56, 165, 19, 229, 18, 168, 165, 20, 233, 0, 144, 8] ++ [133, 20, 132, 19, 230, 16, 208, 236] ++ [202, 208, 220]
noncomputable def mem01 (m b d r s : Int) : List Int := base01.take 16 ++ ([m, b, d, r, s] ++ ((base01.drop 21).take 491 ++ (code01 ++ base01.drop 557)))
noncomputable def S (j : Int × Int × (Bool ⊕ Int)) (pc a x y p m b d r s : Int) : Cpu := ⟨j.2.1, j.2.2, j.1, 512, pc, 255, a, x, y, p, mem01 m b d r s⟩
noncomputable def c0 (p : Int) : Cpu := ⟨0, .inl false, 0, 0, 0, 0, 0, 0, 0, p, []⟩
noncomputable def cD (a p d : Int) : Cpu := ⟨0, .inl false, 0, 0, 0, 0, a, 0, 0, p, [d]⟩
theorem i512 (j : Int × Int × (Bool ⊕ Int)) (a x y p m b d r s : Int) : stepC (S j 512 a x y p m b d r s) = T.run (.ret (S (j.1 + (2 + 0), 0, .inr 0) 513 a x y (bO p 8) m b d r s)) := by kernel_rfl
theorem i513 (j : Int × Int × (Bool ⊕ Int)) (a x y p m b d r s : Int) : stepC (S j 513 a x y p m b d r s) = T.run ((flagsNZ 0 (c0 p)).bind fun q => .ret (S (j.1 + (2 + 0), 0, .inr 0) 515 0 x y q.p m b d r s)) := by kernel_rfl
theorem i515 (j : Int × Int × (Bool ⊕ Int)) (a x y p m b d r s : Int) : stepC (S j 515 a x y p m b d r s) = T.run (.ret (S (j.1 + (3 + 0), 0, .inr 0) 517 a x y p m b d a s)) := by kernel_rfl
theorem i517 (j : Int × Int × (Bool ⊕ Int)) (a x y p m b d r s : Int) : stepC (S j 517 a x y p m b d r s) = T.run (.ret (S (j.1 + (3 + 0), 0, .inr 0) 519 a x y p m b d r a)) := by kernel_rfl
theorem i519 (j : Int × Int × (Bool ⊕ Int)) (a x y p m b d r s : Int) : stepC (S j 519 a x y p m b d r s) = T.run ((flagsNZ 4 (c0 p)).bind fun q => .ret (S (j.1 + (2 + 0), 0, .inr 0) 521 a 4 y q.p m b d r s)) := by kernel_rfl
theorem i521 (j : Int × Int × (Bool ⊕ Int)) (a x y p m b d r s : Int) : stepC (S j 521 a x y p m b d r s) = T.run ((flagsNZ 4 (c0 p)).bind fun q => .ret (S (j.1 + (2 + 0), 0, .inr 0) 523 a x 4 q.p m b d r s)) := by kernel_rfl
theorem i523 (j : Int × Int × (Bool ⊕ Int)) (a x y p m b d r s : Int) : stepC (S j 523 a x y p m b d r s) = T.run ((fASL m (c0 p)).bind fun q => .ret (S (j.1 + (5 + 0), 0, .inr 0) 525 a x y q.2.p q.1 b d r s)) := by kernel_rfl
theorem i525 (j : Int × Int × (Bool ⊕ Int)) (a x y p m b d r s : Int) : stepC (S j 525 a x y p m b d r s) = T.run ((fROL b (c0 p)).bind fun q => .ret (S (j.1 + (5 + 0), 0, .inr 0) 527 a x y q.2.p m q.1 d r s)) := by kernel_rfl
theorem i527 (j : Int × Int × (Bool ⊕ Int)) (a x y p m b d r s : Int) : stepC (S j 527 a x y p m b d r s) = T.run ((fROL r (c0 p)).bind fun q => .ret (S (j.1 + (5 + 0), 0, .inr 0) 529 a x y q.2.p m b d q.1 s)) := by kernel_rfl
theorem i529 (j : Int × Int × (Bool ⊕ Int)) (a x y p m b d r s : Int) : stepC (S j 529 a x y p m b d r s) = T.run ((fROL s (c0 p)).bind fun q => .ret (S (j.1 + (5 + 0), 0, .inr 0) 531 a x y q.2.p m b d r q.1)) := by kernel_rfl
theorem i531 (j : Int × Int × (Bool ⊕ Int)) (a x y p m b d r s : Int) : stepC (S j 531 a x y p m b d r s) = T.run ((flagsNZ (bA (y - 1) 255) (c0 p)).bind fun q => .ret (S (j.1 + (2 + 0), 0, .inr 0) 532 a x (bA (y - 1) 255) q.p m b d r s)) := by kernel_rfl
theorem i532 (j : Int × Int × (Bool ⊕ Int)) (a x y p m b d r s : Int) : stepC (S j 532 a x y p m b d r s) = T.run (.br (bA p 2 != 0) (.ret (S (j.1 + (2 + 0), 0, .inr 2) 534 a x y p m b d r s)) (.ret (S (j.1 + (2 + (0 + 1)), (0 + 1), .inr 2) 523 a x y p m b d r s))) := by kernel_rfl
theorem i534 (j : Int × Int × (Bool ⊕ Int)) (a x y p m b d r s : Int) : stepC (S j 534 a x y p m b d r s) = T.run (.ret (S (j.1 + (2 + 0), 0, .inr 0) 535 a x y (bO p 1) m b d r s)) := by kernel_rfl
theorem i535 (j : Int × Int × (Bool ⊕ Int)) (a x y p m b d r s : Int) : stepC (S j 535 a x y p m b d r s) = T.run ((flagsNZ r (c0 p)).bind fun q => .ret (S (j.1 + (3 + 0), 0, .inr 0) 537 r x y q.p m b d r s)) := by kernel_rfl
theorem i537 (j : Int × Int × (Bool ⊕ Int)) (a x y p m b d r s : Int) : stepC (S j 537 a x y p m b d r s) = T.run ((opSBC mImm (cD a p d)).bind fun q => .ret (S (j.1 + (3 + 0), 0, .inr 0) 539 q.a x y q.p m b d r s)) := by kernel_rfl
theorem i539 (j : Int × Int × (Bool ⊕ Int)) (a x y p m b d r s : Int) : stepC (S j 539 a x y p m b d r s) = T.run ((flagsNZ a (c0 p)).bind fun q => .ret (S (j.1 + (2 + 0), 0, .inr 0) 540 a x a q.p m b d r s)) := by kernel_rfl
theorem i540 (j : Int × Int × (Bool ⊕ Int)) (a x y p m b d r s : Int) : stepC (S j 540 a x y p m b d r s) = T.run ((flagsNZ s (c0 p)).bind fun q => .ret (S (j.1 + (3 + 0), 0, .inr 0) 542 s x y q.p m b d r s)) := by kernel_rfl
theorem i542 (j : Int × Int × (Bool ⊕ Int)) (a x y p m b d r s : Int) : stepC (S j 542 a x y p m b d r s) = T.run ((opSBC mImm (cD a p 0)).bind fun q => .ret (S (j.1 + (2 + 0), 0, .inr 0) 544 q.a x y q.p m b d r s)) := by kernel_rfl
theorem i544 (j : Int × Int × (Bool ⊕ Int)) (a x y p m b d r s : Int) : stepC (S j 544 a x y p m b d r s) = T.run (.br (bA p 1 != 0) (.ret (S (j.1 + (2 + 0), 0, .inr 2) 546 a x y p m b d r s)) (.ret (S (j.1 + (2 + (0 + 1)), (0 + 1), .inr 2) 554 a x y p m b d r s))) := by kernel_rfl
theorem i546 (j : Int × Int × (Bool ⊕ Int)) (a x y p m b d r s : Int) : stepC (S j 546 a x y p m b d r s) = T.run (.ret (S (j.1 + (3 + 0), 0, .inr 0) 548 a x y p m b d r a)) := by kernel_rfl
theorem i548 (j : Int × Int × (Bool ⊕ Int)) (a x y p m b d r s : Int) : stepC (S j 548 a x y p m b d r s) = T.run (.ret (S (j.1 + (3 + 0), 0, .inr 0) 550 a x y p m b d y s)) := by kernel_rfl
theorem i550 (j : Int × Int × (Bool ⊕ Int)) (a x y p m b d r s : Int) : stepC (S j 550 a x y p m b d r s) = T.run ((fINC 1 m (c0 p)).bind fun q => .ret (S (j.1 + (5 + 0), 0, .inr 0) 552 a x y q.2.p q.1 b d r s)) := by kernel_rfl
theorem i552 (j : Int × Int × (Bool ⊕ Int)) (a x y p m b d r s : Int) : stepC (S j 552 a x y p m b d r s) = T.run (.br (bA p 2 != 0) (.ret (S (j.1 + (2 + 0), 0, .inr 2) 554 a x y p m b d r s)) (.ret (S (j.1 + (2 + (0 + 1)), (0 + 1), .inr 2) 534 a x y p m b d r s))) := by kernel_rfl
theorem i554 (j : Int × Int × (Bool ⊕ Int)) (a x y p m b d r s : Int) : stepC (S j 554 a x y p m b d r s) = T.run ((flagsNZ (bA (x - 1) 255) (c0 p)).bind fun q => .ret (S (j.1 + (2 + 0), 0, .inr 0) 555 a (bA (x - 1) 255) y q.p m b d r s)) := by kernel_rfl
theorem i555 (j : Int × Int × (Bool ⊕ Int)) (a x y p m b d r s : Int) : stepC (S j 555 a x y p m b d r s) = T.run (.br (bA p 2 != 0) (.ret (S (j.1 + (2 + 0), 0, .inr 2) 557 a x y p m b d r s)) (.ret (S (j.1 + (2 + (0 + 1)), (0 + 1), .inr 2) 521 a x y p m b d r s))) := by kernel_rfl
end Mine
end
section
open PySem PySem.W PySem.Calls PyProof.Rows PySem.Builtin
namespace Mine
theorem noLimit_of {h : Heap} (x : h.Ns cStatics (fun _ => none)) : h.NoLimit := ⟨_, x, rfl⟩
theorem duty_of {p : Program} {Fin : Heap → (Str → Option Value) → Addr → Prop} {st : CSt} {ds : List (Stmt × Str)} {SL : Stmt} {N : Nat} (K : Chk p ds st) (hds : ∀ h mg Pl, Fin h mg Pl → ∀ d ∈ ds, DefAt h mg Pl d.1 d.2) (hsl : ∀ h mg Pl, Fin h mg Pl → DefAt h mg Pl SL "law")
    (hp : parsOf (dPars SL) = some [("script" : Str)]) (hok : okR ⟨["script"], dBody SL, dScope SL⟩ = true)
    (run : ∀ xs : List Int, xs.length ≤ 1048576 → ∃ l H, T.run ((fns (ifc p ds xs) N).xs 60 (dScope SL) (dBody SL) [("script", .lst 3)] []) = some (.ret (.bool true), l, H)) : Duty p "law" Fin st := by
  intro w s mg mb Pl B C ns φ ψ mc sa a1 a2 R hg f a o its n xs hf ha hc hd hi hlen
  obtain ⟨ad, c', pm, e1, e2, e3, -, -⟩ := hsl _ _ _ R.fin
  rw [hf] at e1
  obtain rfl := Option.some.inj e1
  obtain ⟨l, H, hr⟩ := run xs hlen
  have O := kok R K (hds _ _ _ R.fin) ha hc hd hi
  have S := sound (prog := p) (w := w) O N
  obtain ⟨k1, k2, k3, k4, k5, k6⟩ := okR_of hok
  have hlim := noLimit_of R.sts
  refine wpAny_call (codeAny_call_def (fd := plainDef "law" (dPars SL) (dBody SL) (dScope SL) pm (.ref c')) (body := dBody SL) (binds := [("script", .ref a)]) (by show 1 + claimMargin < recursionLimit; decide +kernel) e2 rfl hlim e3 rfl
    (BindsTo.of_eq (bind_plain (vs := [.ref a]) hp rfl rfl k1)) k6 (fun y hy => ?_) (fun h₁ hns hk => ?_) k3 k4 k5)
  · obtain rfl := List.mem_singleton.mp hy
    exact k2 _ List.mem_cons_self
  have Fm : Fr s.heap s.heap.objs.size h₁ (fun x => [(("script" : Str), Value.ref a)].reverse.lookup x) := ⟨hns, hk, Nat.le_refl _⟩
  have X : Fx (fragOf s.heap) callerA (callerA.deeper (envOf "law" (dScope SL) s.heap.objs.size ad (.ref c'))) s.heap s.heap [] s.heap.objs.size "law" (dScope SL) ad (.ref c') 60 :=
    ⟨below_caller s.heap, rfl, frag_in _, hlim, by show 1 + claimMargin + 1 + 60 < recursionLimit; decide +kernel, k5, rfl, by show 4 + 3 + 4 * 60 + 100 < cLine; decide +kernel⟩
  refine S.xs X Fm (rest := []) (ρ := []) (H := []) (l := [("script", .lst 3)]) (fun x y ey => ?_) ⟨fun _ => default, (fun p hp => (by cases hp)), List.nodup_nil, rfl, (fun i a ao e => (by cases e))⟩ (T.all_of_run (fun ρ2 m2 fl h2 tk2 p2 F2 R2 C2 r2 => ?_) hr)
  · rw [List.lookup_cons] at ey
    cases hx : (x == ("script" : Str)) with
    | true =>
      rw [hx] at ey
      cases ey
      refine ⟨.ref a, ?_, rfl⟩
      show List.lookup x [(("script" : Str), Value.ref a)] = _
      rw [List.lookup_cons, hx]
    | false => rw [hx] at ey; cases ey
  · obtain ⟨v, rfl, rv⟩ := r2
    obtain rfl : v = .bool true := rv
    refine ⟨rfl, OldK.of_keep F2.keep, rfl, ?_⟩
    show AllBare s.gens
    rw [hg]; exact AllBare.empty
theorem xs_nil {I : Ifc} {n dp : Nat} {sc : Scope} {l : Loc} {H : HP} : T.run ((fns I (n + 1)).xs dp sc [] l H) = some (.next, l, H) := rfl
theorem T.run_bnd {α β : Type} {f : α → T β} : ∀ {t : T α}, T.run (t.bind f) = (T.run t).bind fun a => T.run (f a)
  | .ret _ => rfl
  | .fail => rfl
  | .br true t _ => T.run_bnd (t := t)
  | .br false _ e => T.run_bnd (t := e)
theorem xs_next {I : Ifc} {n dp : Nat} {sc : Scope} {s : Stmt} {r : List Stmt} {l l' : Loc} {H H' : HP} {z : Option (AF × Loc × HP)} (h : T.run (stI I (fns I n) dp sc s l H) = some (.next, l', H')) (k : T.run ((fns I n).xs dp sc r l' H') = z) :
    T.run ((fns I (n + 1)).xs dp sc (s :: r) l H) = z := by
  show T.run ((stI I (fns I n) dp sc s l H).bind _) = z
  rw [T.run_bnd, h]; exact k
theorem xs_ret {I : Ifc} {n dp : Nat} {sc : Scope} {s : Stmt} {r : List Stmt} {l l' : Loc} {H H' : HP} {v : AV} (h : T.run (stI I (fns I n) dp sc s l H) = some (.ret v, l', H')) :
    T.run ((fns I (n + 1)).xs dp sc (s :: r) l H) = some (.ret v, l', H') := by
  show T.run ((stI I (fns I n) dp sc s l H).bind _) = _
  rw [T.run_bnd, h]; rfl
theorem xs_brk {I : Ifc} {n dp : Nat} {sc : Scope} {s : Stmt} {r : List Stmt} {l l' : Loc} {H H' : HP} (h : T.run (stI I (fns I n) dp sc s l H) = some (.brk, l', H')) :
    T.run ((fns I (n + 1)).xs dp sc (s :: r) l H) = some (.brk, l', H') := by
  show T.run ((stI I (fns I n) dp sc s l H).bind _) = _
  rw [T.run_bnd, h]; rfl
end Mine
end
section
open PySem PySem.W PySem.Calls PyProof.Rows PySem.Builtin
namespace Mine
noncomputable def dsF : List (Stmt × Str) := [(nthS pw 4, "_law_pair")]
theorem k4 : ((List.range (defCount + dsF.length)).all fun k => match (ifc pw dsF []).fns k with | some r => okR r | none => true) = true := by decide +kernel
theorem k5 : okR (initOf (clsStm pw firstDef)) = true := by decide +kernel
theorem k8 : (match dPars (clsStm pw firstDef) with | ⟨[], _, none, [], [], none, _ :: _⟩ => true | _ => false) = true := by kernel_rfl
theorem k9 : ((topGlob defCount dsF).all fun e => !(["MPU", "len", "divmod", "range", "enumerate", "sum", "max"] : List Str).contains e.1) = true := by decide +kernel
theorem chk01 : Chk pw dsF st01 := chk_of c8'.2.2.1 c8'.2.2.2.1 c8'.2.2.2.2 k4 k5 k8 k9
end Mine
end
section
open PySem PySem.W PySem.Calls PyProof.Rows PySem.Builtin
namespace Mine
noncomputable abbrev SL : Stmt := nthS pw 5
noncomputable def lb (i : Nat) : Stmt := (dBody SL).getD i (.Pass default)
noncomputable abbrev lsc : Scope := dScope SL
noncomputable abbrev I1 (xs : List Int) : Ifc := ifc pw dsF xs
noncomputable abbrev nx (l : Loc) (H : HP) : AF × Loc × HP := (.next, l, H)
noncomputable abbrev lst (xs : List Int) (n : Nat) (i : Nat) (l : Loc) (H : HP) : T (AF × Loc × HP) := stI (I1 xs) (fns (I1 xs) n) 60 lsc (lb i) l H
theorem body_eq : dBody SL = [lb 0, lb 1, lb 2, lb 3, lb 4, lb 5, lb 6, lb 7, lb 8, lb 9, lb 10, lb 11, lb 12, lb 13, lb 14, lb 15, lb 16, lb 17, lb 18, lb 19] := by kernel_rfl
theorem L0 (xs : List Int) : T.run (lst xs 80 0 [("script", .lst 3)] []) = some (nx [("script", .lst 3), ("total", .int 0)] []) := by kernel_rfl
noncomputable def fb (s : Stmt) : List Stmt := match s with | .For _ _ b _ _ => b | _ => []
theorem L1a (xs ys : List Int) (t v : Int) : T.run ((fns (I1 xs) 79).xs 60 lsc (fb (lb 1)) [("script", .lst 3), ("total", .int t), ("number", .int v)] [.nums ys]) = T.run (.need true (.ret (nx [("script", .lst 3), ("total", .int ((101 * t + v).fmod 1000000)), ("number", .int v)] [.nums ys]))) := by kernel_rfl
noncomputable abbrev p30 (xs : List Int) : List Int := pickI xs none (some 30)
theorem L1 (xs : List Int) : T.run (lst xs 79 1 [("script", .lst 3), ("total", .int 0)] []) = T.run (.need (decide (xs.length ≤ 2 ^ 24)) (forN (fns (I1 xs) 79) 60 lsc "number" (fb (lb 1)) (nxList 0) 1 ((p30 xs).length + 1) 0 [("script", .lst 3), ("total", .int 0)] [.nums (p30 xs)])) := by kernel_rfl
theorem L2 (xs : List Int) (t : Int) (ys : List Int) : T.run (lst xs 78 2 [("script", .lst 3), ("total", .int t)] [.nums ys]) = some (nx [("script", .lst 3), ("total", .int t), ("whole", .int (t.fmod 10000))] [.nums ys]) := by kernel_rfl
theorem L3 (xs : List Int) (t w : Int) (ys : List Int) : T.run (lst xs 77 3 [("script", .lst 3), ("total", .int t), ("whole", .int w)] [.nums ys]) = T.run (.need (decide (xs.length ≤ 2 ^ 24)) (.need (decide ((p30 xs).length < 2 ^ 62)) (.ret (nx [("script", .lst 3), ("total", .int t), ("whole", .int w), ("divisor", .int (12 + (t.fdiv 10000 + t + 5 * ((p30 xs).length : Int)).fmod 88))] [.nums ys, .nums (p30 xs)])))) := by kernel_rfl
noncomputable abbrev four : AO := .nums [165, 90, 60, 195]
theorem L4 (xs : List Int) (t w d : Int) (ys : List Int) : T.run (lst xs 76 4 [("script", .lst 3), ("total", .int t), ("whole", .int w), ("divisor", .int d)] [.nums ys, .nums ys]) = some (nx [("script", .lst 3), ("total", .int t), ("whole", .int w), ("divisor", .int d), ("memory", .obj 3)] [.nums ys, .nums ys, four, .nums base01]) := by kernel_rfl
noncomputable def pairI (v : Int) : Int := v.fdiv 10 * 16 + v.fmod 10
noncomputable def pOk (v : Int) : Bool := decide ((v.fdiv 10).natAbs < 1073741824) || decide ((16 : Int).natAbs < 1073741824)
noncomputable abbrev lC (t w d : Int) : Loc := [("script", .lst 3), ("total", .int t), ("whole", .int w), ("divisor", .int d), ("memory", .obj 3)]
theorem L5 (xs : List Int) (t w d : Int) (ys : List Int) : T.run (lst xs 75 5 (lC t w d) [.nums ys, .nums ys, four, .nums base01]) = T.run (.need (pOk (w.fmod 100)) (.need (pOk (w.fdiv 100)) (.need (pOk d) (.ret (nx (lC t w d) [.nums ys, .nums ys, four, .nums (((base01.set 16 (pairI (w.fmod 100))).set 17 (pairI (w.fdiv 100))).set 18 (pairI d)), .seq true [.int (pairI (w.fmod 100)), .int (pairI (w.fdiv 100)), .int (pairI d)]]))))) := by kernel_rfl
end Mine
end
section
open PySem PySem.W PySem.Calls PyProof.Rows PySem.Builtin
namespace Mine
noncomputable abbrev M5 (a b d : Int) : List Int := ((base01.set 16 a).set 17 b).set 18 d
noncomputable abbrev tq (a b d : Int) : AO := .seq true [.int a, .int b, .int d]
noncomputable abbrev lD (t w d : Int) : Loc := [("script", .lst 3), ("total", .int t), ("whole", .int w), ("divisor", .int d), ("memory", .obj 3), ("code", .obj 5)]
noncomputable abbrev c7' : List Int := [160, 4, 6, 16, 38, 17, 38, 19, 38, 20, 136, 208, 245]
noncomputable abbrev cC8 : List Int := [56, 165, 19, 229, 18, 168, 165, 20, 233, 0, 144, 8]
noncomputable abbrev c9' : List Int := [133, 20, 132, 19, 230, 16, 208, 236]
noncomputable abbrev c10' : List Int := [202, 208, 220]
theorem L6 (xs : List Int) (t w d a b e : Int) (ys : List Int) : T.run ((fns (I1 xs) 75).xs 60 lsc [lb 6, lb 7, lb 8, lb 9, lb 10] (lC t w d) [.nums ys, .nums ys, four, .nums (M5 a b e), tq a b e]) =
   some (nx (lD t w d) [.nums ys, .nums ys, four, .nums (M5 a b e), tq a b e, .nums code01, .nums c7', .nums cC8, .nums c9', .nums c10']) := by kernel_rfl
noncomputable abbrev hD (ys : List Int) (mem : List Int) (a b e : Int) : HP := [.nums ys, .nums ys, four, .nums mem, tq a b e, .nums code01, .nums c7', .nums cC8, .nums c9', .nums c10']
theorem L11 (xs : List Int) (t w d a b e : Int) (ys : List Int) : T.run (lst xs 69 11 (lD t w d) (hD ys (M5 a b e) a b e)) = some (nx (lD t w d) (hD ys (mem01 a b e 195 165) a b e)) := by kernel_rfl
noncomputable abbrev lE (t w d : Int) : Loc := lD t w d ++ ([("plain", .obj 10)] : Loc)
theorem L12 (xs : List Int) (t w d a b e : Int) (ys : List Int) : T.run (lst xs 68 12 (lD t w d) (hD ys (mem01 a b e 195 165) a b e)) = some (nx (lE t w d) (hD ys (mem01 a b e 195 165) a b e ++ [.nums (mem01 a b e 195 165)])) := by kernel_rfl
noncomputable abbrev lF (t w d q r : Int) : Loc := lE t w d ++ ([("quotient", .int q), ("rest", .int r)] : Loc)
noncomputable abbrev tw (a b : Int) : AO := .seq true [.int a, .int b]
theorem L13 (xs : List Int) (t w d a b e : Int) (ys : List Int) : T.run (lst xs 67 13 (lE t w d) (hD ys (mem01 a b e 195 165) a b e ++ [.nums (mem01 a b e 195 165)])) =
   T.run (.need (d != 0 && decide (d.natAbs < 1073741824)) (.ret (nx (lF t w d (w.fdiv d) (w.fmod d)) (hD ys (mem01 a b e 195 165) a b e ++ [.nums (mem01 a b e 195 165), tw (w.fdiv d) (w.fmod d)])))) := by kernel_rfl
theorem L14 (xs : List Int) (t w d a b e q r : Int) (ys : List Int) : T.run (lst xs 66 14 (lF t w d q r) (hD ys (mem01 a b e 195 165) a b e ++ [.nums (mem01 a b e 195 165), tw q r])) =
   T.run (.need (pOk (q.fmod 100)) (.need (pOk (q.fdiv 100)) (.ret (nx (lF t w d q r) (hD ys (mem01 a b e 195 165) a b e ++ [.nums (mem01 (pairI (q.fmod 100)) (pairI (q.fdiv 100)) e 195 165), tw q r, tw (pairI (q.fmod 100)) (pairI (q.fdiv 100))]))))) := by kernel_rfl
theorem L15 (xs : List Int) (t w d a b e q r u v : Int) (ys : List Int) : T.run (lst xs 65 15 (lF t w d q r) (hD ys (mem01 a b e 195 165) a b e ++ [.nums (mem01 u v e 195 165), tw q r, tw u v])) =
   T.run (.need (pOk r) (.ret (nx (lF t w d q r) (hD ys (mem01 a b e 195 165) a b e ++ [.nums (mem01 u v e (pairI r) 0), tw q r, tw u v, tw (pairI r) 0])))) := by kernel_rfl
noncomputable abbrev lG (t w d q r : Int) : Loc := lF t w d q r ++ ([("mpu", .obj 14)] : Loc)
noncomputable abbrev hE (ys : List Int) (a b e q r u v s : Int) (c : Cpu) : HP := hD ys c.mem a b e ++ [.nums (mem01 u v e s 0), tw q r, tw u v, tw s 0, .inst 15, .ns (flds c 3)]
noncomputable def cBeg (m : List Int) : Cpu := ⟨0, .inl false, 0, 512, 512, 255, 0, 0, 0, 48, m⟩
theorem L16 (xs : List Int) (t w d a b e q r u v s : Int) (ys : List Int) : T.run (lst xs 64 16 (lF t w d q r) (hD ys (mem01 a b e 195 165) a b e ++ [.nums (mem01 u v e s 0), tw q r, tw u v, tw s 0])) =
   some (nx (lG t w d q r) (hE ys a b e q r u v s (cBeg (mem01 a b e 195 165)))) := by kernel_rfl
end Mine
end
section
open PySem PySem.W PySem.Calls PyProof.Rows PySem.Builtin
namespace Mine
noncomputable abbrev lT (t w d q r : Int) (k : AV) : Loc := lG t w d q r ++ ([("turn", k)] : Loc)
noncomputable abbrev ls (xs : List Int) (n : Nat) (s : Stmt) (l : Loc) (H : HP) : T (AF × Loc × HP) := stI (I1 xs) (fns (I1 xs) n) 60 lsc s l H
noncomputable def sI : Stmt := (fb (lb 17)).getD 0 (.Pass default)
noncomputable def sE : Stmt := (fb (lb 17)).getD 1 (.Pass default)
theorem fb17 : fb (lb 17) = [sI, sE] := by kernel_rfl
theorem LI (xs : List Int) (t w d a b e q r u v s : Int) (k : AV) (ys : List Int) (c : Cpu) :
   T.run (ls xs 62 sI (lT t w d q r k) (hE ys a b e q r u v s c)) = cond (c.pc == 557) (some (.brk, lT t w d q r k, hE ys a b e q r u v s c)) (some (.next, lT t w d q r k, hE ys a b e q r u v s c)) := by kernel_rfl
theorem LE (xs : List Int) (t w d a b e q r u v s : Int) (k : AV) (ys : List Int) : ∀ c : Cpu,
   T.run (ls xs 61 sE (lT t w d q r k) (hE ys a b e q r u v s c)) = T.run (((((fns (I1 xs) 60).cl 60 1 [.obj 0] (hpC c)).bind fun z => back3 14 15 3 (hE ys a b e q r u v s c) z)).bind fun z => .ret (.next, lT t w d q r k, z.2))
  | ⟨_, .inl _, _, _, _, _, _, _, _, _, _⟩ => by kernel_rfl
  | ⟨_, .inr _, _, _, _, _, _, _, _, _, _⟩ => by kernel_rfl
theorem LF (t w d a b e q r u v s : Int) (k : AV) (ys : List Int) (c : Cpu) : ∀ c' : Cpu,
   T.run ((back3 14 15 3 (hE ys a b e q r u v s c) (.obj 0, hpC c')).bind fun z => .ret (.next, lT t w d q r k, z.2)) = some (nx (lT t w d q r k) (hE ys a b e q r u v s c'))
  | ⟨_, .inl _, _, _, _, _, _, _, _, _, _⟩ => by kernel_rfl
  | ⟨_, .inr _, _, _, _, _, _, _, _, _, _⟩ => by kernel_rfl
theorem LG {xs : List Int} {t w d a b e q r u v s : Int} {k : AV} {ys : List Int} {c c' : Cpu} (h : stepC c = some c') :
   T.run (ls xs 61 sE (lT t w d q r k) (hE ys a b e q r u v s c)) = some (nx (lT t w d q r k) (hE ys a b e q r u v s c')) := by
  rw [LE, T.run_bnd, T.run_bnd, stepC_ok dsF xs h]
  show (T.run (back3 14 15 3 (hE ys a b e q r u v s c) (.obj 0, hpC c'))).bind _ = _
  rw [← T.run_bnd]
  exact LF t w d a b e q r u v s k ys c c'
theorem LH {xs : List Int} {t w d a b e q r u v s : Int} {k : AV} {ys : List Int} {c c' : Cpu} (hp : c.pc ≠ 557) (h : stepC c = some c') :
   T.run ((fns (I1 xs) 63).xs 60 lsc (fb (lb 17)) (lT t w d q r k) (hE ys a b e q r u v s c)) = some (nx (lT t w d q r k) (hE ys a b e q r u v s c')) := by
  rw [fb17]
  refine xs_next ?_ (xs_next (LG h) xs_nil)
  rw [show T.run (stI (I1 xs) (fns (I1 xs) 62) 60 lsc sI (lT t w d q r k) (hE ys a b e q r u v s c)) = _ from LI xs t w d a b e q r u v s k ys c]
  rw [show (c.pc == 557) = false from beq_eq_false_iff_ne.mpr hp]; rfl
theorem LJ {xs : List Int} {t w d a b e q r u v s : Int} {k : AV} {ys : List Int} {c : Cpu} (hp : c.pc = 557) :
   T.run ((fns (I1 xs) 63).xs 60 lsc (fb (lb 17)) (lT t w d q r k) (hE ys a b e q r u v s c)) = some (.brk, lT t w d q r k, hE ys a b e q r u v s c) := by
  rw [fb17]
  refine xs_brk ?_
  rw [show T.run (stI (I1 xs) (fns (I1 xs) 62) 60 lsc sI (lT t w d q r k) (hE ys a b e q r u v s c)) = _ from LI xs t w d a b e q r u v s k ys c]
  rw [show (c.pc == 557) = true from beq_iff_eq.mpr hp]; rfl
theorem forN_step {F : Fns} {dp : Nat} {sc : Scope} {x : Str} {body : List Stmt} {next : Nat → HP → Option (Option AV)} {n0 n k : Nat} {l l1 l2 : Loc} {H H2 : HP} {v : AV} {z : Option (AF × Loc × HP)} (h1 : next k H = some (some v)) (h2 : bndName sc x v l = .ret l1)
    (h3 : T.run (F.xs dp sc body l1 H) = some (.next, l2, H2)) (h4 : T.run (forN F dp sc x body next n0 n (k + 1) l2 (sweepL n0 l2 H2)) = z) : T.run (forN F dp sc x body next n0 (n + 1) k l H) = z := by
  unfold forN; rw [h1]
  show T.run ((bndName sc x v l).bind _) = z
  rw [h2]
  show T.run ((F.xs dp sc body l1 H).bind _) = z
  rw [T.run_bnd, h3]; exact h4
theorem forN_brk {F : Fns} {dp : Nat} {sc : Scope} {x : Str} {body : List Stmt} {next : Nat → HP → Option (Option AV)} {n0 n k : Nat} {l l1 l2 : Loc} {H H2 : HP} {v : AV} (h1 : next k H = some (some v)) (h2 : bndName sc x v l = .ret l1)
    (h3 : T.run (F.xs dp sc body l1 H) = some (.brk, l2, H2)) : T.run (forN F dp sc x body next n0 (n + 1) k l H) = some (.next, dropL x l2, sweepL n0 l2 H2) := by
  unfold forN; rw [h1]
  show T.run ((bndName sc x v l).bind _) = _
  rw [h2]
  show T.run ((F.xs dp sc body l1 H).bind _) = _
  rw [T.run_bnd, h3]; rfl
theorem forN_end {F : Fns} {dp : Nat} {sc : Scope} {x : Str} {body : List Stmt} {next : Nat → HP → Option (Option AV)} {n0 n k : Nat} {l : Loc} {H : HP} (h1 : next k H = some none) : T.run (forN F dp sc x body next n0 (n + 1) k l H) = some (.next, dropL x l, H) := by
  unfold forN; rw [h1]; rfl
theorem bT (t w d q r : Int) (k v : AV) : bndName lsc "turn" v (lT t w d q r k) = .ret (lT t w d q r v) := by kernel_rfl
theorem bG (t w d q r : Int) (v : AV) : bndName lsc "turn" v (lG t w d q r) = .ret (lT t w d q r v) := by kernel_rfl
theorem dT (t w d q r : Int) (v : AV) : dropL "turn" (lT t w d q r v) = lG t w d q r := by kernel_rfl
theorem swT (t w d a b e q r u v s : Int) (k : Int) (ys : List Int) : ∀ c : Cpu, sweepL 16 (lT t w d q r (.int k)) (hE ys a b e q r u v s c) = hE ys a b e q r u v s c
  | ⟨_, .inl _, _, _, _, _, _, _, _, _, _⟩ => by kernel_rfl
  | ⟨_, .inr _, _, _, _, _, _, _, _, _, _⟩ => by kernel_rfl
theorem L17 (xs : List Int) (t w d a b e q r u v s : Int) (ys : List Int) (c : Cpu) :
   T.run (lst xs 63 17 (lG t w d q r) (hE ys a b e q r u v s c)) = T.run (forN (fns (I1 xs) 63) 60 lsc "turn" (fb (lb 17)) (nxRange 600) 16 601 0 (lG t w d q r) (hE ys a b e q r u v s c)) := by kernel_rfl
end Mine
end
section
open PySem PySem.W PySem.Calls PyProof.Rows PySem.Builtin
namespace Mine
noncomputable abbrev t3 (x y z : Int) : AO := .seq true [.int x, .int y, .int z]
theorem L18 (xs : List Int) (t w d a b e q r u v s : Int) (ys : List Int) : ∀ (c : Cpu),
   T.run (lst xs 62 18 (lG t w d q r) (hE ys a b e q r u v s c)) = T.run (.need (pOk ((r - d).fmod 100)) (.br (!decide (([c.a, c.x, c.y] : List Int) = [153, 0, pairI ((r - d).fmod 100)]))
     (.ret (.ret (.bool false), lG t w d q r, hE ys a b e q r u v s c ++ [t3 c.a c.x c.y, t3 153 0 (pairI ((r - d).fmod 100))]))
     (.ret (nx (lG t w d q r) (hE ys a b e q r u v s c ++ [t3 c.a c.x c.y, t3 153 0 (pairI ((r - d).fmod 100))])))))
  | ⟨_, .inl _, _, _, _, _, _, _, _, _, _⟩ => by kernel_rfl
  | ⟨_, .inr _, _, _, _, _, _, _, _, _, _⟩ => by kernel_rfl
theorem L19 (xs : List Int) (t w d a b e q r u v s y3 y4 y5 y6 : Int) (ys : List Int) (c : Cpu) :
   T.run (lst xs 61 19 (lG t w d q r) (hE ys a b e q r u v s c ++ [t3 y3 y4 y5, t3 153 0 y6])) = T.run (.br (decide (c.mem = mem01 u v e s 0))
     (.ret (.ret (.bool (decide (([c.pc, c.sp, c.p] : List Int) = [557, 255, 58]))), lG t w d q r, hE ys a b e q r u v s c ++ [t3 y3 y4 y5, t3 153 0 y6, t3 c.pc c.sp c.p, t3 557 255 58]))
     (.ret (.ret (.bool false), lG t w d q r, hE ys a b e q r u v s c ++ [t3 y3 y4 y5, t3 153 0 y6]))) := by kernel_rfl
end Mine
end
section
open PySem PySem.W PySem.Calls PyProof.Rows PySem.Builtin
namespace Mine
structure Fl where
  n : Bool
  v : Bool
  d : Bool
  i : Bool
  z : Bool
  c : Bool
noncomputable def b2 (b : Bool) (k : Int) : Int := cond b k 0
noncomputable def Fl.p (f : Fl) : Int := 48 + b2 f.c 1 + b2 f.z 2 + b2 f.i 4 + b2 f.d 8 + b2 f.v 64 + b2 f.n 128
structure Nc where
  exc : Int
  ac : Bool ⊕ Int
  cyc : Int
  start : Int
  pc : Nat
  sp : Nat
  a : Nat
  x : Nat
  y : Nat
  f : Fl
  mem : List Int
noncomputable def Nc.c (s : Nc) : Cpu := ⟨s.exc, s.ac, s.cyc, s.start, s.pc, s.sp, s.a, s.x, s.y, s.f.p, s.mem⟩
noncomputable abbrev At (m : List Int) (i v : Nat) : Prop := m[i]? = some ((v : Nat) : Int)
theorem rb {α β : Type} {t : T α} {k : α → T β} {x : α} {y : Option β} (h : T.run t = some x) (h2 : T.run (k x) = y) : T.run (t.bind k) = y := by rw [T.run_bind, h]; exact h2
theorem rt {α : Type} {b : Bool} {t e : T α} {y : Option α} (h : b = true) (h2 : T.run t = y) : T.run (.br b t e) = y := by subst h; exact h2
theorem rf {α : Type} {b : Bool} {t e : T α} {y : Option α} (h : b = false) (h2 : T.run e = y) : T.run (.br b t e) = y := by subst h; exact h2
theorem rn {α : Type} {b : Bool} {t : T α} {y : Option α} (h : b = true) (h2 : T.run t = y) : T.run (.need b t) = y := by subst h; exact h2
theorem fl_or : ∀ n v d i z c : Bool, bO (Fl.p ⟨n, v, d, i, z, c⟩) 1 = Fl.p ⟨n, v, d, i, z, true⟩ ∧ bO (Fl.p ⟨n, v, d, i, z, c⟩) 2 = Fl.p ⟨n, v, d, i, true, c⟩ ∧ bO (Fl.p ⟨n, v, d, i, z, c⟩) 8 = Fl.p ⟨n, v, true, i, z, c⟩ ∧
    bO (Fl.p ⟨n, v, d, i, z, c⟩) 64 = Fl.p ⟨n, true, d, i, z, c⟩ ∧ bO (Fl.p ⟨n, v, d, i, z, c⟩) 128 = Fl.p ⟨true, v, d, i, z, c⟩ ∧ bO (Fl.p ⟨n, v, d, i, z, c⟩) 0 = Fl.p ⟨n, v, d, i, z, c⟩ ∧ bO (Fl.p ⟨n, v, d, i, z, c⟩) (bO 1 2) = Fl.p ⟨n, v, d, i, true, true⟩ := by decide +kernel
theorem fl_and : ∀ n v d i z c : Bool, bA (Fl.p ⟨n, v, d, i, z, c⟩) (bN (bO 2 128)) = Fl.p ⟨false, v, d, i, false, c⟩ ∧ bA (Fl.p ⟨n, v, d, i, z, c⟩) (bN (bO (bO 1 128) 2)) = Fl.p ⟨false, v, d, i, false, false⟩ ∧ bA (Fl.p ⟨n, v, d, i, z, c⟩) (bN (bO (bO 1 2) 128)) = Fl.p ⟨false, v, d, i, false, false⟩ ∧
    bA (Fl.p ⟨n, v, d, i, z, c⟩) (bN (bO (bO (bO 1 64) 128) 2)) = Fl.p ⟨false, false, d, i, false, false⟩ ∧ bA (Fl.p ⟨n, v, d, i, z, c⟩) (bN (bO (bO (bO 1 2) 128) 64)) = Fl.p ⟨false, false, d, i, false, false⟩ ∧ bA (Fl.p ⟨n, v, d, i, z, c⟩) (bN (bO (bO (bO 1 2) 64) 128)) = Fl.p ⟨false, false, d, i, false, false⟩ ∧
    bA (Fl.p ⟨n, v, d, i, z, c⟩) (bN 1) = Fl.p ⟨n, v, d, i, z, false⟩ ∧ bA (Fl.p ⟨n, v, d, i, z, c⟩) (bN 64) = Fl.p ⟨n, false, d, i, z, c⟩ := by decide +kernel
theorem fl_is : ∀ n v d i z c : Bool, bA (Fl.p ⟨n, v, d, i, z, c⟩) 1 = b2 c 1 ∧ bA (Fl.p ⟨n, v, d, i, z, c⟩) 2 = b2 z 2 ∧ bA (Fl.p ⟨n, v, d, i, z, c⟩) 8 = b2 d 8 ∧ bA (Fl.p ⟨n, v, d, i, z, c⟩) 64 = b2 v 64 ∧ bA (Fl.p ⟨n, v, d, i, z, c⟩) 128 = b2 n 128 := by decide +kernel
section
variable {s : Nc} {b : Bool}
theorem b2_ne {k : Int} (hk : k ≠ 0) : (b2 b k != 0) = b := by
  cases b
  · rfl
  · exact bne_iff_ne.mpr hk
theorem is_c : (bA s.c.p 1 != 0) = s.f.c := by rw [show s.c.p = s.f.p from rfl, (fl_is s.f.n s.f.v s.f.d s.f.i s.f.z s.f.c).1]; exact b2_ne (by decide)
theorem is_d : (bA s.c.p 8 != 0) = s.f.d := by rw [show s.c.p = s.f.p from rfl, (fl_is s.f.n s.f.v s.f.d s.f.i s.f.z s.f.c).2.2.1]; exact b2_ne (by decide)
theorem is_c1 : bA s.c.p 1 = ((s.f.c.toNat : Nat) : Int) := by
  rw [show s.c.p = s.f.p from rfl, (fl_is s.f.n s.f.v s.f.d s.f.i s.f.z s.f.c).1]; cases s.f.c <;> rfl
noncomputable abbrev Nc.fl (s : Nc) (f : Fl) : Nc := { s with f := f }
theorem setp {s : Nc} {f : Fl} {p : Int} (h : p = f.p) : T.run (.ret { s.c with p := p }) = some (s.fl f).c := by subst h; rfl
theorem or_c : T.run (orP 1 s.c) = some (s.fl { s.f with c := true }).c := setp (fl_or ..).1
theorem or_z : T.run (orP 2 s.c) = some (s.fl { s.f with z := true }).c := setp (fl_or ..).2.1
theorem or_v : T.run (orP 64 s.c) = some (s.fl { s.f with v := true }).c := setp (fl_or ..).2.2.2.1
theorem or_n : T.run (orP (b2 b 128) s.c) = some (s.fl { s.f with n := s.f.n || b }).c := by
  cases b
  · refine setp ?_
    rw [Bool.or_false]; exact (fl_or ..).2.2.2.2.2.1
  · refine setp ?_
    rw [Bool.or_true]; exact (fl_or ..).2.2.2.2.1
theorem an_nz : T.run (andP (bN (bO 2 128)) s.c) = some (s.fl { s.f with n := false, z := false }).c := setp (fl_and ..).1
theorem an_sh : T.run (andP (bN (bO (bO 1 128) 2)) s.c) = some (s.fl { s.f with n := false, z := false, c := false }).c := setp (fl_and ..).2.1
theorem an_sbd : T.run (andP (bN (bO (bO (bO 1 2) 128) 64)) s.c) = some (s.fl { s.f with n := false, v := false, z := false, c := false }).c := setp (fl_and ..).2.2.2.2.1
theorem an_c : T.run (andP (bN 1) s.c) = some (s.fl { s.f with c := false }).c := setp (fl_and ..).2.2.2.2.2.2.1
theorem wh_c : T.run (when b (orP 1) s.c) = some (s.fl { s.f with c := s.f.c || b }).c := by
  cases b
  · rw [Bool.or_false]; rfl
  · rw [Bool.or_true]; exact or_c
theorem wh_v : T.run (when b (orP 64) s.c) = some (s.fl { s.f with v := s.f.v || b }).c := by
  cases b
  · rw [Bool.or_false]; rfl
  · rw [Bool.or_true]; exact or_v
theorem bit7 {v : Nat} (h : v < 256) : bA (v : Int) 128 = b2 (decide (128 ≤ v)) 128 := by
  have := kbt_bit (v : Int) 7
  rw [show ((2 : Int) ^ 7) = 128 from rfl] at this
  show bitAnd (v : Int) 128 = _
  rw [this]
  by_cases q : 128 ≤ v
  · rw [decide_eq_true q]; show _ = (128 : Int); omega
  · rw [decide_eq_false q]; show _ = (0 : Int); omega
theorem m255 {v : Nat} : bA (v : Int) 255 = ((v % 256 : Nat) : Int) := by show bitAnd (v : Int) 255 = _; rw [bitAnd_m8]; lia
theorem m15 {v : Nat} : bA (v : Int) 15 = ((v % 16 : Nat) : Int) := by show bitAnd (v : Int) 15 = _; rw [bitAnd_m4]; lia
noncomputable def Fl.nz (f : Fl) (v : Nat) : Fl := { f with n := decide (128 ≤ v), z := decide (v = 0) }
theorem int_eq0 {v : Nat} : ((v : Int) == 0) = decide (v = 0) := by
  rw [Bool.eq_iff_iff, beq_iff_eq, decide_eq_true_iff]; lia
theorem int_ne0 {v : Nat} : ((v : Int) != 0) = !decide (v = 0) := by
  rw [← int_eq0]; rfl
theorem flagsNZ_ok {v : Nat} (hv : v < 256) : T.run (flagsNZ (v : Int) s.c) = some (s.fl (s.f.nz v)).c := by
  unfold flagsNZ
  by_cases h0 : v = 0
  · subst h0
    refine rt rfl (setp (s := s) ?_)
    show bO (bA s.f.p (bN (bO 2 128))) 2 = _
    rw [show bA s.f.p (bN (bO 2 128)) = _ from (fl_and ..).1, (fl_or ..).2.1]; rfl
  · refine rf (by rw [int_eq0]; exact decide_eq_false h0) (setp (s := s) ?_)
    show bO (bA s.f.p (bN (bO 2 128))) (bA (v : Int) 128) = _
    rw [show bA s.f.p (bN (bO 2 128)) = _ from (fl_and ..).1, bit7 hv]
    unfold Fl.nz
    rw [decide_eq_false h0]
    by_cases q : 128 ≤ v
    · rw [decide_eq_true q]; exact (fl_or ..).2.2.2.2.1
    · rw [decide_eq_false q]; exact (fl_or ..).2.2.2.2.2.1
theorem zn_ok {v : Nat} (hv : v < 256) (hn : s.f.n = false) (hz : s.f.z = false) : T.run (zn (v : Int) s.c) = some (s.fl (s.f.nz v)).c := by
  unfold zn
  by_cases h0 : v = 0
  · subst h0
    refine rf rfl (or_z.trans ?_)
    unfold Fl.nz
    obtain ⟨_, _, _, _, _, _, _, _, _, ⟨n, v, d, i, z, c⟩, _⟩ := s
    cases hn; rfl
  · refine rt (by rw [int_ne0, decide_eq_false h0]; rfl) ?_
    rw [bit7 hv]
    refine or_n.trans ?_
    unfold Fl.nz
    obtain ⟨_, _, _, _, _, _, _, _, _, ⟨n, v, d, i, z, c⟩, _⟩ := s
    cases hn; cases hz
    rw [decide_eq_false h0]; simp
end
theorem inB_ok {m : List Int} {a v : Nat} (h : At m a v) (ha : a < 2 ^ 63) : inB (a : Int) m = true := by
  have hl : a < m.length := (List.getElem?_eq_some_iff.mp h).1
  unfold inB
  simp only [Bool.and_eq_true, decide_eq_true_eq]
  lia
theorem getD_ok {m : List Int} {a v : Nat} (h : At m a v) : m.getD (a : Int).toNat 0 = (v : Int) := by
  rw [Int.toNat_natCast, List.getD_eq_getElem?_getD, h]; rfl
theorem bAt_ok {c : Cpu} {a v : Nat} (h : At c.mem a v) (ha : a < 2 ^ 63) : T.run (bAt c (a : Int)) = some (v : Int) := by
  unfold bAt
  refine rn (inB_ok h ha) ?_
  rw [getD_ok h]; rfl
theorem shl_ok {v n : Nat} (hv : v < 2 ^ 64) (hn : n ≤ 1000000) : T.run (shl (v : Int) (n : Int)) = some ((v * 2 ^ n : Nat) : Int) := by
  unfold shl
  refine rn ?_ ?_
  · simp only [Bool.and_eq_true, decide_eq_true_eq]; lia
  · show some ((v : Int) * 2 ^ (n : Int).toNat) = _
    rw [Int.toNat_natCast]; push_cast; rfl
theorem shr_ok {v n : Nat} : T.run (shr (v : Int) (n : Int)) = some ((v / 2 ^ n : Nat) : Int) := by
  unfold shr
  refine rn (by simp) ?_
  show some ((v : Int).fdiv (2 ^ (n : Int).toNat)) = _
  rw [Int.toNat_natCast, Int.fdiv_eq_ediv_of_nonneg _ (by exact Int.le_of_lt (Int.pow_pos (by decide)))]; push_cast; rfl
section
variable {s : Nc}
theorem imm_ok : T.run (mImm s.c) = some ((s.pc : Int), s.c) := rfl
end
noncomputable def ovS (a d r : Nat) : Bool := bA (bA (bX (a : Int) d) (bX (a : Int) r)) 128 != 0
section
variable {s s' : Nc} {m : Mode} {ad v d z : Nat} {b : Bool}
theorem z0_ok {v : Nat} (hv : v < 256) (hn : s.f.n = false) (hz : s.f.z = false) : T.run (.br ((v : Int) == 0) (orP 2 s.c) (orP (bA (v : Int) 128) s.c) : T Cpu) = some (s.fl (s.f.nz v)).c := by
  by_cases h0 : v = 0
  · subst h0
    refine rt rfl (or_z.trans ?_)
    unfold Fl.nz
    obtain ⟨_, _, _, _, _, _, _, _, _, ⟨n, v, d, i, z, c⟩, _⟩ := s
    cases hn; rfl
  · refine rf (by rw [int_eq0]; exact decide_eq_false h0) ?_
    rw [bit7 hv]
    refine or_n.trans ?_
    unfold Fl.nz
    obtain ⟨_, _, _, _, _, _, _, _, _, ⟨n, v, d, i, z, c⟩, _⟩ := s
    cases hn; cases hz
    rw [decide_eq_false h0]; simp
noncomputable def sN0 (a d c : Nat) : Nat := a % 16 + (15 - d % 16) + c
noncomputable def sH (a d c : Nat) : Bool := decide (sN0 a d c ≤ 15)
noncomputable def sN1 (a d c : Nat) : Nat := a / 16 % 16 + (15 - d / 16 % 16) + (!sH a d c).toNat
noncomputable def sG (a d c : Nat) : Bool := decide (sN1 a d c ≤ 15)
noncomputable def sAl (a d c : Nat) : Nat := a + (255 - d) + c
noncomputable def sAlu (a d c : Nat) : Nat := sAl a d c % 256
noncomputable def sRes (a d c : Nat) : Nat := (sAlu a d c + cond (sG a d c) 160 0) / 16 % 16 * 16 + (sAlu a d c + cond (sH a d c) 10 0) % 16
theorem bN15 {d : Nat} : bA (bN (d : Int)) 15 = ((15 - d % 16 : Nat) : Int) := by show bitAnd (bitNot (d : Int)) 15 = _; rw [bitAnd_m4]; unfold bitNot; lia
theorem bN255 {d : Nat} (h : d < 256) : bA (bN (d : Int)) 255 = ((255 - d : Nat) : Int) := by show bitAnd (bitNot (d : Int)) 255 = _; rw [bitAnd_m8]; unfold bitNot; lia
theorem shrN {d : Nat} : T.run (shr (bN (d : Int)) 4) = some ((bN (d : Int)).fdiv 16) := rfl
theorem bN4 {d : Nat} (h : d < 256) : bA ((bN (d : Int)).fdiv 16) 15 = ((15 - d / 16 % 16 : Nat) : Int) := by
  show bitAnd ((bitNot (d : Int)).fdiv 16) 15 = _
  rw [bitAnd_m4, Int.fdiv_eq_ediv_of_nonneg _ (by decide)]; unfold bitNot; omega
theorem condS {X : Int} {n : Nat} (h : X = (n : Int)) : T.run (.br (decide (X ≤ 15)) (.ret (0, 10)) (.ret (1, 0)) : T (Int × Int)) = some ((((!decide (n ≤ 15)).toNat : Nat) : Int), ((cond (decide (n ≤ 15)) 10 0 : Nat) : Int)) := by
  subst h
  rw [show decide (((n : Int)) ≤ 15) = decide (n ≤ 15) by rw [Bool.eq_iff_iff, decide_eq_true_iff, decide_eq_true_iff]; omega]
  cases decide (n ≤ 15) <;> rfl
theorem condG {X : Int} {n : Nat} (h : X = (n : Int)) : T.run (.br (decide (X ≤ 15)) ((shl 10 4).bind fun u => .ret u) (.ret 0) : T Int) = some ((cond (decide (n ≤ 15)) 160 0 : Nat) : Int) := by
  subst h
  rw [show decide (((n : Int)) ≤ 15) = decide (n ≤ 15) by rw [Bool.eq_iff_iff, decide_eq_true_iff, decide_eq_true_iff]; lia]
  cases decide (n ≤ 15) <;> rfl
theorem cond255 {X : Int} {n : Nat} (h : X = (n : Int)) : T.run (.br (decide (X > 255)) (.ret 1) (.ret 0) : T Int) = some (((decide (255 < n)).toNat : Nat) : Int) := by
  subst h
  rw [show decide (((n : Int)) > 255) = decide (255 < n) by rw [Bool.eq_iff_iff, decide_eq_true_iff, decide_eq_true_iff]; omega]
  cases decide (255 < n) <;> rfl
theorem sbcD_ok (hm : T.run (m s.c) = some ((ad : Int), s'.c)) (h : At s'.mem ad d) (ha : ad < 2 ^ 63) (hd : d < 256) (haa : s'.a < 256) (hD : s'.f.d = true) :
    T.run (opSBC m s.c) = some ({ s' with a := sRes s'.a d s'.f.c.toNat, f := { s'.f with n := decide (128 ≤ sAlu s'.a d s'.f.c.toNat), v := ovS s'.a d (sAlu s'.a d s'.f.c.toNat), z := decide (sAlu s'.a d s'.f.c.toNat = 0), c := decide (255 < sAl s'.a d s'.f.c.toNat) } }).c := by
  generalize hc : s'.f.c.toNat = c
  have e0 : bA s'.c.a 15 + bA (bN (d : Int)) 15 + bA s'.c.p 1 = ((sN0 s'.a d c : Nat) : Int) := by
    rw [is_c1, hc, bN15, show s'.c.a = (s'.a : Int) from rfl, m15]; unfold sN0; lia
  refine rb hm (rb (bAt_ok h ha) (rt (by rw [is_d]; exact hD) (rb (condS e0) (rb (shr_ok (v := s'.a) (n := 4)) (rb shrN ?_)))))
  have e1 : bA ((s'.a / 2 ^ 4 : Nat) : Int) 15 + bA ((bN (d : Int)).fdiv 16) 15 + (((!decide (sN0 s'.a d c ≤ 15)).toNat : Nat) : Int) = ((sN1 s'.a d c : Nat) : Int) := by
    rw [m15, bN4 hd]; unfold sN1 sH; lia
  refine rb (condG e1) ?_
  have e2 : s'.c.a + bA (bN (d : Int)) 255 + bA s'.c.p 1 = ((sAl s'.a d c : Nat) : Int) := by
    rw [is_c1, hc, bN255 hd, show s'.c.a = (s'.a : Int) from rfl]; unfold sAl; lia
  refine rb (cond255 e2) ?_
  have e3 : bA (s'.c.a + bA (bN (d : Int)) 255 + bA s'.c.p 1) 255 = ((sAlu s'.a d c : Nat) : Int) := by rw [e2, m255]; rfl
  have hal : sAlu s'.a d c < 256 := by unfold sAlu; lia
  refine rb (x := (((sAlu s'.a d c + cond (sG s'.a d c) 160 0) / 16 : Nat) : Int)) (by
    show T.run (shr (bA (s'.c.a + bA (bN (d : Int)) 255 + bA s'.c.p 1) 255 + ((cond (decide (sN1 s'.a d c ≤ 15)) 160 0 : Nat) : Int)) ((4 : Nat) : Int)) = _
    rw [e3, show ((sAlu s'.a d c : Nat) : Int) + ((cond (decide (sN1 s'.a d c ≤ 15)) 160 0 : Nat) : Int) = ((sAlu s'.a d c + cond (sG s'.a d c) 160 0 : Nat) : Int) by unfold sG; push_cast; rfl]
    exact shr_ok) ?_
  refine rb an_sbd (rb (x := ((s'.fl { s'.f with n := false, v := false, z := false, c := false }).fl (Fl.nz { s'.f with n := false, v := false, z := false, c := false } (sAlu s'.a d c))).c) ?_ ?_)
  · dsimp only
    rw [e3]
    exact z0_ok (s := s'.fl { s'.f with n := false, v := false, z := false, c := false }) hal rfl rfl
  refine rb wh_c (rb wh_v ?_)
  refine rb (x := (((sAlu s'.a d c + cond (sG s'.a d c) 160 0) / 16 % 16 * 16 : Nat) : Int)) (by
    show T.run (shl (bA (((sAlu s'.a d c + cond (sG s'.a d c) 160 0) / 16 : Nat) : Int) 15) ((4 : Nat) : Int)) = _
    rw [m15]; exact shl_ok (by lia) (by decide)) ?_
  have e5 : (((sAlu s'.a d c + cond (sG s'.a d c) 160 0) / 16 % 16 * 16 : Nat) : Int) + bA (bA (s'.c.a + bA (bN (d : Int)) 255 + bA s'.c.p 1) 255 + ((cond (decide (sN0 s'.a d c ≤ 15)) 10 0 : Nat) : Int)) 15 = ((sRes s'.a d c : Nat) : Int) := by
    rw [e3, show ((sAlu s'.a d c : Nat) : Int) + ((cond (decide (sN0 s'.a d c ≤ 15)) 10 0 : Nat) : Int) = ((sAlu s'.a d c + cond (sH s'.a d c) 10 0 : Nat) : Int) by unfold sH; push_cast; rfl, m15]; unfold sRes; lia
  have e6 : ((((decide (255 < sAl s'.a d c)).toNat : Nat) : Int) == 1) = decide (255 < sAl s'.a d c) := by cases decide (255 < sAl s'.a d c) <;> rfl
  have e7 : (bA (bA (bX s'.c.a (d : Int)) (bX s'.c.a (bA (s'.c.a + bA (bN (d : Int)) 255 + bA s'.c.p 1) 255))) 128 != 0) = ovS s'.a d (sAlu s'.a d c) := by rw [e3]; rfl
  dsimp only
  rw [e5, e6, e7]
  rfl
end
end Mine
end
section
open PySem PySem.W PySem.Calls PyProof.Rows PySem.Builtin
namespace Mine
noncomputable def pz (c z : Nat) : List Int := [(56 + c + 2 * z : Nat), (120 + c + 2 * z : Nat), (184 + c + 2 * z : Nat), (248 + c + 2 * z : Nat)]
noncomputable def pc' (c : Nat) : List Int := pz c 0 ++ pz c 1
noncomputable def pAll : List Int := pc' 0 ++ pc' 1
noncomputable def bcd (n : Nat) : Nat := n / 10 * 16 + n % 10
noncomputable def fD (n v z c : Bool) : Fl := ⟨n, v, true, false, z, c⟩
theorem fl_in : ∀ c : Bool, ∀ p ∈ pc' c.toNat, ∃ n v z : Bool, p = (fD n v z c).p := by decide +kernel
theorem fl_pz : ∀ n v z c : Bool, (fD n v z c).p ∈ pz c.toNat z.toNat ∧ (fD n v z c).p ∈ pc' c.toNat := by decide +kernel
noncomputable def toB (c : Nat) : Bool := c == 1
theorem toB_nat {c : Nat} (h : c < 2) : (toB c).toNat = c := by
  match c, h with
  | 0, _ => rfl
  | 1, _ => rfl
theorem fl_of {c : Nat} {p : Int} (hc : c < 2) (hp : p ∈ pc' c) : ∃ n v z : Bool, p = (fD n v z (toB c)).p := fl_in (toB c) p (by rw [toB_nat hc]; exact hp)
theorem dN {q : Prop} [Decidable q] : (decide q).toNat = if q then 1 else 0 := by by_cases h : q <;> simp [h]
noncomputable def n0 (f : Fl) : Nc := ⟨0, .inl false, 0, 0, 0, 0, 0, 0, 0, f, []⟩
noncomputable def nD (a : Nat) (f : Fl) (d : Nat) : Nc := ⟨0, .inl false, 0, 0, 0, 0, a, 0, 0, f, [(d : Int)]⟩
theorem xNZ {c v : Nat} {p : Int} (hc : c < 2) (hv : v < 256) (hp : p ∈ pc' c) : ∃ q, T.run (flagsNZ (v : Int) (c0 p)) = some q ∧ q.p ∈ pz c (if v = 0 then 1 else 0) := by
  obtain ⟨n, f, z, rfl⟩ := fl_of hc hp
  refine ⟨_, flagsNZ_ok (s := n0 (fD n f z (toB c))) hv, ?_⟩
  have := (fl_pz (decide (128 ≤ v)) f (decide (v = 0)) (toB c)).1
  rw [dN, toB_nat hc] at this
  exact this
theorem b7_ne {v : Nat} (h : v < 256) : (bA (v : Int) 128 != 0) = decide (128 ≤ v) := by rw [bit7 h]; exact b2_ne (by decide)
theorem hiB {v : Nat} (h : v < 256) : (decide (128 ≤ v)).toNat = v / 128 := by rw [dN]; split <;> omega
theorem asl_n {f : Fl} {v : Nat} (hv : v < 256) : T.run (fASL (v : Int) (n0 f).c) = some (((2 * v % 256 : Nat) : Int), (n0 (({ f with c := decide (128 ≤ v) } : Fl).nz (2 * v % 256))).c) := by
  have e : bA ((v * 2 ^ 1 : Nat) : Int) 255 = ((2 * v % 256 : Nat) : Int) := by rw [m255]; congr 1; lia
  refine rb an_sh (rb (x := (n0 { f with n := false, z := false, c := decide (128 ≤ v) }).c) ?_ (rb (shl_ok (n := 1) (by lia) (by decide)) (rb (x := (n0 (({ f with c := decide (128 ≤ v) } : Fl).nz (2 * v % 256))).c) ?_ ?_)))
  · rw [b7_ne hv]
    have := wh_c (s := n0 { f with n := false, z := false, c := false }) (b := decide (128 ≤ v))
    rw [show (n0 { f with n := false, z := false, c := false }).f.c = false from rfl, Bool.false_or] at this
    exact this
  · rw [e]; exact zn_ok (s := n0 { f with n := false, z := false, c := decide (128 ≤ v) }) (Nat.mod_lt _ (by decide)) rfl rfl
  · rw [e]; rfl
theorem all_in {p : Int} (h : p ∈ pAll) : ∃ c : Bool, p ∈ pc' c.toNat := (List.mem_append.mp h).elim (fun h => ⟨false, h⟩) fun h => ⟨true, h⟩
theorem xASL {m : Nat} {p : Int} (hm : m < 256) (hp : p ∈ pAll) : ∃ q, T.run (fASL (m : Int) (c0 p)) = some q ∧ q.1 = ((2 * m % 256 : Nat) : Int) ∧ q.2.p ∈ pc' (m / 128) := by
  obtain ⟨c, hp⟩ := all_in hp
  obtain ⟨n, f, z, rfl⟩ := fl_in c p hp
  refine ⟨_, asl_n (f := fD n f z c) hm, rfl, ?_⟩
  have := (fl_pz (decide (128 ≤ 2 * m % 256)) f (decide (2 * m % 256 = 0)) (decide (128 ≤ m))).2
  rw [hiB hm] at this
  exact this
noncomputable def rolV (v : Nat) (c : Bool) : Nat := (2 * v + c.toNat) % 256
theorem rol_or : ∀ v : Fin 256, bA (bO ((v.val * 2 ^ 1 : Nat) : Int) 1) 255 = (((2 * v.val + 1) % 256 : Nat) : Int) := by decide +kernel
theorem rol_n {f : Fl} {v : Nat} (hv : v < 256) : T.run (fROL (v : Int) (n0 f).c) = some (((rolV v f.c : Nat) : Int), (n0 (({ f with c := decide (128 ≤ v) } : Fl).nz (rolV v f.c))).c) := by
  have hr : rolV v f.c < 256 := Nat.mod_lt _ (by decide)
  have fin : ∀ {r : Int}, bA r 255 = ((rolV v f.c : Nat) : Int) → T.run ((flagsNZ (bA r 255) (n0 { f with c := decide (128 ≤ v) }).c).bind fun c => .ret (bA r 255, c)) = some (((rolV v f.c : Nat) : Int), (n0 (({ f with c := decide (128 ≤ v) } : Fl).nz (rolV v f.c))).c) := fun {r} e => by
    rw [e]
    exact rb (flagsNZ_ok (s := n0 { f with c := decide (128 ≤ v) }) hr) rfl
  cases hc : f.c with
  | true =>
    rw [← hc]
    refine rb (x := (bO ((v * 2 ^ 1 : Nat) : Int) 1, (n0 { f with c := decide (128 ≤ v) }).c)) (rt (by rw [is_c]; exact hc) (rb (x := (n0 { f with c := decide (128 ≤ v) }).c) ?_ (rb (shl_ok (n := 1) (by lia) (by decide)) rfl))) (fin ?_)
    · by_cases q : 128 ≤ v
      · refine rt (by rw [b7_ne hv]; exact decide_eq_true q) ?_
        rw [decide_eq_true q, ← hc]; rfl
      · refine rf (by rw [b7_ne hv]; exact decide_eq_false q) ?_
        rw [decide_eq_false q]; exact an_c (s := n0 f)
    · exact (rol_or ⟨v, hv⟩).trans (by unfold rolV; rw [hc]; rfl)
  | false =>
    rw [← hc]
    refine rb (x := (((v * 2 ^ 1 : Nat) : Int), (n0 { f with c := decide (128 ≤ v) }).c)) (rf (by rw [is_c]; exact hc) (rb (x := (n0 { f with c := decide (128 ≤ v) }).c) ?_ (rb (shl_ok (n := 1) (by lia) (by decide)) rfl))) (fin ?_)
    · have := wh_c (s := n0 f) (b := decide (128 ≤ v))
      rw [show (n0 f).f.c = false from hc, Bool.false_or] at this
      rw [b7_ne hv]; exact this
    · rw [m255]; unfold rolV; rw [hc]; show ((v * 2 ^ 1 % 256 : Nat) : Int) = (((2 * v + 0) % 256 : Nat) : Int); congr 1; lia
theorem xROL {c t : Nat} {p : Int} (hc : c < 2) (ht : t < 256) (hp : p ∈ pc' c) : ∃ q, T.run (fROL (t : Int) (c0 p)) = some q ∧ q.1 = (((2 * t + c) % 256 : Nat) : Int) ∧ q.2.p ∈ pc' (t / 128) := by
  obtain ⟨n, f, z, rfl⟩ := fl_of hc hp
  refine ⟨_, rol_n (f := fD n f z (toB c)) ht, ?_, ?_⟩
  · show ((rolV t (toB c) : Nat) : Int) = _
    unfold rolV; rw [toB_nat hc]
  · have := (fl_pz (decide (128 ≤ rolV t (toB c))) f (decide (rolV t (toB c) = 0)) (decide (128 ≤ t))).2
    rw [hiB ht] at this
    exact this
theorem inc_n {f : Fl} {m : Nat} (hm : m < 255) : T.run (fINC 1 (m : Int) (n0 f).c) = some (((m + 1 : Nat) : Int), (n0 (f.nz (m + 1))).c) := by
  have e : bA ((m : Int) + 1) 255 = ((m + 1 : Nat) : Int) := by
    show bA (((m + 1 : Nat) : Int)) 255 = _
    rw [m255, Nat.mod_eq_of_lt (by lia)]
  refine rb an_nz (rb (x := (n0 (f.nz (m + 1))).c) ?_ ?_)
  · rw [e]; exact zn_ok (s := n0 { f with n := false, z := false }) (by lia) rfl rfl
  · rw [e]; rfl
theorem xINC {m : Nat} {p : Int} (hm : m < 255) (hp : p ∈ pc' 1) : ∃ q, T.run (fINC 1 (m : Int) (c0 p)) = some q ∧ q.1 = ((m + 1 : Nat) : Int) ∧ q.2.p ∈ pz 1 0 := by
  obtain ⟨n, f, z, rfl⟩ := fl_of (by decide) hp
  exact ⟨_, inc_n (f := fD n f z (toB 1)) hm, rfl, (fl_pz (decide (128 ≤ m + 1)) f false true).1⟩
theorem sbc_n {a d : Nat} {f : Fl} (hd : d < 256) (ha : a < 256) (hf : f.d = true) : T.run (opSBC mImm (nD a f d).c) = some ({ nD a f d with a := sRes a d f.c.toNat, f := { f with n := decide (128 ≤ sAlu a d f.c.toNat), v := ovS a d (sAlu a d f.c.toNat), z := decide (sAlu a d f.c.toNat = 0), c := decide (255 < sAl a d f.c.toNat) } } : Nc).c :=
  sbcD_ok (s := nD a f d) (s' := nD a f d) (m := mImm) (ad := 0) (d := d) imm_ok rfl (by decide) hd ha hf
theorem sRes_d {a b c d : Nat} (ha : a < 10) (hb : b < 10) (hc : c < 10) (hd : d < 10) : sRes (a * 16 + b) (c * 16 + d) 1 = bcd ((10 * a + b + 100 - (10 * c + d)) % 100) := by
  have e1 : sH (a * 16 + b) (c * 16 + d) 1 = decide (b < d) := by unfold sH sN0; rw [Bool.eq_iff_iff, decide_eq_true_iff, decide_eq_true_iff]; omega
  have e2 : sG (a * 16 + b) (c * 16 + d) 1 = decide (a < c + (decide (b < d)).toNat) := by
    unfold sG sN1; rw [e1, Bool.eq_iff_iff, decide_eq_true_iff, decide_eq_true_iff]
    by_cases q : b < d <;> simp only [q, decide_true, decide_false, Bool.not_true, Bool.not_false, Bool.toNat_true, Bool.toNat_false] <;> omega
  have et : ∀ k l, k ≤ 9 → l ≤ 9 → bcd (10 * k + l) = 16 * k + l := fun k l h1 h2 => by unfold bcd; omega
  unfold sRes sAlu sAl
  rw [e1, e2]
  by_cases q : b < d
  · rw [decide_eq_true q]
    obtain ⟨l, hl⟩ : ∃ l, l + d = 10 + b := ⟨10 + b - d, by omega⟩
    by_cases r : a < c + 1
    · obtain ⟨k, hk⟩ : ∃ k, k + c = 9 + a := ⟨9 + a - c, by omega⟩
      rw [decide_eq_true (by exact r), show (10 * a + b + 100 - (10 * c + d)) % 100 = 10 * k + l by omega, et k l (by omega) (by omega), show (a * 16 + b + (255 - (c * 16 + d)) + 1) % 256 = 16 * k + l + 102 by omega]
      show (16 * k + l + 102 + 160) / 16 % 16 * 16 + (16 * k + l + 102 + 10) % 16 = _
      omega
    · obtain ⟨k, hk⟩ : ∃ k, k + c + 1 = a := ⟨a - c - 1, by omega⟩
      rw [decide_eq_false (by exact r), show (10 * a + b + 100 - (10 * c + d)) % 100 = 10 * k + l by omega, et k l (by omega) (by omega), show (a * 16 + b + (255 - (c * 16 + d)) + 1) % 256 = 16 * k + l + 6 by omega]
      show (16 * k + l + 6 + 0) / 16 % 16 * 16 + (16 * k + l + 6 + 10) % 16 = _
      omega
  · rw [decide_eq_false q]
    obtain ⟨l, hl⟩ : ∃ l, l + d = b := ⟨b - d, by omega⟩
    by_cases r : a < c
    · obtain ⟨k, hk⟩ : ∃ k, k + c = 10 + a := ⟨10 + a - c, by omega⟩
      rw [decide_eq_true (by exact r), show (10 * a + b + 100 - (10 * c + d)) % 100 = 10 * k + l by omega, et k l (by omega) (by omega), show (a * 16 + b + (255 - (c * 16 + d)) + 1) % 256 = 16 * k + l + 96 by omega]
      show (16 * k + l + 96 + 160) / 16 % 16 * 16 + (16 * k + l + 96 + 0) % 16 = _
      omega
    · obtain ⟨k, hk⟩ : ∃ k, k + c = a := ⟨a - c, by omega⟩
      rw [decide_eq_false (by exact r), show (10 * a + b + 100 - (10 * c + d)) % 100 = 10 * k + l by omega, et k l (by omega) (by omega), show (a * 16 + b + (255 - (c * 16 + d)) + 1) % 256 = 16 * k + l by omega]
      show (16 * k + l + 0) / 16 % 16 * 16 + (16 * k + l + 0) % 16 = _
      omega
theorem sRes_bcd {x y : Nat} (hx : x < 100) (hy : y < 100) : sRes (bcd x) (bcd y) 1 = bcd ((x + 100 - y) % 100) := by
  have := sRes_d (a := x / 10) (b := x % 10) (c := y / 10) (d := y % 10) (by lia) (by lia) (by lia) (by lia)
  rw [show 10 * (x / 10) + x % 10 = x by lia, show 10 * (y / 10) + y % 10 = y by lia] at this
  exact this
theorem bcd_lt {x : Nat} (h : x < 100) : bcd x < 256 := by unfold bcd; lia
theorem sAl_bcd {x y : Nat} (hy : y < 100) : (decide (255 < sAl (bcd x) (bcd y) 1)).toNat = if y ≤ x then 1 else 0 := by
  have : (255 < sAl (bcd x) (bcd y) 1) ↔ y ≤ x := by unfold sAl bcd; omega
  rw [dN]; simp only [this]
theorem xSBC {x y : Nat} {p : Int} (hx : x < 100) (hy : y < 100) (hp : p ∈ pc' 1) : ∃ q, T.run (opSBC mImm (cD (bcd x : Int) p (bcd y : Int))) = some q ∧ q.a = (bcd ((x + 100 - y) % 100) : Int) ∧ q.p ∈ pc' (if y ≤ x then 1 else 0) := by
  obtain ⟨n, f, z, rfl⟩ := fl_of (by decide) hp
  refine ⟨_, sbc_n (f := fD n f z true) (bcd_lt hy) (bcd_lt hx) rfl, ?_, ?_⟩
  · exact congrArg Int.ofNat (sRes_bcd hx hy)
  · have := (fl_pz (decide (128 ≤ sAlu (bcd x) (bcd y) 1)) (ovS (bcd x) (bcd y) (sAlu (bcd x) (bcd y) 1)) (decide (sAlu (bcd x) (bcd y) 1 = 0)) (decide (255 < sAl (bcd x) (bcd y) 1))).2
    rw [sAl_bcd hy] at this
    exact this
noncomputable def pEnd : List Int := [56, 58, 184, 186]
theorem xS1 {s : Nat} {p : Int} (hs : s < 10) (hp : p ∈ pc' 1) : ∃ q, T.run (opSBC mImm (cD (s : Int) p 0)) = some q ∧ q.a = (s : Int) ∧ q.p ∈ pc' 1 := by
  obtain ⟨n, f, z, rfl⟩ := fl_of (by decide) hp
  refine ⟨_, sbc_n (a := s) (d := 0) (f := fD n f z true) (by decide) (by lia) rfl, ?_, ?_⟩
  · have := sRes_d (a := 0) (b := s) (c := 0) (d := 0) (by decide) hs (by decide) (by decide)
    rw [show (10 * 0 + s + 100 - (10 * 0 + 0)) % 100 = s by lia, show bcd s = s by unfold bcd; lia, show 0 * 16 + s = s by lia] at this
    exact congrArg Int.ofNat this
  · have := (fl_pz (decide (128 ≤ sAlu s 0 1)) (ovS s 0 (sAlu s 0 1)) (decide (sAlu s 0 1 = 0)) true).2
    rw [← show decide (255 < sAl s 0 1) = true from decide_eq_true (by unfold sAl; lia)] at this
    exact this
theorem s0_tab : ∀ s : Fin 10, s.val ≠ 0 → sRes s.val 0 0 = s.val - 1 := by decide +kernel
theorem xS0 {s : Nat} {p : Int} (hs : s < 10) (hp : p ∈ pc' 0) : ∃ q, T.run (opSBC mImm (cD (s : Int) p 0)) = some q ∧ (s = 0 → q.a = 153 ∧ q.p ∈ pEnd) ∧ (s ≠ 0 → q.a = ((s - 1 : Nat) : Int) ∧ q.p ∈ pc' 1) := by
  obtain ⟨n, f, z, rfl⟩ := fl_of (by decide) hp
  refine ⟨_, sbc_n (a := s) (d := 0) (f := fD n f z false) (by decide) (by lia) rfl, fun h => ?_, fun h => ⟨?_, ?_⟩⟩
  · subst h
    have : ∀ n f z : Bool, ((sRes 0 0 0 : Nat) : Int) = 153 ∧ Fl.p { fD n f z false with n := decide (128 ≤ sAlu 0 0 0), v := ovS 0 0 (sAlu 0 0 0), z := decide (sAlu 0 0 0 = 0), c := decide (255 < sAl 0 0 0) } ∈ pEnd := by decide +kernel
    exact this n f z
  · exact congrArg Int.ofNat (s0_tab ⟨s, hs⟩ h)
  · have := (fl_pz (decide (128 ≤ sAlu s 0 0)) (ovS s 0 (sAlu s 0 0)) (decide (sAlu s 0 0 = 0)) (decide (255 < sAl s 0 0))).2
    rw [show (decide (255 < sAl s 0 0)).toNat = 1 by rw [decide_eq_true (show 255 < sAl s 0 0 by unfold sAl; lia)]; rfl] at this
    exact this
theorem kEnd : (([56, 58, 184, 186] : List Int).all fun p => match T.run (flagsNZ 0 (c0 p)) with | some q => q.p == 58 | none => false) = true := by decide +kernel
theorem kSEC : (pAll.all fun p => (pc' 1).contains (bO p 1)) = true := by decide +kernel
theorem kZ : ((pz 0 0 ++ pz 1 0).all (fun p => bA p 2 != 0) = false) ∧ ((pz 0 0 ++ pz 1 0).all (fun p => !(bA p 2 != 0))) = true ∧ ((pz 0 1 ++ pz 1 1).all (fun p => bA p 2 != 0)) = true := by decide +kernel
theorem kC : ((pc' 0).all (fun p => !(bA p 1 != 0))) = true ∧ ((pc' 1).all (fun p => bA p 1 != 0)) = true := by decide +kernel
theorem kD : ((List.range 5).all fun y => y == 0 || bA ((y : Int) - 1) 255 == ((y - 1 : Nat) : Int)) = true := by decide +kernel
end Mine
end
section
open PySem PySem.W PySem.Calls PyProof.Rows PySem.Builtin
namespace Mine
theorem m256 (n : Nat) : n % 256 < 256 := Nat.mod_lt _ (by decide)
theorem cl2 {c : Prop} [Decidable c] : (if c then 1 else 0) < 2 := by by_cases h : c <;> simp [h]
noncomputable def Go : Nat → Cpu → Cpu → Prop
  | 0, c, c' => c = c'
  | n + 1, c, c'' => c.pc ≠ 557 ∧ ∃ c', stepC c = some c' ∧ Go n c' c''
theorem Go.trans : ∀ {n m : Nat} {a b c : Cpu}, Go n a b → Go m b c → Go (n + m) a c
  | 0, m, a, b, c, h, k => by rw [Nat.zero_add]; have : a = b := h; exact this ▸ k
  | n + 1, m, a, b, c, h, k => by
    obtain ⟨h1, c', h2, h3⟩ := h
    rw [Nat.add_right_comm]
    exact ⟨h1, c', h2, h3.trans k⟩
theorem go1 {c c' c'' : Cpu} {n : Nat} (h : stepC c = some c') (hp : c.pc ≠ 557) (g : Go n c' c'') : Go (n + 1) c c'' := ⟨hp, c', h, g⟩
theorem st1 {α : Type} {c : Cpu} {t : T α} {k : α → Cpu} {q : α} (i : stepC c = T.run (t.bind fun q => .ret (k q))) (h : T.run t = some q) : stepC c = some (k q) := by
  rw [i, T.run_bind, h]; rfl
theorem stB {c : Cpu} {b : Bool} {x y : Cpu} (i : stepC c = T.run (.br b (.ret x) (.ret y))) : stepC c = some (cond b x y) := by
  rw [i]; cases b <;> rfl
theorem pz_pc {c z : Nat} {p : Int} (hz : z < 2) (h : p ∈ pz c z) : p ∈ pc' c := by
  match z, hz with
  | 0, _ => exact List.mem_append_left _ h
  | 1, _ => exact List.mem_append_right _ h
theorem pc_all {c : Nat} {p : Int} (hc : c < 2) (h : p ∈ pc' c) : p ∈ pAll := by
  match c, hc with
  | 0, _ => exact List.mem_append_left _ h
  | 1, _ => exact List.mem_append_right _ h
theorem all_pc {p : Int} (h : p ∈ pAll) : ∃ c, c < 2 ∧ p ∈ pc' c := by
  rcases List.mem_append.mp h with h | h
  · exact ⟨0, by omega, h⟩
  · exact ⟨1, by omega, h⟩
theorem z_of {c z : Nat} {p : Int} (hc : c < 2) (hz : z < 2) (h : p ∈ pz c z) : (bA p 2 != 0) = decide (z = 1) := by
  match c, z, hc, hz with
  | 0, 0, _, _ => have := List.all_eq_true.mp kZ.2.1 p (List.mem_append_left _ h); simpa using this
  | 1, 0, _, _ => have := List.all_eq_true.mp kZ.2.1 p (List.mem_append_right _ h); simpa using this
  | 0, 1, _, _ => have := List.all_eq_true.mp kZ.2.2 p (List.mem_append_left _ h); simpa using this
  | 1, 1, _, _ => have := List.all_eq_true.mp kZ.2.2 p (List.mem_append_right _ h); simpa using this
theorem c_of {c : Nat} {p : Int} (hc : c < 2) (h : p ∈ pc' c) : (bA p 1 != 0) = decide (c = 1) := by
  match c, hc with
  | 0, _ => have := List.all_eq_true.mp kC.1 p h; simpa using this
  | 1, _ => have := List.all_eq_true.mp kC.2 p h; simpa using this
theorem d_of {y : Nat} (h1 : 1 ≤ y) (h4 : y ≤ 4) : bA ((y : Int) - 1) 255 = ((y - 1 : Nat) : Int) := by
  have := List.all_eq_true.mp kD y (List.mem_range.mpr (by first | assumption | exact m256 _ | decide | exact cl2 | omega))
  rw [Bool.or_eq_true] at this
  rcases this with h | h
  · have := eq_of_beq h; omega
  · exact eq_of_beq h
theorem round {j : Int × Int × (Bool ⊕ Int)} {p a x d : Int} {y m b r s : Nat} (hm : m < 256) (hb : b < 256) (hr : r < 256) (hs : s < 256) (hy : 1 ≤ y) (hy4 : y ≤ 4) (hp : p ∈ pAll) :
    ∃ j' p', p' ∈ pAll ∧ Go 6 (S j 523 a x y p m b d r s) (S j' (if y = 1 then 534 else 523) a x ((y - 1 : Nat) : Int) p' ((2 * m % 256 : Nat) : Int) (((2 * b + m / 128) % 256 : Nat) : Int) d (((2 * r + b / 128) % 256 : Nat) : Int) (((2 * s + r / 128) % 256 : Nat) : Int)) := by
  obtain ⟨q1, e1, f1, g1⟩ := xASL hm hp
  obtain ⟨q2, e2, f2, g2⟩ := xROL (c := m / 128) (by first | assumption | exact m256 _ | decide | exact cl2 | lia) hb g1
  obtain ⟨q3, e3, f3, g3⟩ := xROL (c := b / 128) (by first | assumption | exact m256 _ | decide | exact cl2 | lia) hr g2
  obtain ⟨q4, e4, f4, g4⟩ := xROL (c := r / 128) (by first | assumption | exact m256 _ | decide | exact cl2 | lia) hs g3
  obtain ⟨q5, e5, g5⟩ := xNZ (c := s / 128) (v := y - 1) (by first | assumption | exact m256 _ | decide | exact cl2 | lia) (by first | assumption | exact m256 _ | decide | exact cl2 | lia) g4
  have hz : (bA q5.p 2 != 0) = decide (y = 1) := by
    rw [z_of (by first | assumption | exact m256 _ | decide | exact cl2 | lia) cl2 g5]
    by_cases h : y = 1
    · subst h; rfl
    · have : y - 1 ≠ 0 := by lia
      simp [h, this]
  have h1 := st1 (i523 j a x y p m b d r s) e1
  have h2 := fun j => st1 (i525 j a x y q1.2.p q1.1 b d r s) e2
  have h3 := fun j => st1 (i527 j a x y q2.2.p q1.1 q2.1 d r s) e3
  have h4 := fun j => st1 (i529 j a x y q3.2.p q1.1 q2.1 d q3.1 s) e4
  have h5 := fun j => st1 (i531 j a x y q4.2.p q1.1 q2.1 d q3.1 q4.1) (by rw [d_of hy hy4]; exact e5)
  have h6 := fun j => stB (i532 j a x (bA ((y : Int) - 1) 255) q5.p q1.1 q2.1 d q3.1 q4.1)
  have g := go1 h1 (show (523 : Int) ≠ 557 by decide) (go1 (h2 _) (show (525 : Int) ≠ 557 by decide) (go1 (h3 _) (show (527 : Int) ≠ 557 by decide) (go1 (h4 _) (show (529 : Int) ≠ 557 by decide) (go1 (h5 _) (show (531 : Int) ≠ 557 by decide) (go1 (h6 _) (show (532 : Int) ≠ 557 by decide) (show Go 0 _ _ from rfl))))))
  rw [hz, d_of hy hy4, f1, f2, f3, f4] at g
  by_cases h : y = 1
  · rw [decide_eq_true h] at g
    rw [if_pos h]
    exact ⟨_, _, pc_all (by first | assumption | exact m256 _ | decide | exact cl2 | lia) (pz_pc cl2 g5), g⟩
  · rw [decide_eq_false h] at g
    rw [if_neg h]
    exact ⟨_, _, pc_all (by first | assumption | exact m256 _ | decide | exact cl2 | lia) (pz_pc cl2 g5), g⟩
theorem two {m b c m' b' : Nat} (hm : m < 256) (hb : b < 256) (hc : c < 2) (e1 : m' = (2 * m + c) % 256) (e2 : b' = (2 * b + m / 128) % 256) : m' + 256 * b' = (2 * (m + 256 * b) + c) % 65536 ∧ m' < 256 ∧ b' < 256 := by lia
theorem shG {b r c0 c1 c2 b1 b2 b3 r1 r2 r3 r4 : Nat} (hb : b < 256) (hr : r < 256) (h0 : c0 < 2) (h1 : c1 < 2) (h2 : c2 < 2) (e1 : b1 = (2 * b + c0) % 256) (e2 : b2 = (2 * b1 + c1) % 256) (e3 : b3 = (2 * b2 + c2) % 256)
    (f1 : r1 = (2 * r + b / 128) % 256) (f2 : r2 = (2 * r1 + b1 / 128) % 256) (f3 : r3 = (2 * r2 + b2 / 128) % 256) (f4 : r4 = (2 * r3 + b3 / 128) % 256) : r4 = (16 * r + b / 16) % 256 := by
  obtain ⟨a1, x1, y1⟩ := two hb hr h0 e1 f1
  obtain ⟨a2, x2, y2⟩ := two x1 y1 h1 e2 f2
  obtain ⟨a3, x3, y3⟩ := two x2 y2 h2 e3 f3
  obtain ⟨a4, x4, y4⟩ := two x3 y3 (c := 0) (by first | assumption | exact m256 _ | decide | exact cl2 | omega) rfl f4
  generalize (2 * b3 + 0) % 256 = b4 at *
  clear e1 e2 e3 f1 f2 f3 f4
  omega
theorem sh1 {m : Nat} : 2 * (2 * (2 * (2 * m % 256) % 256) % 256) % 256 = 16 * m % 256 := by lia
theorem shift4 {j : Int × Int × (Bool ⊕ Int)} {p a x y d : Int} {m b r s : Nat} (hm : m < 256) (hb : b < 256) (hr : r < 256) (hs : s < 256) (hp : p ∈ pAll) :
    ∃ j' p', p' ∈ pAll ∧ Go 25 (S j 521 a x y p m b d r s) (S j' 534 a x 0 p' ((16 * m % 256 : Nat) : Int) (((16 * b + m / 16) % 256 : Nat) : Int) d (((16 * r + b / 16) % 256 : Nat) : Int) (((16 * s + r / 16) % 256 : Nat) : Int)) := by
  obtain ⟨c, hc, hpc⟩ := all_pc hp
  obtain ⟨q, e, g⟩ := xNZ (v := 4) hc (by first | assumption | exact m256 _ | decide | exact cl2 | lia) hpc
  have h0 := st1 (i521 j a x y p m b d r s) e
  obtain ⟨j1, p1, w1, g1⟩ := round (j := (j.1 + (2 + 0), 0, .inr 0)) (a := a) (x := x) (d := d) (y := 4) hm hb hr hs (by first | assumption | exact m256 _ | decide | exact cl2 | lia) (by first | assumption | exact m256 _ | decide | exact cl2 | lia) (pc_all hc (pz_pc cl2 g))
  obtain ⟨j2, p2, w2, g2⟩ := round (j := j1) (a := a) (x := x) (d := d) (y := 3) (m := 2 * m % 256) (b := (2 * b + m / 128) % 256) (r := (2 * r + b / 128) % 256) (s := (2 * s + r / 128) % 256) (by first | assumption | exact m256 _ | decide | exact cl2 | lia) (by first | assumption | exact m256 _ | decide | exact cl2 | lia) (by first | assumption | exact m256 _ | decide | exact cl2 | lia) (by first | assumption | exact m256 _ | decide | exact cl2 | lia) (by first | assumption | exact m256 _ | decide | exact cl2 | lia) (by first | assumption | exact m256 _ | decide | exact cl2 | lia) w1
  obtain ⟨j3, p3, w3, g3⟩ := round (j := j2) (a := a) (x := x) (d := d) (y := 2) (m := 2 * (2 * m % 256) % 256) (b := (2 * ((2 * b + m / 128) % 256) + 2 * m % 256 / 128) % 256) (r := (2 * ((2 * r + b / 128) % 256) + (2 * b + m / 128) % 256 / 128) % 256) (s := (2 * ((2 * s + r / 128) % 256) + (2 * r + b / 128) % 256 / 128) % 256) (by first | assumption | exact m256 _ | decide | exact cl2 | lia) (by first | assumption | exact m256 _ | decide | exact cl2 | lia) (by first | assumption | exact m256 _ | decide | exact cl2 | lia) (by first | assumption | exact m256 _ | decide | exact cl2 | lia) (by first | assumption | exact m256 _ | decide | exact cl2 | lia) (by first | assumption | exact m256 _ | decide | exact cl2 | lia) w2
  obtain ⟨j4, p4, w4, g4⟩ := round (j := j3) (a := a) (x := x) (d := d) (y := 1) (m := 2 * (2 * (2 * m % 256) % 256) % 256) (b := (2 * ((2 * ((2 * b + m / 128) % 256) + 2 * m % 256 / 128) % 256) + 2 * (2 * m % 256) % 256 / 128) % 256)
    (r := (2 * ((2 * ((2 * r + b / 128) % 256) + (2 * b + m / 128) % 256 / 128) % 256) + (2 * ((2 * b + m / 128) % 256) + 2 * m % 256 / 128) % 256 / 128) % 256)
    (s := (2 * ((2 * ((2 * s + r / 128) % 256) + (2 * r + b / 128) % 256 / 128) % 256) + (2 * ((2 * r + b / 128) % 256) + (2 * b + m / 128) % 256 / 128) % 256 / 128) % 256) (by first | assumption | exact m256 _ | decide | exact cl2 | lia) (by first | assumption | exact m256 _ | decide | exact cl2 | lia) (by first | assumption | exact m256 _ | decide | exact cl2 | lia) (by first | assumption | exact m256 _ | decide | exact cl2 | lia) (by first | assumption | exact m256 _ | decide | exact cl2 | lia) (by first | assumption | exact m256 _ | decide | exact cl2 | lia) w3
  have g := go1 h0 (show (521 : Int) ≠ 557 by decide) (((g1.trans g2).trans g3).trans g4)
  have E1 : 2 * (2 * (2 * (2 * m % 256) % 256) % 256) % 256 = 16 * m % 256 := sh1
  have E2 := shG (c0 := 0) (c1 := 0) (c2 := 0) hm hb (by first | assumption | exact m256 _ | decide | exact cl2 | lia) (by first | assumption | exact m256 _ | decide | exact cl2 | lia) (by first | assumption | exact m256 _ | decide | exact cl2 | lia) (b1 := 2 * m % 256) (b2 := 2 * (2 * m % 256) % 256) (b3 := 2 * (2 * (2 * m % 256) % 256) % 256) rfl rfl rfl rfl rfl rfl rfl
  have E3 := shG (c0 := m / 128) (c1 := 2 * m % 256 / 128) (c2 := 2 * (2 * m % 256) % 256 / 128) hb hr (by first | assumption | exact m256 _ | decide | exact cl2 | lia) (by first | assumption | exact m256 _ | decide | exact cl2 | lia) (by first | assumption | exact m256 _ | decide | exact cl2 | lia) rfl rfl rfl rfl rfl rfl rfl
  have E4 := shG (c0 := b / 128) (c1 := (2 * b + m / 128) % 256 / 128) (c2 := (2 * ((2 * b + m / 128) % 256) + 2 * m % 256 / 128) % 256 / 128) hr hs (by first | assumption | exact m256 _ | decide | exact cl2 | lia) (by first | assumption | exact m256 _ | decide | exact cl2 | lia) (by first | assumption | exact m256 _ | decide | exact cl2 | lia) rfl rfl rfl rfl rfl rfl rfl
  rw [E1, E2, E3, E4] at g
  exact ⟨j4, p4, w4, g⟩
theorem pEnd_pc : ∀ p ∈ pEnd, p ∈ pc' 0 := by decide +kernel
theorem sec_of {p : Int} (hp : p ∈ pAll) : bO p 1 ∈ pc' 1 := List.contains_iff_mem.mp (List.all_eq_true.mp kSEC p hp)
theorem stR {c c' : Cpu} (i : stepC c = T.run (.ret c')) : stepC c = some c' := i
theorem tryIt {j : Int × Int × (Bool ⊕ Int)} {p a x y : Int} {m b : Int} {D R s : Nat} (hD : D < 100) (hR : R < 100) (hs : s < 10) (hp : p ∈ pAll) :
    ∃ j' p' a', Go 7 (S j 534 a x y p m b (bcd D : Int) (bcd R : Int) (s : Int)) (S j' (if D ≤ 100 * s + R then 546 else 554) a' x (bcd ((R + 100 - D) % 100) : Int) p' m b (bcd D : Int) (bcd R : Int) (s : Int)) ∧
      (D ≤ 100 * s + R → a' = ((s - (if D ≤ R then 0 else 1) : Nat) : Int) ∧ p' ∈ pc' 1) ∧ (100 * s + R < D → a' = 153 ∧ p' ∈ pEnd) := by
  have h1 := stR (i534 j a x y p m b (bcd D) (bcd R) s)
  obtain ⟨q2, e2, g2⟩ := xNZ (c := 1) (v := bcd R) (by first | assumption | exact m256 _ | decide | exact cl2 | lia) (bcd_lt hR) (sec_of hp)
  have h2 := fun j => st1 (i535 j a x y (bO p 1) m b (bcd D) (bcd R) s) e2
  obtain ⟨q3, e3, f3, g3⟩ := xSBC hR hD (pz_pc cl2 g2)
  have h3 := fun j => st1 (i537 j (bcd R) x y q2.p m b (bcd D) (bcd R) s) e3
  have hc : (if D ≤ R then 1 else 0) < 2 := by split <;> lia
  obtain ⟨q4, e4, g4⟩ := xNZ (v := bcd ((R + 100 - D) % 100)) hc (bcd_lt (by first | assumption | exact m256 _ | decide | exact cl2 | lia)) g3
  have h4 := fun j => st1 (i539 j (bcd ((R + 100 - D) % 100) : Nat) x y q3.p m b (bcd D) (bcd R) s) e4
  obtain ⟨q5, e5, g5⟩ := xNZ (v := s) hc (by first | assumption | exact m256 _ | decide | exact cl2 | lia) (pz_pc cl2 g4)
  have h5 := fun j => st1 (i540 j (bcd ((R + 100 - D) % 100) : Nat) x (bcd ((R + 100 - D) % 100) : Nat) q4.p m b (bcd D) (bcd R) s) e5
  have pre := fun (c' : Cpu) (n : Nat) (g : Go n (S _ 542 (s : Int) x (bcd ((R + 100 - D) % 100) : Nat) q5.p m b (bcd D) (bcd R) s) c') =>
    go1 h1 (show (534 : Int) ≠ 557 by decide) (go1 (h2 _) (show (535 : Int) ≠ 557 by decide) (go1 (h3 _) (show (537 : Int) ≠ 557 by decide) (by rw [f3]; exact (go1 (h4 _) (show (539 : Int) ≠ 557 by decide) (go1 (h5 _) (show (540 : Int) ≠ 557 by decide) g)))))
  have w5 := pz_pc cl2 g5
  by_cases hDR : D ≤ R
  · rw [if_pos hDR] at w5
    obtain ⟨q6, e6, f6, g6⟩ := xS1 hs w5
    have h6 := fun j => st1 (i542 j s x (bcd ((R + 100 - D) % 100) : Nat) q5.p m b (bcd D) (bcd R) s) e6
    have h7 := fun j => stB (i544 j q6.a x (bcd ((R + 100 - D) % 100) : Nat) q6.p m b (bcd D) (bcd R) s)
    have cc := c_of (by first | assumption | exact m256 _ | decide | exact cl2 | lia) g6
    have g := pre _ _ (go1 (h6 _) (show (542 : Int) ≠ 557 by decide) (go1 (h7 _) (show (544 : Int) ≠ 557 by decide) (show Go 0 _ _ from rfl)))
    rw [cc, f6] at g
    rw [if_pos (by first | assumption | exact m256 _ | decide | exact cl2 | lia), if_pos hDR]
    exact ⟨_, _, _, g, fun _ => ⟨by rw [Nat.sub_zero], g6⟩, fun h => by lia⟩
  · rw [if_neg hDR] at w5
    obtain ⟨q6, e6, f6, g6⟩ := xS0 hs w5
    have h6 := fun j => st1 (i542 j s x (bcd ((R + 100 - D) % 100) : Nat) q5.p m b (bcd D) (bcd R) s) e6
    have h7 := fun j => stB (i544 j q6.a x (bcd ((R + 100 - D) % 100) : Nat) q6.p m b (bcd D) (bcd R) s)
    have g := pre _ _ (go1 (h6 _) (show (542 : Int) ≠ 557 by decide) (go1 (h7 _) (show (544 : Int) ≠ 557 by decide) (show Go 0 _ _ from rfl)))
    by_cases h0 : s = 0
    · obtain ⟨k1, k2⟩ := f6 h0
      rw [c_of (by first | assumption | exact m256 _ | decide | exact cl2 | lia) (pEnd_pc _ k2)] at g
      rw [if_neg (by first | assumption | exact m256 _ | decide | exact cl2 | lia)]
      exact ⟨_, _, _, g, fun h => by lia, fun _ => ⟨k1, k2⟩⟩
    · obtain ⟨k1, k2⟩ := g6 h0
      rw [c_of (by first | assumption | exact m256 _ | decide | exact cl2 | lia) k2] at g
      rw [if_pos (by first | assumption | exact m256 _ | decide | exact cl2 | lia), if_neg hDR]
      exact ⟨_, _, _, g, fun _ => ⟨k1, k2⟩, fun h => by lia⟩
theorem takeIt {j : Int × Int × (Bool ⊕ Int)} {p x b : Int} {m D R s : Nat} {a' y' : Int} (hm : m < 255) (hp : p ∈ pc' 1) :
    ∃ j' p', p' ∈ pAll ∧ Go 4 (S j 546 a' x y' p (m : Int) b (bcd D : Int) (bcd R : Int) (s : Int)) (S j' 534 a' x y' p' ((m + 1 : Nat) : Int) b (bcd D : Int) y' a') := by
  have h1 := stR (i546 j a' x y' p m b (bcd D) (bcd R) s)
  have h2 := fun j => stR (i548 j a' x y' p m b (bcd D) (bcd R) a')
  obtain ⟨q, e, f, g⟩ := xINC hm hp
  have h3 := fun j => st1 (i550 j a' x y' p m b (bcd D) y' a') e
  have h4 := fun j => stB (i552 j a' x y' q.2.p q.1 b (bcd D) y' a')
  have gg := go1 h1 (show (546 : Int) ≠ 557 by decide) (go1 (h2 _) (show (548 : Int) ≠ 557 by decide) (go1 (h3 _) (show (550 : Int) ≠ 557 by decide) (go1 (h4 _) (show (552 : Int) ≠ 557 by decide) (show Go 0 _ _ from rfl))))
  rw [z_of (by first | assumption | exact m256 _ | decide | exact cl2 | lia) (by first | assumption | exact m256 _ | decide | exact cl2 | lia) g, f] at gg
  exact ⟨_, _, pc_all (by first | assumption | exact m256 _ | decide | exact cl2 | lia) (pz_pc (by first | assumption | exact m256 _ | decide | exact cl2 | lia) g), gg⟩
theorem takeAll {x b : Int} {D : Nat} (hD : D < 100) (hD0 : 0 < D) : ∀ (k : Nat) {j : Int × Int × (Bool ⊕ Int)} {p a y : Int} {m R s : Nat}, R < 100 → s < 10 → p ∈ pAll → (100 * s + R) / D = k → m + k < 256 →
    ∃ j' p', p' ∈ pEnd ∧ Go (11 * k + 7) (S j 534 a x y p (m : Int) b (bcd D : Int) (bcd R : Int) (s : Int)) (S j' 554 153 x (bcd (((100 * s + R) % D + 100 - D) % 100) : Int) p' ((m + k : Nat) : Int) b (bcd D : Int) (bcd ((100 * s + R) % D) : Int) 0) := by
  intro k
  induction k with
  | zero =>
    intro j p a y m R s hR hs hp hk hm
    have hlt : 100 * s + R < D := by
      rcases Nat.lt_or_ge (100 * s + R) D with h | h
      · exact h
      · have := Nat.div_pos h hD0; lia
    have hs0 : s = 0 := by lia
    subst hs0
    obtain ⟨j', p', a', g, _, h2⟩ := tryIt (j := j) (a := a) (x := x) (y := y) (m := (m : Int)) (b := b) hD hR hs hp
    obtain ⟨rfl, w⟩ := h2 hlt
    rw [if_neg (by first | assumption | exact m256 _ | decide | exact cl2 | lia)] at g
    rw [Nat.mod_eq_of_lt hlt]
    rw [show 100 * 0 + R = R by lia]
    exact ⟨j', p', w, g⟩
  | succ k ih =>
    intro j p a y m R s hR hs hp hk hm
    have hge : D ≤ 100 * s + R := by
      rcases Nat.lt_or_ge (100 * s + R) D with h | h
      · rw [Nat.div_eq_of_lt h] at hk; cases hk
      · exact h
    obtain ⟨j', p', a', g, h1, _⟩ := tryIt (j := j) (a := a) (x := x) (y := y) (m := (m : Int)) (b := b) hD hR hs hp
    obtain ⟨rfl, w⟩ := h1 hge
    rw [if_pos hge] at g
    obtain ⟨j2, p2, w2, g2⟩ := takeIt (j := j') (x := x) (b := b) (D := D) (R := R) (s := s) (a' := ((s - (if D ≤ R then 0 else 1) : Nat) : Int)) (y' := (bcd ((R + 100 - D) % 100) : Int)) (m := m) (by first | assumption | exact m256 _ | decide | exact cl2 | lia) w
    have hv : 100 * (s - (if D ≤ R then 0 else 1)) + (R + 100 - D) % 100 = 100 * s + R - D := by
      split <;> lia
    obtain ⟨j3, p3, w3, g3⟩ := ih (j := j2) (p := p2) (a := ((s - (if D ≤ R then 0 else 1) : Nat) : Int)) (y := (bcd ((R + 100 - D) % 100) : Int)) (m := m + 1) (R := (R + 100 - D) % 100) (s := s - (if D ≤ R then 0 else 1)) (by first | assumption | exact m256 _ | decide | exact cl2 | lia) (by first | assumption | exact m256 _ | decide | exact cl2 | lia) w2
      (by rw [hv]; have := Nat.div_eq_sub_div hD0 hge; lia) (by first | assumption | exact m256 _ | decide | exact cl2 | lia)
    rw [hv, ← Nat.mod_eq_sub_mod hge] at g3
    refine ⟨j3, p3, w3, ?_⟩
    have gg := (g.trans g2).trans g3
    rw [show 7 + 4 + (11 * k + 7) = 11 * (k + 1) + 7 by lia, show m + 1 + k = m + (k + 1) by lia] at gg
    exact gg
theorem xEnd {p : Int} (hp : p ∈ pEnd) : ∃ q, T.run (flagsNZ 0 (c0 p)) = some q ∧ q.p = 58 := by
  have h := List.all_eq_true.mp kEnd p hp
  split at h
  · rename_i q e; exact ⟨q, e, eq_of_beq h⟩
  · cases h
theorem downX {j : Int × Int × (Bool ⊕ Int)} {p a y m b d r s : Int} {x : Nat} (hx : 1 ≤ x) (hx4 : x ≤ 4) (hp : p ∈ pEnd) :
    ∃ j' p', p' ∈ pAll ∧ (x = 1 → p' = 58) ∧ Go 2 (S j 554 a x y p m b d r s) (S j' (if x = 1 then 557 else 521) a ((x - 1 : Nat) : Int) y p' m b d r s) := by
  obtain ⟨q, e, g⟩ := xNZ (c := 0) (v := x - 1) (by first | assumption | exact m256 _ | decide | exact cl2 | lia) (by first | assumption | exact m256 _ | decide | exact cl2 | lia) (pEnd_pc p hp)
  have h1 := st1 (i554 j a x y p m b d r s) (by rw [d_of hx hx4]; exact e)
  have h2 := fun j => stB (i555 j a (bA ((x : Int) - 1) 255) y q.p m b d r s)
  have gg := go1 h1 (show (554 : Int) ≠ 557 by decide) (go1 (h2 _) (show (555 : Int) ≠ 557 by decide) (show Go 0 _ _ from rfl))
  have hz : (bA q.p 2 != 0) = decide (x = 1) := by
    rw [z_of (by first | assumption | exact m256 _ | decide | exact cl2 | lia) cl2 g]
    by_cases h : x = 1
    · subst h; rfl
    · have : x - 1 ≠ 0 := by lia
      simp [h, this]
  rw [hz, d_of hx hx4] at gg
  by_cases h : x = 1
  · rw [decide_eq_true h] at gg
    rw [if_pos h]
    refine ⟨_, _, pc_all (by first | assumption | exact m256 _ | decide | exact cl2 | lia) (pz_pc cl2 g), fun _ => ?_, gg⟩
    subst h
    obtain ⟨q', e', k⟩ := xEnd hp
    have : some q' = some q := e'.symm.trans e
    cases this; exact k
  · rw [decide_eq_false h] at gg
    rw [if_neg h]
    exact ⟨_, _, pc_all (by first | assumption | exact m256 _ | decide | exact cl2 | lia) (pz_pc cl2 g), fun h' => absurd h' h, gg⟩
theorem digit {j : Int × Int × (Bool ⊕ Int)} {p a y : Int} {x D R n0 n1 n2 n3 : Nat} (hx : 1 ≤ x) (hx4 : x ≤ 4) (hD : D < 100) (hD0 : 0 < D) (hR : R < D) (h0 : n0 ≤ 9) (h1 : n1 ≤ 9) (h2 : n2 ≤ 9) (h3 : n3 ≤ 9) (hp : p ∈ pAll) :
    ∃ j' p', p' ∈ pAll ∧ (x = 1 → p' = 58) ∧ (10 * R + n3) / D ≤ 9 ∧ Go (11 * ((10 * R + n3) / D) + 34) (S j 521 a x y p ((16 * n1 + n0 : Nat) : Int) ((16 * n3 + n2 : Nat) : Int) (bcd D : Int) (bcd R : Int) 0)
      (S j' (if x = 1 then 557 else 521) 153 ((x - 1 : Nat) : Int) (bcd (((10 * R + n3) % D + 100 - D) % 100) : Int) p' ((16 * n0 + (10 * R + n3) / D : Nat) : Int) ((16 * n2 + n1 : Nat) : Int) (bcd D : Int) (bcd ((10 * R + n3) % D) : Int) 0) := by
  have hq : (10 * R + n3) / D ≤ 9 := by
    have : (10 * R + n3) / D < 10 := Nat.div_lt_of_lt_mul (by first | assumption | exact m256 _ | decide | exact cl2 | lia)
    lia
  have hbR : bcd R < 256 := bcd_lt (by first | assumption | exact m256 _ | decide | exact cl2 | lia)
  obtain ⟨j1, p1, w1, g1⟩ := shift4 (j := j) (a := a) (x := x) (y := y) (d := (bcd D : Int)) (m := 16 * n1 + n0) (b := 16 * n3 + n2) (r := bcd R) (s := 0) (by first | assumption | exact m256 _ | decide | exact cl2 | lia) (by first | assumption | exact m256 _ | decide | exact cl2 | lia) hbR (by first | assumption | exact m256 _ | decide | exact cl2 | lia) hp
  have e1 : 16 * (16 * n1 + n0) % 256 = 16 * n0 := by lia
  have e2 : (16 * (16 * n3 + n2) + (16 * n1 + n0) / 16) % 256 = 16 * n2 + n1 := by lia
  have e3 : (16 * bcd R + (16 * n3 + n2) / 16) % 256 = bcd (10 * (R % 10) + n3) := by unfold bcd; omega
  have e4 : (16 * 0 + bcd R / 16) % 256 = R / 10 := by unfold bcd; lia
  rw [e1, e2, e3, e4] at g1
  have ev : 100 * (R / 10) + (10 * (R % 10) + n3) = 10 * R + n3 := by lia
  obtain ⟨j2, p2, w2, g2⟩ := takeAll (x := x) (b := ((16 * n2 + n1 : Nat) : Int)) hD hD0 ((10 * R + n3) / D) (j := j1) (p := p1) (a := a) (y := 0) (m := 16 * n0) (R := 10 * (R % 10) + n3) (s := R / 10) (by first | assumption | exact m256 _ | decide | exact cl2 | lia) (by first | assumption | exact m256 _ | decide | exact cl2 | lia) w1 (by rw [ev]) (by first | assumption | exact m256 _ | decide | exact cl2 | lia)
  rw [ev] at g2
  obtain ⟨j3, p3, w3, k3, g3⟩ := downX (j := j2) (a := 153) (y := (bcd (((10 * R + n3) % D + 100 - D) % 100) : Int)) (m := ((16 * n0 + (10 * R + n3) / D : Nat) : Int)) (b := ((16 * n2 + n1 : Nat) : Int)) (d := (bcd D : Int)) (r := (bcd ((10 * R + n3) % D) : Int)) (s := 0) hx hx4 w2
  refine ⟨j3, p3, w3, k3, hq, ?_⟩
  have gg := (g1.trans g2).trans g3
  rw [show 25 + (11 * ((10 * R + n3) / D) + 7) + 2 = 11 * ((10 * R + n3) / D) + 34 by lia] at gg
  exact gg
theorem long_div {D w3 w2 w1 w0 : Nat} (hD : 0 < D) :
    let q3 := (10 * 0 + w3) / D; let r3 := (10 * 0 + w3) % D; let q2 := (10 * r3 + w2) / D; let r2 := (10 * r3 + w2) % D; let q1 := (10 * r2 + w1) / D; let r1 := (10 * r2 + w1) % D; let q0 := (10 * r1 + w0) / D; let r0 := (10 * r1 + w0) % D
    (1000 * w3 + 100 * w2 + 10 * w1 + w0) / D = 1000 * q3 + 100 * q2 + 10 * q1 + q0 ∧ (1000 * w3 + 100 * w2 + 10 * w1 + w0) % D = r0 := by
  intro q3 r3 q2 r2 q1 r1 q0 r0
  have e3 : D * q3 + r3 = 10 * 0 + w3 := Nat.div_add_mod _ _
  have e2 : D * q2 + r2 = 10 * r3 + w2 := Nat.div_add_mod _ _
  have e1 : D * q1 + r1 = 10 * r2 + w1 := Nat.div_add_mod _ _
  have e0 : D * q0 + r0 = 10 * r1 + w0 := Nat.div_add_mod _ _
  have l0 : r0 < D := Nat.mod_lt _ hD
  refine (Nat.div_mod_unique hD).mpr ⟨?_, l0⟩
  rw [Nat.mul_add, Nat.mul_add, Nat.mul_add, Nat.mul_left_comm D 1000, Nat.mul_left_comm D 100, Nat.mul_left_comm D 10]
  lia
theorem fin_bcd {Q q3 q2 q1 q0 : Nat} (h : Q = 1000 * q3 + 100 * q2 + 10 * q1 + q0) (h3 : q3 ≤ 9) (h2 : q2 ≤ 9) (h1 : q1 ≤ 9) (h0 : q0 ≤ 9) : bcd (Q % 100) = 16 * q1 + q0 ∧ bcd (Q / 100) = 16 * q3 + q2 := by
  unfold bcd; omega
theorem whole01 {W D : Nat} {j : Int × Int × (Bool ⊕ Int)} (hW : W < 10000) (hD : 12 ≤ D) (hD2 : D < 100) :
    ∃ n j', n ≤ 438 ∧ Go n (S j 512 0 0 0 48 (bcd (W % 100) : Int) (bcd (W / 100) : Int) (bcd D : Int) 195 165)
      (S j' 557 153 0 (bcd ((W % D + 100 - D) % 100) : Int) 58 (bcd (W / D % 100) : Int) (bcd (W / D / 100) : Int) (bcd D : Int) (bcd (W % D) : Int) 0) := by
  have hD0 : 0 < D := by lia
  have L := long_div (D := D) (w3 := W / 1000) (w2 := W / 100 % 10) (w1 := W / 10 % 10) (w0 := W % 10) hD0
  dsimp only at L
  rw [show 1000 * (W / 1000) + 100 * (W / 100 % 10) + 10 * (W / 10 % 10) + W % 10 = W by lia] at L
  have h1 := stR (i512 j 0 0 0 48 (bcd (W % 100)) (bcd (W / 100)) (bcd D) 195 165)
  have p1 : bO 48 8 ∈ pc' 0 := by decide +kernel
  obtain ⟨q2, e2, g2⟩ := xNZ (c := 0) (v := 0) (by first | assumption | exact m256 _ | decide | exact cl2 | lia) (by first | assumption | exact m256 _ | decide | exact cl2 | lia) p1
  have h2 := fun j => st1 (i513 j 0 0 0 (bO 48 8) (bcd (W % 100)) (bcd (W / 100)) (bcd D) 195 165) e2
  have h3 := fun j => stR (i515 j 0 0 0 q2.p (bcd (W % 100)) (bcd (W / 100)) (bcd D) 195 165)
  have h4 := fun j => stR (i517 j 0 0 0 q2.p (bcd (W % 100)) (bcd (W / 100)) (bcd D) 0 165)
  obtain ⟨q5, e5, g5⟩ := xNZ (c := 0) (v := 4) (by first | assumption | exact m256 _ | decide | exact cl2 | lia) (by first | assumption | exact m256 _ | decide | exact cl2 | lia) (pz_pc cl2 g2)
  have h5 := fun j => st1 (i519 j 0 0 0 q2.p (bcd (W % 100)) (bcd (W / 100)) (bcd D) 0 0) e5
  have w5 := pc_all (c := 0) (by first | assumption | exact m256 _ | decide | exact cl2 | lia) (pz_pc cl2 g5)
  have pre := fun (c' : Cpu) (n : Nat) (g : Go n (S _ 521 0 4 0 q5.p (bcd (W % 100) : Int) (bcd (W / 100) : Int) (bcd D : Int) 0 0) c') =>
    go1 h1 (show (512 : Int) ≠ 557 by decide) (go1 (h2 _) (show (513 : Int) ≠ 557 by decide) (go1 (h3 _) (show (515 : Int) ≠ 557 by decide) (go1 (h4 _) (show (517 : Int) ≠ 557 by decide) (go1 (h5 _) (show (519 : Int) ≠ 557 by decide) g))))
  have em : bcd (W % 100) = 16 * (W / 10 % 10) + W % 10 := by unfold bcd; lia
  have eb : bcd (W / 100) = 16 * (W / 1000) + W / 100 % 10 := by unfold bcd; lia
  rw [em, eb] at pre ⊢
  obtain ⟨j1, p1', w1, -, b1, g1⟩ := digit (j := _) (a := 0) (y := 0) (x := 4) (D := D) (R := 0) (n0 := W % 10) (n1 := W / 10 % 10) (n2 := W / 100 % 10) (n3 := W / 1000) (by first | assumption | exact m256 _ | decide | exact cl2 | lia) (by first | assumption | exact m256 _ | decide | exact cl2 | lia) hD2 hD0 (by first | assumption | exact m256 _ | decide | exact cl2 | lia) (by first | assumption | exact m256 _ | decide | exact cl2 | lia) (by first | assumption | exact m256 _ | decide | exact cl2 | lia) (by first | assumption | exact m256 _ | decide | exact cl2 | lia) (by first | assumption | exact m256 _ | decide | exact cl2 | lia) w5
  have z3 : (10 * 0 + W / 1000) / D = 0 := Nat.div_eq_of_lt (by first | assumption | exact m256 _ | decide | exact cl2 | lia)
  have l3 : (10 * 0 + W / 1000) % D < D := Nat.mod_lt _ hD0
  obtain ⟨j2, p2', w2, -, b2, g2⟩ := digit (j := j1) (a := 153) (y := _) (x := 3) (D := D) (R := (10 * 0 + W / 1000) % D) (n0 := (10 * 0 + W / 1000) / D) (n1 := W % 10) (n2 := W / 10 % 10) (n3 := W / 100 % 10) (by first | assumption | exact m256 _ | decide | exact cl2 | lia) (by first | assumption | exact m256 _ | decide | exact cl2 | lia) hD2 hD0 l3 b1 (by first | assumption | exact m256 _ | decide | exact cl2 | lia) (by first | assumption | exact m256 _ | decide | exact cl2 | lia) (by first | assumption | exact m256 _ | decide | exact cl2 | lia) w1
  have l2 : (10 * ((10 * 0 + W / 1000) % D) + W / 100 % 10) % D < D := Nat.mod_lt _ hD0
  obtain ⟨j3, p3', w3, -, b3, g3⟩ := digit (j := j2) (a := 153) (y := _) (x := 2) (D := D) (R := _) (n0 := _) (n1 := (10 * 0 + W / 1000) / D) (n2 := W % 10) (n3 := W / 10 % 10) (by first | assumption | exact m256 _ | decide | exact cl2 | lia) (by first | assumption | exact m256 _ | decide | exact cl2 | lia) hD2 hD0 l2 b2 b1 (by first | assumption | exact m256 _ | decide | exact cl2 | lia) (by first | assumption | exact m256 _ | decide | exact cl2 | lia) w2
  have l1 : (10 * ((10 * ((10 * 0 + W / 1000) % D) + W / 100 % 10) % D) + W / 10 % 10) % D < D := Nat.mod_lt _ hD0
  obtain ⟨j4, p4', w4, k4, b4, g4⟩ := digit (j := j3) (a := 153) (y := _) (x := 1) (D := D) (R := _) (n0 := _) (n1 := _) (n2 := (10 * 0 + W / 1000) / D) (n3 := W % 10) (by first | assumption | exact m256 _ | decide | exact cl2 | lia) (by first | assumption | exact m256 _ | decide | exact cl2 | lia) hD2 hD0 l1 b3 b2 b1 (by first | assumption | exact m256 _ | decide | exact cl2 | lia) w3
  obtain rfl := k4 rfl
  have g := pre _ _ (((g1.trans g2).trans g3).trans g4)
  rw [← L.2] at g
  have f1 : bcd (W / D % 100) = 16 * ((10 * ((10 * ((10 * 0 + W / 1000) % D) + W / 100 % 10) % D) + W / 10 % 10) / D) + (10 * ((10 * ((10 * ((10 * 0 + W / 1000) % D) + W / 100 % 10) % D) + W / 10 % 10) % D) + W % 10) / D := by
    exact (fin_bcd L.1 b1 b2 b3 b4).1
  have f2 : bcd (W / D / 100) = 16 * ((10 * 0 + W / 1000) / D) + (10 * ((10 * 0 + W / 1000) % D) + W / 100 % 10) / D := by
    exact (fin_bcd L.1 b1 b2 b3 b4).2
  rw [f1, f2]
  exact ⟨_, j4, by lia, g⟩
end Mine
end
section
open PySem PySem.W PySem.Calls PyProof.Rows PySem.Builtin
namespace Mine
theorem nxR {n k : Nat} (h : k < n) (H : HP) : nxRange n k H = some (some (.int k)) := by unfold nxRange; rw [if_pos h]
theorem loop17 {xs : List Int} {t w d a b e q r u v s : Int} {ys : List Int} : ∀ {n k m : Nat} {c c' : Cpu} {l : Loc}, Go n c c' → c'.pc = 557 → k + n < 600 → m + k = 600 → (∀ x, bndName lsc "turn" x l = .ret (lT t w d q r x)) →
   T.run (forN (fns (I1 xs) 63) 60 lsc "turn" (fb (lb 17)) (nxRange 600) 16 (m + 1) k l (hE ys a b e q r u v s c)) = some (nx (lG t w d q r) (hE ys a b e q r u v s c'))
  | 0, k, m, c, c', l, g, hp, hk, _, hl => by
    obtain rfl : c = c' := g
    rw [forN_brk (nxR (by lia) _) (hl _) (LJ hp), dT, swT]
  | n + 1, k, m, c, c', l, g, hp, hk, hm, hl => by
    obtain ⟨h1, c1, h2, h3⟩ := g
    obtain ⟨m, rfl⟩ : ∃ m', m = m' + 1 := ⟨m - 1, by lia⟩
    refine forN_step (nxR (by lia) _) (hl _) (LH h1 h2) ?_
    rw [swT]
    exact loop17 h3 hp (by lia) (by lia) (fun x => bT t w d q r _ x)
theorem need_of {α : Type} {b : Bool} {t : T α} (h : b = true) : T.run (.need b t) = T.run t := by subst h; rfl
theorem br_t {α : Type} {b : Bool} {z : α} {t : T α} (h : b = true) : T.run (.br b (.ret z) t) = some z := by subst h; rfl
theorem br_f {α : Type} {b : Bool} {z : α} {t : T α} (h : b = false) : T.run (.br b t (.ret z)) = some z := by subst h; rfl
theorem not_dec {a b : List Int} (h : a = b) : (!decide (a = b)) = false := by rw [decide_eq_true h]; rfl
theorem ret_dec {o : Option (AF × Loc × HP)} {a b : List Int} {l : Loc} {H : HP} (h : o = some (.ret (.bool (decide (a = b))), l, H)) (e : a = b) : o = some (.ret (.bool true), l, H) := by rw [decide_eq_true e] at h; exact h
noncomputable def tot : List Int → Int → Int
  | [], t => t
  | x :: r, t => tot r ((101 * t + x).fmod 1000000)
theorem tot_b : ∀ (ys : List Int) (t : Int), 0 ≤ t → t < 1000000 → 0 ≤ tot ys t ∧ tot ys t < 1000000
  | [], t, h, k => ⟨h, k⟩
  | x :: r, t, _, _ => tot_b r _ (Int.fmod_nonneg_of_pos _ (by decide)) (Int.fmod_lt_of_pos _ (by decide))
theorem loop1 {xs ys : List Int} : ∀ {zs : List Int} {k : Nat} {t : Int} {l : Loc}, ys.drop k = zs → (∀ x, bndName lsc "number" x l = .ret [("script", .lst 3), ("total", .int t), ("number", x)]) → dropL "number" l = ([("script", AV.lst 3), ("total", AV.int t)] : Loc) →
   T.run (forN (fns (I1 xs) 79) 60 lsc "number" (fb (lb 1)) (nxList 0) 1 (zs.length + 1) k l [.nums ys]) = some (nx [("script", .lst 3), ("total", .int (tot zs t))] [.nums ys])
  | [], k, t, l, e, hl, hd => by
    have : ys[k]? = none := by
      have := congrArg (·[0]?) e
      simpa [List.getElem?_drop] using this
    rw [List.length_nil, forN_end (show nxList 0 k [.nums ys] = some none by show some ((ys[k]?).map AV.int) = _; rw [this]; rfl), hd]; rfl
  | z :: zs, k, t, l, e, hl, hd => by
    have h0 : ys[k]? = some z := by
      have := congrArg (·[0]?) e
      simpa [List.getElem?_drop] using this
    have h1 : ys.drop (k + 1) = zs := by
      have := congrArg (List.drop 1) e
      simpa [List.drop_drop, Nat.add_comm] using this
    refine forN_step (n := zs.length + 1) (show nxList 0 k [.nums ys] = some (some (.int z)) by show some ((ys[k]?).map AV.int) = _; rw [h0]; rfl) (hl _) ((L1a xs ys t z).trans (need_of rfl)) (loop1 h1 (fun x => ?_) ?_)
    · kernel_rfl
    · kernel_rfl
theorem xs_app {I : Ifc} {dp : Nat} {sc : Scope} {bs : List Stmt} {l' : Loc} {H' : HP} {z : Option (AF × Loc × HP)} : ∀ (as : List Stmt) (n : Nat) {l : Loc} {H : HP},
    T.run ((fns I n).xs dp sc as l H) = some (.next, l', H') → T.run ((fns I (n - as.length)).xs dp sc bs l' H') = z → T.run ((fns I n).xs dp sc (as ++ bs) l H) = z
  | _, 0, _, _, h, _ => by cases h
  | [], n + 1, l, H, h, k => by cases h; exact k
  | s :: r, n + 1, l, H, h, k => by
    have h' : (T.run (stI I (fns I n) dp sc s l H)).bind (fun p => T.run (match p.1 with | .next => (fns I n).xs dp sc r p.2.1 p.2.2 | f => .ret (f, p.2.1, p.2.2))) = some (.next, l', H') := by
      rw [← T.run_bnd]; exact h
    obtain ⟨⟨f, l1, H1⟩, h1, h2⟩ := Option.bind_eq_some_iff.mp h'
    cases f with
    | next =>
      refine xs_next h1 (xs_app r n h2 ?_)
      rw [List.length_cons, Nat.add_sub_add_right] at k
      exact k
    | ret v => cases h2
    | brk => cases h2
    | cont => cases h2
theorem pOk_t (v : Int) : pOk v = true := by
  unfold pOk
  rw [show decide ((16 : Int).natAbs < 1073741824) = true from by decide, Bool.or_true]
theorem pairI_n (n : Nat) : pairI (n : Int) = (bcd n : Int) := by
  unfold pairI bcd
  rw [Int.fdiv_eq_ediv_of_nonneg _ (by decide), Int.fmod_eq_emod_of_nonneg _ (by decide)]
  lia
theorem p30_len (xs : List Int) : (p30 xs).length ≤ 30 := by
  unfold p30 pickI
  rw [List.length_take]
  have : hiI (some 30) xs.length - loI none xs.length ≤ 30 := by
    unfold hiI loI
    simp only [show ¬ ((30 : Int) < 0) by decide, if_false]
    lia
  lia
theorem body_split : dBody SL = [lb 0, lb 1, lb 2, lb 3, lb 4, lb 5] ++ ([lb 6, lb 7, lb 8, lb 9, lb 10] ++ [lb 11, lb 12, lb 13, lb 14, lb 15, lb 16, lb 17, lb 18, lb 19]) := body_eq
theorem run01 (xs : List Int) (hx : xs.length ≤ 1048576) : ∃ l H, T.run ((fns (ifc pw dsF xs) 81).xs 60 (dScope SL) (dBody SL) [("script", .lst 3)] []) = some (.ret (.bool true), l, H) := by
  rw [body_split]
  have hx2 : decide (xs.length ≤ 2 ^ 24) = true := decide_eq_true (by lia)
  have hy : decide ((p30 xs).length < 2 ^ 62) = true := decide_eq_true (by have := p30_len xs; lia)
  -- the sum
  have e1 : T.run (lst xs 79 1 [("script", .lst 3), ("total", .int 0)] []) = some (nx [("script", .lst 3), ("total", .int (tot (p30 xs) 0))] [.nums (p30 xs)]) := by
    rw [L1, need_of hx2]
    exact loop1 rfl (fun x => by kernel_rfl) (by kernel_rfl)
  obtain ⟨t0, t1⟩ := tot_b (p30 xs) 0 (by decide) (by decide)
  generalize tot (p30 xs) 0 = t at e1 t0 t1
  have e2 := L2 xs t (p30 xs)
  obtain ⟨W, hW, w0⟩ : ∃ W : Nat, W < 10000 ∧ t.fmod 10000 = (W : Int) := by
    refine ⟨(t.fmod 10000).toNat, ?_, ?_⟩ <;> rw [Int.fmod_eq_emod_of_nonneg _ (by decide)] <;> lia
  obtain ⟨D, hD, hD2, d0⟩ : ∃ D : Nat, 12 ≤ D ∧ D < 100 ∧ 12 + (t.fdiv 10000 + t + 5 * ((p30 xs).length : Int)).fmod 88 = (D : Int) := by
    refine ⟨(12 + (t.fdiv 10000 + t + 5 * ((p30 xs).length : Int)).fmod 88).toNat, ?_, ?_, ?_⟩ <;> rw [Int.fmod_eq_emod_of_nonneg _ (by decide)] <;> lia
  have e3 := L3 xs t (t.fmod 10000) (p30 xs)
  rw [need_of hx2, need_of hy, d0] at e3
  rw [w0] at e2 e3
  have e4 := L4 xs t W D (p30 xs)
  have e5 := L5 xs t W D (p30 xs)
  rw [need_of (pOk_t _), need_of (pOk_t _), need_of (pOk_t _)] at e5
  have m1 : pairI ((W : Int).fmod 100) = (bcd (W % 100) : Int) := by
    rw [Int.fmod_eq_emod_of_nonneg _ (by decide)]; exact pairI_n (W % 100)
  have m2 : pairI ((W : Int).fdiv 100) = (bcd (W / 100) : Int) := by
    rw [Int.fdiv_eq_ediv_of_nonneg _ (by decide)]; exact pairI_n (W / 100)
  rw [m1, m2, pairI_n D] at e5
  have e6 := L6 xs t W D (bcd (W % 100)) (bcd (W / 100)) (bcd D) (p30 xs)
  have e11 := L11 xs t W D (bcd (W % 100)) (bcd (W / 100)) (bcd D) (p30 xs)
  have e12 := L12 xs t W D (bcd (W % 100)) (bcd (W / 100)) (bcd D) (p30 xs)
  have e13 := L13 xs t W D (bcd (W % 100)) (bcd (W / 100)) (bcd D) (p30 xs)
  rw [need_of (by rw [Bool.and_eq_true]; exact ⟨bne_iff_ne.mpr (by lia), decide_eq_true (by lia)⟩)] at e13
  have q1 : (W : Int).fdiv D = ((W / D : Nat) : Int) := by rw [Int.fdiv_eq_ediv_of_nonneg _ (by lia)]; rfl
  have q2 : (W : Int).fmod D = ((W % D : Nat) : Int) := by rw [Int.fmod_eq_emod_of_nonneg _ (by lia)]; rfl
  rw [q1, q2] at e13
  have e14 := L14 xs t W D (bcd (W % 100)) (bcd (W / 100)) (bcd D) (W / D : Nat) (W % D : Nat) (p30 xs)
  rw [need_of (pOk_t _), need_of (pOk_t _)] at e14
  have m3 : pairI (((W / D : Nat) : Int).fmod 100) = (bcd (W / D % 100) : Int) := by
    rw [Int.fmod_eq_emod_of_nonneg _ (by decide)]; exact pairI_n (W / D % 100)
  have m4 : pairI (((W / D : Nat) : Int).fdiv 100) = (bcd (W / D / 100) : Int) := by
    rw [Int.fdiv_eq_ediv_of_nonneg _ (by decide)]; exact pairI_n (W / D / 100)
  rw [m3, m4] at e14
  have e15 := L15 xs t W D (bcd (W % 100)) (bcd (W / 100)) (bcd D) (W / D : Nat) (W % D : Nat) (bcd (W / D % 100)) (bcd (W / D / 100)) (p30 xs)
  rw [need_of (pOk_t _), pairI_n (W % D)] at e15
  have e16 := L16 xs t W D (bcd (W % 100)) (bcd (W / 100)) (bcd D) (W / D : Nat) (W % D : Nat) (bcd (W / D % 100)) (bcd (W / D / 100)) (bcd (W % D)) (p30 xs)
  obtain ⟨n, j', hn, g⟩ := whole01 (j := (0, 0, .inl false)) hW hD hD2
  have e17 := (L17 xs t W D (bcd (W % 100)) (bcd (W / 100)) (bcd D) (W / D : Nat) (W % D : Nat) (bcd (W / D % 100)) (bcd (W / D / 100)) (bcd (W % D)) (p30 xs) (cBeg (mem01 (bcd (W % 100)) (bcd (W / 100)) (bcd D) 195 165))).trans
    (loop17 (m := 600) (k := 0) g rfl (by lia) rfl (fun x => bG _ _ _ _ _ x))
  have e18 := L18 xs t W D (bcd (W % 100)) (bcd (W / 100)) (bcd D) (W / D : Nat) (W % D : Nat) (bcd (W / D % 100)) (bcd (W / D / 100)) (bcd (W % D)) (p30 xs)
    (S j' 557 153 0 (bcd ((W % D + 100 - D) % 100) : Int) 58 (bcd (W / D % 100) : Int) (bcd (W / D / 100) : Int) (bcd D : Int) (bcd (W % D) : Int) 0)
  have m5 : pairI ((((W % D : Nat) : Int) - (D : Int)).fmod 100) = (bcd ((W % D + 100 - D) % 100) : Int) := by
    rw [Int.fmod_eq_emod_of_nonneg _ (by decide), show (((W % D : Nat) : Int) - (D : Int)) % 100 = (((W % D + 100 - D) % 100 : Nat) : Int) by generalize W % D = r; lia]
    exact pairI_n _
  rw [need_of (pOk_t _), m5] at e18
  have e19 := L19 xs t W D (bcd (W % 100)) (bcd (W / 100)) (bcd D) (W / D : Nat) (W % D : Nat) (bcd (W / D % 100)) (bcd (W / D / 100)) (bcd (W % D)) 153 0 (bcd ((W % D + 100 - D) % 100)) (bcd ((W % D + 100 - D) % 100)) (p30 xs)
    (S j' 557 153 0 (bcd ((W % D + 100 - D) % 100) : Int) 58 (bcd (W / D % 100) : Int) (bcd (W / D / 100) : Int) (bcd D : Int) (bcd (W % D) : Int) 0)
  have e18' := e18.trans (br_f (not_dec rfl))
  have e19' := ret_dec (e19.trans (br_t (decide_eq_true rfl))) rfl
  exact ⟨_, _, xs_app _ 81 (xs_next (L0 xs) (xs_next e1 (xs_next e2 (xs_next e3 (xs_next e4 (xs_next e5 xs_nil)))))) (xs_app _ 75 e6 (xs_next e11 (xs_next e12 (xs_next e13 (xs_next e14 (xs_next e15 (xs_next e16 (xs_next e17 (xs_next e18' (xs_ret e19'))))))))))⟩
theorem theLaw : PySem.Challenge.rw_lq0010_01.Holds :=
  law01 (duty_of chk01 (fun h mg Pl x d hd => x d (by rw [List.mem_singleton.mp hd]; exact List.mem_cons_self)) (fun h mg Pl x => x _ (List.mem_cons_of_mem _ List.mem_cons_self)) (by kernel_rfl) (by decide +kernel) run01)
end Mine
end
theorem PySem.Challenge.cw_lq0010_01_holds : PySem.Challenge.rw_lq0010_01.Holds :=
  Mine.theLaw
