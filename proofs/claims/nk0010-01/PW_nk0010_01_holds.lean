import PyProof.Rows.All
import Wide.All
import OpenK.AllK
import Wide.FinOn
import PySem.Challenge.RW_nk0010_01
open PySem PySem.W PyProof.Rows PySem.Calls
set_option Elab.async false
set_option maxRecDepth 100000
set_option rowWalk.seconds 0
namespace Mine
section
noncomputable def hook2 (K : Params → Frag) (as : List Addr) (e : ∀ P, as = (K P).map (·.1)) (_ : Unit) : Hook :=
  ⟨List (Option Obj) × Option Obj, fun s => (as.map s.heap.get?, s.heap.get? 105), fun w => ((K w.params).map fun p => some p.2, some (PySem.W.X.tableObj #[])),
   fun w h => InK K w h ∧ h.get? 105 = some (PySem.W.X.tableObj #[]),
   fun w s x => ⟨InK.of e w s (congrArg Prod.fst x), congrArg Prod.snd x⟩, fun w h h' x k => ⟨InK.keeps w h h' x.1 k, k _ _ x.2⟩⟩
local macro_rules | `(tactic| o_head ($f:term $K:term $as:term $e:term)) => `(tactic| o_head (Mine.hook2 $K $as $e ()))
set_option maxHeartbeats 8000000 in
open_top hd for PySem.Challenge.rw_nk0010_01
end
local macro_rules | `(tactic| walk_at "STEP1") => `(tactic| first | (k_unfold; (try dsimp only)) | (k_end; wrow_close) | walk1 | (dsimp only; walk1) | (leave1; walk_say "STEP leave1"; try dsimp only) | fail "no step")
theorem filled : hd.heap_39 = hd.heap_39 ∧ PySem.Challenge.rw_nk0010_01 = PySem.Challenge.rw_nk0010_01 := by
  k_fill
  exact ⟨rfl, rfl⟩
section
theorem off_Base : True := by
  w_top off
  exact trivial
noncomputable def lawDef : Stmt := (Challenge.pw_nk0010_01.main.body.getLast?).getD (.Pass ⟨0, 0, 0, 0⟩)
noncomputable def lawBody : List Stmt := match lawDef with
  | .FunctionDef _ _ body _ _ _ _ _ _ _ => body
  | _ => []
noncomputable def lawScope : Scope := match lawDef with
  | .FunctionDef _ _ _ _ _ _ scope _ _ _ => scope
  | _ => default
noncomputable abbrev lawEnv (L fa : Addr) (cd : Value) : Env := envOfC (Str.ofString "law") lawScope L fa cd
abbrev locEs (w : World) (t1 t2 t3 t4 t5 t6 : Tok) (vl vt vs vv vm vd : Value) : List DictEntry :=
  [{ hash := PyData.keyHash w.params (Str.ofString "language"), key := Value.str (Str.ofString "language") t1, val := vl },
   { hash := PyData.keyHash w.params (Str.ofString "territory"), key := Value.str (Str.ofString "territory") t2, val := vt },
   { hash := PyData.keyHash w.params (Str.ofString "script"), key := Value.str (Str.ofString "script") t3, val := vs },
   { hash := PyData.keyHash w.params (Str.ofString "variant"), key := Value.str (Str.ofString "variant") t4, val := vv },
   { hash := PyData.keyHash w.params (Str.ofString "modifier"), key := Value.str (Str.ofString "modifier") t5, val := vm },
   { hash := PyData.keyHash w.params (Str.ofString "_data"), key := Value.str (Str.ofString "_data") t6, val := vd }]
structure Nm where
  x : Str
  t : Tok
  short : x.length ≤ 1000
abbrev P2 := Option Nm
def ovv : P2 → Value
  | none => .none
  | some p => .str p.x p.t
def Sm (r : P2) : Prop := ∀ p, r = some p → p.x.length ≤ 64
def tr : P2 → Bool
  | none => false
  | some p => (p.x.length : Int) != 0
def eqv (a b : P2) : Bool := decide (a.map Nm.x = b.map Nm.x)
section
variable {prog : Program} {w : World} {A : Around} {E : Value → Shared → Prop} {s : Shared}
theorem ov_truthy {o : P2} {Q : Bool → Shared → Prop} (h : ∀ tk, Q (tr o) { s with toks := tk }) : wpAny (model prog w) A (truthy (ovv o)) Q E s := by
  cases o with
  | none => exact truthy_none (h s.toks)
  | some p => exact SBL.truthy (by have := p.short; omega) (h _)
theorem ov_eq {a b : P2} {Q : Value → Shared → Prop} (h : Q (.bool (eqv a b)) s) : wpAny (model prog w) A (compareOp .Eq (ovv a) (ovv b)) Q E s := by
  cases a with
  | none => cases b with
    | none => exact EqNone.eq_none_none h
    | some q => exact EqNone.eq_none_str h
  | some p => cases b with
    | none => exact EqNone.eq_str_none h
    | some q =>
      refine eq_str ?_
      by_cases e : p.x = q.x
      · have : eqv (some p) (some q) = true := by simp [eqv, e]
        rw [this] at h; rw [e]; simpa using h
      · have : eqv (some p) (some q) = false := by simp [eqv, e]
        rw [this] at h; rw [beq_eq_false_iff_ne.mpr e]; exact h
theorem ov_ne {a b : P2} {Q : Value → Shared → Prop} (h : Q (.bool (!eqv a b)) s) : wpAny (model prog w) A (compareOp .NotEq (ovv a) (ovv b)) Q E s := by
  cases a with
  | none => cases b with
    | none => exact EqNone.ne_none_none h
    | some q => exact EqNone.ne_none_str h
  | some p => cases b with
    | none => exact EqNone.ne_str_none h
    | some q =>
      refine ne_str ?_
      by_cases e : p.x = q.x
      · have : eqv (some p) (some q) = true := by simp [eqv, e]
        rw [this] at h; rw [e]; simpa [bne] using h
      · have : eqv (some p) (some q) = false := by simp [eqv, e]
        rw [this] at h; rw [bne_iff_ne.mpr e]; exact h
theorem ov_isNotNone {a : P2} {Q : Value → Shared → Prop} (h : Q (.bool a.isSome) s) : wpAny (model prog w) A (compareOp .IsNot (ovv a) .none) Q E s := by
  cases a with
  | none => exact wpAny_isNot_self rfl h
  | some p => exact wpAny_isNot_other rfl (by intro x; cases x) h
theorem ov_isNone {a : P2} {Q : Value → Shared → Prop} (h : Q (.bool a.isNone) s) : wpAny (model prog w) A (compareOp .Is (ovv a) .none) Q E s := by
  cases a with
  | none => exact wpAny_is_self rfl h
  | some p => exact wpAny_is_other rfl (by intro x; cases x) h
end
def isO (o : Option Str) (v : Value) : Bool := match o with
  | none => (match v with | .none => true | _ => false)
  | some x => v.isStrOf x
theorem isO_none {v : Value} (h : isO none v = true) : v = .none := by
  cases v <;> simp_all [isO]
theorem isO_some {x : Str} {v : Value} (h : isO (some x) v = true) : ∃ t, v = .str x t := Value.isStrOf_shape h
theorem isO_ovv (o : P2) : isO (o.map Nm.x) (ovv o) = true := by
  cases o with
  | none => rfl
  | some p => simp [isO, ovv, Value.isStrOf]
noncomputable def oKind (prog : Program) (w : World) : KeyKind prog w (Option Str) where
  is := isO
  hash k := match k with | none => reduceHash 0xFCA86420 | some x => hashStr w x
  inj v a b ha hb := by
    cases a with
    | none => cases b with
      | none => rfl
      | some y => obtain ⟨t, rfl⟩ := isO_some hb; cases isO_none ha
    | some x => obtain ⟨t, rfl⟩ := isO_some ha; cases b with
      | none => cases isO_none hb
      | some y => obtain ⟨u, e⟩ := isO_some hb; cases e; rfl
  byValue k v h := by
    cases k with
    | none => cases isO_none h; rfl
    | some x => obtain ⟨t, rfl⟩ := isO_some h; rfl
  pyHash := fun {A E s k v Q} hv h => by
    cases k with
    | none =>
      cases isO_none hv
      exact pyHash_slot (T := "NoneType") rfl F.slot_NoneType_hash F.entry_NoneType_hash (F.args_NoneType_hash_1 _) (beq_builtin_none _) (.inl rfl) (wpAny_bind (wpAny_pure (wpAny_bind (wpAny_mkInt (wpAny_pure ⟨_, _, rfl, h⟩)))))
    | some x => obtain ⟨t, rfl⟩ := isO_some hv; exact wpAny_pyHash_str h
  eqBool := fun {A E s a b u v Q} hu hv h => by
    cases a with
    | none =>
      cases isO_none hu
      cases b with
      | none =>
        cases isO_none hv
        unfold eqBool
        refine wpAny_holding ?_
        show wpAny _ _ (if (Value.none == Value.none) = true then _ else _) Q E s
        have hab : (Value.none == Value.none) = true := by decide
        rw [if_pos hab]
        exact wpAny_bind (wpAny_rule (wpAny_pure (by simpa using h)))
      | some y =>
        obtain ⟨t, rfl⟩ := isO_some hv
        unfold eqBool
        refine wpAny_holding ?_
        show wpAny _ _ (if (Value.none == Value.str y t) = true then _ else _) Q E s
        rw [if_neg (by intro e; have := eq_of_beq e; cases this)]
        exact wpAny_bind (show wpAny _ _ (richCompare .Eq _ _) _ _ _ from EqNone.eq_none_str (wpAny_truthy_bool (by simpa using h)))
    | some x =>
      obtain ⟨t, rfl⟩ := isO_some hu
      cases b with
      | none =>
        cases isO_none hv
        unfold eqBool
        refine wpAny_holding ?_
        show wpAny _ _ (if (Value.str x t == Value.none) = true then _ else _) Q E s
        rw [if_neg (by intro e; have := eq_of_beq e; cases this)]
        exact wpAny_bind (show wpAny _ _ (richCompare .Eq _ _) _ _ _ from EqNone.eq_str_none (wpAny_truthy_bool (by simpa using h)))
      | some y =>
        obtain ⟨u, rfl⟩ := isO_some hv
        exact wpAny_eqBool_str (by simpa using h)
  «strs» k x t v h := by
    cases k with
    | none => cases isO_none h
    | some y =>
      obtain ⟨u, hu⟩ := isO_some h
      cases hu
      cases v <;> rfl
def TabIs (prog : Program) (w : World) (o : Obj) (code : Str) (r : P2) : Prop :=
  ∃ kvs, o.IsDictOf (oKind prog w) kvs ∧ valueAt kvs (some code) = r.map (fun p => .str p.x p.t) ∧ ∀ k, k ≠ some code → k ≠ some (Str.ofString "other") → valueAt kvs k = none
def lk (code : Str) (r : P2) (k : P2) : P2 := if k.map Nm.x = some code then r else none
theorem TabIs.at {prog : Program} {w : World} {o : Obj} {code : Str} {r k : P2} (T : TabIs prog w o code r) (hk : k.map Nm.x ≠ some (Str.ofString "other")) :
    ∃ kvs, o.IsDictOf (oKind prog w) kvs ∧ (valueAt kvs (k.map Nm.x)).getD .none = ovv (lk code r k) := by
  obtain ⟨kvs, hd, h1, h2⟩ := T
  refine ⟨kvs, hd, ?_⟩
  by_cases e : k.map Nm.x = some code
  · rw [e, h1, lk, if_pos e]; cases r <;> rfl
  · rw [h2 _ e hk, lk, if_neg e]; rfl
section
variable {prog : Program} {w : World} {A : Around} {E : Value → Shared → Prop} {s : Shared} {h₀ : Heap} {L d : Addr} {m : Str → Option Value} {news : List (Addr × Obj)} {g : Obj → List (Addr × Obj)} {o : Obj}
theorem tab_method {code : Str} {r : P2} {pl : Sem Bool} {Q : Value × List Value → Shared → Prop} (T : TabIs prog w o code r) (N : News h₀ L s.heap news) (hp : (d, o) ∈ news) (h : Q (.builtin "dict.get", [.ref d]) s) :
    wpAny (model prog w) A (getMethod (.ref d) "get" pl) Q E s := let ⟨_, hd, _⟩ := T; kdg_method N hp hd h
theorem tab_get {code : Str} {r k : P2} {Q : Value → Shared → Prop} (T : TabIs prog w o code r) (N : News h₀ L s.heap news) (hp : (d, o) ∈ news) (lo : (d == sysModules) = false) (hk : k.map Nm.x ≠ some (Str.ofString "other"))
    (h : Q (ovv (lk code r k)) { s with toks := s.toks + 1 }) : wpAny (model prog w) A (call (.builtin "dict.get") [.ref d, ovv k]) Q E s := by
  obtain ⟨kvs, hd, e⟩ := T.at hk
  exact kdg_get1 N hp hd lo (isO_ovv k) _ rfl (by rw [e]; exact h)
theorem o_made {vs : List (Value × Value)} {kvs : List (Option Str × Value)} {Q : Value → Shared → Prop} (F : Fr h₀ L s.heap m) (N : News h₀ L s.heap news) (U : UpdF d o news g) (hd : o.IsDictOf (oKind prog w) []) (hc : Carries (oKind prog w) vs kvs)
    (hn : (kvs.map (·.1)).Nodup) (h : ∀ h' o', Fr h₀ L h' m → News h₀ L h' (g o') → o'.IsDictOf (oKind prog w) kvs → Q (.ref d) { s with heap := h', toks := s.toks + vs.length }) : KdnMade prog w (oKind prog w) d Q vs s := by
  obtain ⟨pre, post, rfl, hg, a, b⟩ := U.split
  have hm := N (d, o) (List.mem_append_right _ (.head _))
  refine ⟨kvs, hc, Heap.dictOf_iff.mpr ⟨o, hm.1, hd⟩, fun h' hmm hs => ?_⟩
  rw [merged_nil_of_nodup _ hn] at hmm
  obtain ⟨o', ho', hd'⟩ := Heap.dictOf_iff.mp hmm
  exact h h' o' (F.change hs hm.2.1 hm.2.2) (hg o' ▸ N.setIn a b hs ho') hd'
end
theorem tab_two {prog : Program} {w : World} {o : Obj} {code : Str} {p : Nm} {v : Value} (hd : o.IsDictOf (oKind prog w) [(some code, .str p.x p.t), (some (Str.ofString "other"), v)]) : TabIs prog w o code (some p) := by
  refine ⟨_, hd, by simp [valueAt], fun k h1 h2 => ?_⟩
  simp [valueAt, Ne.symm h1, Ne.symm h2]
theorem tab_one {prog : Program} {w : World} {o : Obj} {code : Str} {v : Value} (hc : code ≠ Str.ofString "other") (hd : o.IsDictOf (oKind prog w) [(some (Str.ofString "other"), v)]) : TabIs prog w o code none := by
  refine ⟨_, hd, by simp [valueAt, Ne.symm hc], fun k _ h2 => ?_⟩
  simp [valueAt, Ne.symm h2]
theorem isO_str (x : Str) (t : Tok) : isO (some x) (.str x t) = true := by simp [isO, Value.isStrOf]
theorem carries1 {prog : Program} {w : World} {y : Str} {u : Tok} {v' : Value} : Carries (oKind prog w) [(.str y u, v')] [(some y, v')] :=
  ⟨isO_str y u, rfl, trivial⟩
theorem carries2 {prog : Program} {w : World} {c y : Str} {t u : Tok} {v v' : Value} : Carries (oKind prog w) [(.str c t, v), (.str y u, v')] [(some c, v), (some y, v')] :=
  ⟨isO_str c t, rfl, isO_str y u, rfl, trivial⟩
theorem nodup1 {x : Option Str} {v : Value} : (([(x, v)] : List (Option Str × Value)).map (·.1)).Nodup := by simp
theorem nodup2 {x y : Str} {v v' : Value} (h : x ≠ y) : (([(some x, v), (some y, v')] : List (Option Str × Value)).map (·.1)).Nodup := by simp [h]
structure MkO : Prop where
theorem item_names {prog : Program} {w : World} {A : Around} {E : Value → Shared → Prop} {s : Shared} {value slice : PySem.Expr} {l : Addr} {vs : List Value} {k : Int} {u : Tok} {Q : Value → Shared → Prop}
    (hl : s.heap.IsList l vs.toArray) (h0 : 0 ≤ k) (hk : k < (vs.length : Int)) (hlen : vs.length ≤ 100) (hvs : ∀ v ∈ vs, ∃ p : Nm, v = .str p.x p.t ∧ p.x.length ≤ 64) (h : ∀ p : Nm, p.x.length ≤ 64 → Q (.str p.x p.t) s)
    (hs : subscripted slice false (.ref l) (.int k u) = operate [.ref l, .int k u] (getItem (.ref l) (.int k u)) := by with_unfolding_all rfl) :
    wpAny (model prog w) A (subscriptTail value slice (.ref l) (.int k u)) Q E s := by
  have hlt : k.toNat < vs.length := by omega
  obtain ⟨p, hp, hs64⟩ := hvs vs[k.toNat] (List.getElem_mem hlt)
  refine tail_any hl.typeIs slot_list_getitem.lookup (wpAny_getItem_list hl h0 (by omega) (x := .str p.x p.t) ?_ (h p hs64)) hs
  simp [List.getElem?_eq_getElem hlt, hp]
theorem names4 {a b c d : Str} {ta tb tc td : Tok} (ha : a.length ≤ 64) (hb : b.length ≤ 64) (hc : c.length ≤ 64) (hd : d.length ≤ 64) : ∀ v ∈ [Value.str a ta, .str b tb, .str c tc, .str d td], ∃ p : Nm, v = .str p.x p.t ∧ p.x.length ≤ 64 := by
  intro v hv
  simp only [List.mem_cons, List.not_mem_nil, or_false] at hv
  rcases hv with rfl | rfl | rfl | rfl
  · exact ⟨⟨a, ta, by omega⟩, rfl, ha⟩
  · exact ⟨⟨b, tb, by omega⟩, rfl, hb⟩
  · exact ⟨⟨c, tc, by omega⟩, rfl, hc⟩
  · exact ⟨⟨d, td, by omega⟩, rfl, hd⟩
theorem nd {h₀ h : Heap} {L : Addr} {x : Addr × Obj} {l : List (Addr × Obj)} (N : News h₀ L h (x :: l)) : News h₀ L h l := fun p hp => N p (.tail _ hp)
def DataIs (prog : Program) (w : World) (o : Obj) (d1 d2 d3 d4 : Addr) : Prop :=
  o.IsDictOf (PySem.strKind prog w) [(Str.ofString "languages", .ref d1), (Str.ofString "scripts", .ref d2), (Str.ofString "territories", .ref d3), (Str.ofString "variants", .ref d4)]
section
variable {prog : Program} {w : World} {A : Around} {E : Value → Shared → Prop} {s : Shared} {h₀ : Heap} {L d : Addr} {news : List (Addr × Obj)} {o : Obj} {d1 d2 d3 d4 : Addr} {value slice : PySem.Expr} {t : Tok} {Q : Value → Shared → Prop}
theorem data_item {x : Str} {v : Value} (D : DataIs prog w o d1 d2 d3 d4) (N : News h₀ L s.heap news) (hp : (d, o) ∈ news) (hl : valueAt [(Str.ofString "languages", Value.ref d1), (Str.ofString "scripts", .ref d2), (Str.ofString "territories", .ref d3), (Str.ofString "variants", .ref d4)] x = some v) (h : Q v { s with toks := s.toks + 1 }) :
    wpAny (model prog w) A (getItem (.ref d) (.str x t)) Q E s := kdt_getItem N hp D (strKind_is _ _ _ _) hl h
theorem tab_getE {code : Str} {r : P2} (T : TabIs prog w o code r) (N : News h₀ L s.heap news) (hp : (d, o) ∈ news) (lo : (d == sysModules) = false) {t : Tok} (hc : code ≠ Str.ofString "")
    (h : Q .none { s with toks := s.toks + 1 }) : wpAny (model prog w) A (call (.builtin "dict.get") [.ref d, .str (Str.ofString "") t]) Q E s :=
  tab_get (k := some ⟨Str.ofString "", t, by decide⟩) T N hp lo (fun e => absurd (Option.some.inj e) (show Str.ofString "" ≠ Str.ofString "other" by decide)) (by rw [lk, if_neg (by simpa using Ne.symm hc)]; exact h)
end
theorem str_empty {x : Str} (h : (x.length : Int) = 0) : x = Str.ofString "" := by
  obtain ⟨c⟩ := x
  have hz : c.size = 0 := by exact_mod_cast h
  rw [Array.eq_empty_of_size_eq_zero hz]
  decide
theorem tr_false {p : Nm} (h : tr (some p) = false) : p.x = Str.ofString "" := str_empty (by simpa [tr] using h)
theorem lk_falsy {code : Str} {r k : P2} (h : tr k = false) (hc : code ≠ Str.ofString "") : lk code r k = none := by
  unfold lk
  rw [if_neg]
  intro e
  cases k with
  | none => cases e
  | some p =>
    simp only [Option.map_some, Option.some.injEq] at e
    exact hc (e ▸ tr_false h)
def SB (news small : List (Addr × Obj)) (Q : Value → Shared → Prop) (r : Result) (s' : Shared) : Prop :=
  match r with
  | .ok (.ret v) => (∀ p ∈ news, p.1 ∉ small.map (·.1) → s'.heap.get? p.1 = some p.2) → Q v s'
  | _ => False
theorem call_s {prog : Program} {w : World} {A A₀ : Around} {s : Shared} {K : Frag} {L : Addr} {h₀ base : Heap} {m mg mb : Str → Option Value} {news : List (Addr × Obj)} (small : List (Addr × Obj)) {p : Program} {loose : List Str} {mean : ExcName → Option Value}
    {env : Env} {outer : List Env} {Q E : Value → Shared → Prop} {name qual : Str} {params : Arguments} {body : List Stmt} {scope : Scope} {dV kV doc pm cdv ct oc : Value} {an od : Option Addr} {osl : Array (Option Value)} {f : Addr} {pos : List Value} {kw : List (Str × Value)} {binds : List (Str × Value)}
    (B : Below A₀ base outer h₀) (F : Fr h₀ L s.heap m) (X₀ : K.In h₀) (N : News h₀ L s.heap news) (T : Top p loose mean mg mb h₀) (hsub : ∀ q ∈ small, q ∈ news) (hA : A.frames = some (env :: outer)) (hf : env.frame = some L) (hke : env.scope.kind = .function)
    (ho : K.lookup f = some ⟨oc, od, .func (fnOf name qual params body scope dV kV doc pm an cdv ct), osl⟩) (hcd : codeIn K cdv qual = true) (hroom : A.depth < recursionLimit)
    (hbind : BindsTo s (fnOf name qual params body scope dV kV doc pm an cdv ct) ⟨pos, kw⟩ binds) (hloc : ∀ y ∈ binds, scope.names.lookup y.1 = some .local)
    (h : ∀ g L' h₁ tk, Fr h₀ L g m → Fr g L' h₁ (fun y => binds.reverse.lookup y) → News g L' h₁ small → Below A base (env :: outer) g → K.In g → Top p loose mean mg mb g → (∀ p ∈ small, p.1 < L') →
      wpAny (model prog w) (A.deeper (envOf qual scope L' f cdv)) (execs body (envOf qual scope L' f cdv))
        (fun fl s' => LeaveK h₀ L m g (SB news small Q) (match fl with | .ret v => v | _ => .none) s')
        (fun e s' => wpAny (model prog w) (A.deeper (envOf qual scope L' f cdv)) (leaving (envOf qual scope L' f cdv) e) (fun _ s'' => E e s'') (fun e' s'' => E e' s'') s')
        { s with heap := h₁, toks := tk })
    (hco : scope.isCoroutine = false) (hgen : scope.isGenerator = false) (hk : scope.kind = .function)
    (hcell : ∀ x ∈ scope.names, x.2 ≠ .cell) : wpAny (model prog w) A (call (.ref f) pos kw) Q E s := by
  refine wpAny_call ?_
  have Ns : News h₀ L s.heap small := fun q hq => N q (hsub q hq)
  obtain ⟨FG, BG, st, lv⟩ := groundX (R := SB news small Q) B F Ns hA hf hke
  refine codeAny_call_def (fd := fnX name qual params body scope [] dV kV doc pm an cdv ct) (body := body) (binds := binds) hroom ((X₀.keeps F.keep) _ _ ho) rfl (T.nolimit.keeps F.keep) (codeRec_of (X₀.keeps F.keep) hcd) rfl hbind hcell hloc (fun h₁ hns hk₁ => ?_) hco hgen hk
  refine wpAny_mono (h _ s.heap.objs.size h₁ _ FG ⟨hns, fun b o e => hk₁ b o (of_hideAll _ e), Nat.le_of_eq (hideAll_size _ _)⟩
    (fun p hp => ⟨hk₁ _ _ (Ns p hp).1, Nat.ne_of_lt (Heap.lt_size (Ns p hp).1), hideAll_none _ (List.mem_map_of_mem hp)⟩) BG (X₀.keeps st) (T.keeps st) (fun p hp => Heap.lt_size (Ns p hp).1)) (fun fl s' hl => ?_) fun _ _ y => y
  have r' := lv _ _ hl
  obtain ⟨L', m', news', F', N', _⟩ := hl
  exact r' fun p hp hn => F'.keep _ _ (hideAll_get _ (N p hp).1 hn)
theorem news_back {h₀ h h' : Heap} {L : Addr} {news small small' : List (Addr × Obj)} (N : News h₀ L h news) (hsub : ∀ q ∈ small, q ∈ news) (N' : News h₀ L h' small') (hs' : ∀ q ∈ small, q ∈ small') (hr : ∀ p ∈ news, p.1 ∉ small.map (·.1) → h'.get? p.1 = some p.2) : News h₀ L h' news := by
  intro p hp
  refine ⟨?_, (N p hp).2⟩
  by_cases hm : p.1 ∈ small.map (·.1)
  · obtain ⟨q, hq, e⟩ := List.mem_map.mp hm
    have h1 := (N q (hsub q hq)).1
    have h2 := (N p hp).1
    rw [e, h2] at h1
    have h3 := (N' q (hs' q hq)).1
    rw [e] at h3
    rw [h3]; exact h1.symm
  · exact hr p hp hm
theorem sb_keep {h₀ h : Heap} {L : Addr} {small small' : List (Addr × Obj)} {news : List (Addr × Obj)} {Q : Value → Shared → Prop} {v : Value} {s' : Shared} (N : News h₀ L h news) (hsub : ∀ q ∈ small, q ∈ news)
    (N' : News h₀ L s'.heap small') (hs' : ∀ q ∈ small, q ∈ small') (k : News h₀ L s'.heap news → Q v s') : SB news small Q (.ok (.ret v)) s' := fun hr => k (news_back N hsub N' hs' hr)
theorem mem4 {a b c d : Addr × Obj} {news : List (Addr × Obj)} (ha : a ∈ news) (hb : b ∈ news) (hc : c ∈ news) (hd : d ∈ news) : ∀ q ∈ [a, b, c, d], q ∈ news := by
  intro q hq
  simp only [List.mem_cons, List.not_mem_nil, or_false] at hq
  rcases hq with rfl | rfl | rfl | rfl <;> assumption
section
variable {prog : Program} {w : World} {A : Around} {E : Value → Shared → Prop} {s : Shared} {K : Frag} {x C : Addr} {ox : Obj} {od : Option Obj} {name : Str} {t : Tok}
theorem getBy {v : Value} {fill : Bool} {Q : Value → Shared → Prop} (X : K.In s.heap) (I : InstAt s.heap x ox C od) (hga : findIn K (.ref C) "__getattribute__" = some (some (.builtin "object.__getattribute__")))
    (hf : findObj K C od name = some (.value v)) (hh : handedIn v = true) (h : Q v s) : wpAny (model prog w) A (getAttrBy (.ref x) (.str name t) fill) Q E s := by
  obtain ⟨hp, g, d, tk, os⟩ := s
  have L0 := I.type (M := model prog w)
  have L1 := looks_findIn (M := model prog w) X hga
  have L2 := looks_find (M := model prog w) X I hf
  unfold getAttrBy
  refine wpAny_holding (wpAny_bind (L0.at (wpAny_bind (L1.at ?_))))
  show wpAny _ _ (getAttrEveryday _ _ _) _ _ _
  refine wpAny_bind (wpAny_onRaise (wpAny_runValue (codeAny_builtin F.plainObj_entry_getattr_hooked ?_)))
  refine wpAny_bind (wpAny_pure (wpAny_bind (L0.at (wpAny_bind (L2.at ?_)))))
  refine wpAny_pure ?_
  show wpAny _ _ (handedOut v) _ _ _
  rw [handedOut_of hh]; exact wpAny_pure h
theorem kind_getattr : builtinKind "getattr" = none := by decide +kernel
theorem plain_getattr : plainId "getattr" = true := by decide +kernel
theorem entry_getattr : entryFor table "getattr" = some Builtin.«getattr» := entryFor_of_tree (by kernel_rfl)
theorem args_getattr (a b : Value) : argsOk "getattr" ⟨[a, b], []⟩ := by unfold argsOk; kernel_rfl
theorem call_getattr {v : Value} {Q : Value → Shared → Prop} (X : K.In s.heap) (I : InstAt s.heap x ox C od) (hga : findIn K (.ref C) "__getattribute__" = some (some (.builtin "object.__getattribute__")))
    (hf : findObj K C od name = some (.value v)) (hh : handedIn v = true) (h : Q v s) : wpAny (model prog w) A (call (.builtin "getattr") [.ref x, .str name t]) Q E s := by
  refine call_function_entry_kw kind_getattr plain_getattr entry_getattr (args_getattr _ _) ?_
  show wpAny _ _ (getAttrBy (.ref x) (.str name t) true >>= ret) _ _ _
  exact wpAny_bind (getBy X I hga hf hh (wpAny_pure ⟨_, rfl, h⟩))
theorem kind_hasattr : builtinKind "hasattr" = none := by decide +kernel
theorem plain_hasattr : plainId "hasattr" = true := by decide +kernel
theorem entry_hasattr : entryFor table "hasattr" = some Builtin.«hasattr» := entryFor_of_tree (by kernel_rfl)
theorem args_hasattr (a b : Value) : argsOk "hasattr" ⟨[a, b], []⟩ := by unfold argsOk; kernel_rfl
theorem call_hasattr {v : Value} {Q : Value → Shared → Prop} (X : K.In s.heap) (I : InstAt s.heap x ox C od) (hga : findIn K (.ref C) "__getattribute__" = some (some (.builtin "object.__getattribute__")))
    (hm : subIn K (.ref C) (.type "module") = some false) (hf : findObj K C od name = some (.value v)) (hh : handedIn v = true) (h : Q (.bool true) s) : wpAny (model prog w) A (call (.builtin "hasattr") [.ref x, .str name t]) Q E s := by
  refine call_function_entry_kw kind_hasattr plain_hasattr entry_hasattr (args_hasattr _ _) ?_
  have L0 := I.type (M := model prog w)
  have L3 : Looks (model prog w) s.heap (isInstance (.ref x) (.type "module")) false := L0.andThen (looks_subIn X hm)
  refine wpAny_bind (wpAny_pure (wpAny_bind (wpAny_pure ?_)))
  show wpAny _ _ (typeOf (Value.ref x) >>= _) _ _ _
  refine wpAny_bind (L0.here ?_)
  dsimp only
  refine wpAny_bind (wpAny_bind (wpAny_pure (wpAny_bind (L3.here (wpAny_pure ?_)))))
  show wpAny _ _ (getAttrBy? (Value.ref x) (Value.str name t) >>= _) _ _ _
  refine wpAny_bind (wpAny_bind (wpAny_attempt (getBy X I hga hf hh (wpAny_pure ?_))))
  exact wpAny_pure ⟨_, rfl, h⟩
theorem hasattr_K {h₀ : Heap} {L : Addr} {m : Str → Option Value} {es : List DictEntry} {n : Nat} {attr : Option Value} {v : Value} {Q : Value → Shared → Prop} (F : Fr h₀ L s.heap m) (X₀ : K.In h₀) (I : InstAt s.heap x ox C (some (dictOf es n))) (hg : plainGet K C name = true) (hh : hasDictIn K C = true)
    (ha : findIn K (.ref C) name = some attr) (hn : noGet K attr = true) (hm : subIn K (.ref C) (.type "module") = some false) (hl : getL name es = some (some v)) (hv : handedIn v = true) (h : Q (.bool true) s) : wpAny (model prog w) A (call (.builtin "hasattr") [.ref x, .str name t]) Q E s :=
  call_hasattr (X₀.keeps F.keep) I (plainGet_of hg).1 hm (findObj_own hh ha hn hl) hv h
theorem getattr_K {h₀ : Heap} {L : Addr} {m : Str → Option Value} {es : List DictEntry} {n : Nat} {attr : Option Value} {v : Value} {Q : Value → Shared → Prop} (F : Fr h₀ L s.heap m) (X₀ : K.In h₀) (I : InstAt s.heap x ox C (some (dictOf es n))) (hg : plainGet K C name = true) (hh : hasDictIn K C = true)
    (ha : findIn K (.ref C) name = some attr) (hn : noGet K attr = true) (hl : getL name es = some (some v)) (hv : handedIn v = true) (h : Q v s) : wpAny (model prog w) A (call (.builtin "getattr") [.ref x, .str name t]) Q E s :=
  call_getattr (X₀.keeps F.keep) I (plainGet_of hg).1 (findObj_own hh ha hn hl) hv h
end
theorem handedIn_ovv (o : P2) : handedIn (ovv o) = true := by cases o <;> rfl
end
section
theorem off_Gen : True := by
  w_top off
  exact trivial
theorem code_is_of {K : Frag} {h : Heap} {ps vs : Array Value} {dd : Option Addr} {sl : Array (Option Value)} {a : Str} {c : Int} {e : Bool} {f : Int} {b d g : Tok} (X : K.In h) (h105 : h.get? 105 = some (PySem.W.X.tableObj ps)) (ht : TriplesOk ps.toList)
    (hl : K.lookup 109 = some ⟨.type "code", dd, .fields vs, sl⟩) (h11 : vs.getD 11 .none = .ref 105) (h18 : vs.getD 18 .none = .str a b) (h7 : vs.getD 7 .none = .int c d) (h9 : vs.getD 9 .none = .bool e) (h10 : vs.getD 10 .none = .int f g) (h11' : vs[11]? = some (.ref 105)) :
    h.IsCode 109 105 ps ∧ h.TableAt 109 105 ps :=
  have hc := X _ _ hl
  ⟨⟨_, vs, a, b, c, d, e, f, g, _, hc, rfl, h11, h18, h7, h9, h10, h105, rfl, ht, by decide⟩, ⟨⟨_, vs, hc, rfl, rfl, h11'⟩, h105⟩⟩
theorem code109_is {w : World} {h : Heap} {ps : Array Value} (X : (hd.heap_39 w.params).In h) (h105 : h.get? 105 = some (PySem.W.X.tableObj ps)) (ht : TriplesOk ps.toList) : h.IsCode 109 105 ps ∧ h.TableAt 109 105 ps := by
  k_dflt (refine' code_is_of X h105 ht ?a ?b ?c ?d ?e ?f ?g; (case a => k_is); (case b => rfl); (case c => rfl); (case d => rfl); (case e => rfl); (case f => rfl); (case g => rfl))
def PsOk (pos : Pos) (ps : Array Value) : Prop := ps = #[] ∨ ∃ c, ps = #[rawInt pos.line, rawInt pos.col, c]
theorem PsOk.triples {pos : Pos} {ps : Array Value} (h : PsOk pos ps) : TriplesOk ps.toList := by
  rcases h with rfl | ⟨c, rfl⟩ <;> exact True.intro
theorem gcode {M : Model} {A : Around} {E : Value → Shared → Prop} {s : Shared} {w : World} {ps : Array Value} {env : Env} {pos : Pos} {q : Str} {scope : Scope} {Q : Value → Shared → Prop} (X : (hd.heap_39 w.params).In s.heap) (h105 : s.heap.get? 105 = some (PySem.W.X.tableObj ps)) (hps : PsOk pos ps) (hcode : env.code = .ref 109)
    (k : ∀ code h' tk ps', PsOk pos ps' → Heap.ExtBut 105 s.heap h' → s.heap.objs.size ≤ h'.objs.size → h'.get? 105 = some (PySem.W.X.tableObj ps') → Q code { s with heap := h', toks := tk }) : wpAny M A (genexprCode env pos q scope) Q E s := by
  obtain ⟨hC, hT⟩ := code109_is X h105 hps.triples
  rcases hps with rfl | ⟨c, rfl⟩
  · refine wpAny_genexprCodeX hcode hC hT rfl fun c' h' tk hx hge hlt _ _ hT' _ => k _ h' tk _ (.inr ⟨.ref c', rfl⟩) hx (Nat.le_trans hge (Nat.le_of_lt hlt)) ?_
    exact hT'.2
  · refine wpAny_genexprCode_hit hcode hC (c' := c) ?_ (k c s.heap s.toks _ (.inr ⟨c, rfl⟩) (Heap.ExtBut.refl _ _) (Nat.le_refl _) h105)
    show (if ((pos.line : Int) == pos.line && (pos.col : Int) == pos.col) = true then some c else _) = some c
    rw [if_pos (by simp)]
def nmx (o : P2) : Str := (o.map Nm.x).getD (Str.ofString "")
def kept (l : List P2) : List Str := (l.filter tr).map nmx
theorem gen_ovv {prog : Program} {w : World} {A : Around} {E : Value → Shared → Prop} {s : Shared} {g : Heap} {L' dl : Addr} {m' mg mb : Str → Option Value} {mean : ExcName → Option Value} {p : Program} {loose : List Str} {news : List (Addr × Obj)} {up : Obj → List (Addr × Obj)} {ps : Array Value} {items : List P2} {n : Nat}
    {env : Env} {iter : PySem.Expr} {x : Str} {px p1 p2 pos : Pos} {scope : Scope} {cl : List (Str × Addr)} {Q : Value → Shared → Prop}
    (X : (hd.heap_39 w.params).In g) (T : Top p loose mean mg mb g) (F : Fr g L' s.heap m') (N : News g L' s.heap news) (hdl : (dl, W.listOf (items.map ovv).toArray n) ∈ news) (U : UpdF 105 (PySem.W.X.tableObj ps) news up) (hps : PsOk pos ps) (hG : AllBare s.gens)
    (hcode : env.code = .ref 109) (hgl : env.globals = mainGlobals) (hh : A.handled = none) (hco : scope.isCoroutine = false) (hclos : closureFor scope env = pure cl) (hcell : ∀ y ∈ scope.names, y.2 ≠ .cell) (h0 : scope.names.lookup (".0" : Str) = some NameKind.local)
    (hx : scope.names.lookup x = some .local) (hxd : (x == ("__debug__" : Str)) = false) (hkind : scope.kind = .function) (hroom : A.depth < recursionLimit) (hs : ∀ x, genFold iter env x = pure x)
    (hev : ∀ Q' : Value → Shared → Prop, Q' (.ref dl) s → wpAny (model prog w) A (eval iter env) Q' E s)
    (k : ∀ a s' ps' Kb, PsOk pos ps' → Fr g L' s'.heap m' → News g L' s'.heap (up (PySem.W.X.tableObj ps')) → AllBare s'.gens → s'.os = s.os → L' ≤ Kb → (∀ q ∈ up (PySem.W.X.tableObj ps'), q.1 ≤ Kb) → GenOnD prog w A Kb a items tr (fun o => .str (nmx o)) s' → Q (.ref a) s') :
    wpAny (model prog w) A (eval (.GeneratorExp (.Name x p1) [⟨.Name x px, iter, [.Name x p2], 0⟩] scope pos) env) Q E s := by
  refine wpAny_GeneratorExp_walksQ hh hco hclos hcell h0 hx hkind hroom (hev _ ?_) hs
  obtain ⟨pre, post, rfl, hup, hpre, hpost⟩ := U.split
  have n105 := N (105, PySem.W.X.tableObj ps) (List.mem_append_right _ (.head _))
  have hl : s.heap.IsList dl (items.map ovv).toArray := ⟨_, (N _ hdl).1, rfl, n, rfl⟩
  have hlt : dl < s.heap.objs.size := Heap.lt_size (N _ hdl).1
  have hLlt : L' < s.heap.objs.size := F.ns.lt
  have h105lt : 105 < s.heap.objs.size := Heap.lt_size n105.1
  have hlim : s.heap.NoLimit := T.nolimit.keeps F.keep
  have hd105 : dl ≠ 105 := fun e => by
    have q := (N _ hdl).1
    have q' := n105.1
    dsimp only at q q'
    rw [e] at q
    rw [q] at q'
    cases q'
  refine wpAny_pyIter_list hl ⟨hlim.push _, ?_⟩
  refine gcode (w := w) (X.keeps fun b o e => Heap.get?_push_of_some _ (F.keep b o e)) (Heap.get?_push_of_some _ n105.1) hps hcode (fun code h₃ tk ps' hps' hx₃ hsz h105' => ?_)
  have hcP : cStatics ≠ 105 := by decide
  have hl₃ : h₃.NoLimit := (hlim.push _).extBut hx₃ hcP
  obtain ⟨bm, ob, M0⟩ := bmod_of_top T
  have keep3 : ∀ b o, b ≠ 105 → s.heap.get? b = some o → h₃.get? b = some o := fun b o hb e => hx₃ b o hb (Heap.get?_push_of_some _ e)
  have keepg : ∀ b o, g.get? b = some o → h₃.get? b = some o := fun b o e => keep3 b o (fun q => by subst q; rw [n105.2.2] at e; cases e) (F.keep b o e)
  have M₃ := M0.keeps keepg
  have hszP : (s.heap.push { cls := .type "list_iterator", data := .fields #[.ref dl, .int 0 0] }).objs.size = s.heap.objs.size + 1 := Heap.size_push ..
  rw [hszP] at hsz
  rw [hgl]
  refine wpAny_builtinsFor M₃.ns M₃.name M₃.ne M₃.obj M₃.cls M₃.dict M₃.data ?_
  have hI : (s.heap.push { cls := .type "list_iterator", data := .fields #[.ref dl, .int 0 0] }).get? s.heap.objs.size = some { cls := .type "list_iterator", data := .fields #[.ref dl, .int 0 0] } := Heap.get?_push_size _ rfl
  have hI3 : h₃.get? s.heap.objs.size = some { cls := .type "list_iterator", data := .fields #[.ref dl, .int 0 0] } := hx₃ _ _ (Nat.ne_of_gt h105lt) hI
  have hl3 : h₃.IsList dl (items.map ovv).toArray := ⟨_, keep3 _ _ hd105 (N _ hdl).1, rfl, n, rfl⟩
  refine ⟨s.heap.objs.size, [s.heap.objs.size, dl], [s.heap.objs.size], (items.map ovv).toArray.size, _, _, (fun i => (items[i]?.map tr).getD false), (fun i y => ∃ b, items[i]? = some b ∧ Carried y (.str (nmx b))), rfl,
    (fun A' hA => Walks.list hA _ _ (Nat.ne_of_lt hlt) _), ⟨⟨_, hI3, rfl, rfl⟩, hl3⟩, ?_, hl₃, ?_, ?_, ?_⟩
  · intro b hb
    rcases List.mem_cons.mp hb with rfl | hb
    · exact hsz
    · rcases List.mem_cons.mp hb with rfl | hb
      · exact Nat.lt_of_lt_of_le hlt (Nat.le_trans (Nat.le_succ _) hsz)
      · cases hb
  · intro hm
    have hc : cStatics < s.heap.objs.size := let ⟨_, hn, _⟩ := hlim; hn.lt
    rcases List.mem_cons.mp hm with e | hb
    · exact absurd (e ▸ hc) (Nat.lt_irrefl _)
    · cases hb
  · intro href hhref
    have hit : ∀ (i : Nat) (v : Value), (items.map ovv).toArray[i]? = some v → ∃ b, items[i]? = some b ∧ v = ovv b := fun i v hv => by
      have hv' : (items.map ovv)[i]? = some v := by simpa using hv
      rw [List.getElem?_map] at hv'
      cases hb : items[i]? with
      | none => rw [hb] at hv'; cases hv'
      | some b => rw [hb] at hv'; cases hv'; exact ⟨b, rfl, rfl⟩
    constructor
    · intro A' E' i v s₂ m₂ hA hP hn hm _
      obtain ⟨b, hb, rfl⟩ := hit i v hP
      rw [List.forIn_cons]
      refine wpAny_bind ?_
      rw [if_pos rfl]
      refine wpAny_bind (isTrue_plain (wpAny_Name (wpAny_loadName_local hkind hx hn hm (ov_truthy fun tk' => ?_)) hxd))
      refine wpAny_pure ?_
      dsimp only
      rw [List.forIn_nil]
      refine wpAny_pure ⟨by simp [hb], _, _, rfl, fun _ _ e => e⟩
    · intro A' E' i v s₂ m₂ hA hP hp hn hm _
      obtain ⟨b, hb, rfl⟩ := hit i v hP
      refine wpAny_Name (wpAny_loadName_local hkind hx hn hm ⟨⟨b, hb, ?_⟩, _, _, rfl, fun _ _ e => e⟩) hxd
      have ht : tr b = true := by simpa [hb] using hp
      cases b with
      | none => cases ht
      | some q => exact .str _ _
  · intro a h₅ tk' gs hgb hag hsz₅ hk₅ W hat
    have keep5 : ∀ b o, b ≠ 105 → s.heap.get? b = some o → h₅.get? b = some o := fun b o hb e => hk₅ b o (keep3 b o hb e)
    have kN : News g L' h₅ (up (PySem.W.X.tableObj ps')) := by
      rw [hup]
      intro q hq
      rcases List.mem_append.mp hq with hq | hq
      · have P := N q (List.mem_append_left _ hq)
        exact ⟨keep5 _ _ (hpre q hq) P.1, P.2⟩
      · rcases List.mem_cons.mp hq with rfl | hq
        · exact ⟨hk₅ _ _ h105', n105.2⟩
        · have P := N q (List.mem_append_right _ (.tail _ hq))
          exact ⟨keep5 _ _ (hpost q hq) P.1, P.2⟩
    refine k a _ ps' (s.heap.objs.size - 1) hps' ⟨F.ns.at' fun o e => keep5 _ o (Ne.symm n105.2.1) e, fun b o e => hk₅ b o (keepg b o e), F.above⟩ kN (hG.push hgb) rfl (Nat.le_sub_one_of_lt hLlt) (fun q hq => ?_) ?_
    · rw [hup] at hq
      have : q.1 < s.heap.objs.size := by
        rcases List.mem_append.mp hq with hq | hq
        · exact Heap.lt_size (N q (List.mem_append_left _ hq)).1
        · rcases List.mem_cons.mp hq with rfl | hq
          · exact h105lt
          · exact Heap.lt_size (N q (List.mem_append_right _ (.tail _ hq))).1
      exact Nat.le_sub_one_of_lt this
    · have X5 : Gen prog w A (s.heap.objs.size - 1) a (passing (fun i => (items[i]?.map tr).getD false) (items.map ovv).toArray.size 0).length (fun j y => ∃ i, (passing (fun i => (items[i]?.map tr).getD false) (items.map ovv).toArray.size 0)[j]? = some i ∧ ∃ b, items[i]? = some b ∧ Carried y (.str (nmx b))) _ :=
        ⟨_, _, _, _, W, hat, (fun i s' st => st.1.typeIs), List.mem_cons_self, ?_, ?_⟩
      · have hsz' : (items.map ovv).toArray.size = items.length := by simp
        rw [hsz'] at X5
        have hidx := idx_map items tr
        have hpass : passing (fun i => (items[i]?.map tr).getD false) items.length 0 = (List.range items.length).filter fun i => (items[i]?.map tr).getD false := by simp [passing]
        rw [hpass] at X5
        have hlen : ((List.range items.length).filter fun i => (items[i]?.map tr).getD false).length = (items.filter tr).length := by simpa using congrArg List.length hidx
        rw [hlen] at X5
        refine X5.imp fun j y hy => ?_
        obtain ⟨i, hij, b, hb, hc⟩ := hy
        refine ⟨b, ?_, hc⟩
        have := congrArg (fun l => l[j]?) hidx
        simp only [List.getElem?_map, hij, Option.map_some, hb] at this
        cases hq : (items.filter tr)[j]? with
        | none => rw [hq] at this; simp at this
        | some b' => rw [hq] at this; simp at this; rw [this]
      · intro b hb
        show b < h₅.objs.size
        rw [hsz₅]
        rcases List.mem_cons.mp hb with rfl | hb
        · exact Nat.lt_succ_self _
        · rcases List.mem_cons.mp hb with rfl | hb
          · exact Nat.lt_succ_of_lt hag
          · exact Nat.lt_succ_of_lt (Nat.lt_trans (List.mem_range.mp hb) hag)
      · intro b hb
        rcases List.mem_cons.mp hb with rfl | hb
        · show s.heap.objs.size - 1 < h₃.objs.size; omega
        · rcases List.mem_cons.mp hb with rfl | hb
          · show s.heap.objs.size - 1 < s.heap.objs.size; omega
          · cases hb
end
section
theorem off_Cuts : True := by
  w_top off
  exact trivial
local macro_rules | `(tactic| k_mem) => `(tactic| assumption)
local macro_rules | `(tactic| walk_at "compareOp Eq") => `(tactic| ((with_reducible show wpAny _ _ (compareOp CmpOp.Eq (ovv _) (ovv _)) _ _ _); refine ov_eq ?_))
local macro_rules | `(tactic| walk_at "compareOp NotEq") => `(tactic| ((with_reducible show wpAny _ _ (compareOp CmpOp.NotEq (ovv _) (ovv _)) _ _ _); refine ov_ne ?_))
local macro_rules | `(tactic| walk_at "compareOp Is") => `(tactic| ((with_reducible show wpAny _ _ (compareOp CmpOp.Is (ovv _) Value.none) _ _ _); refine ov_isNone ?_))
local macro_rules | `(tactic| walk_at "compareOp IsNot") => `(tactic| ((with_reducible show wpAny _ _ (compareOp CmpOp.IsNot (ovv _) Value.none) _ _ _); refine ov_isNotNone ?_))
local macro_rules | `(tactic| walk_at "truthy") => `(tactic| ((with_reducible show wpAny _ _ (truthy (ovv _)) _ _ _); refine ov_truthy ?_; intro tk))
local macro_rules | `(tactic| k_handed) => `(tactic| exact handedIn_ovv _)
local macro_rules | `(tactic| walk_at "call builtin:hasattr") => `(tactic| (k_here; k_dflt (refine' hasattr_K ?k1 ?k2 ?k3 ?k4 ?k5 ?k6 ?k7 ?k8 ?k9 ?k10 ?_; (case k1 => k_asm); (case k2 => k_asm); (case k3 => k_inst); (case k4 => k_is); (case k5 => k_is); (case k6 => k_is); (case k7 => k_is); (case k8 => k_is); (case k9 => k_get); (case k10 => k_handed); k_whole)))
local macro_rules | `(tactic| walk_at "call builtin:getattr") => `(tactic| (k_here; k_dflt (refine' getattr_K ?k1 ?k2 ?k3 ?k4 ?k5 ?k6 ?k7 ?k9 ?k10 ?_; (case k1 => k_asm); (case k2 => k_asm); (case k3 => k_inst); (case k4 => k_is); (case k5 => k_is); (case k6 => k_is); (case k7 => k_is); (case k9 => k_get); (case k10 => k_handed); k_whole)))
local macro_rules | `(tactic| k_room) => `(tactic| ((try simp only [depth_under_make, depth_under_kw, depth_in1, depth_deeper, depth_caller]); omega))
local macro_rules | `(tactic| walk_at "subscriptTail") => `(tactic| (k_here; (with_reducible show wpAny _ _ (subscriptTail _ _ (Value.ref _) (Value.str _ _)) _ _ _); k_dflt (refine' kdt_tail (knd := PySem.strKind _ _) ?N ?p ?d ?_; (case N => k_asm); (case p => k_mem); (case d => unfold DataIs at *; assumption); k_whole)))
local macro_rules | `(tactic| walk_at "subscriptTail Attribute Name Constant ref str") => `(tactic| (k_here; (with_reducible show wpAny _ _ (subscriptTail _ _ (Value.ref _) (Value.str _ _)) _ _ _); k_dflt (refine' kdt_tail (knd := PySem.strKind _ _) ?N ?p ?d ?_; (case N => k_asm); (case p => k_mem); (case d => unfold DataIs at *; assumption); k_whole)))
local macro_rules | `(tactic| walk_at "getItem ref str") => `(tactic| (k_here; k_dflt (refine' data_item ?d ?N ?p ?l ?_; (case N => k_asm); (case p => k_mem); (case d => assumption); (case l => rfl); k_whole)))
local macro_rules | `(tactic| walk_at "getMethod ref") => `(tactic| (k_here; (with_reducible show wpAny _ _ (getMethod (Value.ref _) (Str.ofString "get") _) _ _ _); k_dflt (refine' tab_method ?T ?N ?p ?_; (case N => k_asm); (case p => k_mem); (case T => assumption); k_whole)))
local macro_rules | `(tactic| walk_at "call builtin:dict.get") => `(tactic| (k_here; (with_reducible show wpAny _ _ (call (Value.builtin "dict.get") [Value.ref _, ovv _]) _ _ _); k_dflt (refine' tab_get ?T ?N ?p ?l ?k ?_; (case N => k_asm); (case p => k_mem); (case T => assumption); (case l => assumption); (case k => assumption); k_whole)))
local macro_rules | `(tactic| walk_at "call builtin:dict.get") => `(tactic| (k_here; (with_reducible show wpAny _ _ (call (Value.builtin "dict.get") [Value.ref _, Value.str _ _]) _ _ _); k_dflt (refine' tab_getE ?T ?N ?p ?l ?k ?_; (case N => k_asm); (case p => k_mem); (case T => assumption); (case l => assumption); (case k => assumption); k_whole)))
inductive At105 (ps : Array Value) : List (Addr × Obj) → (Obj → List (Addr × Obj)) → Prop
  | head {r : List (Addr × Obj)} : (∀ p ∈ r, p.2.cls ≠ .none) → At105 ps ((105, PySem.W.X.tableObj ps) :: r) (fun o' => (105, o') :: r)
  | tail {p : Addr × Obj} {r : List (Addr × Obj)} {g : Obj → List (Addr × Obj)} : p.2.cls ≠ .none → At105 ps r g → At105 ps (p :: r) (fun o' => p :: g o')
theorem At105.upd {ps : Array Value} {h₀ h : Heap} {L : Addr} : ∀ {news : List (Addr × Obj)} {up : Obj → List (Addr × Obj)}, At105 ps news up → h.get? 105 = some (PySem.W.X.tableObj ps) → News h₀ L h news → UpdF 105 (PySem.W.X.tableObj ps) news up
  | _, _, .head hr, h5, N => .head fun p hp e => hr p hp (by
      have q := (N p (.tail _ hp)).1
      rw [e, h5] at q
      rw [← Option.some.inj q]; rfl)
  | _, _, .tail hp hr, h5, N => .tail (fun e => hp (by
      have q := (N _ (.head _)).1
      rw [e, h5] at q
      rw [← Option.some.inj q]; rfl)) (hr.upd h5 (nd N))
theorem At105.mem {ps : Array Value} : ∀ {news : List (Addr × Obj)} {up : Obj → List (Addr × Obj)}, At105 ps news up → (105, PySem.W.X.tableObj ps) ∈ news
  | _, _, .head _ => .head _
  | _, _, .tail _ h => .tail _ h.mem
theorem At105.toUpd {ps : Array Value} {h₀ h : Heap} {L : Addr} {news : List (Addr × Obj)} {up : Obj → List (Addr × Obj)} (A : At105 ps news up) (N : News h₀ L h news) : UpdF 105 (PySem.W.X.tableObj ps) news up := A.upd (N _ A.mem).1 N
theorem sb_upd {h₀ h : Heap} {L : Addr} {small small' news : List (Addr × Obj)} {up : Obj → List (Addr × Obj)} {ps ps' : Array Value} {Q : Value → Shared → Prop} {v : Value} {s' : Shared} (N : News h₀ L h news) (A : At105 ps news up) (hsub : ∀ q ∈ small, q ∈ news)
    (N' : News h₀ L s'.heap small') (hs' : ∀ q ∈ small, q.1 ≠ 105 → q ∈ small') (h5 : (105, PySem.W.X.tableObj ps') ∈ small') (k : News h₀ L s'.heap (up (PySem.W.X.tableObj ps')) → Q v s') : SB news small Q (.ok (.ret v)) s' := by
  intro hr
  refine k ?_
  obtain ⟨pre, post, rfl, hup, hpre, hpost⟩ := (A.toUpd N).split
  rw [hup]
  have old : ∀ q ∈ pre ++ (105, PySem.W.X.tableObj ps) :: post, q.1 ≠ 105 → s'.heap.get? q.1 = some q.2 := by
    intro p hp hne
    by_cases hm : p.1 ∈ small.map (·.1)
    · obtain ⟨q, hq, e⟩ := List.mem_map.mp hm
      have h1 := (N q (hsub q hq)).1
      have h2 := (N p hp).1
      rw [e, h2] at h1
      have h3 := (N' q (hs' q hq (by rw [e]; exact hne))).1
      rw [e] at h3
      rw [h3]; exact h1.symm
    · exact hr p hp hm
  intro q hq
  rcases List.mem_append.mp hq with hq | hq
  · have hm := List.mem_append_left ((105, PySem.W.X.tableObj ps) :: post) hq
    exact ⟨old q hm (hpre q hq), (N q hm).2⟩
  · rcases List.mem_cons.mp hq with rfl | hq
    · exact N' _ h5
    · have hm := List.mem_append_right pre (List.Mem.tail (105, PySem.W.X.tableObj ps) hq)
      exact ⟨old q hm (hpost q hq), (N q hm).2⟩
structure Mk (c : Bool) : Prop where
structure MkA (l : List (Bool × P2)) : Prop where
def CutB (c : Bool) (h₀ : Heap) (L : Addr) (m : Str → Option Value) (news : List (Addr × Obj)) (s : Shared) (k : Bool) (s' : Shared) : Prop :=
  k = c ∧ ∃ h' tk', s' = { s with heap := h', toks := tk' } ∧ Fr h₀ L h' m ∧ News h₀ L h' news
def CutA (h₀ : Heap) (L : Addr) (m : Str → Option Value) (dl : Addr) (its : List P2) (news : List (Addr × Obj)) (s : Shared) (fl : Flow) (s' : Shared) : Prop :=
  fl = .next ∧ ∃ h' tk' n', s' = { s with heap := h', toks := tk' } ∧ Fr h₀ L h' m ∧ News h₀ L h' ((dl, W.listOf (its.map ovv).toArray n') :: news)
section
variable {M : Model} {A : Around} {E : Value → Shared → Prop} {s : Shared} {env : Env} {h₀ : Heap} {L : Addr} {m : Str → Option Value} {news : List (Addr × Obj)} {test : PySem.Expr} {body orelse : List Stmt} {pos : Pos} {Q : Flow → Shared → Prop}
theorem if_cut {c : Bool} (_mk : Mk c) (_F : Fr h₀ L s.heap m) (_N : News h₀ L s.heap news) (hc : wpAny M A (isTrue test env (eval test env)) (fun k s' => CutB c h₀ L m news s k s') E s)
    (h : ∀ h' tk', Fr h₀ L h' m → News h₀ L h' news → if c = true then wpAny M A (execs body env) Q E { s with heap := h', toks := tk' } else wpAny M A (execs orelse env) Q E { s with heap := h', toks := tk' }) :
    wpAny M A (exec (.If test body orelse pos) env) Q E s := by
  refine wpAny_If (wpAny_mono hc (fun k s₂ hk => ?_) fun _ _ e => e)
  obtain ⟨rfl, h', tk', rfl, F', N'⟩ := hk
  have := h h' tk' F' N'
  cases k <;> simpa using this
theorem if_app {c : Bool} {o : P2} {l : List (Bool × P2)} {items : List P2} {dl : Addr} {n j : Nat} {st : Stmt} (_mk : MkA ((c, o) :: l)) (_F : Fr h₀ L s.heap m) (_N : News h₀ L s.heap ((dl, W.listOf (items.map ovv).toArray n) :: news)) (hlen : items.length ≤ j)
    (hc : wpAny M A (isTrue test env (eval test env)) (fun k s' => CutB c h₀ L m ((dl, W.listOf (items.map ovv).toArray n) :: news) s k s') E s)
    (ht : ∀ h' tk', c = true → Fr h₀ L h' m → News h₀ L h' ((dl, W.listOf (items.map ovv).toArray n) :: news) → wpAny M A (exec st env) (fun fl s' => CutA h₀ L m dl (items ++ [o]) news s fl s') E { s with heap := h', toks := tk' })
    (k : ∀ h' tk' n' items', items' = items ++ (if c = true then [o] else []) → items'.length ≤ j + 1 → Fr h₀ L h' m → News h₀ L h' ((dl, W.listOf (items'.map ovv).toArray n') :: news) → MkA l → Q .next { s with heap := h', toks := tk' }) :
    wpAny M A (exec (.If test [st] [] pos) env) Q E s := by
  refine wpAny_If (wpAny_mono hc (fun b s₂ hk => ?_) fun _ _ e => e)
  obtain ⟨rfl, h', tk', rfl, F', N'⟩ := hk
  cases b with
  | true =>
    refine wpAny_execs_cons (wpAny_mono (ht h' tk' rfl F' N') (fun fl s₃ hf => ?_) fun _ _ e => e)
    obtain ⟨rfl, h'', tk'', n'', rfl, F'', N''⟩ := hf
    exact wpAny_execs_nil (k h'' tk'' n'' _ (by simp) (by simp; omega) F'' N'' ⟨⟩)
  | false => exact wpAny_execs_nil (k h' tk' n items (by simp) (by omega) F' N' ⟨⟩)
end
theorem app_ovv {prog : Program} {w : World} {A : Around} {E : Value → Shared → Prop} {s : Shared} {h₀ : Heap} {L D : Addr} {m : Str → Option Value} {news news' : List (Addr × Obj)} {items : List P2} {o : P2} {n : Nat} {Q : Value → Shared → Prop} (F : Fr h₀ L s.heap m) (N : News h₀ L s.heap news)
    (U : Upd D (W.listOf (items.map ovv).toArray n) (W.listOf ((items ++ [o]).map ovv).toArray (n + 1)) news news') (hlen : items.length ≤ 100)
    (h : ∀ h', Fr h₀ L h' m → News h₀ L h' news' → Q .none { s with heap := h' }) : wpAny (model prog w) A (call (.builtin "list.append") [.ref D, ovv o]) Q E s := by
  have e : ((items ++ [o]).map ovv).toArray = (items.map ovv).toArray.push (ovv o) := by simp
  rw [e] at U
  exact append_K F N U h (by rw [sizeLine_eq]; simp; omega)
theorem joinOk_of {sep : Str} {l : List Str} (hs : sep.length ≤ 64) (hl : l.length ≤ 100) (hx : ∀ x ∈ l, x.length ≤ 1000) : JoinOk sep l = true := by
  have key : ∀ (l : List Str) (a : Nat), (∀ x ∈ l, x.length ≤ 1000) → l.foldl (fun n x => n + x.length + sep.length) a ≤ a + l.length * 1064 := by
    intro l
    induction l with
    | nil => intro a _; simp
    | cons x r ih =>
      intro a h
      have h1 := h x (.head _)
      have h2 := ih (a + x.length + sep.length) fun y hy => h y (.tail _ hy)
      simp only [List.foldl_cons, List.length_cons]
      omega
  have := key l 0 hx
  unfold JoinOk
  rw [List.foldl_toArray]
  simp only [Bool.not_eq_true', Builtin.Str.tooLong, decide_eq_false_iff_not, sizeLine_eq]
  omega
def Stop (P : Prop) : Prop := P
theorem stop_of {P : Prop} (h : Stop P) : P := h
structure MkS : Prop where
theorem cutB_i {c k : Bool} {h₀ h' : Heap} {L : Addr} {m : Str → Option Value} {news : List (Addr × Obj)} {s : Shared} {tk' : Nat} (e : k = c) (F : Fr h₀ L h' m) (N : News h₀ L h' news) : CutB c h₀ L m news s k { s with heap := h', toks := tk' } :=
  ⟨e, _, _, rfl, F, N⟩
theorem cutA_i {h₀ h' : Heap} {L dl : Addr} {m : Str → Option Value} {its : List P2} {news : List (Addr × Obj)} {s : Shared} {tk' n' : Nat} (F : Fr h₀ L h' m) (N : News h₀ L h' ((dl, W.listOf (its.map ovv).toArray n') :: news)) : CutA h₀ L m dl its news s .next { s with heap := h', toks := tk' } :=
  ⟨rfl, _, _, _, rfl, F, N⟩
theorem join_ovv {prog : Program} {w : World} {A : Around} {E : Value → Shared → Prop} {s : Shared} {g : Heap} {L' a Kb : Addr} {m' : Str → Option Value} {news : List (Addr × Obj)} {items : List P2} {sep : Str} {t : Tok} {Q : Value → Shared → Prop}
    (F : Fr g L' s.heap m') (N : News g L' s.heap news) (hb : ∀ q ∈ news, q.1 ≤ Kb) (hG : AllBare s.gens) (hLK : L' ≤ Kb) (X : GenOnD prog w A Kb a items tr (fun o => .str (nmx o)) s) (hsep : sep.length ≤ 2) (hlen : items.length ≤ 4) (hsm : ∀ o ∈ items, Sm o)
    (k : ∀ p s', p.x = Str.join sep (kept items) → p.x.length ≤ 300 → Fr g L' s'.heap m' → News g L' s'.heap news → AllBare s'.gens → s'.os = s.os → Q (.str (Nm.x p) p.t) s') : wpAny (model prog w) A (call (.builtin "str.join") [.str sep t, .ref a]) Q E s := by
  have hk : ∀ x ∈ kept items, x.length ≤ 64 := by
    intro x hx
    obtain ⟨o, ho, rfl⟩ := List.mem_map.mp hx
    have ho' := (List.mem_filter.mp ho).1
    cases o with
    | none => show (Str.ofString "").length ≤ 64; decide
    | some p => exact hsm _ ho' p rfl
  have hkl : (kept items).length ≤ 4 := by
    unfold kept
    rw [List.length_map]
    exact Nat.le_trans (List.length_filter_le _ _) hlen
  refine join_genD F hG X hLK (joinOk_of (by omega) (by have := hkl; unfold kept at this; omega) (fun x hx => Nat.le_trans (hk x hx) (by decide))) (fun s' t' F' G' os' kp => ?_) (by rw [sizeLine_eq]; omega)
  have hjl : (Str.join sep (kept items)).length ≤ 300 := by
    have h1 := StrLaws.join_length_le sep (kept items)
    have h2 : ((kept items).map (·.length)).sum ≤ (kept items).length * 64 := by
      have : ∀ l : List Str, (∀ x ∈ l, x.length ≤ 64) → (l.map (·.length)).sum ≤ l.length * 64 := by
        intro l
        induction l with
        | nil => intro _; simp
        | cons x r ih =>
          intro h
          have := h x (.head _)
          have := ih fun y hy => h y (.tail _ hy)
          simp only [List.map_cons, List.sum_cons, List.length_cons]
          omega
      exact this _ hk
    have h3 : (kept items).length * sep.length ≤ 4 * 2 := Nat.mul_le_mul hkl hsep
    omega
  have ej : Txt.join sep (List.map nmx (List.filter tr items)) = Str.join sep (kept items) := beq_iff_eq.mp (join_plain_closes _ _)
  rw [ej]
  exact k ⟨_, t', by omega⟩ s' rfl hjl F' (fun q hq => ⟨kp _ _ (hb q hq) (N q hq).1, (N q hq).2⟩) G' os'
def disp (R : P2) (c : Bool) (l : List (Bool × P2)) : Option Str :=
  if (tr R && c) = true then
    let ds := Str.join (Str.ofString ", ") (kept (l.flatMap fun p => if p.1 = true then [p.2] else []))
    if (ds.length : Int) != 0 then some (nmx R ++ (Str.ofString " (" ++ ds ++ Str.ofString ")")) else some (nmx R)
  else R.map Nm.x
theorem lk_sm {c : Str} {r k : P2} (h : Sm r) : Sm (lk c r k) := by
  unfold lk
  split
  · exact h
  · intro p e; cases e
theorem data_cls {prog : Program} {w : World} {o : Obj} {d1 d2 d3 d4 : Addr} (h : DataIs prog w o d1 d2 d3 d4) : o.cls ≠ .none := by
  obtain ⟨_, _, hx, _⟩ := h
  rw [hx.1]; intro e; cases e
theorem tab_cls {prog : Program} {w : World} {o : Obj} {c : Str} {r : P2} (h : TabIs prog w o c r) : o.cls ≠ .none := by
  obtain ⟨_, ⟨_, _, hx, _⟩, _⟩ := h
  rw [hx.1]; intro e; cases e
abbrev gpos : Pos := ⟨74, 38, 74, 72⟩
theorem sm_app {l l' : List P2} {c : Bool} {a : P2} (h : ∀ o ∈ l, Sm o) (ha : Sm a) (e : l' = l ++ if c = true then [a] else []) : ∀ o ∈ l', Sm o := by
  subst e
  intro o ho
  rcases List.mem_append.mp ho with ho | ho
  · exact h o ho
  · split at ho
    · rw [List.mem_singleton.mp ho]; exact ha
    · cases ho
theorem ff_nm {prog : Program} {w : World} {A : Around} {E : Value → Shared → Prop} {s : Shared} {x : Str} {t : Tok} {Q : Value → Shared → Prop} (hx : x.length ≤ 1000) (h : ∀ u tk, Q (.str x u) { s with toks := tk }) : wpAny (model prog w) A (formatField (.str x t) Str.empty) Q E s :=
  wpAny_formatField_str (h t s.toks) (h _ _) (by rw [sizeLine_eq]; omega)
theorem lenA : (Str.ofString " (").length = 2 := by decide
theorem lenB : (Str.ofString ")").length = 1 := by decide
theorem lenE : Str.empty.length = 0 := by decide
theorem kept_app {l l' : List P2} {c : Bool} {a : P2} (e : l' = l ++ if c = true then [a] else []) : kept l' = kept l ++ kept (if c = true then [a] else []) := by
  subst e
  simp [kept]
theorem disp_yes {pR : Nm} {c : Bool} {l : List (Bool × P2)} {items : List P2} {ds x : Str} (hc : (tr (some pR) && c) = true) (hi : items = l.flatMap fun p => if p.1 = true then [p.2] else []) (hd : ds = Str.join (Str.ofString ", ") (kept items)) (hn : (ds.length : Int) ≠ 0)
    (hx : x = pR.x ++ (Str.ofString " (" ++ ds ++ Str.ofString ")")) : some x = disp (some pR) c l := by
  unfold disp
  rw [if_pos hc]
  dsimp only
  rw [← hi, ← hd, if_pos (bne_iff_ne.mpr hn), hx]
  rfl
theorem disp_none {pR : Nm} {c : Bool} {l : List (Bool × P2)} {items : List P2} {ds : Str} (hc : (tr (some pR) && c) = true) (hi : items = l.flatMap fun p => if p.1 = true then [p.2] else []) (hd : ds = Str.join (Str.ofString ", ") (kept items)) (hn : (ds.length : Int) = 0) : some pR.x = disp (some pR) c l := by
  unfold disp
  rw [if_pos hc]
  dsimp only
  rw [← hi, ← hd, if_neg (by simp [hn])]
  rfl
theorem disp_no {R : P2} {c : Bool} {l : List (Bool × P2)} (hc : ¬ (tr R && c) = true) : R.map Nm.x = disp R c l := by
  unfold disp
  rw [if_neg hc]
theorem mem_nd105 {l : List (Addr × Obj)} {o o' : Obj} : ∀ q ∈ l ++ [((105 : Addr), o)], q.1 ≠ 105 → q ∈ l ++ [((105 : Addr), o')] := by
  intro q hq hne
  rcases List.mem_append.mp hq with hq | hq
  · exact List.mem_append_left _ hq
  · rw [List.mem_singleton.mp hq] at hne; exact absurd rfl hne
theorem items4 {l1 l2 l3 l4 : List P2} {c1 c2 c3 c4 : Bool} {a1 a2 a3 a4 : P2} (e1 : l1 = [] ++ if c1 = true then [a1] else []) (e2 : l2 = l1 ++ if c2 = true then [a2] else []) (e3 : l3 = l2 ++ if c3 = true then [a3] else []) (e4 : l4 = l3 ++ if c4 = true then [a4] else []) :
    l4 = [(c1, a1), (c2, a2), (c3, a3), (c4, a4)].flatMap fun p => if p.1 = true then [p.2] else [] := by
  subst e1; subst e2; subst e3; subst e4
  simp
theorem s105_end {o : Obj} {l' : List (Addr × Obj)} : ∀ q ∈ [((105 : Addr), o)], q.1 ≠ 105 → q ∈ l' := fun q hq hne => by
  rw [List.mem_singleton.mp hq] at hne; exact absurd rfl hne
theorem s105_cons {p : Addr × Obj} {l l' : List (Addr × Obj)} (h : ∀ q ∈ l, q.1 ≠ 105 → q ∈ l') : ∀ q ∈ p :: l, q.1 ≠ 105 → q ∈ p :: l' := fun q hq hne => by
  rcases List.mem_cons.mp hq with rfl | hq
  · exact .head _
  · exact .tail _ (h q hq hne)
theorem s105_tail {p : Addr × Obj} {l l' : List (Addr × Obj)} (h : ∀ q ∈ l, q.1 ≠ 105 → q ∈ l') : ∀ q ∈ l, q.1 ≠ 105 → q ∈ p :: l' := fun q hq hne => .tail _ (h q hq hne)
end
section
theorem off_Lt : True := by
  w_top off
  exact trivial
local macro_rules | `(tactic| k_mem) => `(tactic| assumption)
local macro_rules | `(tactic| walk_at "compareOp Eq") => `(tactic| ((with_reducible show wpAny _ _ (compareOp CmpOp.Eq (ovv _) (ovv _)) _ _ _); refine ov_eq ?_))
local macro_rules | `(tactic| walk_at "compareOp NotEq") => `(tactic| ((with_reducible show wpAny _ _ (compareOp CmpOp.NotEq (ovv _) (ovv _)) _ _ _); refine ov_ne ?_))
local macro_rules | `(tactic| walk_at "compareOp Is") => `(tactic| ((with_reducible show wpAny _ _ (compareOp CmpOp.Is (ovv _) Value.none) _ _ _); refine ov_isNone ?_))
local macro_rules | `(tactic| walk_at "compareOp IsNot") => `(tactic| ((with_reducible show wpAny _ _ (compareOp CmpOp.IsNot (ovv _) Value.none) _ _ _); refine ov_isNotNone ?_))
local macro_rules | `(tactic| walk_at "truthy") => `(tactic| ((with_reducible show wpAny _ _ (truthy (ovv _)) _ _ _); refine ov_truthy ?_; intro tk))
local macro_rules | `(tactic| k_handed) => `(tactic| exact handedIn_ovv _)
local macro_rules | `(tactic| walk_at "call builtin:hasattr") => `(tactic| (k_here; k_dflt (refine' hasattr_K ?k1 ?k2 ?k3 ?k4 ?k5 ?k6 ?k7 ?k8 ?k9 ?k10 ?_; (case k1 => k_asm); (case k2 => k_asm); (case k3 => k_inst); (case k4 => k_is); (case k5 => k_is); (case k6 => k_is); (case k7 => k_is); (case k8 => k_is); (case k9 => k_get); (case k10 => k_handed); k_whole)))
local macro_rules | `(tactic| walk_at "call builtin:getattr") => `(tactic| (k_here; k_dflt (refine' getattr_K ?k1 ?k2 ?k3 ?k4 ?k5 ?k6 ?k7 ?k9 ?k10 ?_; (case k1 => k_asm); (case k2 => k_asm); (case k3 => k_inst); (case k4 => k_is); (case k5 => k_is); (case k6 => k_is); (case k7 => k_is); (case k9 => k_get); (case k10 => k_handed); k_whole)))
local macro_rules | `(tactic| k_room) => `(tactic| ((try simp only [depth_under_make, depth_under_kw, depth_in1, depth_deeper, depth_caller]); omega))
local macro_rules | `(tactic| walk_at "subscriptTail") => `(tactic| (k_here; (with_reducible show wpAny _ _ (subscriptTail _ _ (Value.ref _) (Value.str _ _)) _ _ _); k_dflt (refine' kdt_tail (knd := PySem.strKind _ _) ?N ?p ?d ?_; (case N => k_asm); (case p => k_mem); (case d => unfold DataIs at *; assumption); k_whole)))
local macro_rules | `(tactic| walk_at "subscriptTail Attribute Name Constant ref str") => `(tactic| (k_here; (with_reducible show wpAny _ _ (subscriptTail _ _ (Value.ref _) (Value.str _ _)) _ _ _); k_dflt (refine' kdt_tail (knd := PySem.strKind _ _) ?N ?p ?d ?_; (case N => k_asm); (case p => k_mem); (case d => unfold DataIs at *; assumption); k_whole)))
local macro_rules | `(tactic| walk_at "getItem ref str") => `(tactic| (k_here; k_dflt (refine' data_item ?d ?N ?p ?l ?_; (case N => k_asm); (case p => k_mem); (case d => assumption); (case l => rfl); k_whole)))
local macro_rules | `(tactic| walk_at "getMethod ref") => `(tactic| (k_here; (with_reducible show wpAny _ _ (getMethod (Value.ref _) (Str.ofString "get") _) _ _ _); k_dflt (refine' tab_method ?T ?N ?p ?_; (case N => k_asm); (case p => k_mem); (case T => assumption); k_whole)))
local macro_rules | `(tactic| walk_at "call builtin:dict.get") => `(tactic| (k_here; (with_reducible show wpAny _ _ (call (Value.builtin "dict.get") [Value.ref _, ovv _]) _ _ _); k_dflt (refine' tab_get ?T ?N ?p ?l ?k ?_; (case N => k_asm); (case p => k_mem); (case T => assumption); (case l => assumption); (case k => assumption); k_whole)))
local macro_rules | `(tactic| walk_at "call builtin:dict.get") => `(tactic| (k_here; (with_reducible show wpAny _ _ (call (Value.builtin "dict.get") [Value.ref _, Value.str _ _]) _ _ _); k_dflt (refine' tab_getE ?T ?N ?p ?l ?k ?_; (case N => k_asm); (case p => k_mem); (case T => assumption); (case l => assumption); (case k => assumption); k_whole)))
local macro_rules | `(tactic| walk_at "KdnMade") => `(tactic| (k_here; (with_reducible rename MkO => mO); k_dflt ((refine' o_made ?F ?N ?U ?d ?k ?n ?_; (case F => k_asm); (case N => k_asm); (case U => k_updF); (case d => k_asm); (case k => first | exact carries2 | exact carries1); (case n => first | exact nodup1 | exact nodup2 (by assumption)); intro h' o' F' N' hd')); (try dsimp only at N')))
local macro_rules | `(tactic| walk_at "eval Dict") => `(tactic| (k_here; (with_reducible rename MkO => mO); k_dflt ((refine' kdn_eval (knd := oKind _ _) ?F ?N ?b ?a ?l ?e ?n ?_; (case F => k_asm); (case N => first | k_asm | exact News.nil); (case b => exact Top.nolimit (by k_asm)); (case a => rfl); (case l => rfl); (case e => exact List.cons_ne_nil _ _); (case n => exact Nat.le_of_ble_eq_true rfl))); intro d' h' o' F' N' l1 lo' hd'; (try k_lt l1)))
set_option maxHeartbeats 8000000 in
theorem law_table_ok {w : World} {base h₀ : Heap} {fa : Addr} {cd : Value} {L : Addr} {m : Str → Option Value} {news : List (Addr × Obj)} {s : Shared} {Q E : Value → Shared → Prop} {mg mb : Str → Option Value} {mean : ExcName → Option Value} {p : Program} {loose : List Str}
   (B : Below callerA base [] h₀) (F : Fr h₀ L s.heap m) (X₀ : (hd.heap_39 w.params).In h₀) (N : News h₀ L s.heap news) (T : Top p loose mean mg mb h₀)
   {code : Str} {t : Tok} {n : Int} {t' : Tok} (hc : code ≠ Str.ofString "other")
   (k : ∀ d o r h' tk', TabIs Challenge.rw_nk0010_01.row.prog w o code r → Sm r → (d == sysModules) = false → Fr h₀ L h' m → News h₀ L h' ((d, o) :: news) → Q (.ref d) {s with heap := h', toks := tk'}) :
   wpAny (model Challenge.rw_nk0010_01.row.prog w) (callerA.deeper (lawEnv L fa cd)) (call (.ref 216) [.str code t, .int n t']) Q E s := by
  have mO : MkO := ⟨⟩
  repeat' (walk_at "STEP1")
  · refine item_names (News.isList (by assumption) (List.Mem.head _)) (Int.fmod_nonneg_of_pos _ (by decide)) (Int.fmod_lt_of_pos _ (by decide)) (Nat.le_of_ble_eq_true rfl) (names4 (by decide) (by decide) (by decide) (by decide)) ?_
    intro p hp64
    repeat' (walk_at "STEP1")
    exact k _ _ (some p) _ _ (tab_two (by assumption)) (fun q e => by cases e; exact hp64) (by assumption) (by assumption) (nd (by assumption))
  · exact k _ _ none _ _ (tab_one hc (by assumption)) (fun q e => by cases e) (by assumption) (by assumption) (by assumption)
end
section
theorem off_Loc : True := by
  w_top off
  exact trivial
local macro_rules | `(tactic| k_mem) => `(tactic| assumption)
local macro_rules | `(tactic| walk_at "compareOp Eq") => `(tactic| ((with_reducible show wpAny _ _ (compareOp CmpOp.Eq (ovv _) (ovv _)) _ _ _); refine ov_eq ?_))
local macro_rules | `(tactic| walk_at "compareOp NotEq") => `(tactic| ((with_reducible show wpAny _ _ (compareOp CmpOp.NotEq (ovv _) (ovv _)) _ _ _); refine ov_ne ?_))
local macro_rules | `(tactic| walk_at "compareOp Is") => `(tactic| ((with_reducible show wpAny _ _ (compareOp CmpOp.Is (ovv _) Value.none) _ _ _); refine ov_isNone ?_))
local macro_rules | `(tactic| walk_at "compareOp IsNot") => `(tactic| ((with_reducible show wpAny _ _ (compareOp CmpOp.IsNot (ovv _) Value.none) _ _ _); refine ov_isNotNone ?_))
local macro_rules | `(tactic| walk_at "truthy") => `(tactic| ((with_reducible show wpAny _ _ (truthy (ovv _)) _ _ _); refine ov_truthy ?_; intro tk))
local macro_rules | `(tactic| k_handed) => `(tactic| exact handedIn_ovv _)
local macro_rules | `(tactic| walk_at "call builtin:hasattr") => `(tactic| (k_here; k_dflt (refine' hasattr_K ?k1 ?k2 ?k3 ?k4 ?k5 ?k6 ?k7 ?k8 ?k9 ?k10 ?_; (case k1 => k_asm); (case k2 => k_asm); (case k3 => k_inst); (case k4 => k_is); (case k5 => k_is); (case k6 => k_is); (case k7 => k_is); (case k8 => k_is); (case k9 => k_get); (case k10 => k_handed); k_whole)))
local macro_rules | `(tactic| walk_at "call builtin:getattr") => `(tactic| (k_here; k_dflt (refine' getattr_K ?k1 ?k2 ?k3 ?k4 ?k5 ?k6 ?k7 ?k9 ?k10 ?_; (case k1 => k_asm); (case k2 => k_asm); (case k3 => k_inst); (case k4 => k_is); (case k5 => k_is); (case k6 => k_is); (case k7 => k_is); (case k9 => k_get); (case k10 => k_handed); k_whole)))
local macro_rules | `(tactic| k_room) => `(tactic| ((try simp only [depth_under_make, depth_under_kw, depth_in1, depth_deeper, depth_caller]); omega))
local macro_rules | `(tactic| walk_at "subscriptTail") => `(tactic| (k_here; (with_reducible show wpAny _ _ (subscriptTail _ _ (Value.ref _) (Value.str _ _)) _ _ _); k_dflt (refine' kdt_tail (knd := PySem.strKind _ _) ?N ?p ?d ?_; (case N => k_asm); (case p => k_mem); (case d => unfold DataIs at *; assumption); k_whole)))
local macro_rules | `(tactic| walk_at "subscriptTail Attribute Name Constant ref str") => `(tactic| (k_here; (with_reducible show wpAny _ _ (subscriptTail _ _ (Value.ref _) (Value.str _ _)) _ _ _); k_dflt (refine' kdt_tail (knd := PySem.strKind _ _) ?N ?p ?d ?_; (case N => k_asm); (case p => k_mem); (case d => unfold DataIs at *; assumption); k_whole)))
local macro_rules | `(tactic| walk_at "getItem ref str") => `(tactic| (k_here; k_dflt (refine' data_item ?d ?N ?p ?l ?_; (case N => k_asm); (case p => k_mem); (case d => assumption); (case l => rfl); k_whole)))
local macro_rules | `(tactic| walk_at "getMethod ref") => `(tactic| (k_here; (with_reducible show wpAny _ _ (getMethod (Value.ref _) (Str.ofString "get") _) _ _ _); k_dflt (refine' tab_method ?T ?N ?p ?_; (case N => k_asm); (case p => k_mem); (case T => assumption); k_whole)))
local macro_rules | `(tactic| walk_at "call builtin:dict.get") => `(tactic| (k_here; (with_reducible show wpAny _ _ (call (Value.builtin "dict.get") [Value.ref _, ovv _]) _ _ _); k_dflt (refine' tab_get ?T ?N ?p ?l ?k ?_; (case N => k_asm); (case p => k_mem); (case T => assumption); (case l => assumption); (case k => assumption); k_whole)))
local macro_rules | `(tactic| walk_at "call builtin:dict.get") => `(tactic| (k_here; (with_reducible show wpAny _ _ (call (Value.builtin "dict.get") [Value.ref _, Value.str _ _]) _ _ _); k_dflt (refine' tab_getE ?T ?N ?p ?l ?k ?_; (case N => k_asm); (case p => k_mem); (case T => assumption); (case l => assumption); (case k => assumption); k_whole)))
set_option maxHeartbeats 8000000 in
theorem locale5 {w : World} {base h₀ : Heap} {fa : Addr} {cd : Value} {L : Addr} {m : Str → Option Value} {news : List (Addr × Obj)} {s : Shared} {Q E : Value → Shared → Prop} {mg mb : Str → Option Value} {mean : ExcName → Option Value} {p : Program} {loose : List Str}
   (B : Below callerA base [] h₀) (F : Fr h₀ L s.heap m) (X₀ : (hd.heap_39 w.params).In h₀) (N : News h₀ L s.heap news) (T : Top p loose mean mg mb h₀)
   {vl vt vs vv vm : Value}
   (k : ∀ x dx t1 t2 t3 t4 t5 t6 h' tk', Fr h₀ L h' m → News h₀ L h' ((x, instObj 177 dx) :: (dx, dictOf (locEs w t1 t2 t3 t4 t5 t6 vl vt vs vv vm .none) 6) :: news) → Q (.ref x) {s with heap := h', toks := tk'}) :
   wpAny (model Challenge.rw_nk0010_01.row.prog w) (callerA.deeper (lawEnv L fa cd)) (call (.ref 177) [vl, vt, vs, vv, vm]) Q E s := by
  repeat (walk_at "STEP1")
  exact k _ _ _ _ _ _ _ _ _ _ (by assumption) (by assumption)
set_option maxHeartbeats 8000000 in
theorem locale6 {w : World} {base h₀ : Heap} {fa : Addr} {cd : Value} {L : Addr} {m : Str → Option Value} {news : List (Addr × Obj)} {s : Shared} {Q E : Value → Shared → Prop} {mg mb : Str → Option Value} {mean : ExcName → Option Value} {p : Program} {loose : List Str}
   (B : Below callerA base [] h₀) (F : Fr h₀ L s.heap m) (X₀ : (hd.heap_39 w.params).In h₀) (N : News h₀ L s.heap news) (T : Top p loose mean mg mb h₀)
   {vl vt vs vv vm vd : Value}
   (k : ∀ x dx t1 t2 t3 t4 t5 t6 h' tk', Fr h₀ L h' m → News h₀ L h' ((x, instObj 177 dx) :: (dx, dictOf (locEs w t1 t2 t3 t4 t5 t6 vl vt vs vv vm vd) 6) :: news) → Q (.ref x) {s with heap := h', toks := tk'}) :
   wpAny (model Challenge.rw_nk0010_01.row.prog w) (callerA.deeper (lawEnv L fa cd)) (call (.ref 177) [vl, vt, vs, vv, vm, vd]) Q E s := by
  repeat (walk_at "STEP1")
  exact k _ _ _ _ _ _ _ _ _ _ (by assumption) (by assumption)
end
section
theorem off_Eq : True := by
  w_top off
  exact trivial
local macro_rules | `(tactic| k_mem) => `(tactic| assumption)
local macro_rules | `(tactic| walk_at "compareOp Eq") => `(tactic| ((with_reducible show wpAny _ _ (compareOp CmpOp.Eq (ovv _) (ovv _)) _ _ _); refine ov_eq ?_))
local macro_rules | `(tactic| walk_at "compareOp NotEq") => `(tactic| ((with_reducible show wpAny _ _ (compareOp CmpOp.NotEq (ovv _) (ovv _)) _ _ _); refine ov_ne ?_))
local macro_rules | `(tactic| walk_at "compareOp Is") => `(tactic| ((with_reducible show wpAny _ _ (compareOp CmpOp.Is (ovv _) Value.none) _ _ _); refine ov_isNone ?_))
local macro_rules | `(tactic| walk_at "compareOp IsNot") => `(tactic| ((with_reducible show wpAny _ _ (compareOp CmpOp.IsNot (ovv _) Value.none) _ _ _); refine ov_isNotNone ?_))
local macro_rules | `(tactic| walk_at "truthy") => `(tactic| ((with_reducible show wpAny _ _ (truthy (ovv _)) _ _ _); refine ov_truthy ?_; intro tk))
local macro_rules | `(tactic| k_handed) => `(tactic| exact handedIn_ovv _)
local macro_rules | `(tactic| walk_at "call builtin:hasattr") => `(tactic| (k_here; k_dflt (refine' hasattr_K ?k1 ?k2 ?k3 ?k4 ?k5 ?k6 ?k7 ?k8 ?k9 ?k10 ?_; (case k1 => k_asm); (case k2 => k_asm); (case k3 => k_inst); (case k4 => k_is); (case k5 => k_is); (case k6 => k_is); (case k7 => k_is); (case k8 => k_is); (case k9 => k_get); (case k10 => k_handed); k_whole)))
local macro_rules | `(tactic| walk_at "call builtin:getattr") => `(tactic| (k_here; k_dflt (refine' getattr_K ?k1 ?k2 ?k3 ?k4 ?k5 ?k6 ?k7 ?k9 ?k10 ?_; (case k1 => k_asm); (case k2 => k_asm); (case k3 => k_inst); (case k4 => k_is); (case k5 => k_is); (case k6 => k_is); (case k7 => k_is); (case k9 => k_get); (case k10 => k_handed); k_whole)))
local macro_rules | `(tactic| k_room) => `(tactic| ((try simp only [depth_under_make, depth_under_kw, depth_in1, depth_deeper, depth_caller]); omega))
local macro_rules | `(tactic| walk_at "subscriptTail") => `(tactic| (k_here; (with_reducible show wpAny _ _ (subscriptTail _ _ (Value.ref _) (Value.str _ _)) _ _ _); k_dflt (refine' kdt_tail (knd := PySem.strKind _ _) ?N ?p ?d ?_; (case N => k_asm); (case p => k_mem); (case d => unfold DataIs at *; assumption); k_whole)))
local macro_rules | `(tactic| walk_at "subscriptTail Attribute Name Constant ref str") => `(tactic| (k_here; (with_reducible show wpAny _ _ (subscriptTail _ _ (Value.ref _) (Value.str _ _)) _ _ _); k_dflt (refine' kdt_tail (knd := PySem.strKind _ _) ?N ?p ?d ?_; (case N => k_asm); (case p => k_mem); (case d => unfold DataIs at *; assumption); k_whole)))
local macro_rules | `(tactic| walk_at "getItem ref str") => `(tactic| (k_here; k_dflt (refine' data_item ?d ?N ?p ?l ?_; (case N => k_asm); (case p => k_mem); (case d => assumption); (case l => rfl); k_whole)))
local macro_rules | `(tactic| walk_at "getMethod ref") => `(tactic| (k_here; (with_reducible show wpAny _ _ (getMethod (Value.ref _) (Str.ofString "get") _) _ _ _); k_dflt (refine' tab_method ?T ?N ?p ?_; (case N => k_asm); (case p => k_mem); (case T => assumption); k_whole)))
local macro_rules | `(tactic| walk_at "call builtin:dict.get") => `(tactic| (k_here; (with_reducible show wpAny _ _ (call (Value.builtin "dict.get") [Value.ref _, ovv _]) _ _ _); k_dflt (refine' tab_get ?T ?N ?p ?l ?k ?_; (case N => k_asm); (case p => k_mem); (case T => assumption); (case l => assumption); (case k => assumption); k_whole)))
local macro_rules | `(tactic| walk_at "call builtin:dict.get") => `(tactic| (k_here; (with_reducible show wpAny _ _ (call (Value.builtin "dict.get") [Value.ref _, Value.str _ _]) _ _ _); k_dflt (refine' tab_getE ?T ?N ?p ?l ?k ?_; (case N => k_asm); (case p => k_mem); (case T => assumption); (case l => assumption); (case k => assumption); k_whole)))
set_option maxHeartbeats 8000000 in
theorem loc_eq {w : World} {base h₀ : Heap} {A₀ : Around} {d u : Nat} {gd : Option (List Code)} {env : Env} {outer : List Env} {L : Addr} {m : Str → Option Value} {news : List (Addr × Obj)} {s : Shared} {Q E : Value → Shared → Prop} {mg mb : Str → Option Value} {mean : ExcName → Option Value} {p : Program} {loose : List Str}
   (hdp : d + 8 < recursionLimit) (hf : env.frame = some L) (hke : env.scope.kind = .function) (B : Below A₀ base outer h₀) (F : Fr h₀ L s.heap m) (X₀ : (hd.heap_39 w.params).In h₀) (N : News h₀ L s.heap news) (T : Top p loose mean mg mb h₀)
   {a1 a2 a3 a4 a5 b1 b2 b3 b4 b5 : P2} {va vb : Value} {x dx y dy : Addr} {t1 t2 t3 t4 t5 t6 u1 u2 u3 u4 u5 u6 : Tok}
   (hx : (x, instObj 177 dx) ∈ news) (hdx : (dx, dictOf (locEs w t1 t2 t3 t4 t5 t6 (ovv a1) (ovv a2) (ovv a3) (ovv a4) (ovv a5) va) 6) ∈ news)
   (hy : (y, instObj 177 dy) ∈ news) (hdy : (dy, dictOf (locEs w u1 u2 u3 u4 u5 u6 (ovv b1) (ovv b2) (ovv b3) (ovv b4) (ovv b5) vb) 6) ∈ news)
   (k : ∀ h' tk', Fr h₀ L h' m → News h₀ L h' news → Q (.bool (eqv a1 b1 && eqv a2 b2 && eqv a3 b3 && eqv a4 b4 && eqv a5 b5)) {s with heap := h', toks := tk'}) :
   wpAny (model Challenge.rw_nk0010_01.row.prog w) { handled := none, depth := d, frames := some (env :: outer), guards := gd, units := u } (call (.ref 81) [.ref x, .ref y]) Q E s := by
  have fin : ∀ b h' tk' small', News h₀ L h' small' → Fr h₀ L h' m → (∀ q ∈ [(x, instObj 177 dx), (dx, dictOf (locEs w t1 t2 t3 t4 t5 t6 (ovv a1) (ovv a2) (ovv a3) (ovv a4) (ovv a5) va) 6), (y, instObj 177 dy), (dy, dictOf (locEs w u1 u2 u3 u4 u5 u6 (ovv b1) (ovv b2) (ovv b3) (ovv b4) (ovv b5) vb) 6)], q ∈ small') → b = (eqv a1 b1 && eqv a2 b2 && eqv a3 b3 && eqv a4 b4 && eqv a5 b5) →
      SB news [(x, instObj 177 dx), (dx, dictOf (locEs w t1 t2 t3 t4 t5 t6 (ovv a1) (ovv a2) (ovv a3) (ovv a4) (ovv a5) va) 6), (y, instObj 177 dy), (dy, dictOf (locEs w u1 u2 u3 u4 u5 u6 (ovv b1) (ovv b2) (ovv b3) (ovv b4) (ovv b5) vb) 6)] Q (.ok (.ret (.bool b))) {s with heap := h', toks := tk'} :=
    fun b h' tk' small' N' F' hs e => sb_keep N (mem4 hx hdx hy hdy) N' hs fun hN => e ▸ k h' tk' F' hN
  k_dflt (refine' call_s [(x, instObj 177 dx), (dx, dictOf (locEs w t1 t2 t3 t4 t5 t6 (ovv a1) (ovv a2) (ovv a3) (ovv a4) (ovv a5) va) 6), (y, instObj 177 dy), (dy, dictOf (locEs w u1 u2 u3 u4 u5 u6 (ovv b1) (ovv b2) (ovv b3) (ovv b4) (ovv b5) vb) 6)] B F X₀ N T (mem4 hx hdx hy hdy) rfl hf hke ?k6 ?k7 ?k8 ?k9 ?kB ?_ ?c2 ?c3 ?c4 ?c5; (case k6 => k_is); (case k7 => k_is); (case k8 => k_room); (case k9 => exact BindsTo.of_eq rfl); (case c5 => decide); (case kB => exact locs rfl); (case c2 => exact rfl); (case c3 => exact rfl); (case c4 => exact rfl); k_whole)
  clear B F X₀ N T hx hdx hy hdy k
  intro g' L' h' tk FG' F' N' B' X' T' l1; (try k_lt l1); (try dsimp only); (try k_fold)
  repeat' (walk_at "STEP1")
  all_goals (refine leaveK_ (by assumption) (by assumption) fun kF kN => fin _ _ _ _ kN kF (fun q hq => .tail _ hq) ?_)
  all_goals simp only [*, Bool.true_and, Bool.and_true, Bool.false_and, Bool.and_false]
end
section
theorem off_Ne : True := by
  w_top off
  exact trivial
local macro_rules | `(tactic| k_mem) => `(tactic| assumption)
local macro_rules | `(tactic| walk_at "compareOp Eq") => `(tactic| ((with_reducible show wpAny _ _ (compareOp CmpOp.Eq (ovv _) (ovv _)) _ _ _); refine ov_eq ?_))
local macro_rules | `(tactic| walk_at "compareOp NotEq") => `(tactic| ((with_reducible show wpAny _ _ (compareOp CmpOp.NotEq (ovv _) (ovv _)) _ _ _); refine ov_ne ?_))
local macro_rules | `(tactic| walk_at "compareOp Is") => `(tactic| ((with_reducible show wpAny _ _ (compareOp CmpOp.Is (ovv _) Value.none) _ _ _); refine ov_isNone ?_))
local macro_rules | `(tactic| walk_at "compareOp IsNot") => `(tactic| ((with_reducible show wpAny _ _ (compareOp CmpOp.IsNot (ovv _) Value.none) _ _ _); refine ov_isNotNone ?_))
local macro_rules | `(tactic| walk_at "truthy") => `(tactic| ((with_reducible show wpAny _ _ (truthy (ovv _)) _ _ _); refine ov_truthy ?_; intro tk))
local macro_rules | `(tactic| k_handed) => `(tactic| exact handedIn_ovv _)
local macro_rules | `(tactic| walk_at "call builtin:hasattr") => `(tactic| (k_here; k_dflt (refine' hasattr_K ?k1 ?k2 ?k3 ?k4 ?k5 ?k6 ?k7 ?k8 ?k9 ?k10 ?_; (case k1 => k_asm); (case k2 => k_asm); (case k3 => k_inst); (case k4 => k_is); (case k5 => k_is); (case k6 => k_is); (case k7 => k_is); (case k8 => k_is); (case k9 => k_get); (case k10 => k_handed); k_whole)))
local macro_rules | `(tactic| walk_at "call builtin:getattr") => `(tactic| (k_here; k_dflt (refine' getattr_K ?k1 ?k2 ?k3 ?k4 ?k5 ?k6 ?k7 ?k9 ?k10 ?_; (case k1 => k_asm); (case k2 => k_asm); (case k3 => k_inst); (case k4 => k_is); (case k5 => k_is); (case k6 => k_is); (case k7 => k_is); (case k9 => k_get); (case k10 => k_handed); k_whole)))
local macro_rules | `(tactic| k_room) => `(tactic| ((try simp only [depth_under_make, depth_under_kw, depth_in1, depth_deeper, depth_caller]); omega))
local macro_rules | `(tactic| walk_at "subscriptTail") => `(tactic| (k_here; (with_reducible show wpAny _ _ (subscriptTail _ _ (Value.ref _) (Value.str _ _)) _ _ _); k_dflt (refine' kdt_tail (knd := PySem.strKind _ _) ?N ?p ?d ?_; (case N => k_asm); (case p => k_mem); (case d => unfold DataIs at *; assumption); k_whole)))
local macro_rules | `(tactic| walk_at "subscriptTail Attribute Name Constant ref str") => `(tactic| (k_here; (with_reducible show wpAny _ _ (subscriptTail _ _ (Value.ref _) (Value.str _ _)) _ _ _); k_dflt (refine' kdt_tail (knd := PySem.strKind _ _) ?N ?p ?d ?_; (case N => k_asm); (case p => k_mem); (case d => unfold DataIs at *; assumption); k_whole)))
local macro_rules | `(tactic| walk_at "getItem ref str") => `(tactic| (k_here; k_dflt (refine' data_item ?d ?N ?p ?l ?_; (case N => k_asm); (case p => k_mem); (case d => assumption); (case l => rfl); k_whole)))
local macro_rules | `(tactic| walk_at "getMethod ref") => `(tactic| (k_here; (with_reducible show wpAny _ _ (getMethod (Value.ref _) (Str.ofString "get") _) _ _ _); k_dflt (refine' tab_method ?T ?N ?p ?_; (case N => k_asm); (case p => k_mem); (case T => assumption); k_whole)))
local macro_rules | `(tactic| walk_at "call builtin:dict.get") => `(tactic| (k_here; (with_reducible show wpAny _ _ (call (Value.builtin "dict.get") [Value.ref _, ovv _]) _ _ _); k_dflt (refine' tab_get ?T ?N ?p ?l ?k ?_; (case N => k_asm); (case p => k_mem); (case T => assumption); (case l => assumption); (case k => assumption); k_whole)))
local macro_rules | `(tactic| walk_at "call builtin:dict.get") => `(tactic| (k_here; (with_reducible show wpAny _ _ (call (Value.builtin "dict.get") [Value.ref _, Value.str _ _]) _ _ _); k_dflt (refine' tab_getE ?T ?N ?p ?l ?k ?_; (case N => k_asm); (case p => k_mem); (case T => assumption); (case l => assumption); (case k => assumption); k_whole)))
local macro_rules | `(tactic| walk_at "call ref") => `(tactic| (k_here; (with_reducible show wpAny _ _ (call (Value.ref 81) _ _) _ _ _); k_dflt (refine' loc_eq ?d ?f ?k ?B ?F ?X ?N ?T ?hx ?hdx ?hy ?hdy ?_; (case d => k_room); (case f => exact rfl); (case k => exact rfl); (case B => k_asm); (case F => k_asm); (case X => k_asm); (case N => k_asm); (case T => k_asm); (case hx => k_mem); (case hdx => k_mem); (case hy => k_mem); (case hdy => k_mem); k_whole); intro h' tk' F' N'; (try k_sweep)))
set_option maxHeartbeats 8000000 in
theorem loc_ne {w : World} {base h₀ : Heap} {fa : Addr} {cd : Value} {L : Addr} {m : Str → Option Value} {news : List (Addr × Obj)} {s : Shared} {Q E : Value → Shared → Prop} {mg mb : Str → Option Value} {mean : ExcName → Option Value} {p : Program} {loose : List Str}
   (B : Below callerA base [] h₀) (F : Fr h₀ L s.heap m) (X₀ : (hd.heap_39 w.params).In h₀) (N : News h₀ L s.heap news) (T : Top p loose mean mg mb h₀)
   {a1 a2 a3 a4 a5 b1 b2 b3 b4 b5 : P2} {va vb : Value} {x dx y dy : Addr} {t1 t2 t3 t4 t5 t6 u1 u2 u3 u4 u5 u6 : Tok}
   (hx : (x, instObj 177 dx) ∈ news) (hdx : (dx, dictOf (locEs w t1 t2 t3 t4 t5 t6 (ovv a1) (ovv a2) (ovv a3) (ovv a4) (ovv a5) va) 6) ∈ news)
   (hy : (y, instObj 177 dy) ∈ news) (hdy : (dy, dictOf (locEs w u1 u2 u3 u4 u5 u6 (ovv b1) (ovv b2) (ovv b3) (ovv b4) (ovv b5) vb) 6) ∈ news)
   (k : ∀ h' tk', Fr h₀ L h' m → News h₀ L h' news → Q (.bool (!(eqv a1 b1 && eqv a2 b2 && eqv a3 b3 && eqv a4 b4 && eqv a5 b5))) {s with heap := h', toks := tk'}) :
   wpAny (model Challenge.rw_nk0010_01.row.prog w) (callerA.deeper (lawEnv L fa cd)) (call (.ref 88) [.ref x, .ref y]) Q E s := by
  repeat' (walk_at "STEP1")
  exact k _ _ (by assumption) (by assumption)
end
section
theorem off_Names : True := by
  w_top off
  exact trivial
local macro_rules | `(tactic| k_mem) => `(tactic| assumption)
local macro_rules | `(tactic| walk_at "compareOp Eq") => `(tactic| ((with_reducible show wpAny _ _ (compareOp CmpOp.Eq (ovv _) (ovv _)) _ _ _); refine ov_eq ?_))
local macro_rules | `(tactic| walk_at "compareOp NotEq") => `(tactic| ((with_reducible show wpAny _ _ (compareOp CmpOp.NotEq (ovv _) (ovv _)) _ _ _); refine ov_ne ?_))
local macro_rules | `(tactic| walk_at "compareOp Is") => `(tactic| ((with_reducible show wpAny _ _ (compareOp CmpOp.Is (ovv _) Value.none) _ _ _); refine ov_isNone ?_))
local macro_rules | `(tactic| walk_at "compareOp IsNot") => `(tactic| ((with_reducible show wpAny _ _ (compareOp CmpOp.IsNot (ovv _) Value.none) _ _ _); refine ov_isNotNone ?_))
local macro_rules | `(tactic| walk_at "truthy") => `(tactic| ((with_reducible show wpAny _ _ (truthy (ovv _)) _ _ _); refine ov_truthy ?_; intro tk))
local macro_rules | `(tactic| k_handed) => `(tactic| exact handedIn_ovv _)
local macro_rules | `(tactic| walk_at "call builtin:hasattr") => `(tactic| (k_here; k_dflt (refine' hasattr_K ?k1 ?k2 ?k3 ?k4 ?k5 ?k6 ?k7 ?k8 ?k9 ?k10 ?_; (case k1 => k_asm); (case k2 => k_asm); (case k3 => k_inst); (case k4 => k_is); (case k5 => k_is); (case k6 => k_is); (case k7 => k_is); (case k8 => k_is); (case k9 => k_get); (case k10 => k_handed); k_whole)))
local macro_rules | `(tactic| walk_at "call builtin:getattr") => `(tactic| (k_here; k_dflt (refine' getattr_K ?k1 ?k2 ?k3 ?k4 ?k5 ?k6 ?k7 ?k9 ?k10 ?_; (case k1 => k_asm); (case k2 => k_asm); (case k3 => k_inst); (case k4 => k_is); (case k5 => k_is); (case k6 => k_is); (case k7 => k_is); (case k9 => k_get); (case k10 => k_handed); k_whole)))
local macro_rules | `(tactic| k_room) => `(tactic| ((try simp only [depth_under_make, depth_under_kw, depth_in1, depth_deeper, depth_caller]); omega))
local macro_rules | `(tactic| walk_at "subscriptTail") => `(tactic| (k_here; (with_reducible show wpAny _ _ (subscriptTail _ _ (Value.ref _) (Value.str _ _)) _ _ _); k_dflt (refine' kdt_tail (knd := PySem.strKind _ _) ?N ?p ?d ?_; (case N => k_asm); (case p => k_mem); (case d => unfold DataIs at *; assumption); k_whole)))
local macro_rules | `(tactic| walk_at "subscriptTail Attribute Name Constant ref str") => `(tactic| (k_here; (with_reducible show wpAny _ _ (subscriptTail _ _ (Value.ref _) (Value.str _ _)) _ _ _); k_dflt (refine' kdt_tail (knd := PySem.strKind _ _) ?N ?p ?d ?_; (case N => k_asm); (case p => k_mem); (case d => unfold DataIs at *; assumption); k_whole)))
local macro_rules | `(tactic| walk_at "getItem ref str") => `(tactic| (k_here; k_dflt (refine' data_item ?d ?N ?p ?l ?_; (case N => k_asm); (case p => k_mem); (case d => assumption); (case l => rfl); k_whole)))
local macro_rules | `(tactic| walk_at "getMethod ref") => `(tactic| (k_here; (with_reducible show wpAny _ _ (getMethod (Value.ref _) (Str.ofString "get") _) _ _ _); k_dflt (refine' tab_method ?T ?N ?p ?_; (case N => k_asm); (case p => k_mem); (case T => assumption); k_whole)))
local macro_rules | `(tactic| walk_at "call builtin:dict.get") => `(tactic| (k_here; (with_reducible show wpAny _ _ (call (Value.builtin "dict.get") [Value.ref _, ovv _]) _ _ _); k_dflt (refine' tab_get ?T ?N ?p ?l ?k ?_; (case N => k_asm); (case p => k_mem); (case T => assumption); (case l => assumption); (case k => assumption); k_whole)))
local macro_rules | `(tactic| walk_at "call builtin:dict.get") => `(tactic| (k_here; (with_reducible show wpAny _ _ (call (Value.builtin "dict.get") [Value.ref _, Value.str _ _]) _ _ _); k_dflt (refine' tab_getE ?T ?N ?p ?l ?k ?_; (case N => k_asm); (case p => k_mem); (case T => assumption); (case l => assumption); (case k => assumption); k_whole)))
set_option maxHeartbeats 8000000 in
theorem name_lang1 {w : World} {base h₀ : Heap} {fa : Addr} {cd : Value} {L : Addr} {m : Str → Option Value} {news : List (Addr × Obj)} {s : Shared} {Q E : Value → Shared → Prop} {mg mb : Str → Option Value} {mean : ExcName → Option Value} {p : Program} {loose : List Str}
   (B : Below callerA base [] h₀) (F : Fr h₀ L s.heap m) (X₀ : (hd.heap_39 w.params).In h₀) (N : News h₀ L s.heap news) (T : Top p loose mean mg mb h₀)
   {ol ot os ov om : P2} {x dx D : Addr} {t1 t2 t3 t4 t5 t6 : Tok} {d1 d2 d3 d4 : Addr} {oD o1 : Obj} {c1 : Str} {r1 : P2}
   (hx : (x, instObj 177 dx) ∈ news) (hdx : (dx, dictOf (locEs w t1 t2 t3 t4 t5 t6 (ovv ol) (ovv ot) (ovv os) (ovv ov) (ovv om) (.ref D)) 6) ∈ news)
   (hD : (D, oD) ∈ news) (hDI : DataIs Challenge.rw_nk0010_01.row.prog w oD d1 d2 d3 d4)
   (hd1 : (d1, o1) ∈ news) (hT1 : TabIs Challenge.rw_nk0010_01.row.prog w o1 c1 r1) (hl1 : (d1 == sysModules) = false) (hk : ol.map Nm.x ≠ some (Str.ofString "other")) 
   (k : ∀ h' tk', Fr h₀ L h' m → News h₀ L h' news → Q (ovv (lk c1 r1 ol)) {s with heap := h', toks := tk'}) :
   wpAny (model Challenge.rw_nk0010_01.row.prog w) (callerA.deeper (lawEnv L fa cd)) (call (.ref 118) [.ref x]) Q E s := by
  repeat' walk_at "STEP1"
  exact k _ _ (by assumption) (nd (by assumption))
set_option maxHeartbeats 8000000 in
theorem name_lang2 {w : World} {base h₀ : Heap} {fa : Addr} {cd : Value} {L : Addr} {m : Str → Option Value} {news : List (Addr × Obj)} {s : Shared} {Q E : Value → Shared → Prop} {mg mb : Str → Option Value} {mean : ExcName → Option Value} {p : Program} {loose : List Str}
   (B : Below callerA base [] h₀) (F : Fr h₀ L s.heap m) (X₀ : (hd.heap_39 w.params).In h₀) (N : News h₀ L s.heap news) (T : Top p loose mean mg mb h₀)
   {ol ot os ov om : P2} {x dx D : Addr} {t1 t2 t3 t4 t5 t6 : Tok} {vd yl yt ys yv ym : Value} {y dy : Addr} {u1 u2 u3 u4 u5 u6 : Tok} {d1 d2 d3 d4 : Addr} {oD o1 : Obj} {c1 : Str} {r1 : P2}
   (hx : (x, instObj 177 dx) ∈ news) (hdx : (dx, dictOf (locEs w t1 t2 t3 t4 t5 t6 (ovv ol) (ovv ot) (ovv os) (ovv ov) (ovv om) vd) 6) ∈ news)
   (hy : (y, instObj 177 dy) ∈ news) (hdy : (dy, dictOf (locEs w u1 u2 u3 u4 u5 u6 yl yt ys yv ym (.ref D)) 6) ∈ news)
   (hD : (D, oD) ∈ news) (hDI : DataIs Challenge.rw_nk0010_01.row.prog w oD d1 d2 d3 d4)
   (hd1 : (d1, o1) ∈ news) (hT1 : TabIs Challenge.rw_nk0010_01.row.prog w o1 c1 r1) (hl1 : (d1 == sysModules) = false) (hk : ol.map Nm.x ≠ some (Str.ofString "other")) 
   (k : ∀ h' tk', Fr h₀ L h' m → News h₀ L h' news → Q (ovv (lk c1 r1 ol)) {s with heap := h', toks := tk'}) :
   wpAny (model Challenge.rw_nk0010_01.row.prog w) (callerA.deeper (lawEnv L fa cd)) (call (.ref 118) [.ref x, .ref y]) Q E s := by
  repeat' walk_at "STEP1"
  exact k _ _ (by assumption) (nd (by assumption))
set_option maxHeartbeats 8000000 in
theorem name_scr1 {w : World} {base h₀ : Heap} {fa : Addr} {cd : Value} {L : Addr} {m : Str → Option Value} {news : List (Addr × Obj)} {s : Shared} {Q E : Value → Shared → Prop} {mg mb : Str → Option Value} {mean : ExcName → Option Value} {p : Program} {loose : List Str}
   (B : Below callerA base [] h₀) (F : Fr h₀ L s.heap m) (X₀ : (hd.heap_39 w.params).In h₀) (N : News h₀ L s.heap news) (T : Top p loose mean mg mb h₀)
   {ol ot os ov om : P2} {x dx D : Addr} {t1 t2 t3 t4 t5 t6 : Tok} {d1 d2 d3 d4 : Addr} {oD o2 : Obj} {c2 : Str} {r2 : P2}
   (hx : (x, instObj 177 dx) ∈ news) (hdx : (dx, dictOf (locEs w t1 t2 t3 t4 t5 t6 (ovv ol) (ovv ot) (ovv os) (ovv ov) (ovv om) (.ref D)) 6) ∈ news)
   (hD : (D, oD) ∈ news) (hDI : DataIs Challenge.rw_nk0010_01.row.prog w oD d1 d2 d3 d4)
   (hd2 : (d2, o2) ∈ news) (hT2 : TabIs Challenge.rw_nk0010_01.row.prog w o2 c2 r2) (hl2 : (d2 == sysModules) = false) (hk : os.map Nm.x ≠ some (Str.ofString "other")) (hc : c2 ≠ Str.ofString "")
   (k : ∀ h' tk', Fr h₀ L h' m → News h₀ L h' news → Q (ovv (lk c2 r2 os)) {s with heap := h', toks := tk'}) :
   wpAny (model Challenge.rw_nk0010_01.row.prog w) (callerA.deeper (lawEnv L fa cd)) (call (.ref 134) [.ref x]) Q E s := by
  repeat' walk_at "STEP1"
  · exact k _ _ (by assumption) (nd (by assumption))
  · have e := lk_falsy (r := r2) (by assumption) hc
    rw [e] at k
    exact k _ _ (by assumption) (nd (by assumption))
set_option maxHeartbeats 8000000 in
theorem name_scr2 {w : World} {base h₀ : Heap} {fa : Addr} {cd : Value} {L : Addr} {m : Str → Option Value} {news : List (Addr × Obj)} {s : Shared} {Q E : Value → Shared → Prop} {mg mb : Str → Option Value} {mean : ExcName → Option Value} {p : Program} {loose : List Str}
   (B : Below callerA base [] h₀) (F : Fr h₀ L s.heap m) (X₀ : (hd.heap_39 w.params).In h₀) (N : News h₀ L s.heap news) (T : Top p loose mean mg mb h₀)
   {ol ot os ov om : P2} {x dx D : Addr} {t1 t2 t3 t4 t5 t6 : Tok} {vd yl yt ys yv ym : Value} {y dy : Addr} {u1 u2 u3 u4 u5 u6 : Tok} {d1 d2 d3 d4 : Addr} {oD o2 : Obj} {c2 : Str} {r2 : P2}
   (hx : (x, instObj 177 dx) ∈ news) (hdx : (dx, dictOf (locEs w t1 t2 t3 t4 t5 t6 (ovv ol) (ovv ot) (ovv os) (ovv ov) (ovv om) vd) 6) ∈ news)
   (hy : (y, instObj 177 dy) ∈ news) (hdy : (dy, dictOf (locEs w u1 u2 u3 u4 u5 u6 yl yt ys yv ym (.ref D)) 6) ∈ news)
   (hD : (D, oD) ∈ news) (hDI : DataIs Challenge.rw_nk0010_01.row.prog w oD d1 d2 d3 d4)
   (hd2 : (d2, o2) ∈ news) (hT2 : TabIs Challenge.rw_nk0010_01.row.prog w o2 c2 r2) (hl2 : (d2 == sysModules) = false) (hk : os.map Nm.x ≠ some (Str.ofString "other")) (hc : c2 ≠ Str.ofString "")
   (k : ∀ h' tk', Fr h₀ L h' m → News h₀ L h' news → Q (ovv (lk c2 r2 os)) {s with heap := h', toks := tk'}) :
   wpAny (model Challenge.rw_nk0010_01.row.prog w) (callerA.deeper (lawEnv L fa cd)) (call (.ref 134) [.ref x, .ref y]) Q E s := by
  repeat' walk_at "STEP1"
  · exact k _ _ (by assumption) (nd (by assumption))
  · have e := lk_falsy (r := r2) (by assumption) hc
    rw [e] at k
    exact k _ _ (by assumption) (nd (by assumption))
set_option maxHeartbeats 8000000 in
theorem name_terr1 {w : World} {base h₀ : Heap} {fa : Addr} {cd : Value} {L : Addr} {m : Str → Option Value} {news : List (Addr × Obj)} {s : Shared} {Q E : Value → Shared → Prop} {mg mb : Str → Option Value} {mean : ExcName → Option Value} {p : Program} {loose : List Str}
   (B : Below callerA base [] h₀) (F : Fr h₀ L s.heap m) (X₀ : (hd.heap_39 w.params).In h₀) (N : News h₀ L s.heap news) (T : Top p loose mean mg mb h₀)
   {ol ot os ov om : P2} {x dx D : Addr} {t1 t2 t3 t4 t5 t6 : Tok} {d1 d2 d3 d4 : Addr} {oD o3 : Obj} {c3 : Str} {r3 : P2}
   (hx : (x, instObj 177 dx) ∈ news) (hdx : (dx, dictOf (locEs w t1 t2 t3 t4 t5 t6 (ovv ol) (ovv ot) (ovv os) (ovv ov) (ovv om) (.ref D)) 6) ∈ news)
   (hD : (D, oD) ∈ news) (hDI : DataIs Challenge.rw_nk0010_01.row.prog w oD d1 d2 d3 d4)
   (hd3 : (d3, o3) ∈ news) (hT3 : TabIs Challenge.rw_nk0010_01.row.prog w o3 c3 r3) (hl3 : (d3 == sysModules) = false) (hk : ot.map Nm.x ≠ some (Str.ofString "other")) (hc : c3 ≠ Str.ofString "")
   (k : ∀ h' tk', Fr h₀ L h' m → News h₀ L h' news → Q (ovv (lk c3 r3 ot)) {s with heap := h', toks := tk'}) :
   wpAny (model Challenge.rw_nk0010_01.row.prog w) (callerA.deeper (lawEnv L fa cd)) (call (.ref 126) [.ref x]) Q E s := by
  repeat' walk_at "STEP1"
  · exact k _ _ (by assumption) (nd (by assumption))
  · have e := lk_falsy (r := r3) (by assumption) hc
    rw [e] at k
    exact k _ _ (by assumption) (nd (by assumption))
set_option maxHeartbeats 8000000 in
theorem name_terr2 {w : World} {base h₀ : Heap} {fa : Addr} {cd : Value} {L : Addr} {m : Str → Option Value} {news : List (Addr × Obj)} {s : Shared} {Q E : Value → Shared → Prop} {mg mb : Str → Option Value} {mean : ExcName → Option Value} {p : Program} {loose : List Str}
   (B : Below callerA base [] h₀) (F : Fr h₀ L s.heap m) (X₀ : (hd.heap_39 w.params).In h₀) (N : News h₀ L s.heap news) (T : Top p loose mean mg mb h₀)
   {ol ot os ov om : P2} {x dx D : Addr} {t1 t2 t3 t4 t5 t6 : Tok} {vd yl yt ys yv ym : Value} {y dy : Addr} {u1 u2 u3 u4 u5 u6 : Tok} {d1 d2 d3 d4 : Addr} {oD o3 : Obj} {c3 : Str} {r3 : P2}
   (hx : (x, instObj 177 dx) ∈ news) (hdx : (dx, dictOf (locEs w t1 t2 t3 t4 t5 t6 (ovv ol) (ovv ot) (ovv os) (ovv ov) (ovv om) vd) 6) ∈ news)
   (hy : (y, instObj 177 dy) ∈ news) (hdy : (dy, dictOf (locEs w u1 u2 u3 u4 u5 u6 yl yt ys yv ym (.ref D)) 6) ∈ news)
   (hD : (D, oD) ∈ news) (hDI : DataIs Challenge.rw_nk0010_01.row.prog w oD d1 d2 d3 d4)
   (hd3 : (d3, o3) ∈ news) (hT3 : TabIs Challenge.rw_nk0010_01.row.prog w o3 c3 r3) (hl3 : (d3 == sysModules) = false) (hk : ot.map Nm.x ≠ some (Str.ofString "other")) (hc : c3 ≠ Str.ofString "")
   (k : ∀ h' tk', Fr h₀ L h' m → News h₀ L h' news → Q (ovv (lk c3 r3 ot)) {s with heap := h', toks := tk'}) :
   wpAny (model Challenge.rw_nk0010_01.row.prog w) (callerA.deeper (lawEnv L fa cd)) (call (.ref 126) [.ref x, .ref y]) Q E s := by
  repeat' walk_at "STEP1"
  · exact k _ _ (by assumption) (nd (by assumption))
  · have e := lk_falsy (r := r3) (by assumption) hc
    rw [e] at k
    exact k _ _ (by assumption) (nd (by assumption))
end
section
theorem off_Disp : True := by
  w_top off
  exact trivial
local macro_rules | `(tactic| k_mem) => `(tactic| assumption)
local macro_rules | `(tactic| walk_at "compareOp Eq") => `(tactic| ((with_reducible show wpAny _ _ (compareOp CmpOp.Eq (ovv _) (ovv _)) _ _ _); refine ov_eq ?_))
local macro_rules | `(tactic| walk_at "compareOp NotEq") => `(tactic| ((with_reducible show wpAny _ _ (compareOp CmpOp.NotEq (ovv _) (ovv _)) _ _ _); refine ov_ne ?_))
local macro_rules | `(tactic| walk_at "compareOp Is") => `(tactic| ((with_reducible show wpAny _ _ (compareOp CmpOp.Is (ovv _) Value.none) _ _ _); refine ov_isNone ?_))
local macro_rules | `(tactic| walk_at "compareOp IsNot") => `(tactic| ((with_reducible show wpAny _ _ (compareOp CmpOp.IsNot (ovv _) Value.none) _ _ _); refine ov_isNotNone ?_))
local macro_rules | `(tactic| walk_at "truthy") => `(tactic| ((with_reducible show wpAny _ _ (truthy (ovv _)) _ _ _); refine ov_truthy ?_; intro tk))
local macro_rules | `(tactic| k_handed) => `(tactic| exact handedIn_ovv _)
local macro_rules | `(tactic| walk_at "call builtin:hasattr") => `(tactic| (k_here; k_dflt (refine' hasattr_K ?k1 ?k2 ?k3 ?k4 ?k5 ?k6 ?k7 ?k8 ?k9 ?k10 ?_; (case k1 => k_asm); (case k2 => k_asm); (case k3 => k_inst); (case k4 => k_is); (case k5 => k_is); (case k6 => k_is); (case k7 => k_is); (case k8 => k_is); (case k9 => k_get); (case k10 => k_handed); k_whole)))
local macro_rules | `(tactic| walk_at "call builtin:getattr") => `(tactic| (k_here; k_dflt (refine' getattr_K ?k1 ?k2 ?k3 ?k4 ?k5 ?k6 ?k7 ?k9 ?k10 ?_; (case k1 => k_asm); (case k2 => k_asm); (case k3 => k_inst); (case k4 => k_is); (case k5 => k_is); (case k6 => k_is); (case k7 => k_is); (case k9 => k_get); (case k10 => k_handed); k_whole)))
local macro_rules | `(tactic| k_room) => `(tactic| ((try simp only [depth_under_make, depth_under_kw, depth_in1, depth_deeper, depth_caller]); omega))
local macro_rules | `(tactic| walk_at "subscriptTail") => `(tactic| (k_here; (with_reducible show wpAny _ _ (subscriptTail _ _ (Value.ref _) (Value.str _ _)) _ _ _); k_dflt (refine' kdt_tail (knd := PySem.strKind _ _) ?N ?p ?d ?_; (case N => k_asm); (case p => k_mem); (case d => unfold DataIs at *; assumption); k_whole)))
local macro_rules | `(tactic| walk_at "subscriptTail Attribute Name Constant ref str") => `(tactic| (k_here; (with_reducible show wpAny _ _ (subscriptTail _ _ (Value.ref _) (Value.str _ _)) _ _ _); k_dflt (refine' kdt_tail (knd := PySem.strKind _ _) ?N ?p ?d ?_; (case N => k_asm); (case p => k_mem); (case d => unfold DataIs at *; assumption); k_whole)))
local macro_rules | `(tactic| walk_at "getItem ref str") => `(tactic| (k_here; k_dflt (refine' data_item ?d ?N ?p ?l ?_; (case N => k_asm); (case p => k_mem); (case d => assumption); (case l => rfl); k_whole)))
local macro_rules | `(tactic| walk_at "getMethod ref") => `(tactic| (k_here; (with_reducible show wpAny _ _ (getMethod (Value.ref _) (Str.ofString "get") _) _ _ _); k_dflt (refine' tab_method ?T ?N ?p ?_; (case N => k_asm); (case p => k_mem); (case T => assumption); k_whole)))
local macro_rules | `(tactic| walk_at "call builtin:dict.get") => `(tactic| (k_here; (with_reducible show wpAny _ _ (call (Value.builtin "dict.get") [Value.ref _, ovv _]) _ _ _); k_dflt (refine' tab_get ?T ?N ?p ?l ?k ?_; (case N => k_asm); (case p => k_mem); (case T => assumption); (case l => assumption); (case k => assumption); k_whole)))
local macro_rules | `(tactic| walk_at "call builtin:dict.get") => `(tactic| (k_here; (with_reducible show wpAny _ _ (call (Value.builtin "dict.get") [Value.ref _, Value.str _ _]) _ _ _); k_dflt (refine' tab_getE ?T ?N ?p ?l ?k ?_; (case N => k_asm); (case p => k_mem); (case T => assumption); (case l => assumption); (case k => assumption); k_whole)))
local macro_rules | `(tactic| walk_at "SMALL") => `(tactic| first | (exact List.forall_mem_nil _) | (refine' sm_app ?x9 ?y9 (by assumption); (case y9 => assumption); (case x9 => walk_at "SMALL")))
local macro_rules | `(tactic| walk_at "CLS") => `(tactic| first | exact List.forall_mem_nil _ | (refine List.forall_mem_cons.mpr ⟨?_, ?_⟩; (focus first | assumption | (intro h9; cases h9)); walk_at "CLS"))
local macro_rules | `(tactic| walk_at "AT105") => `(tactic| first | assumption | (refine' At105.head ?_; walk_at "CLS") | (refine' At105.tail ?c9 ?r9; (case c9 => first | assumption | (intro h9; cases h9)); (case r9 => walk_at "AT105")))
local macro_rules | `(tactic| walk_at "exec If") => `(tactic| ((with_reducible show wpAny _ _ (exec (Stmt.If (PySem.Expr.BoolOp BoolOp.And _ _) _ _ _) _) _ _ _); (with_reducible rename MkS => mk9); refine stop_of ?_; clear mk9))
local macro_rules | `(tactic| walk_at "exec If") => `(tactic| (k_here; (with_reducible show wpAny _ _ (exec (Stmt.If (PySem.Expr.Attribute _ _ _) [_] [] _) _) _ _ _); (with_reducible rename MkA _ => mk9); (focus ((k_dflt (first | (refine' if_app mk9 ?F ?N ?l ?_ ?_ ?_; (case F => k_asm); (case N => k_asm); (case l => assumption)) | (refine' if_app (items := []) mk9 ?F ?N (Nat.le_refl 0) ?_ ?_ ?_; (case F => k_asm); (case N => k_asm)))); (rotate_left); (intro h' tk' hc9 F' N'; (try k_sweep)); (rotate_left); (clear mk9; intro h' tk' n' items' hi9 hl9 F' N' mk9; (try k_sweep)); (rotate_left)))))
local macro_rules | `(tactic| walk_at "CutB") => `(tactic| (refine' cutB_i ?e ?F ?N; (case F => k_asm); (case N => first | k_asm | (refine' cb_drop ?cbN ?cbS; (case cbN => assumption); (case cbS => kcj_all))); (case e => first | rfl | (simp only [*, Bool.true_and, Bool.and_true, Bool.false_and, Bool.and_false, Bool.true_or, Bool.or_true, Bool.false_or, Bool.or_false]; done))))
local macro_rules | `(tactic| walk_at "CutA") => `(tactic| (k_dflt refine' cutA_i ?F ?N; (case F => k_asm); (case N => first | k_asm | (refine' cb_drop ?cbN ?cbS; (case cbN => assumption); (case cbS => kcj_all)))))
local macro_rules | `(tactic| walk_at "call builtin:list.append") => `(tactic| (k_here; (with_reducible show wpAny _ _ (call (Value.builtin _) [Value.ref _, ovv _]) _ _ _); k_dflt (refine' app_ovv ?k1 ?k2 ?k3 ?z ?_; (case k1 => k_asm); (case k2 => k_asm); (case k3 => k_upd); (case z => omega); k_whole); intro h' F' N'; (try k_sweep)))
local macro_rules | `(tactic| walk_at "truthy str") => `(tactic| ((with_reducible show wpAny _ _ (truthy (Value.str (Nm.x _) (Nm.t _))) _ _ _); refine ov_truthy (o := some _) ?_; intro tk))
local macro_rules | `(tactic| walk_at "eval GeneratorExp") => `(tactic| (k_here; k_dflt (refine' gen_ovv ?X ?T ?F ?N ?hdl (At105.toUpd ?U ?N2) ?ps ?G rfl rfl rfl rfl rfl ?cell rfl rfl ?xd rfl ?room ?hs ?hev ?_; (case X => k_asm); (case T => k_asm); (case F => k_asm); (case N => k_asm); (case N2 => k_asm); (case hdl => k_mem); (case U => walk_at "AT105"); (case ps => assumption); (case G => assumption); (case cell => decide); (case xd => decide); (case room => k_room); (case hs => intro _; with_unfolding_all rfl); (case hev => (intro Q9 hq9; walk1; exact hq9)); k_whole); intro a' s' ps' Kb' hps' F' N' G' os' lk' le' X'))
local macro_rules | `(tactic| walk_at "call builtin:str.join") => `(tactic| (k_here; (with_reducible show wpAny _ _ (call (Value.builtin "str.join") [Value.str _ _, Value.ref _]) _ _ _); k_dflt (refine' join_ovv ?F ?N ?b ?G ?lk ?X ?sp ?l ?sm ?_; (case X => assumption); (case F => k_asm); (case N => k_asm); (case b => assumption); (case G => assumption); (case lk => assumption); (case sp => decide); (case l => omega); (case sm => walk_at "SMALL"); k_whole); intro p' s' hp' hpl' F' N' G' os'))
local macro_rules | `(tactic| walk_at "formatField str") => `(tactic| ((with_reducible show wpAny _ _ (formatField (Value.str (Nm.x _) (Nm.t _)) _) _ _ _); k_dflt (refine' ff_nm (Nm.short _) ?_); intro u9 tk9))
local macro_rules | `(tactic| walk_at "And") => `(tactic| ((with_reducible show Str.length _ ≤ sizeLine ∧ _); refine' ⟨?z9, ?_⟩; (case z9 => (simp only [Str.length_append, lenA, lenB, lenE, sizeLine_eq]; omega))))
local macro_rules | `(tactic| walk_at "inplaceOp Add str str") => `(tactic| (k_dflt (refine' iadd_str ?_ ?z9; (case z9 => (simp only [Str.length_append, lenA, lenB, lenE, sizeLine_eq]; omega))); intro u9 tk9))
set_option maxHeartbeats 8000000 in
theorem display2 {w : World} {base h₀ : Heap} {fa : Addr} {cd : Value} {L : Addr} {m : Str → Option Value} {news : List (Addr × Obj)} {up : Obj → List (Addr × Obj)} {s : Shared} {Q E : Value → Shared → Prop} {mg mb : Str → Option Value} {mean : ExcName → Option Value} {p : Program} {loose : List Str} {ps : Array Value}
   (B : Below callerA base [] h₀) (F : Fr h₀ L s.heap m) (X₀ : (hd.heap_39 w.params).In h₀) (N : News h₀ L s.heap news) (T : Top p loose mean mg mb h₀) (hG : AllBare s.gens) (hA : At105 ps news up) (hps : PsOk gpos ps)
   {ol ot os ov om : P2} {x dx D : Addr} {t1 t2 t3 t4 t5 t6 : Tok} {vd yl yt ys yv ym : Value} {y dy : Addr} {u1 u2 u3 u4 u5 u6 : Tok} {d1 d2 d3 d4 : Addr} {oD o1 o2 o3 o4 : Obj} {c1 c2 c3 c4 : Str} {r1 r2 r3 r4 : P2}
   (hx : (x, instObj 177 dx) ∈ news) (hdx : (dx, dictOf (locEs w t1 t2 t3 t4 t5 t6 (ovv ol) (ovv ot) (ovv os) (ovv ov) (ovv om) vd) 6) ∈ news)
   (hy : (y, instObj 177 dy) ∈ news) (hdy : (dy, dictOf (locEs w u1 u2 u3 u4 u5 u6 yl yt ys yv ym (.ref D)) 6) ∈ news)
   (hD : (D, oD) ∈ news) (hDI : DataIs Challenge.rw_nk0010_01.row.prog w oD d1 d2 d3 d4)
   (hd1 : (d1, o1) ∈ news) (hT1 : TabIs Challenge.rw_nk0010_01.row.prog w o1 c1 r1) (hl1 : (d1 == sysModules) = false) (hs1 : Sm r1) (hd2 : (d2, o2) ∈ news) (hT2 : TabIs Challenge.rw_nk0010_01.row.prog w o2 c2 r2) (hl2 : (d2 == sysModules) = false) (hs2 : Sm r2) (hd3 : (d3, o3) ∈ news) (hT3 : TabIs Challenge.rw_nk0010_01.row.prog w o3 c3 r3) (hl3 : (d3 == sysModules) = false) (hs3 : Sm r3) (hd4 : (d4, o4) ∈ news) (hT4 : TabIs Challenge.rw_nk0010_01.row.prog w o4 c4 r4) (hl4 : (d4 == sysModules) = false) (hs4 : Sm r4)
   (hk1 : ol.map Nm.x ≠ some (Str.ofString "other")) (hk2 : os.map Nm.x ≠ some (Str.ofString "other")) (hk3 : ot.map Nm.x ≠ some (Str.ofString "other")) (hk4 : ov.map Nm.x ≠ some (Str.ofString "other")) (hsm : Sm om)
   (k : ∀ v s' ps', v.map Nm.x = disp (lk c1 r1 ol) (tr ot || tr os || tr ov) [(tr os, lk c2 r2 os), (tr ot, lk c3 r3 ot), (tr ov, lk c4 r4 ov), (tr om, om)] → PsOk gpos ps' → Fr h₀ L s'.heap m → News h₀ L s'.heap (up (PySem.W.X.tableObj ps')) → AllBare s'.gens → s'.os = s.os → Q (ovv v) s') :
   wpAny (model Challenge.rw_nk0010_01.row.prog w) (callerA.deeper (lawEnv L fa cd)) (call (.ref 110) [.ref x, .ref y]) Q E s := by
  have hsub : ∀ q ∈ [(x, instObj 177 dx), (dx, dictOf (locEs w t1 t2 t3 t4 t5 t6 (ovv ol) (ovv ot) (ovv os) (ovv ov) (ovv om) vd) 6), (y, instObj 177 dy), (dy, dictOf (locEs w u1 u2 u3 u4 u5 u6 yl yt ys yv ym (.ref D)) 6), (D, oD), (d1, o1), (d2, o2), (d3, o3), (d4, o4), (105, PySem.W.X.tableObj ps)], q ∈ news := by
    simp only [List.forall_mem_cons]
    exact ⟨hx, hdx, hy, hdy, hD, hd1, hd2, hd3, hd4, hA.mem, fun _ h => nomatch h⟩
  have fin : ∀ (v : P2) s' ps' small', v.map Nm.x = disp (lk c1 r1 ol) (tr ot || tr os || tr ov) [(tr os, lk c2 r2 os), (tr ot, lk c3 r3 ot), (tr ov, lk c4 r4 ov), (tr om, om)] → PsOk gpos ps' → Fr h₀ L s'.heap m → News h₀ L s'.heap small' → AllBare s'.gens → s'.os = s.os →
      (∀ q ∈ [(x, instObj 177 dx), (dx, dictOf (locEs w t1 t2 t3 t4 t5 t6 (ovv ol) (ovv ot) (ovv os) (ovv ov) (ovv om) vd) 6), (y, instObj 177 dy), (dy, dictOf (locEs w u1 u2 u3 u4 u5 u6 yl yt ys yv ym (.ref D)) 6), (D, oD), (d1, o1), (d2, o2), (d3, o3), (d4, o4), (105, PySem.W.X.tableObj ps)], q.1 ≠ 105 → q ∈ small') → (105, PySem.W.X.tableObj ps') ∈ small' → SB news [(x, instObj 177 dx), (dx, dictOf (locEs w t1 t2 t3 t4 t5 t6 (ovv ol) (ovv ot) (ovv os) (ovv ov) (ovv om) vd) 6), (y, instObj 177 dy), (dy, dictOf (locEs w u1 u2 u3 u4 u5 u6 yl yt ys yv ym (.ref D)) 6), (D, oD), (d1, o1), (d2, o2), (d3, o3), (d4, o4), (105, PySem.W.X.tableObj ps)] Q (.ok (.ret (ovv v))) s' :=
    fun v s' ps' small' e hps' F' N' G' os' hs h5 => sb_upd N hA hsub N' hs h5 fun hN => k v s' ps' e hps' F' hN G' os'
  have hcD : oD.cls ≠ .none := data_cls hDI
  have hc1 : o1.cls ≠ .none := tab_cls hT1
  have hc2 : o2.cls ≠ .none := tab_cls hT2
  have hc3 : o3.cls ≠ .none := tab_cls hT3
  have hc4 : o4.cls ≠ .none := tab_cls hT4
  have hS1 : Sm (lk c1 r1 ol) := lk_sm hs1
  have hS2 : Sm (lk c2 r2 os) := lk_sm hs2
  have hS3 : Sm (lk c3 r3 ot) := lk_sm hs3
  have hS4 : Sm (lk c4 r4 ov) := lk_sm hs4
  k_dflt (refine' call_s [(x, instObj 177 dx), (dx, dictOf (locEs w t1 t2 t3 t4 t5 t6 (ovv ol) (ovv ot) (ovv os) (ovv ov) (ovv om) vd) 6), (y, instObj 177 dy), (dy, dictOf (locEs w u1 u2 u3 u4 u5 u6 yl yt ys yv ym (.ref D)) 6), (D, oD), (d1, o1), (d2, o2), (d3, o3), (d4, o4), (105, PySem.W.X.tableObj ps)] B F X₀ N T hsub rfl rfl rfl ?k6 ?k7 ?k8 ?k9 ?kB ?_ ?c2 ?c3 ?c4 ?c5; (case k6 => k_is); (case k7 => k_is); (case k8 => k_room); (case k9 => first | exact BindsTo.of_eq rfl | exact binds_K (by k_in) rfl (by k_is) rfl rfl rfl); (case c5 => decide); (case kB => exact locs rfl); (case c2 => exact rfl); (case c3 => exact rfl); (case c4 => exact rfl); k_whole)
  clear B F N T hA hsub hx hdx hy hdy hD hd1 hd2 hd3 hd4 k
  intro g' L' h' tk FG' F' N' B' X' T' l1; (try k_lt l1); (try dsimp only); (try k_fold)
  clear FG'
  have mk9 : MkS := ⟨⟩
  repeat' walk_at "STEP1"
  show wpAny _ _ _ _ _ _
  have mkc : Mk (tr (lk c1 r1 ol) && (tr ot || tr os || tr ov)) := ⟨⟩
  refine' if_cut mkc ?F ?N ?hc ?h
  case F => k_asm
  case N => k_asm
  case hc => repeat' walk_at "STEP1"
  case h =>
    clear mkc
    intro h' tk' F' N'
    k_sweep
    replace N' := nd N'
    generalize lk c1 r1 ol = R at *
    by_cases hc9 : (tr R && (tr ot || tr os || tr ov)) = true
    · rw [if_pos hc9]
      have hR : tr R = true := (Bool.and_eq_true_iff.mp hc9).1
      cases R with
      | none => cases hR
      | some pR =>
        dsimp only [ovv] at F'
        have mkA : MkA [(tr os, lk c2 r2 os), (tr ot, lk c3 r3 ot), (tr ov, lk c4 r4 ov), (tr om, om)] := ⟨⟩
        have hR64 := hS1 pR rfl
        repeat' walk_at "STEP1"
        · refine' fin (some ⟨_, _, ?bz0⟩) _ _ _ (disp_yes hc9 ?iz0 ?jz0 ?nz0 rfl) ?pz0 ?Fz0 ?Nz0 ?Gz0 ?oz0 ?sz0 ?m5z0
          (case pz0 => assumption); (case Fz0 => assumption); (case Nz0 => assumption); (case Gz0 => assumption); (case oz0 => exact Eq.trans (by assumption) (by assumption)); (case sz0 => refine s105_tail ?_; repeat (first | exact s105_end | refine s105_cons ?_)); (case m5z0 => repeat (first | exact List.Mem.head _ | refine List.Mem.tail _ ?_)); (case iz0 => refine' items4 ?e1z0 ?e2z0 ?e3z0 ?e4z0; (case e4z0 => assumption); (case e3z0 => assumption); (case e2z0 => assumption); (case e1z0 => assumption)); (case jz0 => assumption); (case nz0 => assumption); (case bz0 => simp only [Str.length_append, lenA, lenB]; omega)
        · refine' fin (some pR) _ _ _ (disp_none hc9 ?iz1 ?jz1 ?nz1) ?pz1 ?Fz1 ?Nz1 ?Gz1 ?oz1 ?sz1 ?m5z1
          (case pz1 => assumption); (case Fz1 => assumption); (case Nz1 => assumption); (case Gz1 => assumption); (case oz1 => exact Eq.trans (by assumption) (by assumption)); (case sz1 => refine s105_tail ?_; repeat (first | exact s105_end | refine s105_cons ?_)); (case m5z1 => repeat (first | exact List.Mem.head _ | refine List.Mem.tail _ ?_)); (case iz1 => refine' items4 ?e1z1 ?e2z1 ?e3z1 ?e4z1; (case e4z1 => assumption); (case e3z1 => assumption); (case e2z1 => assumption); (case e1z1 => assumption)); (case jz1 => assumption); (case nz1 => assumption)
    · rw [if_neg hc9]
      repeat' walk_at "STEP1"
      refine' fin R _ _ _ (disp_no hc9) hps ?Fz2 ?Nz2 ?Gz2 ?oz2 ?sz2 ?m5z2
      (case Fz2 => assumption); (case Nz2 => assumption); (case Gz2 => assumption); (case oz2 => rfl); (case sz2 => repeat (first | exact s105_end | refine s105_cons ?_)); (case m5z2 => repeat (first | exact List.Mem.head _ | refine List.Mem.tail _ ?_))
end
section
theorem off_Disp1 : True := by
  w_top off
  exact trivial
local macro_rules | `(tactic| k_mem) => `(tactic| assumption)
local macro_rules | `(tactic| walk_at "compareOp Eq") => `(tactic| ((with_reducible show wpAny _ _ (compareOp CmpOp.Eq (ovv _) (ovv _)) _ _ _); refine ov_eq ?_))
local macro_rules | `(tactic| walk_at "compareOp NotEq") => `(tactic| ((with_reducible show wpAny _ _ (compareOp CmpOp.NotEq (ovv _) (ovv _)) _ _ _); refine ov_ne ?_))
local macro_rules | `(tactic| walk_at "compareOp Is") => `(tactic| ((with_reducible show wpAny _ _ (compareOp CmpOp.Is (ovv _) Value.none) _ _ _); refine ov_isNone ?_))
local macro_rules | `(tactic| walk_at "compareOp IsNot") => `(tactic| ((with_reducible show wpAny _ _ (compareOp CmpOp.IsNot (ovv _) Value.none) _ _ _); refine ov_isNotNone ?_))
local macro_rules | `(tactic| walk_at "truthy") => `(tactic| ((with_reducible show wpAny _ _ (truthy (ovv _)) _ _ _); refine ov_truthy ?_; intro tk))
local macro_rules | `(tactic| k_handed) => `(tactic| exact handedIn_ovv _)
local macro_rules | `(tactic| walk_at "call builtin:hasattr") => `(tactic| (k_here; k_dflt (refine' hasattr_K ?k1 ?k2 ?k3 ?k4 ?k5 ?k6 ?k7 ?k8 ?k9 ?k10 ?_; (case k1 => k_asm); (case k2 => k_asm); (case k3 => k_inst); (case k4 => k_is); (case k5 => k_is); (case k6 => k_is); (case k7 => k_is); (case k8 => k_is); (case k9 => k_get); (case k10 => k_handed); k_whole)))
local macro_rules | `(tactic| walk_at "call builtin:getattr") => `(tactic| (k_here; k_dflt (refine' getattr_K ?k1 ?k2 ?k3 ?k4 ?k5 ?k6 ?k7 ?k9 ?k10 ?_; (case k1 => k_asm); (case k2 => k_asm); (case k3 => k_inst); (case k4 => k_is); (case k5 => k_is); (case k6 => k_is); (case k7 => k_is); (case k9 => k_get); (case k10 => k_handed); k_whole)))
local macro_rules | `(tactic| k_room) => `(tactic| ((try simp only [depth_under_make, depth_under_kw, depth_in1, depth_deeper, depth_caller]); omega))
local macro_rules | `(tactic| walk_at "subscriptTail") => `(tactic| (k_here; (with_reducible show wpAny _ _ (subscriptTail _ _ (Value.ref _) (Value.str _ _)) _ _ _); k_dflt (refine' kdt_tail (knd := PySem.strKind _ _) ?N ?p ?d ?_; (case N => k_asm); (case p => k_mem); (case d => unfold DataIs at *; assumption); k_whole)))
local macro_rules | `(tactic| walk_at "subscriptTail Attribute Name Constant ref str") => `(tactic| (k_here; (with_reducible show wpAny _ _ (subscriptTail _ _ (Value.ref _) (Value.str _ _)) _ _ _); k_dflt (refine' kdt_tail (knd := PySem.strKind _ _) ?N ?p ?d ?_; (case N => k_asm); (case p => k_mem); (case d => unfold DataIs at *; assumption); k_whole)))
local macro_rules | `(tactic| walk_at "getItem ref str") => `(tactic| (k_here; k_dflt (refine' data_item ?d ?N ?p ?l ?_; (case N => k_asm); (case p => k_mem); (case d => assumption); (case l => rfl); k_whole)))
local macro_rules | `(tactic| walk_at "getMethod ref") => `(tactic| (k_here; (with_reducible show wpAny _ _ (getMethod (Value.ref _) (Str.ofString "get") _) _ _ _); k_dflt (refine' tab_method ?T ?N ?p ?_; (case N => k_asm); (case p => k_mem); (case T => assumption); k_whole)))
local macro_rules | `(tactic| walk_at "call builtin:dict.get") => `(tactic| (k_here; (with_reducible show wpAny _ _ (call (Value.builtin "dict.get") [Value.ref _, ovv _]) _ _ _); k_dflt (refine' tab_get ?T ?N ?p ?l ?k ?_; (case N => k_asm); (case p => k_mem); (case T => assumption); (case l => assumption); (case k => assumption); k_whole)))
local macro_rules | `(tactic| walk_at "call builtin:dict.get") => `(tactic| (k_here; (with_reducible show wpAny _ _ (call (Value.builtin "dict.get") [Value.ref _, Value.str _ _]) _ _ _); k_dflt (refine' tab_getE ?T ?N ?p ?l ?k ?_; (case N => k_asm); (case p => k_mem); (case T => assumption); (case l => assumption); (case k => assumption); k_whole)))
local macro_rules | `(tactic| walk_at "SMALL") => `(tactic| first | (exact List.forall_mem_nil _) | (refine' sm_app ?x9 ?y9 (by assumption); (case y9 => assumption); (case x9 => walk_at "SMALL")))
local macro_rules | `(tactic| walk_at "CLS") => `(tactic| first | exact List.forall_mem_nil _ | (refine List.forall_mem_cons.mpr ⟨?_, ?_⟩; (focus first | assumption | (intro h9; cases h9)); walk_at "CLS"))
local macro_rules | `(tactic| walk_at "AT105") => `(tactic| first | assumption | (refine' At105.head ?_; walk_at "CLS") | (refine' At105.tail ?c9 ?r9; (case c9 => first | assumption | (intro h9; cases h9)); (case r9 => walk_at "AT105")))
local macro_rules | `(tactic| walk_at "exec If") => `(tactic| ((with_reducible show wpAny _ _ (exec (Stmt.If (PySem.Expr.BoolOp BoolOp.And _ _) _ _ _) _) _ _ _); (with_reducible rename MkS => mk9); refine stop_of ?_; clear mk9))
local macro_rules | `(tactic| walk_at "exec If") => `(tactic| (k_here; (with_reducible show wpAny _ _ (exec (Stmt.If (PySem.Expr.Attribute _ _ _) [_] [] _) _) _ _ _); (with_reducible rename MkA _ => mk9); (focus ((k_dflt (first | (refine' if_app mk9 ?F ?N ?l ?_ ?_ ?_; (case F => k_asm); (case N => k_asm); (case l => assumption)) | (refine' if_app (items := []) mk9 ?F ?N (Nat.le_refl 0) ?_ ?_ ?_; (case F => k_asm); (case N => k_asm)))); (rotate_left); (intro h' tk' hc9 F' N'; (try k_sweep)); (rotate_left); (clear mk9; intro h' tk' n' items' hi9 hl9 F' N' mk9; (try k_sweep)); (rotate_left)))))
local macro_rules | `(tactic| walk_at "CutB") => `(tactic| (refine' cutB_i ?e ?F ?N; (case F => k_asm); (case N => first | k_asm | (refine' cb_drop ?cbN ?cbS; (case cbN => assumption); (case cbS => kcj_all))); (case e => first | rfl | (simp only [*, Bool.true_and, Bool.and_true, Bool.false_and, Bool.and_false, Bool.true_or, Bool.or_true, Bool.false_or, Bool.or_false]; done))))
local macro_rules | `(tactic| walk_at "CutA") => `(tactic| (k_dflt refine' cutA_i ?F ?N; (case F => k_asm); (case N => first | k_asm | (refine' cb_drop ?cbN ?cbS; (case cbN => assumption); (case cbS => kcj_all)))))
local macro_rules | `(tactic| walk_at "call builtin:list.append") => `(tactic| (k_here; (with_reducible show wpAny _ _ (call (Value.builtin _) [Value.ref _, ovv _]) _ _ _); k_dflt (refine' app_ovv ?k1 ?k2 ?k3 ?z ?_; (case k1 => k_asm); (case k2 => k_asm); (case k3 => k_upd); (case z => omega); k_whole); intro h' F' N'; (try k_sweep)))
local macro_rules | `(tactic| walk_at "truthy str") => `(tactic| ((with_reducible show wpAny _ _ (truthy (Value.str (Nm.x _) (Nm.t _))) _ _ _); refine ov_truthy (o := some _) ?_; intro tk))
local macro_rules | `(tactic| walk_at "eval GeneratorExp") => `(tactic| (k_here; k_dflt (refine' gen_ovv ?X ?T ?F ?N ?hdl (At105.toUpd ?U ?N2) ?ps ?G rfl rfl rfl rfl rfl ?cell rfl rfl ?xd rfl ?room ?hs ?hev ?_; (case X => k_asm); (case T => k_asm); (case F => k_asm); (case N => k_asm); (case N2 => k_asm); (case hdl => k_mem); (case U => walk_at "AT105"); (case ps => assumption); (case G => assumption); (case cell => decide); (case xd => decide); (case room => k_room); (case hs => intro _; with_unfolding_all rfl); (case hev => (intro Q9 hq9; walk1; exact hq9)); k_whole); intro a' s' ps' Kb' hps' F' N' G' os' lk' le' X'))
local macro_rules | `(tactic| walk_at "call builtin:str.join") => `(tactic| (k_here; (with_reducible show wpAny _ _ (call (Value.builtin "str.join") [Value.str _ _, Value.ref _]) _ _ _); k_dflt (refine' join_ovv ?F ?N ?b ?G ?lk ?X ?sp ?l ?sm ?_; (case X => assumption); (case F => k_asm); (case N => k_asm); (case b => assumption); (case G => assumption); (case lk => assumption); (case sp => decide); (case l => omega); (case sm => walk_at "SMALL"); k_whole); intro p' s' hp' hpl' F' N' G' os'))
local macro_rules | `(tactic| walk_at "formatField str") => `(tactic| ((with_reducible show wpAny _ _ (formatField (Value.str (Nm.x _) (Nm.t _)) _) _ _ _); k_dflt (refine' ff_nm (Nm.short _) ?_); intro u9 tk9))
local macro_rules | `(tactic| walk_at "And") => `(tactic| ((with_reducible show Str.length _ ≤ sizeLine ∧ _); refine' ⟨?z9, ?_⟩; (case z9 => (simp only [Str.length_append, lenA, lenB, lenE, sizeLine_eq]; omega))))
local macro_rules | `(tactic| walk_at "inplaceOp Add str str") => `(tactic| (k_dflt (refine' iadd_str ?_ ?z9; (case z9 => (simp only [Str.length_append, lenA, lenB, lenE, sizeLine_eq]; omega))); intro u9 tk9))
set_option maxHeartbeats 8000000 in
theorem display1 {w : World} {base h₀ : Heap} {fa : Addr} {cd : Value} {L : Addr} {m : Str → Option Value} {news : List (Addr × Obj)} {up : Obj → List (Addr × Obj)} {s : Shared} {Q E : Value → Shared → Prop} {mg mb : Str → Option Value} {mean : ExcName → Option Value} {p : Program} {loose : List Str} {ps : Array Value}
   (B : Below callerA base [] h₀) (F : Fr h₀ L s.heap m) (X₀ : (hd.heap_39 w.params).In h₀) (N : News h₀ L s.heap news) (T : Top p loose mean mg mb h₀) (hG : AllBare s.gens) (hA : At105 ps news up) (hps : PsOk gpos ps)
   {ol ot os ov om : P2} {x dx D : Addr} {t1 t2 t3 t4 t5 t6 : Tok} {d1 d2 d3 d4 : Addr} {oD o1 o2 o3 o4 : Obj} {c1 c2 c3 c4 : Str} {r1 r2 r3 r4 : P2}
   (hx : (x, instObj 177 dx) ∈ news) (hdx : (dx, dictOf (locEs w t1 t2 t3 t4 t5 t6 (ovv ol) (ovv ot) (ovv os) (ovv ov) (ovv om) (.ref D)) 6) ∈ news)
   (hD : (D, oD) ∈ news) (hDI : DataIs Challenge.rw_nk0010_01.row.prog w oD d1 d2 d3 d4)
   (hd1 : (d1, o1) ∈ news) (hT1 : TabIs Challenge.rw_nk0010_01.row.prog w o1 c1 r1) (hl1 : (d1 == sysModules) = false) (hs1 : Sm r1) (hd2 : (d2, o2) ∈ news) (hT2 : TabIs Challenge.rw_nk0010_01.row.prog w o2 c2 r2) (hl2 : (d2 == sysModules) = false) (hs2 : Sm r2) (hd3 : (d3, o3) ∈ news) (hT3 : TabIs Challenge.rw_nk0010_01.row.prog w o3 c3 r3) (hl3 : (d3 == sysModules) = false) (hs3 : Sm r3) (hd4 : (d4, o4) ∈ news) (hT4 : TabIs Challenge.rw_nk0010_01.row.prog w o4 c4 r4) (hl4 : (d4 == sysModules) = false) (hs4 : Sm r4)
   (hk1 : ol.map Nm.x ≠ some (Str.ofString "other")) (hk2 : os.map Nm.x ≠ some (Str.ofString "other")) (hk3 : ot.map Nm.x ≠ some (Str.ofString "other")) (hk4 : ov.map Nm.x ≠ some (Str.ofString "other")) (hsm : Sm om)
   (k : ∀ v s' ps', v.map Nm.x = disp (lk c1 r1 ol) (tr ot || tr os || tr ov) [(tr os, lk c2 r2 os), (tr ot, lk c3 r3 ot), (tr ov, lk c4 r4 ov), (tr om, om)] → PsOk gpos ps' → Fr h₀ L s'.heap m → News h₀ L s'.heap (up (PySem.W.X.tableObj ps')) → AllBare s'.gens → s'.os = s.os → Q (ovv v) s') :
   wpAny (model Challenge.rw_nk0010_01.row.prog w) (callerA.deeper (lawEnv L fa cd)) (call (.ref 110) [.ref x]) Q E s := by
  have hsub : ∀ q ∈ [(x, instObj 177 dx), (dx, dictOf (locEs w t1 t2 t3 t4 t5 t6 (ovv ol) (ovv ot) (ovv os) (ovv ov) (ovv om) (.ref D)) 6), (D, oD), (d1, o1), (d2, o2), (d3, o3), (d4, o4), (105, PySem.W.X.tableObj ps)], q ∈ news := by
    simp only [List.forall_mem_cons]
    exact ⟨hx, hdx, hD, hd1, hd2, hd3, hd4, hA.mem, fun _ h => nomatch h⟩
  have fin : ∀ (v : P2) s' ps' small', v.map Nm.x = disp (lk c1 r1 ol) (tr ot || tr os || tr ov) [(tr os, lk c2 r2 os), (tr ot, lk c3 r3 ot), (tr ov, lk c4 r4 ov), (tr om, om)] → PsOk gpos ps' → Fr h₀ L s'.heap m → News h₀ L s'.heap small' → AllBare s'.gens → s'.os = s.os →
      (∀ q ∈ [(x, instObj 177 dx), (dx, dictOf (locEs w t1 t2 t3 t4 t5 t6 (ovv ol) (ovv ot) (ovv os) (ovv ov) (ovv om) (.ref D)) 6), (D, oD), (d1, o1), (d2, o2), (d3, o3), (d4, o4), (105, PySem.W.X.tableObj ps)], q.1 ≠ 105 → q ∈ small') → (105, PySem.W.X.tableObj ps') ∈ small' → SB news [(x, instObj 177 dx), (dx, dictOf (locEs w t1 t2 t3 t4 t5 t6 (ovv ol) (ovv ot) (ovv os) (ovv ov) (ovv om) (.ref D)) 6), (D, oD), (d1, o1), (d2, o2), (d3, o3), (d4, o4), (105, PySem.W.X.tableObj ps)] Q (.ok (.ret (ovv v))) s' :=
    fun v s' ps' small' e hps' F' N' G' os' hs h5 => sb_upd N hA hsub N' hs h5 fun hN => k v s' ps' e hps' F' hN G' os'
  have hcD : oD.cls ≠ .none := data_cls hDI
  have hc1 : o1.cls ≠ .none := tab_cls hT1
  have hc2 : o2.cls ≠ .none := tab_cls hT2
  have hc3 : o3.cls ≠ .none := tab_cls hT3
  have hc4 : o4.cls ≠ .none := tab_cls hT4
  have hS1 : Sm (lk c1 r1 ol) := lk_sm hs1
  have hS2 : Sm (lk c2 r2 os) := lk_sm hs2
  have hS3 : Sm (lk c3 r3 ot) := lk_sm hs3
  have hS4 : Sm (lk c4 r4 ov) := lk_sm hs4
  k_dflt (refine' call_s [(x, instObj 177 dx), (dx, dictOf (locEs w t1 t2 t3 t4 t5 t6 (ovv ol) (ovv ot) (ovv os) (ovv ov) (ovv om) (.ref D)) 6), (D, oD), (d1, o1), (d2, o2), (d3, o3), (d4, o4), (105, PySem.W.X.tableObj ps)] B F X₀ N T hsub rfl rfl rfl ?k6 ?k7 ?k8 ?k9 ?kB ?_ ?c2 ?c3 ?c4 ?c5; (case k6 => k_is); (case k7 => k_is); (case k8 => k_room); (case k9 => first | exact BindsTo.of_eq rfl | exact binds_K (by k_in) rfl (by k_is) rfl rfl rfl); (case c5 => decide); (case kB => exact locs rfl); (case c2 => exact rfl); (case c3 => exact rfl); (case c4 => exact rfl); k_whole)
  clear B F N T hA hsub hx hdx hD hd1 hd2 hd3 hd4 k
  intro g' L' h' tk FG' F' N' B' X' T' l1; (try k_lt l1); (try dsimp only); (try k_fold)
  clear FG'
  have mk9 : MkS := ⟨⟩
  repeat' walk_at "STEP1"
  show wpAny _ _ _ _ _ _
  have mkc : Mk (tr (lk c1 r1 ol) && (tr ot || tr os || tr ov)) := ⟨⟩
  refine' if_cut mkc ?F ?N ?hc ?h
  case F => k_asm
  case N => k_asm
  case hc => repeat' walk_at "STEP1"
  case h =>
    clear mkc
    intro h' tk' F' N'
    k_sweep
    replace N' := nd N'
    generalize lk c1 r1 ol = R at *
    by_cases hc9 : (tr R && (tr ot || tr os || tr ov)) = true
    · rw [if_pos hc9]
      have hR : tr R = true := (Bool.and_eq_true_iff.mp hc9).1
      cases R with
      | none => cases hR
      | some pR =>
        dsimp only [ovv] at F'
        have mkA : MkA [(tr os, lk c2 r2 os), (tr ot, lk c3 r3 ot), (tr ov, lk c4 r4 ov), (tr om, om)] := ⟨⟩
        have hR64 := hS1 pR rfl
        repeat' walk_at "STEP1"
        · refine' fin (some ⟨_, _, ?bz0⟩) _ _ _ (disp_yes hc9 ?iz0 ?jz0 ?nz0 rfl) ?pz0 ?Fz0 ?Nz0 ?Gz0 ?oz0 ?sz0 ?m5z0
          (case pz0 => assumption); (case Fz0 => assumption); (case Nz0 => assumption); (case Gz0 => assumption); (case oz0 => exact Eq.trans (by assumption) (by assumption)); (case sz0 => refine s105_tail ?_; repeat (first | exact s105_end | refine s105_cons ?_)); (case m5z0 => repeat (first | exact List.Mem.head _ | refine List.Mem.tail _ ?_)); (case iz0 => refine' items4 ?e1z0 ?e2z0 ?e3z0 ?e4z0; (case e4z0 => assumption); (case e3z0 => assumption); (case e2z0 => assumption); (case e1z0 => assumption)); (case jz0 => assumption); (case nz0 => assumption); (case bz0 => simp only [Str.length_append, lenA, lenB]; omega)
        · refine' fin (some pR) _ _ _ (disp_none hc9 ?iz1 ?jz1 ?nz1) ?pz1 ?Fz1 ?Nz1 ?Gz1 ?oz1 ?sz1 ?m5z1
          (case pz1 => assumption); (case Fz1 => assumption); (case Nz1 => assumption); (case Gz1 => assumption); (case oz1 => exact Eq.trans (by assumption) (by assumption)); (case sz1 => refine s105_tail ?_; repeat (first | exact s105_end | refine s105_cons ?_)); (case m5z1 => repeat (first | exact List.Mem.head _ | refine List.Mem.tail _ ?_)); (case iz1 => refine' items4 ?e1z1 ?e2z1 ?e3z1 ?e4z1; (case e4z1 => assumption); (case e3z1 => assumption); (case e2z1 => assumption); (case e1z1 => assumption)); (case jz1 => assumption); (case nz1 => assumption)
    · rw [if_neg hc9]
      repeat' walk_at "STEP1"
      refine' fin R _ _ _ (disp_no hc9) hps ?Fz2 ?Nz2 ?Gz2 ?oz2 ?sz2 ?m5z2
      (case Fz2 => assumption); (case Nz2 => assumption); (case Gz2 => assumption); (case oz2 => rfl); (case sz2 => repeat (first | exact s105_end | refine s105_cons ?_)); (case m5z2 => repeat (first | exact List.Mem.head _ | refine List.Mem.tail _ ?_))
end
section
theorem off_Gli : True := by
  w_top off
  exact trivial
local macro_rules | `(tactic| k_mem) => `(tactic| assumption)
local macro_rules | `(tactic| walk_at "compareOp Eq") => `(tactic| ((with_reducible show wpAny _ _ (compareOp CmpOp.Eq (ovv _) (ovv _)) _ _ _); refine ov_eq ?_))
local macro_rules | `(tactic| walk_at "compareOp NotEq") => `(tactic| ((with_reducible show wpAny _ _ (compareOp CmpOp.NotEq (ovv _) (ovv _)) _ _ _); refine ov_ne ?_))
local macro_rules | `(tactic| walk_at "compareOp Is") => `(tactic| ((with_reducible show wpAny _ _ (compareOp CmpOp.Is (ovv _) Value.none) _ _ _); refine ov_isNone ?_))
local macro_rules | `(tactic| walk_at "compareOp IsNot") => `(tactic| ((with_reducible show wpAny _ _ (compareOp CmpOp.IsNot (ovv _) Value.none) _ _ _); refine ov_isNotNone ?_))
local macro_rules | `(tactic| walk_at "truthy") => `(tactic| ((with_reducible show wpAny _ _ (truthy (ovv _)) _ _ _); refine ov_truthy ?_; intro tk))
local macro_rules | `(tactic| k_handed) => `(tactic| exact handedIn_ovv _)
local macro_rules | `(tactic| walk_at "call builtin:hasattr") => `(tactic| (k_here; k_dflt (refine' hasattr_K ?k1 ?k2 ?k3 ?k4 ?k5 ?k6 ?k7 ?k8 ?k9 ?k10 ?_; (case k1 => k_asm); (case k2 => k_asm); (case k3 => k_inst); (case k4 => k_is); (case k5 => k_is); (case k6 => k_is); (case k7 => k_is); (case k8 => k_is); (case k9 => k_get); (case k10 => k_handed); k_whole)))
local macro_rules | `(tactic| walk_at "call builtin:getattr") => `(tactic| (k_here; k_dflt (refine' getattr_K ?k1 ?k2 ?k3 ?k4 ?k5 ?k6 ?k7 ?k9 ?k10 ?_; (case k1 => k_asm); (case k2 => k_asm); (case k3 => k_inst); (case k4 => k_is); (case k5 => k_is); (case k6 => k_is); (case k7 => k_is); (case k9 => k_get); (case k10 => k_handed); k_whole)))
local macro_rules | `(tactic| k_room) => `(tactic| ((try simp only [depth_under_make, depth_under_kw, depth_in1, depth_deeper, depth_caller]); omega))
local macro_rules | `(tactic| walk_at "subscriptTail") => `(tactic| (k_here; (with_reducible show wpAny _ _ (subscriptTail _ _ (Value.ref _) (Value.str _ _)) _ _ _); k_dflt (refine' kdt_tail (knd := PySem.strKind _ _) ?N ?p ?d ?_; (case N => k_asm); (case p => k_mem); (case d => unfold DataIs at *; assumption); k_whole)))
local macro_rules | `(tactic| walk_at "subscriptTail Attribute Name Constant ref str") => `(tactic| (k_here; (with_reducible show wpAny _ _ (subscriptTail _ _ (Value.ref _) (Value.str _ _)) _ _ _); k_dflt (refine' kdt_tail (knd := PySem.strKind _ _) ?N ?p ?d ?_; (case N => k_asm); (case p => k_mem); (case d => unfold DataIs at *; assumption); k_whole)))
local macro_rules | `(tactic| walk_at "getItem ref str") => `(tactic| (k_here; k_dflt (refine' data_item ?d ?N ?p ?l ?_; (case N => k_asm); (case p => k_mem); (case d => assumption); (case l => rfl); k_whole)))
local macro_rules | `(tactic| walk_at "getMethod ref") => `(tactic| (k_here; (with_reducible show wpAny _ _ (getMethod (Value.ref _) (Str.ofString "get") _) _ _ _); k_dflt (refine' tab_method ?T ?N ?p ?_; (case N => k_asm); (case p => k_mem); (case T => assumption); k_whole)))
local macro_rules | `(tactic| walk_at "call builtin:dict.get") => `(tactic| (k_here; (with_reducible show wpAny _ _ (call (Value.builtin "dict.get") [Value.ref _, ovv _]) _ _ _); k_dflt (refine' tab_get ?T ?N ?p ?l ?k ?_; (case N => k_asm); (case p => k_mem); (case T => assumption); (case l => assumption); (case k => assumption); k_whole)))
local macro_rules | `(tactic| walk_at "call builtin:dict.get") => `(tactic| (k_here; (with_reducible show wpAny _ _ (call (Value.builtin "dict.get") [Value.ref _, Value.str _ _]) _ _ _); k_dflt (refine' tab_getE ?T ?N ?p ?l ?k ?_; (case N => k_asm); (case p => k_mem); (case T => assumption); (case l => assumption); (case k => assumption); k_whole)))
structure MkL (l1 l2 : List P2) : Prop where
abbrev xs (l : List P2) : List (Option Str) := l.map (·.map Nm.x)
theorem ov_eqAt (A : Around) (s : Shared) (a b : P2) : SeqAt.EqAt A s (ovv a) (ovv b) (eqv a b) := fun prog w E Q h => (oKind prog w).eqBool (isO_ovv a) (isO_ovv b) h
theorem all_xs {l1 l2 : List P2} (hl : l1.length = l2.length) : ((List.range l1.length).all fun j => decide ((xs l1)[j]? = (xs l2)[j]?)) = decide (xs l1 = xs l2) := by
  rw [Bool.eq_iff_iff]
  simp only [List.all_eq_true, List.mem_range, decide_eq_true_eq]
  constructor
  · intro h
    apply List.ext_getElem?
    intro j
    by_cases hj : j < l1.length
    · exact h j hj
    · rw [List.getElem?_eq_none (by simp; omega), List.getElem?_eq_none (by simp; omega)]
  · intro h j _; rw [h]
theorem at_xs {l : List P2} {j : Nat} (h : j < (l.map ovv).toArray.size) : ∃ a, (l.map ovv).toArray[j] = ovv a ∧ (xs l)[j]? = some (a.map Nm.x) := by
  have hj : j < l.length := by simpa using h
  exact ⟨l[j], by simp, by simp [hj]⟩
theorem he_xs {A : Around} {s : Shared} {l1 l2 : List P2} : ∀ j (h1 : j < (l1.map ovv).toArray.size) (h2 : j < (l2.map ovv).toArray.size), SeqAt.EqAt A s (l1.map ovv).toArray[j] (l2.map ovv).toArray[j] (decide ((xs l1)[j]? = (xs l2)[j]?)) := by
  intro j h1 h2
  obtain ⟨a, ea, ea'⟩ := at_xs h1
  obtain ⟨b, eb, eb'⟩ := at_xs h2
  rw [ea, eb, ea', eb']
  have := ov_eqAt A s a b
  simpa [eqv] using this
section
variable {prog : Program} {w : World} {A : Around} {E : Value → Shared → Prop} {s : Shared} {h₀ : Heap} {L : Addr} {news : List (Addr × Obj)} {a b : Addr} {l1 l2 : List P2} {n1 n2 : Nat} {Q : Value → Shared → Prop}
theorem ne_ovs (_mk : MkL l1 l2) (N : News h₀ L s.heap news) (ha : (a, W.listOf (l1.map ovv).toArray n1) ∈ news) (hb : (b, W.listOf (l2.map ovv).toArray n2) ∈ news) (hu : A.units < cLine)
    (h : Q (.bool (!decide (xs l1 = xs l2))) s) : wpAny (model prog w) A (compareOp .NotEq (.ref a) (.ref b)) Q E s := by
  have la : s.heap.IsList a (l1.map ovv).toArray := ⟨_, (N _ ha).1, rfl, _, rfl⟩
  have lb : s.heap.IsList b (l2.map ovv).toArray := ⟨_, (N _ hb).1, rfl, _, rfl⟩
  by_cases hl : l1.length = l2.length
  · refine SeqAt.RcNeAt.lists la lb (by simpa using hl) hu he_xs prog w E Q ?_
    have e := all_xs hl
    have es : (l1.map ovv).toArray.size = l1.length := by simp
    rw [es, e]; exact h
  · refine SeqAt.RcNeAt.lists_lengths la lb (by simpa using hl) hu prog w E Q ?_
    have : xs l1 ≠ xs l2 := fun e => hl (by have := congrArg List.length e; simpa using this)
    rw [decide_eq_false this] at h
    exact h
end
theorem ne_tups {prog : Program} {w : World} {A : Around} {E : Value → Shared → Prop} {s : Shared} {h₀ : Heap} {L : Addr} {news : List (Addr × Obj)} {a b : Addr} {l1 l2 : List P2} {Q : Value → Shared → Prop}
    (_mk : MkL l1 l2) (N : News h₀ L s.heap news) (ha : (a, { cls := .type "tuple", data := .seq (l1.map ovv).toArray }) ∈ news) (hb : (b, { cls := .type "tuple", data := .seq (l2.map ovv).toArray }) ∈ news) (hl : l1.length = l2.length) (hu : A.units < cLine)
    (h : Q (.bool (!decide (xs l1 = xs l2))) s) : wpAny (model prog w) A (compareOp .NotEq (.ref a) (.ref b)) Q E s := by
  have la : s.heap.IsTuple a (l1.map ovv).toArray := ⟨_, (N _ ha).1, rfl, _, rfl⟩
  have lb : s.heap.IsTuple b (l2.map ovv).toArray := ⟨_, (N _ hb).1, rfl, _, rfl⟩
  refine SeqAt.RcNeAt.tuples la lb hu he_xs prog w E Q ?_
  have e := all_xs hl
  have es : (l1.map ovv).toArray.size = l1.length := by simp
  have es2 : (l2.map ovv).toArray.size = l1.length := by simp [hl]
  rw [es, es2, Nat.min_self, e]
  simpa using h
local macro_rules | `(tactic| walk_at "compareOp NotEq ref ref") => `(tactic| (k_here; (with_reducible show wpAny _ _ (compareOp CmpOp.NotEq (Value.ref _) (Value.ref _)) _ _ _); (with_reducible rename MkL _ _ => mkl); k_dflt (first | (refine' ne_tups mkl ?N ?a ?b rfl ?u ?_; (case N => k_asm); (case a => k_mem); (case b => k_mem); (case u => ke_room); k_whole) | (refine' ne_ovs mkl ?N ?a ?b ?u ?_; (case N => k_asm); (case a => k_mem); (case b => k_mem); (case u => ke_room); k_whole))))
noncomputable def lawSt (i : Nat) : Stmt := lawBody.getD i (.Pass ⟨0, 0, 0, 0⟩)
theorem ints4 {ys : List Value} {ms : List Int} (h : IntsAre ys ms) (e : ys.length = 4) : ∃ i0 t0 i1 t1 i2 t2 i3 t3, ys = [.int i0 t0, .int i1 t1, .int i2 t2, .int i3 t3] := by
  cases h with
  | nil => cases e
  | cons a ta h => cases h with
    | nil => cases e
    | cons b tb h => cases h with
      | nil => cases e
      | cons c tc h => cases h with
        | nil => cases e
        | cons d td h => cases h with
          | nil => exact ⟨a, ta, b, tb, c, tc, d, td, rfl⟩
          | cons _ _ _ => simp at e
def CutS (P : P2 → Prop) (x : Str) (h₀ : Heap) (L : Addr) (m : Str → Option Value) (news : List (Addr × Obj)) (s : Shared) (fl : Flow) (s' : Shared) : Prop :=
  fl = .next ∧ ∃ o h' tk', P o ∧ s' = { s with heap := h', toks := tk' } ∧ Fr h₀ L h' (fun y => if y = x then some (ovv o) else m y) ∧ News h₀ L h' news
theorem cutS_s {P : P2 → Prop} {x : Str} {h₀ h' : Heap} {L : Addr} {m : Str → Option Value} {news : List (Addr × Obj)} {s : Shared} {tk' : Nat} {c : Str} {t : Tok} (hc : c.length ≤ 1000) (F : Fr h₀ L h' (fun y => if y = x then some (.str c t) else m y)) (N : News h₀ L h' news) (hP : P (some ⟨c, t, hc⟩)) :
    CutS P x h₀ L m news s .next { s with heap := h', toks := tk' } := ⟨rfl, some ⟨c, t, hc⟩, _, _, hP, rfl, F, N⟩
theorem cutS_n {P : P2 → Prop} {x : Str} {h₀ h' : Heap} {L : Addr} {m : Str → Option Value} {news : List (Addr × Obj)} {s : Shared} {tk' : Nat} (F : Fr h₀ L h' (fun y => if y = x then some .none else m y)) (N : News h₀ L h' news) (hP : P none) :
    CutS P x h₀ L m news s .next { s with heap := h', toks := tk' } := ⟨rfl, none, _, _, hP, rfl, F, N⟩
theorem st_cut {M : Model} {A : Around} {E : Value → Shared → Prop} {s : Shared} {env : Env} {h₀ : Heap} {L : Addr} {m : Str → Option Value} {news : List (Addr × Obj)} {st : Stmt} {Q : Flow → Shared → Prop} (P : P2 → Prop) (x : Str)
    (h : wpAny M A (exec st env) (fun fl s' => CutS P x h₀ L m news s fl s') E s) (k : ∀ o h' tk', P o → Fr h₀ L h' (fun y => if y = x then some (ovv o) else m y) → News h₀ L h' news → Q .next { s with heap := h', toks := tk' }) : wpAny M A (exec st env) Q E s := by
  refine wpAny_mono h (fun fl s' hf => ?_) fun _ _ e => e
  obtain ⟨rfl, o, h', tk', hP, rfl, F', N'⟩ := hf
  exact k o h' tk' hP F' N'
abbrev Two (a b : Option Str) (o : P2) : Prop := o.map Nm.x = a ∨ o.map Nm.x = b
structure Setup (pl : Nm) (ot os ov om : P2) : Prop where
  l : pl.x = Str.ofString "zh" ∨ pl.x = Str.ofString "en"
  s : Two (some (Str.ofString "Hant")) none os
  t : Two (some (Str.ofString "TW")) none ot
  v : Two (some (Str.ofString "POSIX")) none ov
  m : om = none ∨ (om.map Nm.x = some (Str.ofString "euro") ∧ ¬ (os = none ∧ ot = none ∧ ov = none))
local macro_rules | `(tactic| walk_at "CutS") => `(tactic| first | (refine' cutS_s ?c ?F ?N ?P; (case F => k_asm); (case c => decide); (case N => first | k_asm | (refine' cb_drop ?cbN ?cbS; (case cbN => assumption); (case cbS => kcj_all))); (case P => first | exact Or.inl rfl | exact Or.inr rfl | (refine Or.inr ⟨rfl, ?_⟩; rintro ⟨rfl, rfl, rfl⟩; simp_all; done))) | (refine' cutS_n ?F ?N ?P; (case F => k_asm); (case N => first | k_asm | (refine' cb_drop ?cbN ?cbS; (case cbN => assumption); (case cbS => kcj_all))); (case P => first | exact Or.inl rfl | exact Or.inr rfl)))
theorem two_l {o : P2} (h : Two (some (Str.ofString "zh")) (some (Str.ofString "en")) o) : ∃ p : Nm, o = some p ∧ (p.x = Str.ofString "zh" ∨ p.x = Str.ofString "en") := by
  cases o with
  | none => rcases h with h | h <;> cases h
  | some p => exact ⟨p, rfl, h.imp Option.some.inj Option.some.inj⟩
def pv : Value → Bool
  | .str x _ => (x.length : Int) != 0
  | _ => false
theorem pv_ovv (o : P2) : pv (ovv o) = tr o := by cases o <;> rfl
theorem paired_eq {l r : List Value} (h : Paired (fun v r => r = v) l r) : r = l := by
  induction h with
  | nil => rfl
  | cons e _ ih => rw [e, ih]
theorem filter_ovv (items : List P2) : (items.map ovv).filter pv = (items.filter tr).map ovv := by
  induction items with
  | nil => rfl
  | cons o r ih => simp [List.filter_cons, pv_ovv, ih]; split <;> simp
theorem filt_ovv {prog : Program} {w : World} {A : Around} {E : Value → Shared → Prop} {s : Shared} {h₀ : Heap} {L l fa : Addr} {cd : Value} {m : Str → Option Value} {news : List (Addr × Obj)} {items : List P2} {n : Nat} {scope : Scope} {x z : Str} {ifs : List PySem.Expr} {elt : PySem.Expr} {Q : Flow → Shared → Prop}
    (hh : A.handled = none) (F : Fr h₀ L s.heap m) (N : News h₀ L s.heap news) (hl : (l, W.listOf (items.map ovv).toArray n) ∈ news) (hsz : items.length ≤ 100)
    (g1 : ∀ C b s₂ m₂ E', s₂.heap.Ns (compEnv scope C (lawEnv L fa cd)).locals m₂ → m₂ x = some (ovv b) →
      wpAny (model prog w) A (forIn ifs true fun c r => if r = true then do let ok ← isTrue c (compEnv scope C (lawEnv L fa cd)) (eval c (compEnv scope C (lawEnv L fa cd))); pure (ForInStep.yield ok) else pure (ForInStep.yield r)) (fun ok s₃ => ok = tr b ∧ Keeps s₂ s₃) E' s₂)
    (g2 : ∀ C b s₂ m₂ E', s₂.heap.Ns (compEnv scope C (lawEnv L fa cd)).locals m₂ → m₂ x = some (ovv b) → wpAny (model prog w) A (eval elt (compEnv scope C (lawEnv L fa cd))) (fun r s₃ => r = ovv b ∧ Keeps s₂ s₃) E' s₂)
    (k : ∀ D n' h' tk, Fr h₀ L h' (fun q => if q = z then some (.ref D) else m q) → News h₀ L h' ((D, W.listOf ((items.filter tr).map ovv).toArray n') :: news) → Q .next { s with heap := h', toks := tk }) :
    wpAny (model prog w) A (pyIter (.ref l)) (CompPostA prog w A (lawEnv L fa cd) scope x z ifs elt Q) E s := by
  have hL : s.heap.IsList l (items.map ovv).toArray := ⟨_, (N _ hl).1, rfl, n, rfl⟩
  have hlt : l < s.heap.objs.size := Heap.lt_size (N _ hl).1
  have it : ∀ (i : Nat) (v : Value), (items.map ovv).toArray[i]? = some v → ∃ b, v = ovv b := fun i v hv => by
    have hv' : (items.map ovv)[i]? = some v := by simpa using hv
    rw [List.getElem?_map] at hv'
    cases hb : items[i]? with
    | none => rw [hb] at hv'; cases hv'
    | some b => rw [hb] at hv'; cases hv'; exact ⟨b, rfl⟩
  refine wpAny_pyIter_list hL ⟨pv, fun v r => r = v, s.heap.objs.size, [s.heap.objs.size, l], [s.heap.objs.size], (items.map ovv).toArray.size, _, _, m, rfl, Walks.list hh _ l (Nat.ne_of_lt hlt) _, (by rw [sizeLine_eq]; simp; omega), ⟨⟨_, Heap.get?_push_size _ rfl, rfl, rfl⟩, hL.at fun o e => Heap.get?_push_of_some _ e⟩, ?_, ?_, (F.push _).ns, ⟨?_, ?_⟩, ?_⟩
  · intro b hb
    show b < (s.heap.push _).objs.size
    rw [Heap.size_push]
    rcases List.mem_cons.mp hb with rfl | hb
    · exact Nat.lt_succ_self _
    · rw [List.mem_singleton.mp hb]; exact Nat.lt_succ_of_lt hlt
  · intro hm
    exact absurd F.ns.lt ((List.mem_singleton.mp hm) ▸ Nat.lt_irrefl _)
  · intro C i v s₃ m₃ E' hP hn hm _ _
    obtain ⟨b, rfl⟩ := it i v hP
    rw [pv_ovv]
    exact g1 C b s₃ m₃ E' hn hm
  · intro C i v s₃ m₃ E' hP _ hn hm _ _
    obtain ⟨b, rfl⟩ := it i v hP
    exact g2 C b s₃ m₃ E' hn hm
  · intro D h' tk ys vs hnew _ hpl hlen hP hF hn' hk
    have e' : vs = items.map ovv := by simpa using walked_is hlen hP
    subst e'
    have ey : ys = ((items.filter tr).map ovv).toArray := by
      have := paired_eq hF
      rw [filter_ovv] at this
      rw [← this]
    have up : ∀ b o, b ≠ L → s.heap.get? b = some o → h'.get? b = some o := fun b o hb e => hk b o hb (fun hm => absurd (Heap.lt_size e) ((List.mem_singleton.mp hm) ▸ Nat.lt_irrefl _)) (Heap.get?_push_of_some _ e)
    obtain ⟨n', hpl⟩ := hpl
    subst ey
    refine k D n' h' tk ⟨hn', fun b o e => up b o (Nat.ne_of_lt (Nat.lt_of_lt_of_le (Heap.lt_size e) F.above)) (F.keep b o e), F.above⟩ fun p hp => ?_
    rcases List.mem_cons.mp hp with rfl | hp
    · refine ⟨hpl, fun e => ?_, ?_⟩
      · have hLs := (F.push { cls := .type "list_iterator", data := .fields #[.ref l, .int 0 0] }).ns.lt
        dsimp only at e
        obtain ⟨o, _, _, ho, _⟩ := (F.push { cls := .type "list_iterator", data := .fields #[.ref l, .int 0 0] }).ns
        subst e
        rw [hnew] at ho
        cases ho
      · cases e : h₀.get? D with
        | none => rfl
        | some o' => rw [Heap.get?_push_of_some _ (F.keep _ _ e)] at hnew; cases hnew
    · exact ⟨up _ _ (N p hp).2.1 (N p hp).1, (N p hp).2⟩
theorem fr_dup {h₀ h : Heap} {L : Addr} {z : Str} {a b : Option Value} {m : Str → Option Value} (F : Fr h₀ L h (fun q => if q = z then a else if q = z then b else m q)) : Fr h₀ L h (fun q => if q = z then a else m q) := by
  have e : (fun q => if q = z then a else if q = z then b else m q) = (fun q => if q = z then a else m q) := by
    funext q
    by_cases h : q = z
    · simp [h]
    · simp [h]
  rwa [e] at F
theorem tr_ne {q : Nm} {b : Bool} (h : (q.x != Str.ofString "") = b) : b = tr (some q) := by
  cases b with
  | true =>
    cases e : tr (some q) with
    | true => rfl
    | false => rw [tr_false e] at h; simp at h
  | false =>
    have e : q.x = Str.ofString "" := by simpa using h
    show false = ((q.x.length : Int) != 0)
    rw [e]; rfl
theorem filt_tup {prog : Program} {w : World} {A : Around} {E : Value → Shared → Prop} {s : Shared} {h₀ : Heap} {L l : Addr} {env : Env} {m : Str → Option Value} {news : List (Addr × Obj)} {items : List P2} {n : Nat} {scope : Scope} {x : Str} {ifs : List PySem.Expr} {elt : PySem.Expr} {Q : Value → Shared → Prop}
    (hh : A.handled = none) (F : Fr h₀ L s.heap m) (N : News h₀ L s.heap news) (hl : (l, { cls := .type "tuple", data := .seq (items.map ovv).toArray n }) ∈ news) (hsz : items.length ≤ 100)
    (g1 : ∀ C b s₂ m₂ E', s₂.heap.Ns (compEnv scope C env).locals m₂ → m₂ x = some (ovv b) →
      wpAny (model prog w) A (forIn ifs true fun c r => if r = true then do let ok ← isTrue c (compEnv scope C env) (eval c (compEnv scope C env)); pure (ForInStep.yield ok) else pure (ForInStep.yield r)) (fun ok s₃ => ok = tr b ∧ Keeps s₂ s₃) E' s₂)
    (g2 : ∀ C b s₂ m₂ E', s₂.heap.Ns (compEnv scope C env).locals m₂ → m₂ x = some (ovv b) → wpAny (model prog w) A (eval elt (compEnv scope C env)) (fun r s₃ => r = ovv b ∧ Keeps s₂ s₃) E' s₂)
    (k : ∀ D n' h' tk, Fr h₀ L h' m → News h₀ L h' ((D, W.listOf ((items.filter tr).map ovv).toArray n') :: news) → Q (.ref D) { s with heap := h', toks := tk }) :
    wpAny (model prog w) A (pyIter (.ref l)) (CompPost prog w A env scope x ifs elt Q) E s := by
  have hL : s.heap.IsTuple l (items.map ovv).toArray := ⟨_, (N _ hl).1, rfl, n, rfl⟩
  have hlt : l < s.heap.objs.size := Heap.lt_size (N _ hl).1
  have it : ∀ (i : Nat) (v : Value), (items.map ovv).toArray[i]? = some v → ∃ b, v = ovv b := fun i v hv => by
    have hv' : (items.map ovv)[i]? = some v := by simpa using hv
    rw [List.getElem?_map] at hv'
    cases hb : items[i]? with
    | none => rw [hb] at hv'; cases hv'
    | some b => rw [hb] at hv'; cases hv'; exact ⟨b, rfl⟩
  refine wpAny_pyIter_tuple hL ⟨pv, fun v r => r = v, s.heap.objs.size, [s.heap.objs.size, l], [s.heap.objs.size], (items.map ovv).toArray.size, _, _, rfl, Walks.tuple hh _ l (Nat.ne_of_lt hlt) _, (by rw [sizeLine_eq]; simp; omega), ⟨⟨_, Heap.get?_push_size _ rfl, rfl, rfl⟩, hL.at fun o e => Heap.get?_push_of_some _ e⟩, ?_, ⟨?_, ?_⟩, ?_⟩
  · intro b hb
    show b < (s.heap.push _).objs.size
    rw [Heap.size_push]
    rcases List.mem_cons.mp hb with rfl | hb
    · exact Nat.lt_succ_self _
    · rw [List.mem_singleton.mp hb]; exact Nat.lt_succ_of_lt hlt
  · intro C i v s₃ m₃ E' hP hn hm _ _
    obtain ⟨b, rfl⟩ := it i v hP
    rw [pv_ovv]
    exact g1 C b s₃ m₃ E' hn hm
  · intro C i v s₃ m₃ E' hP _ hn hm _ _
    obtain ⟨b, rfl⟩ := it i v hP
    exact g2 C b s₃ m₃ E' hn hm
  · intro D h' tk ys vs hnew _ hpl hlen hP hF hk
    have e' : vs = items.map ovv := by simpa using walked_is hlen hP
    subst e'
    have ey : ys = ((items.filter tr).map ovv).toArray := by
      have := paired_eq hF
      rw [filter_ovv] at this
      rw [← this]
    have up : ∀ b o, s.heap.get? b = some o → h'.get? b = some o := fun b o e => hk b o (fun hm => absurd (Heap.lt_size e) ((List.mem_singleton.mp hm) ▸ Nat.lt_irrefl _)) (Heap.get?_push_of_some _ e)
    obtain ⟨n', hpl⟩ := hpl
    subst ey
    refine k D n' h' tk (F.keeps up) fun p hp => ?_
    rcases List.mem_cons.mp hp with rfl | hp
    · refine ⟨hpl, fun e => ?_, ?_⟩
      · dsimp only at e
        obtain ⟨o, _, _, ho, _⟩ := (F.push { cls := .type "tuple_iterator", data := .fields #[.ref l, .int 0 0] }).ns
        subst e
        rw [hnew] at ho
        cases ho
      · cases e : h₀.get? D with
        | none => rfl
        | some o' => rw [Heap.get?_push_of_some _ (F.keep _ _ e)] at hnew; cases hnew
    · exact ⟨up _ _ (N p hp).1, (N p hp).2⟩
section
variable {prog : Program} {w : World} {A : Around} {E : Value → Shared → Prop} {s : Shared}
theorem applied_to5 {sl : Addr} {u : Tok} {Q : Int × Int × Nat → Shared → Prop} (hs : s.heap.IsSliceOf sl .none (.int 5 u) .none) (h : Q ((0 : Int), 1, 5) s) :
    wpAny (model prog w) A (Builtin.Slice.sliceApplied (.ref sl) (pure (5 : Int))) Q E s := by
  obtain ⟨os, hos, hcs, hds⟩ := id hs
  unfold Builtin.Slice.sliceApplied Builtin.Slice.sliceFields
  refine wpAny_bind (wpAny_bind (wpAny_field hos hds (x := .none) rfl (wpAny_bind (wpAny_field hos hds (x := .int 5 u) rfl (wpAny_bind (wpAny_field hos hds (x := .none) rfl (wpAny_pure ?_)))))))
  refine wpAny_bind (slicePart_none ?_)
  show wpAny _ _ (if ((1 : Int) == 0) = true then _ else _) _ _ s
  rw [if_neg (by decide)]
  refine wpAny_bind (slicePart_none (wpAny_bind (slicePart_int (wpAny_bind (wpAny_pure ?_)))))
  exact wpAny_pure h
theorem getItem_whole5 {t sl : Addr} {a b c d e : Value} {u : Tok} {Q : Value → Shared → Prop} (ht : IsTup s.heap t #[a, b, c, d, e]) (hs : s.heap.IsSliceOf sl .none (.int 5 u) .none) (h : Q (.ref t) s) :
    wpAny (model prog w) A (getItem (.ref t) (.ref sl)) Q E s := by
  obtain ⟨os, hos, hcs, hds⟩ := id hs
  have hTs : s.TypeIs (.ref sl) "slice" := ⟨os, hos, hcs⟩
  unfold getItem
  try with_reducible refine wpAny_holding ?_
  first | refine wpAny_bind (wpAny_pure ?_) | skip
  refine wpAny_bind (wpAny_sequenceKey ht.typeIs (by decide) ?_)
  refine wpAny_bind (wpAny_callSpecial?_slot (name := Str.ofString "__getitem__") ht.typeIs slot_tuple_getitem
    (wpAny_call_entry slot_tuple_getitem ht.typeIs entry_tuple_getitem ?_ (args_tuple_getitem _ _)))
  show wpAny _ _ (Builtin.Tuple.tupleItemsOf (.ref t) >>= _) _ _ s
  refine wpAny_bind (tupleItemsOf_ ht ?_)
  refine wpAny_bind (wpAny_typeOf hTs ?_)
  rw [if_pos (by decide)]
  refine wpAny_bind (applied_to5 hs ?_)
  show wpAny _ _ (if (((0 : Int) == 0 && (1 : Int) == 1 && ((5 : Nat) == 5)) = true) then _ else _) _ _ s
  rw [if_pos (by decide)]
  refine wpAny_bind ?_
  unfold Builtin.Tuple.tupleIsExact
  refine wpAny_bind (wpAny_typeOf ht.typeIs (wpAny_pure ?_))
  rw [if_pos (by decide)]
  refine wpAny_bind (wpAny_rule ?_)
  exact wpAny_pure ⟨_, rfl, wpAny_pure h⟩
end
theorem slice_whole5 {prog : Program} {w : World} {A : Around} {E : Value → Shared → Prop} {s : Shared} {h₀ : Heap} {L t : Addr} {m : Str → Option Value} {news : List (Addr × Obj)} {value slice : PySem.Expr} {a b c d e : Value} {u : Tok} {n : Nat} {Q : Value → Shared → Prop}
    (F : Fr h₀ L s.heap m) (N : News h₀ L s.heap news) (ht : (t, { cls := .type "tuple", data := .seq #[a, b, c, d, e] n }) ∈ news)
    (h : ∀ h', Fr h₀ L h' m → News h₀ L h' news → Q (.ref t) { s with heap := h' })
    (hs : subscripted slice false (.ref t) (.ref s.heap.objs.size) = operate [.ref s.heap.objs.size, .ref t] (getItem (.ref t) (.ref s.heap.objs.size)))
    (hg : ∀ r, letTemporaryGo value (.ref t) r = pure ()) :
    wpAny (model prog w) A (subscriptTail value slice (.ref t) (.ref s.heap.objs.size)) Q E { s with heap := s.heap.push { cls := .type "slice", data := .fields #[.none, .int 5 u, .none] } } := by
  have N1 := N.grown (h' := s.heap.push { cls := .type "slice", data := .fields #[.none, .int 5 u, .none] }) fun _ _ e => Heap.get?_push_of_some _ e
  have ht' : IsTup (s.heap.push { cls := .type "slice", data := .fields #[.none, .int 5 u, .none] }) t #[a, b, c, d, e] := News.isTup N1 ht
  exact subscriptTail_ops (s := { s with heap := s.heap.push { cls := .type "slice", data := .fields #[.none, .int 5 u, .none] } }) ht'.typeIs slot_tuple_getitem.lookup
    (getItem_whole5 ht' (Heap.IsSliceOf.new ..) (h _ (F.push _) N1)) hs hg
local macro_rules | `(tactic| walk_at "subscriptTail Name Slice ref ref") => `(tactic| (k_here; (with_reducible show wpAny _ _ (subscriptTail _ (PySem.Expr.Slice _ _ none _) (Value.ref _) (Value.ref _)) _ _ _); k_dflt (refine' slice_whole5 ?F ?N ?l ?_ ?s ?t; (case F => k_asm); (case N => k_asm); (case l => k_mem); (case s => with_unfolding_all rfl); (case t => kmk_pure)); intro h' F' N'))
theorem noFill_tuple_mul9 : fillsNumberSlot (.type "tuple") "mul" = pure false :=
  PySem.fillsNumberSlot_seq (id := "tuple.__mul__") (r := some (.builtin "tuple.__rmul__")) F.slot_tuple_mul.lookup (by decide +kernel) F.slot_tuple_rmul.lookup (by decide +kernel)
theorem repeat_tuple9 : seqRepeat? (.type "tuple") = pure (some (.builtin "tuple.__mul__")) := by
  unfold seqRepeat?
  rw [PySem.seqSlot_of (T := "tuple") (name := "__mul__") (id := "tuple.__mul__") F.slot_tuple_mul.lookup (by decide +kernel), PySem.seqSlot_of (T := "tuple") (name := "__rmul__") (id := "tuple.__rmul__") F.slot_tuple_rmul.lookup (by decide +kernel)]
  rfl
theorem rmul_tuple9 (a : Int) (t : Tok) (l : Addr) (items : Array Value) (n : Nat) :
    Meets (Builtin.«int.__rmul__» ⟨[.int a t, .ref l], []⟩) (fun _ R s => s.heap.get? l = some { cls := .type "tuple", dict := none, data := .seq items n, slots := #[] } ∧ R (.ok (.ret Value.notImplemented)) s) :=
  .of_wp fun prog w A R s h => by obtain ⟨hp, g, d, tk, os⟩ := s; obtain ⟨hl, h⟩ := h; wp_walk; exact ⟨_, rfl, h⟩
theorem mul_tuple9 (t : Tok) (l : Addr) (v : Value) (n : Nat) :
    Meets (Builtin.«tuple.__mul__» ⟨[.ref l, .int 0 t], []⟩) (fun _ R s => s.heap.get? l = some { cls := .type "tuple", dict := none, data := .seq #[v] n, slots := #[] } ∧ R (.ok (.ret (.ref s.heap.objs.size))) { s with heap := s.heap.push { cls := .type "tuple", data := .seq #[] } }) :=
  .of_wp fun prog w A R s h => by obtain ⟨hp, g, d, tk, os⟩ := s; obtain ⟨hl, h⟩ := h; wp_walk; exact ⟨_, rfl, h⟩
theorem mul_tup0 {prog : Program} {w : World} {A : Around} {E : Value → Shared → Prop} {s : Shared} {h₀ : Heap} {L t : Addr} {m : Str → Option Value} {news : List (Addr × Obj)} {v : Value} {u : Tok} {n : Nat} {Q : Value → Shared → Prop}
    (F0 : Fr h₀ L s.heap m) (N : News h₀ L s.heap news) (ht : (t, { cls := .type "tuple", data := .seq #[v] n }) ∈ news)
    (h : ∀ D h', Fr h₀ L h' m → News h₀ L h' ((D, { cls := .type "tuple", data := .seq #[] }) :: news) → Q (.ref D) { s with heap := h' }) : wpAny (model prog w) A (binaryOp .Mult (.ref t) (.int (5 - 5) u)) Q E s := by
  have hl := (N _ ht).1
  dsimp only at hl
  exact wpAny_binaryOp_repeat_ref (T := "tuple") (U := "int") (by decide) ⟨_, hl, rfl⟩ (fun s' => typeIs_int s' _ u) noFill_tuple_mul9 F.fills_int_mul F.slot_int_rmul repeat_tuple9 F.slot_int_index.lookup
    (call_meets F.slot_int_rmul (typeIs_int s _ u) F.entry_int_rmul (F.args_int_rmul_2 _ _) (rmul_tuple9 _ u t _ n)
      ⟨hl, rfl, ⟨_, hl, rfl⟩, call_meets F.slot_tuple_mul ⟨_, hl, rfl⟩ F.entry_tuple_mul (F.args_tuple_mul_2 _ _)
        (mul_tuple9 u t v n) ⟨hl, h _ _ (F0.push _) (News.push F0 N _)⟩⟩)
local macro_rules | `(tactic| walk_at "binaryOp Mult ref int") => `(tactic| (k_here; k_dflt (refine' mul_tup0 ?F ?N ?l ?_; (case F => k_asm); (case N => k_asm); (case l => k_mem)); intro D' h' F' N'))
theorem strs_of {items : List P2} (h : ∀ o ∈ items, tr o = true) : StrsAre (items.map ovv) (items.map nmx) := by
  induction items with
  | nil => exact .nil
  | cons o r ih =>
    cases o with
    | none => cases h _ (.head _)
    | some p => exact .cons _ _ (ih fun o ho => h o (.tail _ ho))
theorem join_items {prog : Program} {w : World} {A : Around} {E : Value → Shared → Prop} {s : Shared} {h₀ : Heap} {L a : Addr} {news : List (Addr × Obj)} {items : List P2} {n : Nat} {sep : Str} {t : Tok} {Q : Value → Shared → Prop}
    (N : News h₀ L s.heap news) (ha : (a, W.listOf (items.map ovv).toArray n) ∈ news) (htr : ∀ o ∈ items, tr o = true) (hsm : ∀ o ∈ items, Sm o) (hlen : items.length ≤ 4) (hsep : sep.length ≤ 2)
    (k : ∀ (p : Nm) tk, p.x = Str.join sep (items.map nmx) → p.x.length ≤ 300 → Q (.str (Nm.x p) (Nm.t p)) { s with toks := tk }) : wpAny (model prog w) A (call (.builtin "str.join") [.str sep t, .ref a]) Q E s := by
  have hk : ∀ x ∈ items.map nmx, x.length ≤ 64 := by
    intro x hx
    obtain ⟨o, ho, rfl⟩ := List.mem_map.mp hx
    cases o with
    | none => show (Str.ofString "").length ≤ 64; decide
    | some p => exact hsm _ ho p rfl
  have hsum : ((items.map nmx).map (·.length)).sum ≤ (items.map nmx).length * 64 := by
    have : ∀ l : List Str, (∀ x ∈ l, x.length ≤ 64) → (l.map (·.length)).sum ≤ l.length * 64 := by
      intro l
      induction l with
      | nil => intro _; simp
      | cons x r ih =>
        intro h
        have := h x (.head _)
        have := ih fun y hy => h y (.tail _ hy)
        simp only [List.map_cons, List.sum_cons, List.length_cons]
        omega
    exact this _ hk
  have hlm : (items.map nmx).length ≤ 4 := by simpa using hlen
  have hms : (items.map nmx).length * sep.length ≤ 4 * 2 := Nat.mul_le_mul hlm hsep
  have hjl : (Str.join sep (items.map nmx)).length ≤ 300 := by
    have h1 := StrLaws.join_length_le sep (items.map nmx)
    omega
  have ej : Txt.join sep (items.map nmx) = Str.join sep (items.map nmx) := beq_iff_eq.mp (join_plain_closes _ _)
  refine join_list (ys := items.map nmx) ⟨_, (N _ ha).1, rfl, n, rfl⟩ (strs_of htr) (by omega) fun t' tk => ?_
  rw [ej]
  exact k ⟨_, t', by omega⟩ tk rfl hjl
structure MkJ (items : List P2) : Prop where
  tr : ∀ o ∈ items, tr o = true
  sm : ∀ o ∈ items, Sm o
  len : items.length ≤ 4
theorem mkJ_of {l items : List P2} (e : items = l.filter tr) (h : ∀ o ∈ l, Sm o) (hl : l.length ≤ 4) : MkJ items := by
  subst e
  exact ⟨fun o ho => (List.mem_filter.mp ho).2, fun o ho => h o (List.mem_filter.mp ho).1, Nat.le_trans (List.length_filter_le _ _) hl⟩
def dueX (R : P2) (items : List P2) : Option Str :=
  if (tr R && !decide (xs items = [])) = true then some (nmx R ++ (Str.ofString " (" ++ Str.join (Str.ofString ", ") (items.map nmx) ++ Str.ofString ")")) else R.map Nm.x
local macro_rules | `(tactic| walk_at "call builtin:str.join") => `(tactic| (k_here; (with_reducible show wpAny _ _ (call (Value.builtin "str.join") [Value.str _ _, Value.ref _]) _ _ _); (with_reducible rename MkJ _ => mkj); k_dflt (refine' join_items ?N ?a mkj.tr mkj.sm mkj.len ?s ?_; (case N => k_asm); (case a => k_mem); (case s => decide); k_whole); intro p' tk' hp' hpl'))
local macro_rules | `(tactic| walk_at "binaryOp Add str str") => `(tactic| (k_dflt (refine' PyProof.Rows.add_str ?_ ?z9; (case z9 => (simp only [Str.length_append, lenA, lenB, lenE, sizeLine_eq]; omega))); intro u9 tk9))
local macro_rules | `(tactic| walk_at "call builtin:dict.get") => `(tactic| (k_here; (with_reducible show wpAny _ _ (call (Value.builtin "dict.get") [Value.ref _, Value.str (Nm.x _) (Nm.t _)]) _ _ _); k_dflt (refine' tab_get (k := some _) ?T ?N ?p ?l ?k ?_; (case N => k_asm); (case p => k_mem); (case T => assumption); (case l => assumption); (case k => assumption); k_whole)))
theorem ovv_some (p : Nm) : ovv (some p) = .str p.x p.t := rfl
theorem ovv_none : ovv none = .none := rfl
theorem ce1 {q : Nm} {items : List P2} (a : (q.x != Str.ofString "") = true) (e : xs items = xs []) : false = (tr (some q) && !decide (xs items = [])) := by
  rw [← tr_ne a, decide_eq_true (show xs items = [] from e)]; rfl
theorem ce2 {q : Nm} {items : List P2} (a : (q.x != Str.ofString "") = true) (e : ¬ xs items = xs []) : true = (tr (some q) && !decide (xs items = [])) := by
  rw [← tr_ne a, decide_eq_false (show ¬ xs items = [] from e)]; rfl
theorem ce3 {q : Nm} {items : List P2} (a : (q.x != Str.ofString "") = false) : false = (tr (some q) && !decide (xs items = [])) := by
  rw [← tr_ne a]; rfl
local macro_rules | `(tactic| walk_at "CutB") => `(tactic| (refine' cutB_i ?e ?F ?N; (case F => k_asm); (case N => first | k_asm | (refine' cb_drop ?cbN ?cbS; (case cbN => assumption); (case cbS => kcj_all))); (case e => first | rfl | exact ce1 (by assumption) (by assumption) | exact ce2 (by assumption) (by assumption) | exact ce3 (by assumption))))
theorem dueX_no {R : P2} {items : List P2} (h : ¬ (tr R && !decide (xs items = [])) = true) : R.map Nm.x = dueX R items := by unfold dueX; rw [if_neg h]
theorem dueX_yes {q : Nm} {items : List P2} {js x : Str} (h : (tr (some q) && !decide (xs items = [])) = true) (hj : js = Str.join (Str.ofString ", ") (items.map nmx)) (hx : x = q.x ++ Str.ofString " (" ++ js ++ Str.ofString ")") : some x = dueX (some q) items := by
  unfold dueX
  rw [if_pos h, hx, ← hj]
  simp only [nmx, Option.map_some, Option.getD_some, Str.append_assoc]
def ident (o1 o2 o3 o4 o5 : P2) : Str :=
  if tr o5 = true then Str.join (Str.ofString "_") ((List.filter tr [o1, o3, o2, o4]).map nmx) ++ Str.ofString "@" ++ nmx o5 else Str.join (Str.ofString "_") ((List.filter tr [o1, o3, o2, o4]).map nmx)
theorem ident_at {o1 o2 o3 o4 : P2} {q : Nm} {js : Str} (h : tr (some q) = true) (hj : js = Str.join (Str.ofString "_") ((List.filter tr [o1, o3, o2, o4]).map nmx)) : Str.empty ++ js ++ Str.ofString "@" ++ q.x = ident o1 o2 o3 o4 (some q) := by
  unfold ident
  rw [if_pos h, ← hj, Str.empty_append]
  rfl
theorem mem1 {a : Addr × Obj} {news : List (Addr × Obj)} (ha : a ∈ news) : ∀ q ∈ [a], q ∈ news := by
  intro q hq
  rw [List.mem_singleton.mp hq]; exact ha
theorem lenAt : (Str.ofString "@").length = 1 := by decide
local macro_rules | `(tactic| walk_at "execs cons") => `(tactic| refine wpAny_execs_cons ?_)
local macro_rules | `(tactic| walk_at "formatField") => `(tactic| ((with_reducible show wpAny _ _ (formatField (Value.str (Nm.x _) (Nm.t _)) _) _ _ _); k_dflt (refine' ff_nm (Nm.short _) ?_); intro u9 tk9))
local macro_rules | `(tactic| walk_at "And") => `(tactic| ((with_reducible show Str.length _ ≤ sizeLine ∧ _); refine' ⟨?z9, ?_⟩; (case z9 => (simp only [Str.length_append, lenAt, lenE, sizeLine_eq]; omega))))
set_option maxHeartbeats 8000000 in
theorem gli {w : World} {base h₀ : Heap} {A₀ : Around} {d u : Nat} {gd : Option (List Code)} {env : Env} {outer : List Env} {L : Addr} {m : Str → Option Value} {news : List (Addr × Obj)} {s : Shared} {Q E : Value → Shared → Prop} {mg mb : Str → Option Value} {mean : ExcName → Option Value} {p : Program} {loose : List Str}
   (hdp : d + 8 < recursionLimit) (hf : env.frame = some L) (hke : env.scope.kind = .function) (B : Below A₀ base outer h₀) (F : Fr h₀ L s.heap m) (X₀ : (hd.heap_39 w.params).In h₀) (N : News h₀ L s.heap news) (T : Top p loose mean mg mb h₀)
   {o1 o2 o3 o4 o5 : P2} {t : Addr} {n : Nat} (ht : (t, { cls := .type "tuple", data := .seq #[ovv o1, ovv o2, ovv o3, ovv o4, ovv o5] n }) ∈ news) (hsm : ∀ o ∈ [o1, o2, o3, o4, o5], Sm o)
   (k : ∀ (p : Nm) h' tk', p.x = ident o1 o2 o3 o4 o5 → Fr h₀ L h' m → News h₀ L h' news → Q (.str (Nm.x p) (Nm.t p)) {s with heap := h', toks := tk'}) :
   wpAny (model Challenge.rw_nk0010_01.row.prog w) { handled := none, depth := d, frames := some (env :: outer), guards := gd, units := u } (call (.ref 195) [.ref t]) Q E s := by
  have fin : ∀ (p : Nm) h' tk' small', p.x = ident o1 o2 o3 o4 o5 → News h₀ L h' small' → Fr h₀ L h' m → (∀ q ∈ [(t, ({ cls := .type "tuple", data := .seq #[ovv o1, ovv o2, ovv o3, ovv o4, ovv o5] n } : Obj))], q ∈ small') →
      SB news [(t, ({ cls := .type "tuple", data := .seq #[ovv o1, ovv o2, ovv o3, ovv o4, ovv o5] n } : Obj))] Q (.ok (.ret (.str (Nm.x p) (Nm.t p)))) {s with heap := h', toks := tk'} :=
    fun p h' tk' small' e N' F' hs => sb_keep N (mem1 ht) N' hs fun hN => k p h' tk' e F' hN
  have mkj : MkJ (List.filter tr [o1, o3, o2, o4]) := mkJ_of rfl (fun o ho => hsm o (by simp only [List.mem_cons, List.not_mem_nil, or_false] at ho ⊢; rcases ho with h | h | h | h <;> simp [h])) (Nat.le_of_ble_eq_true rfl)
  have hs5 := hsm o5 (by simp)
  k_dflt (refine' call_s [(t, ({ cls := .type "tuple", data := .seq #[ovv o1, ovv o2, ovv o3, ovv o4, ovv o5] n } : Obj))] B F X₀ N T (mem1 ht) rfl hf hke ?k6 ?k7 ?k8 ?k9 ?kB ?_ ?c2 ?c3 ?c4 ?c5; (case k6 => k_is); (case k7 => k_is); (case k8 => k_room); (case k9 => first | exact BindsTo.of_eq rfl | exact binds_K (by k_in) rfl (by k_is) rfl rfl rfl); (case c5 => decide); (case kB => exact locs rfl); (case c2 => exact rfl); (case c3 => exact rfl); (case c4 => exact rfl); k_whole)
  clear B F X₀ N T ht k
  intro g' L' h' tk FG' F' N' B' X' T' l1; (try k_lt l1); (try dsimp only); (try k_fold)
  repeat' (walk_at "STEP1")
  refine' filt_tup (items := [o1, o3, o2, o4]) rfl ?F ?N ?l (Nat.le_of_ble_eq_true rfl) ?g1 ?g2 ?k
  case F => k_asm
  case N => k_asm
  case l => k_mem
  case g1 =>
    clear fin hsm mkj hs5 B' X' T'
    intro C b s₂ m₂ E' hn hm
    rw [List.forIn_cons]
    refine wpAny_bind ?_
    rw [if_pos rfl]
    refine wpAny_bind ?_
    refine isTrue_plain (wpAny_Name (wpAny_loadName_local rfl rfl hn hm (ov_truthy fun tk' => ?_)) (by decide))
    refine wpAny_pure ?_
    dsimp only
    rw [List.forIn_nil]
    exact wpAny_pure ⟨rfl, _, _, rfl, fun _ _ e => e⟩
  case g2 =>
    clear fin hsm mkj hs5 B' X' T'
    intro C b s₂ m₂ E' hn hm
    refine wpAny_Name (wpAny_loadName_local rfl rfl hn hm ?_) (by decide)
    exact ⟨rfl, _, _, rfl, fun _ _ e => e⟩
  case k =>
    intro D' n' h' tk' F' N'
    try k_sweep
    repeat' (walk_at "STEP1")
    · cases o5 with
      | none => rename tr none = true => h9; cases h9
      | some q =>
        have hq := hs5 q rfl
        dsimp only [ovv_some]
        repeat' (walk_at "STEP1")
        refine leaveK_ (by assumption) (by assumption) fun kF kN => fin ⟨_, _, ?bb9⟩ _ _ _ ?ee9 kN kF ?qq9
        case ee9 => exact ident_at (by assumption) (by assumption)
        case bb9 => simp only [Str.length_append, lenAt, lenE]; omega
        case qq9 => intro q hq; rw [List.mem_singleton.mp hq]; repeat (first | exact List.Mem.head _ | refine List.Mem.tail _ ?_)
    · refine leaveK_ (by assumption) (by assumption) fun kF kN => fin _ _ _ _ ?e2 kN kF ?q2
      case e2 => unfold ident; rw [if_neg (by rw [(by assumption : tr o5 = false)]; decide)]; assumption
      case q2 => intro q hq; rw [List.mem_singleton.mp hq]; repeat (first | exact List.Mem.head _ | refine List.Mem.tail _ ?_)
end
section
theorem off_Parse : True := by
  w_top off
  exact trivial
local macro_rules | `(tactic| k_mem) => `(tactic| assumption)
local macro_rules | `(tactic| walk_at "compareOp Eq") => `(tactic| ((with_reducible show wpAny _ _ (compareOp CmpOp.Eq (ovv _) (ovv _)) _ _ _); refine ov_eq ?_))
local macro_rules | `(tactic| walk_at "compareOp NotEq") => `(tactic| ((with_reducible show wpAny _ _ (compareOp CmpOp.NotEq (ovv _) (ovv _)) _ _ _); refine ov_ne ?_))
local macro_rules | `(tactic| walk_at "compareOp Is") => `(tactic| ((with_reducible show wpAny _ _ (compareOp CmpOp.Is (ovv _) Value.none) _ _ _); refine ov_isNone ?_))
local macro_rules | `(tactic| walk_at "compareOp IsNot") => `(tactic| ((with_reducible show wpAny _ _ (compareOp CmpOp.IsNot (ovv _) Value.none) _ _ _); refine ov_isNotNone ?_))
local macro_rules | `(tactic| walk_at "truthy") => `(tactic| ((with_reducible show wpAny _ _ (truthy (ovv _)) _ _ _); refine ov_truthy ?_; intro tk))
local macro_rules | `(tactic| k_handed) => `(tactic| exact handedIn_ovv _)
local macro_rules | `(tactic| walk_at "call builtin:hasattr") => `(tactic| (k_here; k_dflt (refine' hasattr_K ?k1 ?k2 ?k3 ?k4 ?k5 ?k6 ?k7 ?k8 ?k9 ?k10 ?_; (case k1 => k_asm); (case k2 => k_asm); (case k3 => k_inst); (case k4 => k_is); (case k5 => k_is); (case k6 => k_is); (case k7 => k_is); (case k8 => k_is); (case k9 => k_get); (case k10 => k_handed); k_whole)))
local macro_rules | `(tactic| walk_at "call builtin:getattr") => `(tactic| (k_here; k_dflt (refine' getattr_K ?k1 ?k2 ?k3 ?k4 ?k5 ?k6 ?k7 ?k9 ?k10 ?_; (case k1 => k_asm); (case k2 => k_asm); (case k3 => k_inst); (case k4 => k_is); (case k5 => k_is); (case k6 => k_is); (case k7 => k_is); (case k9 => k_get); (case k10 => k_handed); k_whole)))
local macro_rules | `(tactic| k_room) => `(tactic| ((try simp only [depth_under_make, depth_under_kw, depth_in1, depth_deeper, depth_caller]); omega))
local macro_rules | `(tactic| walk_at "subscriptTail") => `(tactic| (k_here; (with_reducible show wpAny _ _ (subscriptTail _ _ (Value.ref _) (Value.str _ _)) _ _ _); k_dflt (refine' kdt_tail (knd := PySem.strKind _ _) ?N ?p ?d ?_; (case N => k_asm); (case p => k_mem); (case d => unfold DataIs at *; assumption); k_whole)))
local macro_rules | `(tactic| walk_at "subscriptTail Attribute Name Constant ref str") => `(tactic| (k_here; (with_reducible show wpAny _ _ (subscriptTail _ _ (Value.ref _) (Value.str _ _)) _ _ _); k_dflt (refine' kdt_tail (knd := PySem.strKind _ _) ?N ?p ?d ?_; (case N => k_asm); (case p => k_mem); (case d => unfold DataIs at *; assumption); k_whole)))
local macro_rules | `(tactic| walk_at "getItem ref str") => `(tactic| (k_here; k_dflt (refine' data_item ?d ?N ?p ?l ?_; (case N => k_asm); (case p => k_mem); (case d => assumption); (case l => rfl); k_whole)))
local macro_rules | `(tactic| walk_at "getMethod ref") => `(tactic| (k_here; (with_reducible show wpAny _ _ (getMethod (Value.ref _) (Str.ofString "get") _) _ _ _); k_dflt (refine' tab_method ?T ?N ?p ?_; (case N => k_asm); (case p => k_mem); (case T => assumption); k_whole)))
local macro_rules | `(tactic| walk_at "call builtin:dict.get") => `(tactic| (k_here; (with_reducible show wpAny _ _ (call (Value.builtin "dict.get") [Value.ref _, ovv _]) _ _ _); k_dflt (refine' tab_get ?T ?N ?p ?l ?k ?_; (case N => k_asm); (case p => k_mem); (case T => assumption); (case l => assumption); (case k => assumption); k_whole)))
local macro_rules | `(tactic| walk_at "call builtin:dict.get") => `(tactic| (k_here; (with_reducible show wpAny _ _ (call (Value.builtin "dict.get") [Value.ref _, Value.str _ _]) _ _ _); k_dflt (refine' tab_getE ?T ?N ?p ?l ?k ?_; (case N => k_asm); (case p => k_mem); (case T => assumption); (case l => assumption); (case k => assumption); k_whole)))
local macro_rules | `(tactic| walk_at "compareOp NotEq ref ref") => `(tactic| (k_here; (with_reducible show wpAny _ _ (compareOp CmpOp.NotEq (Value.ref _) (Value.ref _)) _ _ _); (with_reducible rename MkL _ _ => mkl); k_dflt (first | (refine' ne_tups mkl ?N ?a ?b rfl ?u ?_; (case N => k_asm); (case a => k_mem); (case b => k_mem); (case u => ke_room); k_whole) | (refine' ne_ovs mkl ?N ?a ?b ?u ?_; (case N => k_asm); (case a => k_mem); (case b => k_mem); (case u => ke_room); k_whole))))
structure IdOk (x b mo lx : Str) (rest : List Str) : Prop where
  len : x.length ≤ 64
  ne : x.length ≠ 0
  p1 : (Txt.partition x (Str.ofString "@")).1 = b
  p3 : (Txt.partition x (Str.ofString "@")).2.2 = mo
  dot : (Builtin.Str.occurrences b (Str.ofString ".") 0 b.length 1).isEmpty = true
  blen : b.length ≤ 64
  molen : mo.length ≤ 64
  split : Txt.split b (Str.ofString "_") = lx :: rest
  low : Txt.lower lx = lx
  llen : lx.length ≤ 64
  alpha : Txt.isalpha lx = true
theorem str_truthyT {prog : Program} {w : World} {A : Around} {E : Value → Shared → Prop} {s : Shared} {x : Str} {t : Tok} {Q : Bool → Shared → Prop} (hl : x.length ≤ 64) (hn : x.length ≠ 0) (h : ∀ tk, Q true { s with toks := tk }) : wpAny (model prog w) A (truthy (.str x t)) Q E s :=
  SBL.truthy (by omega) (by
    have e : ((x.length : Int) != 0) = true := bne_iff_ne.mpr (by omega)
    rw [e]; exact h _)
theorem in_no {prog : Program} {w : World} {A : Around} {E : Value → Shared → Prop} {s : Shared} {x y : Str} {t u : Tok} {Q : Value → Shared → Prop} (e : (Builtin.Str.occurrences x y 0 x.length 1).isEmpty = true) (h : Q (.bool false) s) : wpAny (model prog w) A (compareOp .In (.str y u) (.str x t)) Q E s :=
  PyProof.Rows.in_str (by rw [e]; exact h)
theorem splitI {prog : Program} {w : World} {A : Around} {E : Value → Shared → Prop} {s : Shared} {h₀ : Heap} {L : Addr} {m : Str → Option Value} {news : List (Addr × Obj)} {x b mo lx : Str} {rest : List Str} {t u : Tok} {Q : Value → Shared → Prop} (I : IdOk x b mo lx rest) (hF : Fr h₀ L s.heap m) (hN : News h₀ L s.heap news)
    (h : ∀ D l h' k, l.map (·.1) = lx :: rest → Fr h₀ L h' m → News h₀ L h' ((D, W.listOf (strValues l).toArray 0) :: news) → (∀ p ∈ news, p.1 < D) → Q (.ref D) { s with heap := h', toks := k }) :
    wpAny (model prog w) A (call (.builtin "str.split") [.str b t, .str (Str.ofString "_") u]) Q E s :=
  KSpl.split1 hF hN (by decide) (fun D l h' k e _ F' N' l1 => h D l h' k (by rw [e, I.split]) F' N' l1) (by have := I.blen; rw [sizeLine_eq]; omega)
theorem fits_of {n : Nat} (h : n ≤ 64) : Builtin.Str.tooLong n = false := by
  simp only [Builtin.Str.tooLong, decide_eq_false_iff_not, sizeLine_eq]; omega
local macro_rules | `(tactic| walk_at "truthy str") => `(tactic| ((with_reducible rename IdOk _ _ _ _ _ => idk); (first | (refine str_truthyT idk.len idk.ne ?_) | (refine SBL.truthy (by have := idk.molen; omega) ?_)); (try intro tk9)))
local macro_rules | `(tactic| walk_at "call builtin:str.partition") => `(tactic| (k_here; (with_reducible rename IdOk _ _ _ _ _ => idk); k_dflt (refine' KXpa.partition ?F ?N (by decide) idk.p1 rfl idk.p3 ?z ?_; (case F => k_asm); (case N => k_asm); (case z => have := idk.len; rw [sizeLine_eq]; omega)); intro D' ta' tb' tc' h' k' F' N' l1; (try k_lt l1)))
local macro_rules | `(tactic| walk_at "compareOp In str str") => `(tactic| ((with_reducible rename IdOk _ _ _ _ _ => idk); refine in_no idk.dot ?_))
local macro_rules | `(tactic| walk_at "call builtin:str.split") => `(tactic| (k_here; (with_reducible rename IdOk _ _ _ _ _ => idk); k_dflt (refine' splitI idk ?F ?N ?_; (case F => k_asm); (case N => k_asm)); intro D' l' h' k' e' F' N' l1; (try k_lt l1); (kspl_open e'); (simp only [strValues, List.map_cons, List.map_nil] at N')))
local macro_rules | `(tactic| walk_at "call builtin:str.lower") => `(tactic| ((with_reducible rename IdOk _ _ _ _ _ => idk); refine W.KXw.lower idk.low (by rw [idk.low]; exact fits_of idk.llen) ?_; intro t9 k9))
local macro_rules | `(tactic| walk_at "call builtin:str.isalpha") => `(tactic| ((with_reducible rename IdOk _ _ _ _ _ => idk); refine W.KXw.isalpha idk.alpha ?_))
theorem item0 {prog : Program} {w : World} {A : Around} {E : Value → Shared → Prop} {s : Shared} {h₀ : Heap} {L l : Addr} {news : List (Addr × Obj)} {value slice : PySem.Expr} {v : Value} {vs : List Value} {u : Tok} {n : Nat} {Q : Value → Shared → Prop}
    (N : News h₀ L s.heap news) (hl : (l, W.listOf (v :: vs).toArray n) ∈ news) (h : Q v s)
    (hs : subscripted slice false (.ref l) (.int 0 u) = operate [.ref l, .int 0 u] (getItem (.ref l) (.int 0 u))) :
    wpAny (model prog w) A (subscriptTail value slice (.ref l) (.int 0 u)) Q E s := by
  have hL : s.heap.IsList l (v :: vs).toArray := ⟨_, (N _ hl).1, rfl, n, rfl⟩
  exact tail_any hL.typeIs slot_list_getitem.lookup (wpAny_getItem_list hL (by decide) (by simp) (x := v) rfl h) hs
theorem truthyL1 {prog : Program} {w : World} {A : Around} {E : Value → Shared → Prop} {s : Shared} {h₀ : Heap} {L l : Addr} {news : List (Addr × Obj)} {v : Value} {vs : List Value} {n : Nat} {Q : Bool → Shared → Prop}
    (N : News h₀ L s.heap news) (hl : (l, W.listOf (v :: vs).toArray n) ∈ news) (hz : (v :: vs).length ≤ 100) (h : Q true { s with toks := s.toks + 1 + 1 }) : wpAny (model prog w) A (truthy (.ref l)) Q E s := by
  have hL : s.heap.IsList l (v :: vs).toArray := ⟨_, (N _ hl).1, rfl, n, rfl⟩
  exact wpAny_truthy_list hL (by simp at hz ⊢; omega) (by simpa using h)
theorem truthyL0 {prog : Program} {w : World} {A : Around} {E : Value → Shared → Prop} {s : Shared} {h₀ : Heap} {L l : Addr} {news : List (Addr × Obj)} {n : Nat} {Q : Bool → Shared → Prop}
    (N : News h₀ L s.heap news) (hl : (l, W.listOf ([] : List Value).toArray n) ∈ news) (h : Q false { s with toks := s.toks + 1 + 1 }) : wpAny (model prog w) A (truthy (.ref l)) Q E s := by
  have hL : s.heap.IsList l ([] : List Value).toArray := ⟨_, (N _ hl).1, rfl, n, rfl⟩
  exact wpAny_truthy_list hL (by simp) (by simpa using h)
local macro_rules | `(tactic| walk_at "subscriptTail Name Constant ref int") => `(tactic| (k_here; (with_reducible show wpAny _ _ (subscriptTail _ _ (Value.ref _) (Value.int 0 _)) _ _ _); k_dflt (refine' item0 ?N ?l ?_ ?s; (case N => k_asm); (case l => k_mem); (case s => rfl); k_whole)))
local macro_rules | `(tactic| walk_at "truthy ref") => `(tactic| (k_here; k_dflt (first | (refine' truthyL1 ?N ?l ?z ?_; (case N => k_asm); (case l => k_mem); (case z => exact Nat.le_of_ble_eq_true rfl); k_whole) | (refine' truthyL0 ?N1 ?l1 ?_; (case N1 => k_asm); (case l1 => k_mem); k_whole))))
set_option maxHeartbeats 8000000 in
theorem parse_aaa {w : World} {base h₀ : Heap} {fa : Addr} {cd : Value} {L : Addr} {m : Str → Option Value} {news : List (Addr × Obj)} {s : Shared} {Q E : Value → Shared → Prop} {mg mb : Str → Option Value} {mean : ExcName → Option Value} {p : Program} {loose : List Str}
   (B : Below callerA base [] h₀) (F : Fr h₀ L s.heap m) (X₀ : (hd.heap_39 w.params).In h₀) (N : News h₀ L s.heap news) (T : Top p loose mean mg mb h₀)
   {x b mo lx : Str} {t : Tok} (I : IdOk x b mo lx [])
   (k : ∀ D l h' tk', xs l = [some lx, none, none, none] ++ (if ((mo.length : Int) != 0) = true then [some mo] else []) → Fr h₀ L h' m → News h₀ L h' ((D, { cls := .type "tuple", data := .seq (l.map ovv).toArray }) :: news) → Q (.ref D) {s with heap := h', toks := tk'}) :
   wpAny (model Challenge.rw_nk0010_01.row.prog w) (callerA.deeper (lawEnv L fa cd)) (call (.ref 189) [.str x t]) Q E s := by
  have hlx : lx.length ≤ 1000 := by have := I.llen; omega
  have hmo : mo.length ≤ 1000 := by have := I.molen; omega
  repeat' (walk_at "STEP1")
  · refine' k _ [some ⟨lx, _, hlx⟩, none, none, none, some ⟨mo, _, hmo⟩] _ _ ?e ?F ?N
    (case F => assumption); (case N => refine' cb_drop ?cbN ?cbS; (case cbN => assumption); (case cbS => kcj_all)); (case e =>
               have h9 : ((mo.length : Int) != 0) = true := by first | assumption | exact bne_iff_ne.mpr (by assumption)
               rw [if_pos h9]; rfl)
  · refine' k _ [some ⟨lx, _, hlx⟩, none, none, none] _ _ ?e2 ?F2 ?N2
    (case F2 => assumption); (case N2 => refine' cb_drop ?cbN2 ?cbS2; (case cbN2 => assumption); (case cbS2 => kcj_all)); (case e2 =>
               have h9 : ¬ ((mo.length : Int) != 0) = true := by first | (rw [(by assumption : (mo.length : Int) = 0)]; decide) | (rw [(by assumption : ((mo.length : Int) != 0) = false)]; decide)
               rw [if_neg h9]; rfl)
set_option maxHeartbeats 8000000 in
theorem parse_baa {w : World} {base h₀ : Heap} {fa : Addr} {cd : Value} {L : Addr} {m : Str → Option Value} {news : List (Addr × Obj)} {s : Shared} {Q E : Value → Shared → Prop} {mg mb : Str → Option Value} {mean : ExcName → Option Value} {p : Program} {loose : List Str}
   (B : Below callerA base [] h₀) (F : Fr h₀ L s.heap m) (X₀ : (hd.heap_39 w.params).In h₀) (N : News h₀ L s.heap news) (T : Top p loose mean mg mb h₀)
   {x b mo lx : Str} {t : Tok} (I : IdOk x b mo lx [Str.ofString "Hant"])
   (k : ∀ D l h' tk', xs l = [some lx, none, some (Str.ofString "Hant"), none] ++ (if ((mo.length : Int) != 0) = true then [some mo] else []) → Fr h₀ L h' m → News h₀ L h' ((D, { cls := .type "tuple", data := .seq (l.map ovv).toArray }) :: news) → Q (.ref D) {s with heap := h', toks := tk'}) :
   wpAny (model Challenge.rw_nk0010_01.row.prog w) (callerA.deeper (lawEnv L fa cd)) (call (.ref 189) [.str x t]) Q E s := by
  have hlx : lx.length ≤ 1000 := by have := I.llen; omega
  have hmo : mo.length ≤ 1000 := by have := I.molen; omega
  repeat' (walk_at "STEP1")
  · refine' k _ [some ⟨lx, _, hlx⟩, none, some ⟨Str.ofString "Hant", _, by decide⟩, none, some ⟨mo, _, hmo⟩] _ _ ?e ?F ?N
    (case F => assumption); (case N => refine' cb_drop ?cbN ?cbS; (case cbN => assumption); (case cbS => kcj_all)); (case e =>
               have h9 : ((mo.length : Int) != 0) = true := by first | assumption | exact bne_iff_ne.mpr (by assumption)
               rw [if_pos h9]; rfl)
  · refine' k _ [some ⟨lx, _, hlx⟩, none, some ⟨Str.ofString "Hant", _, by decide⟩, none] _ _ ?e2 ?F2 ?N2
    (case F2 => assumption); (case N2 => refine' cb_drop ?cbN2 ?cbS2; (case cbN2 => assumption); (case cbS2 => kcj_all)); (case e2 =>
               have h9 : ¬ ((mo.length : Int) != 0) = true := by first | (rw [(by assumption : (mo.length : Int) = 0)]; decide) | (rw [(by assumption : ((mo.length : Int) != 0) = false)]; decide)
               rw [if_neg h9]; rfl)
set_option maxHeartbeats 8000000 in
theorem parse_aba {w : World} {base h₀ : Heap} {fa : Addr} {cd : Value} {L : Addr} {m : Str → Option Value} {news : List (Addr × Obj)} {s : Shared} {Q E : Value → Shared → Prop} {mg mb : Str → Option Value} {mean : ExcName → Option Value} {p : Program} {loose : List Str}
   (B : Below callerA base [] h₀) (F : Fr h₀ L s.heap m) (X₀ : (hd.heap_39 w.params).In h₀) (N : News h₀ L s.heap news) (T : Top p loose mean mg mb h₀)
   {x b mo lx : Str} {t : Tok} (I : IdOk x b mo lx [Str.ofString "TW"])
   (k : ∀ D l h' tk', xs l = [some lx, some (Str.ofString "TW"), none, none] ++ (if ((mo.length : Int) != 0) = true then [some mo] else []) → Fr h₀ L h' m → News h₀ L h' ((D, { cls := .type "tuple", data := .seq (l.map ovv).toArray }) :: news) → Q (.ref D) {s with heap := h', toks := tk'}) :
   wpAny (model Challenge.rw_nk0010_01.row.prog w) (callerA.deeper (lawEnv L fa cd)) (call (.ref 189) [.str x t]) Q E s := by
  have hlx : lx.length ≤ 1000 := by have := I.llen; omega
  have hmo : mo.length ≤ 1000 := by have := I.molen; omega
  repeat' (walk_at "STEP1")
  · refine' k _ [some ⟨lx, _, hlx⟩, some ⟨Str.ofString "TW", _, by decide⟩, none, none, some ⟨mo, _, hmo⟩] _ _ ?e ?F ?N
    (case F => assumption); (case N => refine' cb_drop ?cbN ?cbS; (case cbN => assumption); (case cbS => kcj_all)); (case e =>
               have h9 : ((mo.length : Int) != 0) = true := by first | assumption | exact bne_iff_ne.mpr (by assumption)
               rw [if_pos h9]; rfl)
  · refine' k _ [some ⟨lx, _, hlx⟩, some ⟨Str.ofString "TW", _, by decide⟩, none, none] _ _ ?e2 ?F2 ?N2
    (case F2 => assumption); (case N2 => refine' cb_drop ?cbN2 ?cbS2; (case cbN2 => assumption); (case cbS2 => kcj_all)); (case e2 =>
               have h9 : ¬ ((mo.length : Int) != 0) = true := by first | (rw [(by assumption : (mo.length : Int) = 0)]; decide) | (rw [(by assumption : ((mo.length : Int) != 0) = false)]; decide)
               rw [if_neg h9]; rfl)
set_option maxHeartbeats 8000000 in
theorem parse_bba {w : World} {base h₀ : Heap} {fa : Addr} {cd : Value} {L : Addr} {m : Str → Option Value} {news : List (Addr × Obj)} {s : Shared} {Q E : Value → Shared → Prop} {mg mb : Str → Option Value} {mean : ExcName → Option Value} {p : Program} {loose : List Str}
   (B : Below callerA base [] h₀) (F : Fr h₀ L s.heap m) (X₀ : (hd.heap_39 w.params).In h₀) (N : News h₀ L s.heap news) (T : Top p loose mean mg mb h₀)
   {x b mo lx : Str} {t : Tok} (I : IdOk x b mo lx [Str.ofString "Hant", Str.ofString "TW"])
   (k : ∀ D l h' tk', xs l = [some lx, some (Str.ofString "TW"), some (Str.ofString "Hant"), none] ++ (if ((mo.length : Int) != 0) = true then [some mo] else []) → Fr h₀ L h' m → News h₀ L h' ((D, { cls := .type "tuple", data := .seq (l.map ovv).toArray }) :: news) → Q (.ref D) {s with heap := h', toks := tk'}) :
   wpAny (model Challenge.rw_nk0010_01.row.prog w) (callerA.deeper (lawEnv L fa cd)) (call (.ref 189) [.str x t]) Q E s := by
  have hlx : lx.length ≤ 1000 := by have := I.llen; omega
  have hmo : mo.length ≤ 1000 := by have := I.molen; omega
  repeat' (walk_at "STEP1")
  · refine' k _ [some ⟨lx, _, hlx⟩, some ⟨Str.ofString "TW", _, by decide⟩, some ⟨Str.ofString "Hant", _, by decide⟩, none, some ⟨mo, _, hmo⟩] _ _ ?e ?F ?N
    (case F => assumption); (case N => refine' cb_drop ?cbN ?cbS; (case cbN => assumption); (case cbS => kcj_all)); (case e =>
               have h9 : ((mo.length : Int) != 0) = true := by first | assumption | exact bne_iff_ne.mpr (by assumption)
               rw [if_pos h9]; rfl)
  · refine' k _ [some ⟨lx, _, hlx⟩, some ⟨Str.ofString "TW", _, by decide⟩, some ⟨Str.ofString "Hant", _, by decide⟩, none] _ _ ?e2 ?F2 ?N2
    (case F2 => assumption); (case N2 => refine' cb_drop ?cbN2 ?cbS2; (case cbN2 => assumption); (case cbS2 => kcj_all)); (case e2 =>
               have h9 : ¬ ((mo.length : Int) != 0) = true := by first | (rw [(by assumption : (mo.length : Int) = 0)]; decide) | (rw [(by assumption : ((mo.length : Int) != 0) = false)]; decide)
               rw [if_neg h9]; rfl)
set_option maxHeartbeats 8000000 in
theorem parse_aab {w : World} {base h₀ : Heap} {fa : Addr} {cd : Value} {L : Addr} {m : Str → Option Value} {news : List (Addr × Obj)} {s : Shared} {Q E : Value → Shared → Prop} {mg mb : Str → Option Value} {mean : ExcName → Option Value} {p : Program} {loose : List Str}
   (B : Below callerA base [] h₀) (F : Fr h₀ L s.heap m) (X₀ : (hd.heap_39 w.params).In h₀) (N : News h₀ L s.heap news) (T : Top p loose mean mg mb h₀)
   {x b mo lx : Str} {t : Tok} (I : IdOk x b mo lx [Str.ofString "POSIX"])
   (k : ∀ D l h' tk', xs l = [some lx, none, none, some (Str.ofString "POSIX")] ++ (if ((mo.length : Int) != 0) = true then [some mo] else []) → Fr h₀ L h' m → News h₀ L h' ((D, { cls := .type "tuple", data := .seq (l.map ovv).toArray }) :: news) → Q (.ref D) {s with heap := h', toks := tk'}) :
   wpAny (model Challenge.rw_nk0010_01.row.prog w) (callerA.deeper (lawEnv L fa cd)) (call (.ref 189) [.str x t]) Q E s := by
  have hlx : lx.length ≤ 1000 := by have := I.llen; omega
  have hmo : mo.length ≤ 1000 := by have := I.molen; omega
  repeat' (walk_at "STEP1")
  · refine' k _ [some ⟨lx, _, hlx⟩, none, none, some ⟨Str.ofString "POSIX", _, by decide⟩, some ⟨mo, _, hmo⟩] _ _ ?e ?F ?N
    (case F => assumption); (case N => refine' cb_drop ?cbN ?cbS; (case cbN => assumption); (case cbS => kcj_all)); (case e =>
               have h9 : ((mo.length : Int) != 0) = true := by first | assumption | exact bne_iff_ne.mpr (by assumption)
               rw [if_pos h9]; rfl)
  · refine' k _ [some ⟨lx, _, hlx⟩, none, none, some ⟨Str.ofString "POSIX", _, by decide⟩] _ _ ?e2 ?F2 ?N2
    (case F2 => assumption); (case N2 => refine' cb_drop ?cbN2 ?cbS2; (case cbN2 => assumption); (case cbS2 => kcj_all)); (case e2 =>
               have h9 : ¬ ((mo.length : Int) != 0) = true := by first | (rw [(by assumption : (mo.length : Int) = 0)]; decide) | (rw [(by assumption : ((mo.length : Int) != 0) = false)]; decide)
               rw [if_neg h9]; rfl)
set_option maxHeartbeats 8000000 in
theorem parse_bab {w : World} {base h₀ : Heap} {fa : Addr} {cd : Value} {L : Addr} {m : Str → Option Value} {news : List (Addr × Obj)} {s : Shared} {Q E : Value → Shared → Prop} {mg mb : Str → Option Value} {mean : ExcName → Option Value} {p : Program} {loose : List Str}
   (B : Below callerA base [] h₀) (F : Fr h₀ L s.heap m) (X₀ : (hd.heap_39 w.params).In h₀) (N : News h₀ L s.heap news) (T : Top p loose mean mg mb h₀)
   {x b mo lx : Str} {t : Tok} (I : IdOk x b mo lx [Str.ofString "Hant", Str.ofString "POSIX"])
   (k : ∀ D l h' tk', xs l = [some lx, none, some (Str.ofString "Hant"), some (Str.ofString "POSIX")] ++ (if ((mo.length : Int) != 0) = true then [some mo] else []) → Fr h₀ L h' m → News h₀ L h' ((D, { cls := .type "tuple", data := .seq (l.map ovv).toArray }) :: news) → Q (.ref D) {s with heap := h', toks := tk'}) :
   wpAny (model Challenge.rw_nk0010_01.row.prog w) (callerA.deeper (lawEnv L fa cd)) (call (.ref 189) [.str x t]) Q E s := by
  have hlx : lx.length ≤ 1000 := by have := I.llen; omega
  have hmo : mo.length ≤ 1000 := by have := I.molen; omega
  repeat' (walk_at "STEP1")
  · refine' k _ [some ⟨lx, _, hlx⟩, none, some ⟨Str.ofString "Hant", _, by decide⟩, some ⟨Str.ofString "POSIX", _, by decide⟩, some ⟨mo, _, hmo⟩] _ _ ?e ?F ?N
    (case F => assumption); (case N => refine' cb_drop ?cbN ?cbS; (case cbN => assumption); (case cbS => kcj_all)); (case e =>
               have h9 : ((mo.length : Int) != 0) = true := by first | assumption | exact bne_iff_ne.mpr (by assumption)
               rw [if_pos h9]; rfl)
  · refine' k _ [some ⟨lx, _, hlx⟩, none, some ⟨Str.ofString "Hant", _, by decide⟩, some ⟨Str.ofString "POSIX", _, by decide⟩] _ _ ?e2 ?F2 ?N2
    (case F2 => assumption); (case N2 => refine' cb_drop ?cbN2 ?cbS2; (case cbN2 => assumption); (case cbS2 => kcj_all)); (case e2 =>
               have h9 : ¬ ((mo.length : Int) != 0) = true := by first | (rw [(by assumption : (mo.length : Int) = 0)]; decide) | (rw [(by assumption : ((mo.length : Int) != 0) = false)]; decide)
               rw [if_neg h9]; rfl)
set_option maxHeartbeats 8000000 in
theorem parse_abb {w : World} {base h₀ : Heap} {fa : Addr} {cd : Value} {L : Addr} {m : Str → Option Value} {news : List (Addr × Obj)} {s : Shared} {Q E : Value → Shared → Prop} {mg mb : Str → Option Value} {mean : ExcName → Option Value} {p : Program} {loose : List Str}
   (B : Below callerA base [] h₀) (F : Fr h₀ L s.heap m) (X₀ : (hd.heap_39 w.params).In h₀) (N : News h₀ L s.heap news) (T : Top p loose mean mg mb h₀)
   {x b mo lx : Str} {t : Tok} (I : IdOk x b mo lx [Str.ofString "TW", Str.ofString "POSIX"])
   (k : ∀ D l h' tk', xs l = [some lx, some (Str.ofString "TW"), none, some (Str.ofString "POSIX")] ++ (if ((mo.length : Int) != 0) = true then [some mo] else []) → Fr h₀ L h' m → News h₀ L h' ((D, { cls := .type "tuple", data := .seq (l.map ovv).toArray }) :: news) → Q (.ref D) {s with heap := h', toks := tk'}) :
   wpAny (model Challenge.rw_nk0010_01.row.prog w) (callerA.deeper (lawEnv L fa cd)) (call (.ref 189) [.str x t]) Q E s := by
  have hlx : lx.length ≤ 1000 := by have := I.llen; omega
  have hmo : mo.length ≤ 1000 := by have := I.molen; omega
  repeat' (walk_at "STEP1")
  · refine' k _ [some ⟨lx, _, hlx⟩, some ⟨Str.ofString "TW", _, by decide⟩, none, some ⟨Str.ofString "POSIX", _, by decide⟩, some ⟨mo, _, hmo⟩] _ _ ?e ?F ?N
    (case F => assumption); (case N => refine' cb_drop ?cbN ?cbS; (case cbN => assumption); (case cbS => kcj_all)); (case e =>
               have h9 : ((mo.length : Int) != 0) = true := by first | assumption | exact bne_iff_ne.mpr (by assumption)
               rw [if_pos h9]; rfl)
  · refine' k _ [some ⟨lx, _, hlx⟩, some ⟨Str.ofString "TW", _, by decide⟩, none, some ⟨Str.ofString "POSIX", _, by decide⟩] _ _ ?e2 ?F2 ?N2
    (case F2 => assumption); (case N2 => refine' cb_drop ?cbN2 ?cbS2; (case cbN2 => assumption); (case cbS2 => kcj_all)); (case e2 =>
               have h9 : ¬ ((mo.length : Int) != 0) = true := by first | (rw [(by assumption : (mo.length : Int) = 0)]; decide) | (rw [(by assumption : ((mo.length : Int) != 0) = false)]; decide)
               rw [if_neg h9]; rfl)
set_option maxHeartbeats 8000000 in
theorem parse_bbb {w : World} {base h₀ : Heap} {fa : Addr} {cd : Value} {L : Addr} {m : Str → Option Value} {news : List (Addr × Obj)} {s : Shared} {Q E : Value → Shared → Prop} {mg mb : Str → Option Value} {mean : ExcName → Option Value} {p : Program} {loose : List Str}
   (B : Below callerA base [] h₀) (F : Fr h₀ L s.heap m) (X₀ : (hd.heap_39 w.params).In h₀) (N : News h₀ L s.heap news) (T : Top p loose mean mg mb h₀)
   {x b mo lx : Str} {t : Tok} (I : IdOk x b mo lx [Str.ofString "Hant", Str.ofString "TW", Str.ofString "POSIX"])
   (k : ∀ D l h' tk', xs l = [some lx, some (Str.ofString "TW"), some (Str.ofString "Hant"), some (Str.ofString "POSIX")] ++ (if ((mo.length : Int) != 0) = true then [some mo] else []) → Fr h₀ L h' m → News h₀ L h' ((D, { cls := .type "tuple", data := .seq (l.map ovv).toArray }) :: news) → Q (.ref D) {s with heap := h', toks := tk'}) :
   wpAny (model Challenge.rw_nk0010_01.row.prog w) (callerA.deeper (lawEnv L fa cd)) (call (.ref 189) [.str x t]) Q E s := by
  have hlx : lx.length ≤ 1000 := by have := I.llen; omega
  have hmo : mo.length ≤ 1000 := by have := I.molen; omega
  repeat' (walk_at "STEP1")
  · refine' k _ [some ⟨lx, _, hlx⟩, some ⟨Str.ofString "TW", _, by decide⟩, some ⟨Str.ofString "Hant", _, by decide⟩, some ⟨Str.ofString "POSIX", _, by decide⟩, some ⟨mo, _, hmo⟩] _ _ ?e ?F ?N
    (case F => assumption); (case N => refine' cb_drop ?cbN ?cbS; (case cbN => assumption); (case cbS => kcj_all)); (case e =>
               have h9 : ((mo.length : Int) != 0) = true := by first | assumption | exact bne_iff_ne.mpr (by assumption)
               rw [if_pos h9]; rfl)
  · refine' k _ [some ⟨lx, _, hlx⟩, some ⟨Str.ofString "TW", _, by decide⟩, some ⟨Str.ofString "Hant", _, by decide⟩, some ⟨Str.ofString "POSIX", _, by decide⟩] _ _ ?e2 ?F2 ?N2
    (case F2 => assumption); (case N2 => refine' cb_drop ?cbN2 ?cbS2; (case cbN2 => assumption); (case cbS2 => kcj_all)); (case e2 =>
               have h9 : ¬ ((mo.length : Int) != 0) = true := by first | (rw [(by assumption : (mo.length : Int) = 0)]; decide) | (rw [(by assumption : ((mo.length : Int) != 0) = false)]; decide)
               rw [if_neg h9]; rfl)
end
section
theorem off_Pall : True := by
  w_top off
  exact trivial
def trS : Option Str → Bool
  | none => false
  | some x => (x.length : Int) != 0
def identS (l : Str) (t s v m : Option Str) : Str :=
  if trS m = true then Str.join (Str.ofString "_") ((List.filter trS [some l, s, t, v]).map (·.getD (Str.ofString ""))) ++ Str.ofString "@" ++ m.getD (Str.ofString "") else Str.join (Str.ofString "_") ((List.filter trS [some l, s, t, v]).map (·.getD (Str.ofString "")))
theorem tr_S (o : P2) : tr o = trS (o.map Nm.x) := by cases o <;> rfl
theorem filt_S (l : List P2) : (l.filter tr).map nmx = ((xs l).filter trS).map (·.getD (Str.ofString "")) := by
  induction l with
  | nil => rfl
  | cons o r ih =>
    show _ = (List.filter trS (o.map Nm.x :: xs r)).map _
    rw [List.filter_cons, List.filter_cons, tr_S]
    split
    · rw [List.map_cons, List.map_cons, ih]; rfl
    · exact ih
theorem ident_S (pl : Nm) (ot os ov om : P2) : ident (some pl) ot os ov om = identS pl.x (ot.map Nm.x) (os.map Nm.x) (ov.map Nm.x) (om.map Nm.x) := by
  unfold ident identS
  rw [filt_S, tr_S]
  rfl
set_option maxHeartbeats 8000000 in
theorem parse_all {w : World} {base h₀ : Heap} {fa : Addr} {cd : Value} {L : Addr} {m : Str → Option Value} {news : List (Addr × Obj)} {s : Shared} {Q E : Value → Shared → Prop} {mg mb : Str → Option Value} {mean : ExcName → Option Value} {p : Program} {loose : List Str}
   (B : Below callerA base [] h₀) (F : Fr h₀ L s.heap m) (X₀ : (hd.heap_39 w.params).In h₀) (N : News h₀ L s.heap news) (T : Top p loose mean mg mb h₀)
   {pl : Nm} {ot os ov om : P2} {n : Nm} (S : Setup pl ot os ov om) (hp : n.x = ident (some pl) ot os ov om)
   (k : ∀ D l h' tk', xs l = xs ([some pl, ot, os, ov] ++ (if om.isSome = true then [om] else [])) → Fr h₀ L h' m → News h₀ L h' ((D, { cls := .type "tuple", data := .seq (l.map ovv).toArray }) :: news) → Q (.ref D) {s with heap := h', toks := tk'}) :
   wpAny (model Challenge.rw_nk0010_01.row.prog w) (callerA.deeper (lawEnv L fa cd)) (call (.ref 189) [.str (Nm.x n) (Nm.t n)]) Q E s := by
  rw [ident_S] at hp
  have key : ∀ (o : P2) (c : Str), Two (some c) none o → (o.map Nm.x = some c ∨ o.map Nm.x = none) := fun o c h => h
  have hs := S.s
  have ht := S.t
  have hv := S.v
  have hm : om.map Nm.x = none ∧ om = none ∨ om.map Nm.x = some (Str.ofString "euro") ∧ om.isSome = true := by
    rcases S.m with rfl | ⟨h, _⟩
    · exact .inl ⟨rfl, rfl⟩
    · refine .inr ⟨h, ?_⟩
      cases om with
      | none => cases h
      | some q => rfl
  have fin : ∀ {D : Addr} {l : List P2} {h' : Heap} {tk' : Nat} (mo : Str), (mo = Str.ofString "" ∧ om = none ∨ om.map Nm.x = some mo ∧ ((mo.length : Int) != 0) = true ∧ om.isSome = true) → xs l = [some pl.x, ot.map Nm.x, os.map Nm.x, ov.map Nm.x] ++ (if ((mo.length : Int) != 0) = true then [some mo] else []) → Fr h₀ L h' m → News h₀ L h' ((D, { cls := .type "tuple", data := .seq (l.map ovv).toArray }) :: news) → Q (.ref D) {s with heap := h', toks := tk'} := by
    intro D l h' tk' mo hmo hl F' N'
    refine k D l h' tk' (hl.trans ?_) F' N'
    rcases hmo with ⟨rfl, rfl⟩ | ⟨h1, h2, h3⟩
    · rfl
    · rw [if_pos h2, if_pos h3, ← h1]; rfl
  clear key k
  rcases S.l with hl | hl <;> rcases hs with es | es <;> rcases ht with et | et <;> rcases hv with ev | ev <;> rcases hm with ⟨em, eo⟩ | ⟨em, eo⟩ <;> rw [hl, et, es, ev, em] at hp
  · have I : IdOk n.x (Str.ofString "zh_Hant_TW_POSIX") (Str.ofString "") pl.x [Str.ofString "Hant", Str.ofString "TW", Str.ofString "POSIX"] := by
      rw [hp, hl]
      exact ⟨by decide +kernel, by decide +kernel, by decide +kernel, by decide +kernel, by decide +kernel, by decide +kernel, by decide +kernel, by decide +kernel, by decide +kernel, by decide +kernel, by decide +kernel⟩
    exact parse_bbb B F X₀ N T I fun D l h' tk' e F' N' => fin _ (.inl ⟨rfl, eo⟩) (by rw [et, es, ev]; exact e) F' N'
  · have I : IdOk n.x (Str.ofString "zh_Hant_TW_POSIX") (Str.ofString "euro") pl.x [Str.ofString "Hant", Str.ofString "TW", Str.ofString "POSIX"] := by
      rw [hp, hl]
      exact ⟨by decide +kernel, by decide +kernel, by decide +kernel, by decide +kernel, by decide +kernel, by decide +kernel, by decide +kernel, by decide +kernel, by decide +kernel, by decide +kernel, by decide +kernel⟩
    exact parse_bbb B F X₀ N T I fun D l h' tk' e F' N' => fin _ (.inr ⟨em, by decide, eo⟩) (by rw [et, es, ev]; exact e) F' N'
  · have I : IdOk n.x (Str.ofString "zh_Hant_TW") (Str.ofString "") pl.x [Str.ofString "Hant", Str.ofString "TW"] := by
      rw [hp, hl]
      exact ⟨by decide +kernel, by decide +kernel, by decide +kernel, by decide +kernel, by decide +kernel, by decide +kernel, by decide +kernel, by decide +kernel, by decide +kernel, by decide +kernel, by decide +kernel⟩
    exact parse_bba B F X₀ N T I fun D l h' tk' e F' N' => fin _ (.inl ⟨rfl, eo⟩) (by rw [et, es, ev]; exact e) F' N'
  · have I : IdOk n.x (Str.ofString "zh_Hant_TW") (Str.ofString "euro") pl.x [Str.ofString "Hant", Str.ofString "TW"] := by
      rw [hp, hl]
      exact ⟨by decide +kernel, by decide +kernel, by decide +kernel, by decide +kernel, by decide +kernel, by decide +kernel, by decide +kernel, by decide +kernel, by decide +kernel, by decide +kernel, by decide +kernel⟩
    exact parse_bba B F X₀ N T I fun D l h' tk' e F' N' => fin _ (.inr ⟨em, by decide, eo⟩) (by rw [et, es, ev]; exact e) F' N'
  · have I : IdOk n.x (Str.ofString "zh_Hant_POSIX") (Str.ofString "") pl.x [Str.ofString "Hant", Str.ofString "POSIX"] := by
      rw [hp, hl]
      exact ⟨by decide +kernel, by decide +kernel, by decide +kernel, by decide +kernel, by decide +kernel, by decide +kernel, by decide +kernel, by decide +kernel, by decide +kernel, by decide +kernel, by decide +kernel⟩
    exact parse_bab B F X₀ N T I fun D l h' tk' e F' N' => fin _ (.inl ⟨rfl, eo⟩) (by rw [et, es, ev]; exact e) F' N'
  · have I : IdOk n.x (Str.ofString "zh_Hant_POSIX") (Str.ofString "euro") pl.x [Str.ofString "Hant", Str.ofString "POSIX"] := by
      rw [hp, hl]
      exact ⟨by decide +kernel, by decide +kernel, by decide +kernel, by decide +kernel, by decide +kernel, by decide +kernel, by decide +kernel, by decide +kernel, by decide +kernel, by decide +kernel, by decide +kernel⟩
    exact parse_bab B F X₀ N T I fun D l h' tk' e F' N' => fin _ (.inr ⟨em, by decide, eo⟩) (by rw [et, es, ev]; exact e) F' N'
  · have I : IdOk n.x (Str.ofString "zh_Hant") (Str.ofString "") pl.x [Str.ofString "Hant"] := by
      rw [hp, hl]
      exact ⟨by decide +kernel, by decide +kernel, by decide +kernel, by decide +kernel, by decide +kernel, by decide +kernel, by decide +kernel, by decide +kernel, by decide +kernel, by decide +kernel, by decide +kernel⟩
    exact parse_baa B F X₀ N T I fun D l h' tk' e F' N' => fin _ (.inl ⟨rfl, eo⟩) (by rw [et, es, ev]; exact e) F' N'
  · have I : IdOk n.x (Str.ofString "zh_Hant") (Str.ofString "euro") pl.x [Str.ofString "Hant"] := by
      rw [hp, hl]
      exact ⟨by decide +kernel, by decide +kernel, by decide +kernel, by decide +kernel, by decide +kernel, by decide +kernel, by decide +kernel, by decide +kernel, by decide +kernel, by decide +kernel, by decide +kernel⟩
    exact parse_baa B F X₀ N T I fun D l h' tk' e F' N' => fin _ (.inr ⟨em, by decide, eo⟩) (by rw [et, es, ev]; exact e) F' N'
  · have I : IdOk n.x (Str.ofString "zh_TW_POSIX") (Str.ofString "") pl.x [Str.ofString "TW", Str.ofString "POSIX"] := by
      rw [hp, hl]
      exact ⟨by decide +kernel, by decide +kernel, by decide +kernel, by decide +kernel, by decide +kernel, by decide +kernel, by decide +kernel, by decide +kernel, by decide +kernel, by decide +kernel, by decide +kernel⟩
    exact parse_abb B F X₀ N T I fun D l h' tk' e F' N' => fin _ (.inl ⟨rfl, eo⟩) (by rw [et, es, ev]; exact e) F' N'
  · have I : IdOk n.x (Str.ofString "zh_TW_POSIX") (Str.ofString "euro") pl.x [Str.ofString "TW", Str.ofString "POSIX"] := by
      rw [hp, hl]
      exact ⟨by decide +kernel, by decide +kernel, by decide +kernel, by decide +kernel, by decide +kernel, by decide +kernel, by decide +kernel, by decide +kernel, by decide +kernel, by decide +kernel, by decide +kernel⟩
    exact parse_abb B F X₀ N T I fun D l h' tk' e F' N' => fin _ (.inr ⟨em, by decide, eo⟩) (by rw [et, es, ev]; exact e) F' N'
  · have I : IdOk n.x (Str.ofString "zh_TW") (Str.ofString "") pl.x [Str.ofString "TW"] := by
      rw [hp, hl]
      exact ⟨by decide +kernel, by decide +kernel, by decide +kernel, by decide +kernel, by decide +kernel, by decide +kernel, by decide +kernel, by decide +kernel, by decide +kernel, by decide +kernel, by decide +kernel⟩
    exact parse_aba B F X₀ N T I fun D l h' tk' e F' N' => fin _ (.inl ⟨rfl, eo⟩) (by rw [et, es, ev]; exact e) F' N'
  · have I : IdOk n.x (Str.ofString "zh_TW") (Str.ofString "euro") pl.x [Str.ofString "TW"] := by
      rw [hp, hl]
      exact ⟨by decide +kernel, by decide +kernel, by decide +kernel, by decide +kernel, by decide +kernel, by decide +kernel, by decide +kernel, by decide +kernel, by decide +kernel, by decide +kernel, by decide +kernel⟩
    exact parse_aba B F X₀ N T I fun D l h' tk' e F' N' => fin _ (.inr ⟨em, by decide, eo⟩) (by rw [et, es, ev]; exact e) F' N'
  · have I : IdOk n.x (Str.ofString "zh_POSIX") (Str.ofString "") pl.x [Str.ofString "POSIX"] := by
      rw [hp, hl]
      exact ⟨by decide +kernel, by decide +kernel, by decide +kernel, by decide +kernel, by decide +kernel, by decide +kernel, by decide +kernel, by decide +kernel, by decide +kernel, by decide +kernel, by decide +kernel⟩
    exact parse_aab B F X₀ N T I fun D l h' tk' e F' N' => fin _ (.inl ⟨rfl, eo⟩) (by rw [et, es, ev]; exact e) F' N'
  · have I : IdOk n.x (Str.ofString "zh_POSIX") (Str.ofString "euro") pl.x [Str.ofString "POSIX"] := by
      rw [hp, hl]
      exact ⟨by decide +kernel, by decide +kernel, by decide +kernel, by decide +kernel, by decide +kernel, by decide +kernel, by decide +kernel, by decide +kernel, by decide +kernel, by decide +kernel, by decide +kernel⟩
    exact parse_aab B F X₀ N T I fun D l h' tk' e F' N' => fin _ (.inr ⟨em, by decide, eo⟩) (by rw [et, es, ev]; exact e) F' N'
  · have I : IdOk n.x (Str.ofString "zh") (Str.ofString "") pl.x [] := by
      rw [hp, hl]
      exact ⟨by decide +kernel, by decide +kernel, by decide +kernel, by decide +kernel, by decide +kernel, by decide +kernel, by decide +kernel, by decide +kernel, by decide +kernel, by decide +kernel, by decide +kernel⟩
    exact parse_aaa B F X₀ N T I fun D l h' tk' e F' N' => fin _ (.inl ⟨rfl, eo⟩) (by rw [et, es, ev]; exact e) F' N'
  · have I : IdOk n.x (Str.ofString "zh") (Str.ofString "euro") pl.x [] := by
      rw [hp, hl]
      exact ⟨by decide +kernel, by decide +kernel, by decide +kernel, by decide +kernel, by decide +kernel, by decide +kernel, by decide +kernel, by decide +kernel, by decide +kernel, by decide +kernel, by decide +kernel⟩
    exact parse_aaa B F X₀ N T I fun D l h' tk' e F' N' => fin _ (.inr ⟨em, by decide, eo⟩) (by rw [et, es, ev]; exact e) F' N'
  · have I : IdOk n.x (Str.ofString "en_Hant_TW_POSIX") (Str.ofString "") pl.x [Str.ofString "Hant", Str.ofString "TW", Str.ofString "POSIX"] := by
      rw [hp, hl]
      exact ⟨by decide +kernel, by decide +kernel, by decide +kernel, by decide +kernel, by decide +kernel, by decide +kernel, by decide +kernel, by decide +kernel, by decide +kernel, by decide +kernel, by decide +kernel⟩
    exact parse_bbb B F X₀ N T I fun D l h' tk' e F' N' => fin _ (.inl ⟨rfl, eo⟩) (by rw [et, es, ev]; exact e) F' N'
  · have I : IdOk n.x (Str.ofString "en_Hant_TW_POSIX") (Str.ofString "euro") pl.x [Str.ofString "Hant", Str.ofString "TW", Str.ofString "POSIX"] := by
      rw [hp, hl]
      exact ⟨by decide +kernel, by decide +kernel, by decide +kernel, by decide +kernel, by decide +kernel, by decide +kernel, by decide +kernel, by decide +kernel, by decide +kernel, by decide +kernel, by decide +kernel⟩
    exact parse_bbb B F X₀ N T I fun D l h' tk' e F' N' => fin _ (.inr ⟨em, by decide, eo⟩) (by rw [et, es, ev]; exact e) F' N'
  · have I : IdOk n.x (Str.ofString "en_Hant_TW") (Str.ofString "") pl.x [Str.ofString "Hant", Str.ofString "TW"] := by
      rw [hp, hl]
      exact ⟨by decide +kernel, by decide +kernel, by decide +kernel, by decide +kernel, by decide +kernel, by decide +kernel, by decide +kernel, by decide +kernel, by decide +kernel, by decide +kernel, by decide +kernel⟩
    exact parse_bba B F X₀ N T I fun D l h' tk' e F' N' => fin _ (.inl ⟨rfl, eo⟩) (by rw [et, es, ev]; exact e) F' N'
  · have I : IdOk n.x (Str.ofString "en_Hant_TW") (Str.ofString "euro") pl.x [Str.ofString "Hant", Str.ofString "TW"] := by
      rw [hp, hl]
      exact ⟨by decide +kernel, by decide +kernel, by decide +kernel, by decide +kernel, by decide +kernel, by decide +kernel, by decide +kernel, by decide +kernel, by decide +kernel, by decide +kernel, by decide +kernel⟩
    exact parse_bba B F X₀ N T I fun D l h' tk' e F' N' => fin _ (.inr ⟨em, by decide, eo⟩) (by rw [et, es, ev]; exact e) F' N'
  · have I : IdOk n.x (Str.ofString "en_Hant_POSIX") (Str.ofString "") pl.x [Str.ofString "Hant", Str.ofString "POSIX"] := by
      rw [hp, hl]
      exact ⟨by decide +kernel, by decide +kernel, by decide +kernel, by decide +kernel, by decide +kernel, by decide +kernel, by decide +kernel, by decide +kernel, by decide +kernel, by decide +kernel, by decide +kernel⟩
    exact parse_bab B F X₀ N T I fun D l h' tk' e F' N' => fin _ (.inl ⟨rfl, eo⟩) (by rw [et, es, ev]; exact e) F' N'
  · have I : IdOk n.x (Str.ofString "en_Hant_POSIX") (Str.ofString "euro") pl.x [Str.ofString "Hant", Str.ofString "POSIX"] := by
      rw [hp, hl]
      exact ⟨by decide +kernel, by decide +kernel, by decide +kernel, by decide +kernel, by decide +kernel, by decide +kernel, by decide +kernel, by decide +kernel, by decide +kernel, by decide +kernel, by decide +kernel⟩
    exact parse_bab B F X₀ N T I fun D l h' tk' e F' N' => fin _ (.inr ⟨em, by decide, eo⟩) (by rw [et, es, ev]; exact e) F' N'
  · have I : IdOk n.x (Str.ofString "en_Hant") (Str.ofString "") pl.x [Str.ofString "Hant"] := by
      rw [hp, hl]
      exact ⟨by decide +kernel, by decide +kernel, by decide +kernel, by decide +kernel, by decide +kernel, by decide +kernel, by decide +kernel, by decide +kernel, by decide +kernel, by decide +kernel, by decide +kernel⟩
    exact parse_baa B F X₀ N T I fun D l h' tk' e F' N' => fin _ (.inl ⟨rfl, eo⟩) (by rw [et, es, ev]; exact e) F' N'
  · have I : IdOk n.x (Str.ofString "en_Hant") (Str.ofString "euro") pl.x [Str.ofString "Hant"] := by
      rw [hp, hl]
      exact ⟨by decide +kernel, by decide +kernel, by decide +kernel, by decide +kernel, by decide +kernel, by decide +kernel, by decide +kernel, by decide +kernel, by decide +kernel, by decide +kernel, by decide +kernel⟩
    exact parse_baa B F X₀ N T I fun D l h' tk' e F' N' => fin _ (.inr ⟨em, by decide, eo⟩) (by rw [et, es, ev]; exact e) F' N'
  · have I : IdOk n.x (Str.ofString "en_TW_POSIX") (Str.ofString "") pl.x [Str.ofString "TW", Str.ofString "POSIX"] := by
      rw [hp, hl]
      exact ⟨by decide +kernel, by decide +kernel, by decide +kernel, by decide +kernel, by decide +kernel, by decide +kernel, by decide +kernel, by decide +kernel, by decide +kernel, by decide +kernel, by decide +kernel⟩
    exact parse_abb B F X₀ N T I fun D l h' tk' e F' N' => fin _ (.inl ⟨rfl, eo⟩) (by rw [et, es, ev]; exact e) F' N'
  · have I : IdOk n.x (Str.ofString "en_TW_POSIX") (Str.ofString "euro") pl.x [Str.ofString "TW", Str.ofString "POSIX"] := by
      rw [hp, hl]
      exact ⟨by decide +kernel, by decide +kernel, by decide +kernel, by decide +kernel, by decide +kernel, by decide +kernel, by decide +kernel, by decide +kernel, by decide +kernel, by decide +kernel, by decide +kernel⟩
    exact parse_abb B F X₀ N T I fun D l h' tk' e F' N' => fin _ (.inr ⟨em, by decide, eo⟩) (by rw [et, es, ev]; exact e) F' N'
  · have I : IdOk n.x (Str.ofString "en_TW") (Str.ofString "") pl.x [Str.ofString "TW"] := by
      rw [hp, hl]
      exact ⟨by decide +kernel, by decide +kernel, by decide +kernel, by decide +kernel, by decide +kernel, by decide +kernel, by decide +kernel, by decide +kernel, by decide +kernel, by decide +kernel, by decide +kernel⟩
    exact parse_aba B F X₀ N T I fun D l h' tk' e F' N' => fin _ (.inl ⟨rfl, eo⟩) (by rw [et, es, ev]; exact e) F' N'
  · have I : IdOk n.x (Str.ofString "en_TW") (Str.ofString "euro") pl.x [Str.ofString "TW"] := by
      rw [hp, hl]
      exact ⟨by decide +kernel, by decide +kernel, by decide +kernel, by decide +kernel, by decide +kernel, by decide +kernel, by decide +kernel, by decide +kernel, by decide +kernel, by decide +kernel, by decide +kernel⟩
    exact parse_aba B F X₀ N T I fun D l h' tk' e F' N' => fin _ (.inr ⟨em, by decide, eo⟩) (by rw [et, es, ev]; exact e) F' N'
  · have I : IdOk n.x (Str.ofString "en_POSIX") (Str.ofString "") pl.x [Str.ofString "POSIX"] := by
      rw [hp, hl]
      exact ⟨by decide +kernel, by decide +kernel, by decide +kernel, by decide +kernel, by decide +kernel, by decide +kernel, by decide +kernel, by decide +kernel, by decide +kernel, by decide +kernel, by decide +kernel⟩
    exact parse_aab B F X₀ N T I fun D l h' tk' e F' N' => fin _ (.inl ⟨rfl, eo⟩) (by rw [et, es, ev]; exact e) F' N'
  · have I : IdOk n.x (Str.ofString "en_POSIX") (Str.ofString "euro") pl.x [Str.ofString "POSIX"] := by
      rw [hp, hl]
      exact ⟨by decide +kernel, by decide +kernel, by decide +kernel, by decide +kernel, by decide +kernel, by decide +kernel, by decide +kernel, by decide +kernel, by decide +kernel, by decide +kernel, by decide +kernel⟩
    exact parse_aab B F X₀ N T I fun D l h' tk' e F' N' => fin _ (.inr ⟨em, by decide, eo⟩) (by rw [et, es, ev]; exact e) F' N'
  · have I : IdOk n.x (Str.ofString "en") (Str.ofString "") pl.x [] := by
      rw [hp, hl]
      exact ⟨by decide +kernel, by decide +kernel, by decide +kernel, by decide +kernel, by decide +kernel, by decide +kernel, by decide +kernel, by decide +kernel, by decide +kernel, by decide +kernel, by decide +kernel⟩
    exact parse_aaa B F X₀ N T I fun D l h' tk' e F' N' => fin _ (.inl ⟨rfl, eo⟩) (by rw [et, es, ev]; exact e) F' N'
  · have I : IdOk n.x (Str.ofString "en") (Str.ofString "euro") pl.x [] := by
      rw [hp, hl]
      exact ⟨by decide +kernel, by decide +kernel, by decide +kernel, by decide +kernel, by decide +kernel, by decide +kernel, by decide +kernel, by decide +kernel, by decide +kernel, by decide +kernel, by decide +kernel⟩
    exact parse_aaa B F X₀ N T I fun D l h' tk' e F' N' => fin _ (.inr ⟨em, by decide, eo⟩) (by rw [et, es, ev]; exact e) F' N'
end
section
theorem off_Strl : True := by
  w_top off
  exact trivial
local macro_rules | `(tactic| k_mem) => `(tactic| assumption)
local macro_rules | `(tactic| walk_at "compareOp Eq") => `(tactic| ((with_reducible show wpAny _ _ (compareOp CmpOp.Eq (ovv _) (ovv _)) _ _ _); refine ov_eq ?_))
local macro_rules | `(tactic| walk_at "compareOp NotEq") => `(tactic| ((with_reducible show wpAny _ _ (compareOp CmpOp.NotEq (ovv _) (ovv _)) _ _ _); refine ov_ne ?_))
local macro_rules | `(tactic| walk_at "compareOp Is") => `(tactic| ((with_reducible show wpAny _ _ (compareOp CmpOp.Is (ovv _) Value.none) _ _ _); refine ov_isNone ?_))
local macro_rules | `(tactic| walk_at "compareOp IsNot") => `(tactic| ((with_reducible show wpAny _ _ (compareOp CmpOp.IsNot (ovv _) Value.none) _ _ _); refine ov_isNotNone ?_))
local macro_rules | `(tactic| walk_at "truthy") => `(tactic| ((with_reducible show wpAny _ _ (truthy (ovv _)) _ _ _); refine ov_truthy ?_; intro tk))
local macro_rules | `(tactic| k_handed) => `(tactic| exact handedIn_ovv _)
local macro_rules | `(tactic| walk_at "call builtin:hasattr") => `(tactic| (k_here; k_dflt (refine' hasattr_K ?k1 ?k2 ?k3 ?k4 ?k5 ?k6 ?k7 ?k8 ?k9 ?k10 ?_; (case k1 => k_asm); (case k2 => k_asm); (case k3 => k_inst); (case k4 => k_is); (case k5 => k_is); (case k6 => k_is); (case k7 => k_is); (case k8 => k_is); (case k9 => k_get); (case k10 => k_handed); k_whole)))
local macro_rules | `(tactic| walk_at "call builtin:getattr") => `(tactic| (k_here; k_dflt (refine' getattr_K ?k1 ?k2 ?k3 ?k4 ?k5 ?k6 ?k7 ?k9 ?k10 ?_; (case k1 => k_asm); (case k2 => k_asm); (case k3 => k_inst); (case k4 => k_is); (case k5 => k_is); (case k6 => k_is); (case k7 => k_is); (case k9 => k_get); (case k10 => k_handed); k_whole)))
local macro_rules | `(tactic| k_room) => `(tactic| ((try simp only [depth_under_make, depth_under_kw, depth_in1, depth_deeper, depth_caller]); omega))
local macro_rules | `(tactic| walk_at "subscriptTail") => `(tactic| (k_here; (with_reducible show wpAny _ _ (subscriptTail _ _ (Value.ref _) (Value.str _ _)) _ _ _); k_dflt (refine' kdt_tail (knd := PySem.strKind _ _) ?N ?p ?d ?_; (case N => k_asm); (case p => k_mem); (case d => unfold DataIs at *; assumption); k_whole)))
local macro_rules | `(tactic| walk_at "subscriptTail Attribute Name Constant ref str") => `(tactic| (k_here; (with_reducible show wpAny _ _ (subscriptTail _ _ (Value.ref _) (Value.str _ _)) _ _ _); k_dflt (refine' kdt_tail (knd := PySem.strKind _ _) ?N ?p ?d ?_; (case N => k_asm); (case p => k_mem); (case d => unfold DataIs at *; assumption); k_whole)))
local macro_rules | `(tactic| walk_at "getItem ref str") => `(tactic| (k_here; k_dflt (refine' data_item ?d ?N ?p ?l ?_; (case N => k_asm); (case p => k_mem); (case d => assumption); (case l => rfl); k_whole)))
local macro_rules | `(tactic| walk_at "getMethod ref") => `(tactic| (k_here; (with_reducible show wpAny _ _ (getMethod (Value.ref _) (Str.ofString "get") _) _ _ _); k_dflt (refine' tab_method ?T ?N ?p ?_; (case N => k_asm); (case p => k_mem); (case T => assumption); k_whole)))
local macro_rules | `(tactic| walk_at "call builtin:dict.get") => `(tactic| (k_here; (with_reducible show wpAny _ _ (call (Value.builtin "dict.get") [Value.ref _, ovv _]) _ _ _); k_dflt (refine' tab_get ?T ?N ?p ?l ?k ?_; (case N => k_asm); (case p => k_mem); (case T => assumption); (case l => assumption); (case k => assumption); k_whole)))
local macro_rules | `(tactic| walk_at "call builtin:dict.get") => `(tactic| (k_here; (with_reducible show wpAny _ _ (call (Value.builtin "dict.get") [Value.ref _, Value.str _ _]) _ _ _); k_dflt (refine' tab_getE ?T ?N ?p ?l ?k ?_; (case N => k_asm); (case p => k_mem); (case T => assumption); (case l => assumption); (case k => assumption); k_whole)))
local macro_rules | `(tactic| walk_at "compareOp NotEq ref ref") => `(tactic| (k_here; (with_reducible show wpAny _ _ (compareOp CmpOp.NotEq (Value.ref _) (Value.ref _)) _ _ _); (with_reducible rename MkL _ _ => mkl); k_dflt (first | (refine' ne_tups mkl ?N ?a ?b rfl ?u ?_; (case N => k_asm); (case a => k_mem); (case b => k_mem); (case u => ke_room); k_whole) | (refine' ne_ovs mkl ?N ?a ?b ?u ?_; (case N => k_asm); (case a => k_mem); (case b => k_mem); (case u => ke_room); k_whole))))
local macro_rules | `(tactic| walk_at "CutS") => `(tactic| first | (refine' cutS_s ?c ?F ?N ?P; (case F => k_asm); (case c => decide); (case N => first | k_asm | (refine' cb_drop ?cbN ?cbS; (case cbN => assumption); (case cbS => kcj_all))); (case P => first | exact Or.inl rfl | exact Or.inr rfl | (refine Or.inr ⟨rfl, ?_⟩; rintro ⟨rfl, rfl, rfl⟩; simp_all; done))) | (refine' cutS_n ?F ?N ?P; (case F => k_asm); (case N => first | k_asm | (refine' cb_drop ?cbN ?cbS; (case cbN => assumption); (case cbS => kcj_all))); (case P => first | exact Or.inl rfl | exact Or.inr rfl)))
local macro_rules | `(tactic| walk_at "call builtin:str.join") => `(tactic| (k_here; (with_reducible show wpAny _ _ (call (Value.builtin "str.join") [Value.str _ _, Value.ref _]) _ _ _); (with_reducible rename MkJ _ => mkj); k_dflt (refine' join_items ?N ?a mkj.tr mkj.sm mkj.len ?s ?_; (case N => k_asm); (case a => k_mem); (case s => decide); k_whole); intro p' tk' hp' hpl'))
local macro_rules | `(tactic| walk_at "binaryOp Add str str") => `(tactic| (k_dflt (refine' PyProof.Rows.add_str ?_ ?z9; (case z9 => (simp only [Str.length_append, lenA, lenB, lenE, sizeLine_eq]; omega))); intro u9 tk9))
local macro_rules | `(tactic| walk_at "call builtin:dict.get") => `(tactic| (k_here; (with_reducible show wpAny _ _ (call (Value.builtin "dict.get") [Value.ref _, Value.str (Nm.x _) (Nm.t _)]) _ _ _); k_dflt (refine' tab_get (k := some _) ?T ?N ?p ?l ?k ?_; (case N => k_asm); (case p => k_mem); (case T => assumption); (case l => assumption); (case k => assumption); k_whole)))
local macro_rules | `(tactic| walk_at "CutB") => `(tactic| (refine' cutB_i ?e ?F ?N; (case F => k_asm); (case N => first | k_asm | (refine' cb_drop ?cbN ?cbS; (case cbN => assumption); (case cbS => kcj_all))); (case e => first | rfl | exact ce1 (by assumption) (by assumption) | exact ce2 (by assumption) (by assumption) | exact ce3 (by assumption))))
local macro_rules | `(tactic| walk_at "execs cons") => `(tactic| refine wpAny_execs_cons ?_)
local macro_rules | `(tactic| walk_at "formatField") => `(tactic| ((with_reducible show wpAny _ _ (formatField (Value.str (Nm.x _) (Nm.t _)) _) _ _ _); k_dflt (refine' ff_nm (Nm.short _) ?_); intro u9 tk9))
local macro_rules | `(tactic| walk_at "And") => `(tactic| ((with_reducible show Str.length _ ≤ sizeLine ∧ _); refine' ⟨?z9, ?_⟩; (case z9 => (simp only [Str.length_append, lenAt, lenE, sizeLine_eq]; omega))))
local macro_rules | `(tactic| walk_at "call ref") => `(tactic| (k_here; (with_reducible show wpAny _ _ (call (Value.ref 195) _ _) _ _ _); (with_reducible rename (∀ o ∈ _, Sm o) => hsm9); k_dflt (refine' gli ?d ?f ?k ?B ?F ?X ?N ?T ?ht hsm9 ?_; (case d => k_room); (case f => exact rfl); (case k => exact rfl); (case B => k_asm); (case F => k_asm); (case X => k_asm); (case N => k_asm); (case T => k_asm); (case ht => k_mem); k_whole); intro p' h' tk' hp' F' N'; (try k_sweep)))
set_option maxHeartbeats 8000000 in
theorem str_loc {w : World} {base h₀ : Heap} {fa : Addr} {cd : Value} {L : Addr} {m : Str → Option Value} {news : List (Addr × Obj)} {s : Shared} {Q E : Value → Shared → Prop} {mg mb : Str → Option Value} {mean : ExcName → Option Value} {p : Program} {loose : List Str}
   (B : Below callerA base [] h₀) (F : Fr h₀ L s.heap m) (X₀ : (hd.heap_39 w.params).In h₀) (N : News h₀ L s.heap news) (T : Top p loose mean mg mb h₀)
   {ol ot os ov om : P2} {x dx : Addr} {t1 t2 t3 t4 t5 t6 : Tok} {vd : Value}
   (hx : (x, instObj 177 dx) ∈ news) (hdx : (dx, dictOf (locEs w t1 t2 t3 t4 t5 t6 (ovv ol) (ovv ot) (ovv os) (ovv ov) (ovv om) vd) 6) ∈ news) (hsm : ∀ o ∈ [ol, ot, os, ov, om], Sm o)
   (k : ∀ (n : Nm) h' tk', n.x = ident ol ot os ov om → Fr h₀ L h' m → News h₀ L h' news → Q (.str (Nm.x n) (Nm.t n)) {s with heap := h', toks := tk'}) :
   wpAny (model Challenge.rw_nk0010_01.row.prog w) (callerA.deeper (lawEnv L fa cd)) (call (.type "str") [.ref x]) Q E s := by
  repeat' (walk_at "STEP1")
  exact k _ _ _ (by assumption) (by assumption) (nd (by assumption))
end
section
theorem off_Plain : True := by
  w_top off
  exact trivial
theorem join_pos {sep x : Str} : ∀ r, x.length ≤ (Str.join sep (x :: r)).length
  | [] => Nat.le_refl _
  | y :: r => by
    show x.length ≤ (x ++ sep ++ Str.join sep (y :: r)).length
    simp only [Str.length_append]
    omega
theorem tr_some {p : Nm} (h : tr (some p) = true) : 0 < p.x.length := by
  have : ((p.x.length : Int) != 0) = true := h
  simp at this
  omega
theorem disp_due {R : P2} {c : Bool} {l : List (Bool × P2)} {items : List P2} (hi : items = (l.flatMap fun p => if p.1 = true then [p.2] else []).filter tr) (hc : c = false → items = []) : disp R c l = dueX R items := by
  have hk : kept (l.flatMap fun p => if p.1 = true then [p.2] else []) = items.map nmx := by rw [hi]; rfl
  have htr : ∀ o ∈ items, tr o = true := fun o ho => by rw [hi] at ho; exact (List.mem_filter.mp ho).2
  unfold disp dueX
  dsimp only
  rw [hk]
  cases hR : tr R with
  | false => simp
  | true =>
    cases R with
    | none => cases hR
    | some pR =>
      cases hcc : c with
      | false => rw [hc hcc]; simp
      | true =>
        rw [if_pos (by rfl)]
        cases items with
        | nil => simp [Str.join, nmx, lenE]
        | cons o r =>
          have h1 : ((Str.join (Str.ofString ", ") ((o :: r).map nmx)).length : Int) ≠ 0 := by
            cases o with
            | none => cases htr _ (.head _)
            | some p =>
              have h2 := tr_some (htr _ (.head _))
              have h3 := join_pos (sep := Str.ofString ", ") (x := p.x) (r.map nmx)
              have : (Str.join (Str.ofString ", ") ((some p :: r).map nmx)).length = (Str.join (Str.ofString ", ") (p.x :: r.map nmx)).length := rfl
              rw [this]
              omega
          rw [if_pos (bne_iff_ne.mpr h1), if_pos (by simp)]
theorem tr_len {p : Nm} {c : Str} (h : p.x = c) (hc : c.length ≠ 0) : tr (some p) = true := by
  show ((p.x.length : Int) != 0) = true
  rw [h]
  simp
  exact hc
theorem two_tr {o : P2} {c : Str} (h : Two (some c) none o) (hc : c.length ≠ 0) : (o = none ∧ tr o = false) ∨ (o.map Nm.x = some c ∧ tr o = true) := by
  cases o with
  | none => exact .inl ⟨rfl, rfl⟩
  | some p =>
    rcases h with h | h
    · exact .inr ⟨h, tr_len (Option.some.inj h) hc⟩
    · cases h
theorem filt_pair {c : Bool} {o : P2} (h : c = true ∨ tr o = false) : List.filter tr (if c = true then [o] else []) = List.filter tr [o] := by
  rcases h with h | h
  · rw [if_pos h]
  · cases c
    · simp [h]
    · rfl
theorem setup_disp {pl : Nm} {ot os ov om : P2} (S : Setup pl ot os ov om) {R r2 r3 r4 : P2} {items : List P2} (hi : items = List.filter tr [lk (Str.ofString "Hant") r2 os, lk (Str.ofString "TW") r3 ot, lk (Str.ofString "POSIX") r4 ov, om]) :
    disp R (tr ot || tr os || tr ov) [(tr os, lk (Str.ofString "Hant") r2 os), (tr ot, lk (Str.ofString "TW") r3 ot), (tr ov, lk (Str.ofString "POSIX") r4 ov), (tr om, om)] = dueX R items := by
  have hs := two_tr S.s (by decide)
  have ht := two_tr S.t (by decide)
  have hv := two_tr S.v (by decide)
  have hn : ∀ (c : Str) (r : P2), lk c r none = none := fun c r => by simp [lk]
  refine disp_due ?_ ?_
  · rw [hi]
    have f2 : tr os = true ∨ tr (lk (Str.ofString "Hant") r2 os) = false := by
      rcases hs with ⟨rfl, _⟩ | ⟨_, h⟩
      · right; rw [hn]; rfl
      · exact .inl h
    have f3 : tr ot = true ∨ tr (lk (Str.ofString "TW") r3 ot) = false := by
      rcases ht with ⟨rfl, _⟩ | ⟨_, h⟩
      · right; rw [hn]; rfl
      · exact .inl h
    have f4 : tr ov = true ∨ tr (lk (Str.ofString "POSIX") r4 ov) = false := by
      rcases hv with ⟨rfl, _⟩ | ⟨_, h⟩
      · right; rw [hn]; rfl
      · exact .inl h
    have f5 : tr om = true ∨ tr om = false := by cases tr om <;> simp
    simp only [List.flatMap_cons, List.flatMap_nil, List.append_nil, List.filter_append, filt_pair f2, filt_pair f3, filt_pair f4, filt_pair f5]
    rw [← List.filter_append, ← List.filter_append, ← List.filter_append]
    rfl
  · intro hc
    have h3 : tr ot = false ∧ tr os = false ∧ tr ov = false := by simpa [Bool.or_eq_false_iff, and_assoc] using hc
    obtain ⟨et, es, ev⟩ := h3
    rcases hs with ⟨rfl, _⟩ | ⟨_, h⟩
    · rcases ht with ⟨rfl, _⟩ | ⟨_, h⟩
      · rcases hv with ⟨rfl, _⟩ | ⟨_, h⟩
        · have hm : om = none := by
            rcases S.m with h | ⟨_, h⟩
            · exact h
            · exact absurd ⟨rfl, rfl, rfl⟩ h
          subst hm
          rw [hi, hn, hn, hn]
          rfl
        · rw [ev] at h; cases h
      · rw [et] at h; cases h
    · rw [es] at h; cases h
theorem eqv_same {a b : P2} {x : Option Str} (ha : a.map Nm.x = x) (hb : b.map Nm.x = x) : eqv a b = true := by simp [eqv, ha, hb]
end
section
theorem off_A : True := by
  w_top off
  exact trivial
local macro_rules | `(tactic| k_mem) => `(tactic| assumption)
local macro_rules | `(tactic| walk_at "compareOp Eq") => `(tactic| ((with_reducible show wpAny _ _ (compareOp CmpOp.Eq (ovv _) (ovv _)) _ _ _); refine ov_eq ?_))
local macro_rules | `(tactic| walk_at "compareOp NotEq") => `(tactic| ((with_reducible show wpAny _ _ (compareOp CmpOp.NotEq (ovv _) (ovv _)) _ _ _); refine ov_ne ?_))
local macro_rules | `(tactic| walk_at "compareOp Is") => `(tactic| ((with_reducible show wpAny _ _ (compareOp CmpOp.Is (ovv _) Value.none) _ _ _); refine ov_isNone ?_))
local macro_rules | `(tactic| walk_at "compareOp IsNot") => `(tactic| ((with_reducible show wpAny _ _ (compareOp CmpOp.IsNot (ovv _) Value.none) _ _ _); refine ov_isNotNone ?_))
local macro_rules | `(tactic| walk_at "truthy") => `(tactic| ((with_reducible show wpAny _ _ (truthy (ovv _)) _ _ _); refine ov_truthy ?_; intro tk))
local macro_rules | `(tactic| k_handed) => `(tactic| exact handedIn_ovv _)
local macro_rules | `(tactic| walk_at "call builtin:hasattr") => `(tactic| (k_here; k_dflt (refine' hasattr_K ?k1 ?k2 ?k3 ?k4 ?k5 ?k6 ?k7 ?k8 ?k9 ?k10 ?_; (case k1 => k_asm); (case k2 => k_asm); (case k3 => k_inst); (case k4 => k_is); (case k5 => k_is); (case k6 => k_is); (case k7 => k_is); (case k8 => k_is); (case k9 => k_get); (case k10 => k_handed); k_whole)))
local macro_rules | `(tactic| walk_at "call builtin:getattr") => `(tactic| (k_here; k_dflt (refine' getattr_K ?k1 ?k2 ?k3 ?k4 ?k5 ?k6 ?k7 ?k9 ?k10 ?_; (case k1 => k_asm); (case k2 => k_asm); (case k3 => k_inst); (case k4 => k_is); (case k5 => k_is); (case k6 => k_is); (case k7 => k_is); (case k9 => k_get); (case k10 => k_handed); k_whole)))
local macro_rules | `(tactic| k_room) => `(tactic| ((try simp only [depth_under_make, depth_under_kw, depth_in1, depth_deeper, depth_caller]); omega))
local macro_rules | `(tactic| walk_at "subscriptTail") => `(tactic| (k_here; (with_reducible show wpAny _ _ (subscriptTail _ _ (Value.ref _) (Value.str _ _)) _ _ _); k_dflt (refine' kdt_tail (knd := PySem.strKind _ _) ?N ?p ?d ?_; (case N => k_asm); (case p => k_mem); (case d => unfold DataIs at *; assumption); k_whole)))
local macro_rules | `(tactic| walk_at "subscriptTail Attribute Name Constant ref str") => `(tactic| (k_here; (with_reducible show wpAny _ _ (subscriptTail _ _ (Value.ref _) (Value.str _ _)) _ _ _); k_dflt (refine' kdt_tail (knd := PySem.strKind _ _) ?N ?p ?d ?_; (case N => k_asm); (case p => k_mem); (case d => unfold DataIs at *; assumption); k_whole)))
local macro_rules | `(tactic| walk_at "getItem ref str") => `(tactic| (k_here; k_dflt (refine' data_item ?d ?N ?p ?l ?_; (case N => k_asm); (case p => k_mem); (case d => assumption); (case l => rfl); k_whole)))
local macro_rules | `(tactic| walk_at "getMethod ref") => `(tactic| (k_here; (with_reducible show wpAny _ _ (getMethod (Value.ref _) (Str.ofString "get") _) _ _ _); k_dflt (refine' tab_method ?T ?N ?p ?_; (case N => k_asm); (case p => k_mem); (case T => assumption); k_whole)))
local macro_rules | `(tactic| walk_at "call builtin:dict.get") => `(tactic| (k_here; (with_reducible show wpAny _ _ (call (Value.builtin "dict.get") [Value.ref _, ovv _]) _ _ _); k_dflt (refine' tab_get ?T ?N ?p ?l ?k ?_; (case N => k_asm); (case p => k_mem); (case T => assumption); (case l => assumption); (case k => assumption); k_whole)))
local macro_rules | `(tactic| walk_at "call builtin:dict.get") => `(tactic| (k_here; (with_reducible show wpAny _ _ (call (Value.builtin "dict.get") [Value.ref _, Value.str _ _]) _ _ _); k_dflt (refine' tab_getE ?T ?N ?p ?l ?k ?_; (case N => k_asm); (case p => k_mem); (case T => assumption); (case l => assumption); (case k => assumption); k_whole)))
local macro_rules | `(tactic| walk_at "CutS") => `(tactic| first | (refine' cutS_s ?c ?F ?N ?P; (case F => k_asm); (case c => decide); (case N => first | k_asm | (refine' cb_drop ?cbN ?cbS; (case cbN => assumption); (case cbS => kcj_all))); (case P => first | exact Or.inl rfl | exact Or.inr rfl | (refine Or.inr ⟨rfl, ?_⟩; rintro ⟨rfl, rfl, rfl⟩; simp_all; done))) | (refine' cutS_n ?F ?N ?P; (case F => k_asm); (case N => first | k_asm | (refine' cb_drop ?cbN ?cbS; (case cbN => assumption); (case cbS => kcj_all))); (case P => first | exact Or.inl rfl | exact Or.inr rfl)))
set_option maxHeartbeats 8000000 in
theorem segA {w : World} {base h₀ : Heap} {fa : Addr} {cd : Value} {L : Addr} {m : Str → Option Value} {news : List (Addr × Obj)} {s : Shared} {Q : Flow → Shared → Prop} {E : Value → Shared → Prop} {mg mb : Str → Option Value} {mean : ExcName → Option Value} {p : Program} {loose : List Str}
   {sc : Addr} {oc : Obj} {vs : List Value} {ns : List Int}
   (B : Below callerA base [] h₀) (F : Fr h₀ L s.heap m) (X₀ : (hd.heap_39 w.params).In h₀) (N : News h₀ L s.heap ((L + 1, oc) :: news)) (T : Top p loose mean mg mb h₀)
   (hoc : oc.data = .cell (some (.ref sc))) (hL : h₀.IsList sc vs.toArray) (hI : IntsAre vs ns) (hlen : ¬ (63 : Int) < ns.length)
   (k : ∀ i t l i0 i1 i2 i3 t0 t1 t2 t3 h' tk', Fr h₀ L h' (fun y0 => if y0 = Str.ofString "numbers" then some (.ref l) else if y0 = Str.ofString "setting" then some (.int i t) else m y0) → News h₀ L h' ((l, LCg.lst [.int i0 t0, .int i1 t1, .int i2 t2, .int i3 t3]) :: (L + 1, oc) :: news) → Q .next {s with heap := h', toks := tk'}) :
   wpAny (model Challenge.rw_nk0010_01.row.prog w) (callerA.deeper (lawEnv L fa cd)) (execs [lawSt 0, lawSt 1] (lawEnv L fa cd)) Q E s := by
  have e0 : lawSt 0 = lawSt 0 := rfl
  conv at e0 => rhs; whnf
  have e1 : lawSt 1 = lawSt 1 := rfl
  conv at e1 => rhs; whnf
  rw [e0, e1]
  clear e0 e1
  repeat' (walk_at "STEP1")
  all_goals rename_i hI8 hL8 _ _ _ F' N' _
  all_goals obtain ⟨i0, t0, i1, t1, i2, t2, i3, t3, rfl⟩ := ints4 hI8 hL8
  all_goals exact k _ _ _ _ _ _ _ _ _ _ _ _ _ F' N'
end
section
theorem off_B : True := by
  w_top off
  exact trivial
local macro_rules | `(tactic| k_mem) => `(tactic| assumption)
local macro_rules | `(tactic| walk_at "compareOp Eq") => `(tactic| ((with_reducible show wpAny _ _ (compareOp CmpOp.Eq (ovv _) (ovv _)) _ _ _); refine ov_eq ?_))
local macro_rules | `(tactic| walk_at "compareOp NotEq") => `(tactic| ((with_reducible show wpAny _ _ (compareOp CmpOp.NotEq (ovv _) (ovv _)) _ _ _); refine ov_ne ?_))
local macro_rules | `(tactic| walk_at "compareOp Is") => `(tactic| ((with_reducible show wpAny _ _ (compareOp CmpOp.Is (ovv _) Value.none) _ _ _); refine ov_isNone ?_))
local macro_rules | `(tactic| walk_at "compareOp IsNot") => `(tactic| ((with_reducible show wpAny _ _ (compareOp CmpOp.IsNot (ovv _) Value.none) _ _ _); refine ov_isNotNone ?_))
local macro_rules | `(tactic| walk_at "truthy") => `(tactic| ((with_reducible show wpAny _ _ (truthy (ovv _)) _ _ _); refine ov_truthy ?_; intro tk))
local macro_rules | `(tactic| k_handed) => `(tactic| exact handedIn_ovv _)
local macro_rules | `(tactic| walk_at "call builtin:hasattr") => `(tactic| (k_here; k_dflt (refine' hasattr_K ?k1 ?k2 ?k3 ?k4 ?k5 ?k6 ?k7 ?k8 ?k9 ?k10 ?_; (case k1 => k_asm); (case k2 => k_asm); (case k3 => k_inst); (case k4 => k_is); (case k5 => k_is); (case k6 => k_is); (case k7 => k_is); (case k8 => k_is); (case k9 => k_get); (case k10 => k_handed); k_whole)))
local macro_rules | `(tactic| walk_at "call builtin:getattr") => `(tactic| (k_here; k_dflt (refine' getattr_K ?k1 ?k2 ?k3 ?k4 ?k5 ?k6 ?k7 ?k9 ?k10 ?_; (case k1 => k_asm); (case k2 => k_asm); (case k3 => k_inst); (case k4 => k_is); (case k5 => k_is); (case k6 => k_is); (case k7 => k_is); (case k9 => k_get); (case k10 => k_handed); k_whole)))
local macro_rules | `(tactic| k_room) => `(tactic| ((try simp only [depth_under_make, depth_under_kw, depth_in1, depth_deeper, depth_caller]); omega))
local macro_rules | `(tactic| walk_at "subscriptTail") => `(tactic| (k_here; (with_reducible show wpAny _ _ (subscriptTail _ _ (Value.ref _) (Value.str _ _)) _ _ _); k_dflt (refine' kdt_tail (knd := PySem.strKind _ _) ?N ?p ?d ?_; (case N => k_asm); (case p => k_mem); (case d => unfold DataIs at *; assumption); k_whole)))
local macro_rules | `(tactic| walk_at "subscriptTail Attribute Name Constant ref str") => `(tactic| (k_here; (with_reducible show wpAny _ _ (subscriptTail _ _ (Value.ref _) (Value.str _ _)) _ _ _); k_dflt (refine' kdt_tail (knd := PySem.strKind _ _) ?N ?p ?d ?_; (case N => k_asm); (case p => k_mem); (case d => unfold DataIs at *; assumption); k_whole)))
local macro_rules | `(tactic| walk_at "getItem ref str") => `(tactic| (k_here; k_dflt (refine' data_item ?d ?N ?p ?l ?_; (case N => k_asm); (case p => k_mem); (case d => assumption); (case l => rfl); k_whole)))
local macro_rules | `(tactic| walk_at "getMethod ref") => `(tactic| (k_here; (with_reducible show wpAny _ _ (getMethod (Value.ref _) (Str.ofString "get") _) _ _ _); k_dflt (refine' tab_method ?T ?N ?p ?_; (case N => k_asm); (case p => k_mem); (case T => assumption); k_whole)))
local macro_rules | `(tactic| walk_at "call builtin:dict.get") => `(tactic| (k_here; (with_reducible show wpAny _ _ (call (Value.builtin "dict.get") [Value.ref _, ovv _]) _ _ _); k_dflt (refine' tab_get ?T ?N ?p ?l ?k ?_; (case N => k_asm); (case p => k_mem); (case T => assumption); (case l => assumption); (case k => assumption); k_whole)))
local macro_rules | `(tactic| walk_at "call builtin:dict.get") => `(tactic| (k_here; (with_reducible show wpAny _ _ (call (Value.builtin "dict.get") [Value.ref _, Value.str _ _]) _ _ _); k_dflt (refine' tab_getE ?T ?N ?p ?l ?k ?_; (case N => k_asm); (case p => k_mem); (case T => assumption); (case l => assumption); (case k => assumption); k_whole)))
local macro_rules | `(tactic| walk_at "compareOp NotEq ref ref") => `(tactic| (k_here; (with_reducible show wpAny _ _ (compareOp CmpOp.NotEq (Value.ref _) (Value.ref _)) _ _ _); (with_reducible rename MkL _ _ => mkl); k_dflt (first | (refine' ne_tups mkl ?N ?a ?b rfl ?u ?_; (case N => k_asm); (case a => k_mem); (case b => k_mem); (case u => ke_room); k_whole) | (refine' ne_ovs mkl ?N ?a ?b ?u ?_; (case N => k_asm); (case a => k_mem); (case b => k_mem); (case u => ke_room); k_whole))))
local macro_rules | `(tactic| walk_at "CutS") => `(tactic| first | (refine' cutS_s ?c ?F ?N ?P; (case F => k_asm); (case c => decide); (case N => first | k_asm | (refine' cb_drop ?cbN ?cbS; (case cbN => assumption); (case cbS => kcj_all))); (case P => first | exact Or.inl rfl | exact Or.inr rfl | (refine Or.inr ⟨rfl, ?_⟩; rintro ⟨rfl, rfl, rfl⟩; simp_all; done))) | (refine' cutS_n ?F ?N ?P; (case F => k_asm); (case N => first | k_asm | (refine' cb_drop ?cbN ?cbS; (case cbN => assumption); (case cbS => kcj_all))); (case P => first | exact Or.inl rfl | exact Or.inr rfl)))
set_option maxHeartbeats 8000000 in
theorem segB {w : World} {base h₀ : Heap} {fa : Addr} {cd : Value} {L : Addr} {m : Str → Option Value} {news : List (Addr × Obj)} {s : Shared} {Q : Flow → Shared → Prop} {E : Value → Shared → Prop} {mg mb : Str → Option Value} {mean : ExcName → Option Value} {p : Program} {loose : List Str}
   {i : Int} {t : Tok} {l : Addr}
   (B : Below callerA base [] h₀) (F : Fr h₀ L s.heap (fun y0 => if y0 = Str.ofString "numbers" then some (.ref l) else if y0 = Str.ofString "setting" then some (.int i t) else m y0)) (X₀ : (hd.heap_39 w.params).In h₀) (N : News h₀ L s.heap news) (T : Top p loose mean mg mb h₀)
   
   (k : ∀ (pl : Nm) ot os ov om h' tk', Setup pl ot os ov om → Fr h₀ L h' (fun y0 => if y0 = Str.ofString "modifier" then some (ovv om) else if y0 = Str.ofString "variant" then some (ovv ov) else if y0 = Str.ofString "territory" then some (ovv ot) else if y0 = Str.ofString "written" then some (ovv os) else if y0 = Str.ofString "language" then some (.str (Nm.x pl) (Nm.t pl)) else if y0 = Str.ofString "numbers" then some (.ref l) else if y0 = Str.ofString "setting" then some (.int i t) else m y0) → News h₀ L h' news → Q .next {s with heap := h', toks := tk'}) :
   wpAny (model Challenge.rw_nk0010_01.row.prog w) (callerA.deeper (lawEnv L fa cd)) (execs [lawSt 2, lawSt 3, lawSt 4, lawSt 5, lawSt 6] (lawEnv L fa cd)) Q E s := by
  have e2 : lawSt 2 = lawSt 2 := rfl
  conv at e2 => rhs; whnf
  have e3 : lawSt 3 = lawSt 3 := rfl
  conv at e3 => rhs; whnf
  have e4 : lawSt 4 = lawSt 4 := rfl
  conv at e4 => rhs; whnf
  have e5 : lawSt 5 = lawSt 5 := rfl
  conv at e5 => rhs; whnf
  have e6 : lawSt 6 = lawSt 6 := rfl
  conv at e6 => rhs; whnf
  rw [e2, e3, e4, e5, e6]
  clear e2 e3 e4 e5 e6
  refine wpAny_execs_cons (st_cut (h₀ := h₀) (L := L) (m := (fun y0 => if y0 = Str.ofString "numbers" then some (.ref l) else if y0 = Str.ofString "setting" then some (.int i t) else m y0)) (news := news) (Two (some (Str.ofString "zh")) (some (Str.ofString "en"))) (Str.ofString "language") ?_ ?_)
  · repeat' (walk_at "STEP1")
  clear F N
  intro ol h' tk' Pl F N
  dsimp only
  obtain ⟨pl, rfl, Pq⟩ := two_l Pl
  refine wpAny_execs_cons (st_cut (h₀ := h₀) (L := L) (m := (fun y0 => if y0 = Str.ofString "language" then some (.str (Nm.x pl) (Nm.t pl)) else if y0 = Str.ofString "numbers" then some (.ref l) else if y0 = Str.ofString "setting" then some (.int i t) else m y0)) (news := news) (Two (some (Str.ofString "Hant")) none) (Str.ofString "written") ?_ ?_)
  · repeat' (walk_at "STEP1")
  clear F N
  intro os h' tk' Ps F N
  dsimp only
  refine wpAny_execs_cons (st_cut (h₀ := h₀) (L := L) (m := (fun y0 => if y0 = Str.ofString "written" then some (ovv os) else if y0 = Str.ofString "language" then some (.str (Nm.x pl) (Nm.t pl)) else if y0 = Str.ofString "numbers" then some (.ref l) else if y0 = Str.ofString "setting" then some (.int i t) else m y0)) (news := news) (Two (some (Str.ofString "TW")) none) (Str.ofString "territory") ?_ ?_)
  · repeat' (walk_at "STEP1")
  clear F N
  intro ot h' tk' Pt F N
  dsimp only
  refine wpAny_execs_cons (st_cut (h₀ := h₀) (L := L) (m := (fun y0 => if y0 = Str.ofString "territory" then some (ovv ot) else if y0 = Str.ofString "written" then some (ovv os) else if y0 = Str.ofString "language" then some (.str (Nm.x pl) (Nm.t pl)) else if y0 = Str.ofString "numbers" then some (.ref l) else if y0 = Str.ofString "setting" then some (.int i t) else m y0)) (news := news) (Two (some (Str.ofString "POSIX")) none) (Str.ofString "variant") ?_ ?_)
  · repeat' (walk_at "STEP1")
  clear F N
  intro ov h' tk' Pv F N
  dsimp only
  refine wpAny_execs_cons (st_cut (h₀ := h₀) (L := L) (m := (fun y0 => if y0 = Str.ofString "variant" then some (ovv ov) else if y0 = Str.ofString "territory" then some (ovv ot) else if y0 = Str.ofString "written" then some (ovv os) else if y0 = Str.ofString "language" then some (.str (Nm.x pl) (Nm.t pl)) else if y0 = Str.ofString "numbers" then some (.ref l) else if y0 = Str.ofString "setting" then some (.int i t) else m y0)) (news := news) (fun om => om = none ∨ (om.map Nm.x = some (Str.ofString "euro") ∧ ¬ (os = none ∧ ot = none ∧ ov = none))) (Str.ofString "modifier") ?_ ?_)
  · clear k Pl Pq Ps Pt Pv
    have mkl : MkL [os, ot, ov] [none, none, none] := ⟨⟩
    repeat' (walk_at "STEP1")
  clear F N
  intro om h' tk' Pm F N
  dsimp only
  exact wpAny_execs_nil (k _ _ _ _ _ _ _ ⟨Pq, Ps, Pt, Pv, Pm⟩ F N)
end
section
theorem off_C : True := by
  w_top off
  exact trivial
local macro_rules | `(tactic| k_mem) => `(tactic| assumption)
local macro_rules | `(tactic| walk_at "compareOp Eq") => `(tactic| ((with_reducible show wpAny _ _ (compareOp CmpOp.Eq (ovv _) (ovv _)) _ _ _); refine ov_eq ?_))
local macro_rules | `(tactic| walk_at "compareOp NotEq") => `(tactic| ((with_reducible show wpAny _ _ (compareOp CmpOp.NotEq (ovv _) (ovv _)) _ _ _); refine ov_ne ?_))
local macro_rules | `(tactic| walk_at "compareOp Is") => `(tactic| ((with_reducible show wpAny _ _ (compareOp CmpOp.Is (ovv _) Value.none) _ _ _); refine ov_isNone ?_))
local macro_rules | `(tactic| walk_at "compareOp IsNot") => `(tactic| ((with_reducible show wpAny _ _ (compareOp CmpOp.IsNot (ovv _) Value.none) _ _ _); refine ov_isNotNone ?_))
local macro_rules | `(tactic| walk_at "truthy") => `(tactic| ((with_reducible show wpAny _ _ (truthy (ovv _)) _ _ _); refine ov_truthy ?_; intro tk))
local macro_rules | `(tactic| k_handed) => `(tactic| exact handedIn_ovv _)
local macro_rules | `(tactic| walk_at "call builtin:hasattr") => `(tactic| (k_here; k_dflt (refine' hasattr_K ?k1 ?k2 ?k3 ?k4 ?k5 ?k6 ?k7 ?k8 ?k9 ?k10 ?_; (case k1 => k_asm); (case k2 => k_asm); (case k3 => k_inst); (case k4 => k_is); (case k5 => k_is); (case k6 => k_is); (case k7 => k_is); (case k8 => k_is); (case k9 => k_get); (case k10 => k_handed); k_whole)))
local macro_rules | `(tactic| walk_at "call builtin:getattr") => `(tactic| (k_here; k_dflt (refine' getattr_K ?k1 ?k2 ?k3 ?k4 ?k5 ?k6 ?k7 ?k9 ?k10 ?_; (case k1 => k_asm); (case k2 => k_asm); (case k3 => k_inst); (case k4 => k_is); (case k5 => k_is); (case k6 => k_is); (case k7 => k_is); (case k9 => k_get); (case k10 => k_handed); k_whole)))
local macro_rules | `(tactic| k_room) => `(tactic| ((try simp only [depth_under_make, depth_under_kw, depth_in1, depth_deeper, depth_caller]); omega))
local macro_rules | `(tactic| walk_at "subscriptTail") => `(tactic| (k_here; (with_reducible show wpAny _ _ (subscriptTail _ _ (Value.ref _) (Value.str _ _)) _ _ _); k_dflt (refine' kdt_tail (knd := PySem.strKind _ _) ?N ?p ?d ?_; (case N => k_asm); (case p => k_mem); (case d => unfold DataIs at *; assumption); k_whole)))
local macro_rules | `(tactic| walk_at "subscriptTail Attribute Name Constant ref str") => `(tactic| (k_here; (with_reducible show wpAny _ _ (subscriptTail _ _ (Value.ref _) (Value.str _ _)) _ _ _); k_dflt (refine' kdt_tail (knd := PySem.strKind _ _) ?N ?p ?d ?_; (case N => k_asm); (case p => k_mem); (case d => unfold DataIs at *; assumption); k_whole)))
local macro_rules | `(tactic| walk_at "getItem ref str") => `(tactic| (k_here; k_dflt (refine' data_item ?d ?N ?p ?l ?_; (case N => k_asm); (case p => k_mem); (case d => assumption); (case l => rfl); k_whole)))
local macro_rules | `(tactic| walk_at "getMethod ref") => `(tactic| (k_here; (with_reducible show wpAny _ _ (getMethod (Value.ref _) (Str.ofString "get") _) _ _ _); k_dflt (refine' tab_method ?T ?N ?p ?_; (case N => k_asm); (case p => k_mem); (case T => assumption); k_whole)))
local macro_rules | `(tactic| walk_at "call builtin:dict.get") => `(tactic| (k_here; (with_reducible show wpAny _ _ (call (Value.builtin "dict.get") [Value.ref _, ovv _]) _ _ _); k_dflt (refine' tab_get ?T ?N ?p ?l ?k ?_; (case N => k_asm); (case p => k_mem); (case T => assumption); (case l => assumption); (case k => assumption); k_whole)))
local macro_rules | `(tactic| walk_at "call builtin:dict.get") => `(tactic| (k_here; (with_reducible show wpAny _ _ (call (Value.builtin "dict.get") [Value.ref _, Value.str _ _]) _ _ _); k_dflt (refine' tab_getE ?T ?N ?p ?l ?k ?_; (case N => k_asm); (case p => k_mem); (case T => assumption); (case l => assumption); (case k => assumption); k_whole)))
local macro_rules | `(tactic| walk_at "CutS") => `(tactic| first | (refine' cutS_s ?c ?F ?N ?P; (case F => k_asm); (case c => decide); (case N => first | k_asm | (refine' cb_drop ?cbN ?cbS; (case cbN => assumption); (case cbS => kcj_all))); (case P => first | exact Or.inl rfl | exact Or.inr rfl | (refine Or.inr ⟨rfl, ?_⟩; rintro ⟨rfl, rfl, rfl⟩; simp_all; done))) | (refine' cutS_n ?F ?N ?P; (case F => k_asm); (case N => first | k_asm | (refine' cb_drop ?cbN ?cbS; (case cbN => assumption); (case cbS => kcj_all))); (case P => first | exact Or.inl rfl | exact Or.inr rfl)))
local macro_rules | `(tactic| walk_at "call ref") => `(tactic| (k_here; (with_reducible show wpAny _ _ (call (Value.ref 216) _ _) _ _ _); k_dflt (refine' law_table_ok ?B ?F ?X ?N ?T ?c ?_; (case B => k_asm); (case F => k_asm); (case X => k_asm); (case N => k_asm); (case T => k_asm); (case c => first | assumption | decide); k_whole); intro d' o' r' h' tk' hT' hs' hl' F' N'; (try k_sweep)))
set_option maxHeartbeats 8000000 in
theorem segC {w : World} {base h₀ : Heap} {fa : Addr} {cd : Value} {L : Addr} {m : Str → Option Value} {news : List (Addr × Obj)} {s : Shared} {Q : Flow → Shared → Prop} {E : Value → Shared → Prop} {mg mb : Str → Option Value} {mean : ExcName → Option Value} {p : Program} {loose : List Str}
   {pl : Nm} {os ot ov om : P2} {i i0 i1 i2 i3 : Int} {t t0 t1 t2 t3 : Tok} {l : Addr}
   (B : Below callerA base [] h₀) (F : Fr h₀ L s.heap (fun y0 => if y0 = Str.ofString "modifier" then some (ovv om) else if y0 = Str.ofString "variant" then some (ovv ov) else if y0 = Str.ofString "territory" then some (ovv ot) else if y0 = Str.ofString "written" then some (ovv os) else if y0 = Str.ofString "language" then some (.str (Nm.x pl) (Nm.t pl)) else if y0 = Str.ofString "numbers" then some (.ref l) else if y0 = Str.ofString "setting" then some (.int i t) else m y0)) (X₀ : (hd.heap_39 w.params).In h₀) (N : News h₀ L s.heap ((l, LCg.lst [.int i0 t0, .int i1 t1, .int i2 t2, .int i3 t3]) :: news)) (T : Top p loose mean mg mb h₀)
   (hne : Nm.x pl ≠ Str.ofString "other")
   (k : ∀ d1 d2 d3 d4 D o1 o2 o3 o4 oD r1 r2 r3 r4 h' tk', TabIs Challenge.rw_nk0010_01.row.prog w o1 (Nm.x pl) r1 → Sm r1 → (d1 == sysModules) = false → TabIs Challenge.rw_nk0010_01.row.prog w o2 (Str.ofString "Hant") r2 → Sm r2 → (d2 == sysModules) = false → TabIs Challenge.rw_nk0010_01.row.prog w o3 (Str.ofString "TW") r3 → Sm r3 → (d3 == sysModules) = false → TabIs Challenge.rw_nk0010_01.row.prog w o4 (Str.ofString "POSIX") r4 → Sm r4 → (d4 == sysModules) = false → DataIs Challenge.rw_nk0010_01.row.prog w oD d1 d2 d3 d4 → Fr h₀ L h' (fun y0 => if y0 = Str.ofString "data" then some (.ref D) else if y0 = Str.ofString "variants" then some (.ref d4) else if y0 = Str.ofString "territories" then some (.ref d3) else if y0 = Str.ofString "scripts" then some (.ref d2) else if y0 = Str.ofString "languages" then some (.ref d1) else if y0 = Str.ofString "modifier" then some (ovv om) else if y0 = Str.ofString "variant" then some (ovv ov) else if y0 = Str.ofString "territory" then some (ovv ot) else if y0 = Str.ofString "written" then some (ovv os) else if y0 = Str.ofString "language" then some (.str (Nm.x pl) (Nm.t pl)) else if y0 = Str.ofString "numbers" then some (.ref l) else if y0 = Str.ofString "setting" then some (.int i t) else m y0) → News h₀ L h' ((D, oD) :: (d4, o4) :: (d3, o3) :: (d2, o2) :: (d1, o1) :: (l, LCg.lst [.int i0 t0, .int i1 t1, .int i2 t2, .int i3 t3]) :: news) → Q .next {s with heap := h', toks := tk'}) :
   wpAny (model Challenge.rw_nk0010_01.row.prog w) (callerA.deeper (lawEnv L fa cd)) (execs [lawSt 7, lawSt 8, lawSt 9, lawSt 10, lawSt 11] (lawEnv L fa cd)) Q E s := by
  have e7 : lawSt 7 = lawSt 7 := rfl
  conv at e7 => rhs; whnf
  have e8 : lawSt 8 = lawSt 8 := rfl
  conv at e8 => rhs; whnf
  have e9 : lawSt 9 = lawSt 9 := rfl
  conv at e9 => rhs; whnf
  have e10 : lawSt 10 = lawSt 10 := rfl
  conv at e10 => rhs; whnf
  have e11 : lawSt 11 = lawSt 11 := rfl
  conv at e11 => rhs; whnf
  rw [e7, e8, e9, e10, e11]
  clear e7 e8 e9 e10 e11
  repeat' (walk_at "STEP1")
  refine' k _ _ _ _ _ _ _ _ _ _ _ _ _ _ _ _ ?t1 ?s1 ?l1 ?t2 ?s2 ?l2 ?t3 ?s3 ?l3 ?t4 ?s4 ?l4 ?dd ?F ?N; (case N => assumption); (case F => assumption); (case dd => assumption); (case t1 => assumption); (case s1 => assumption); (case l1 => assumption); (case t2 => assumption); (case s2 => assumption); (case l2 => assumption); (case t3 => assumption); (case s3 => assumption); (case l3 => assumption); (case t4 => assumption); (case s4 => assumption); (case l4 => assumption)
end
section
theorem off_D : True := by
  w_top off
  exact trivial
local macro_rules | `(tactic| k_mem) => `(tactic| assumption)
local macro_rules | `(tactic| walk_at "compareOp Eq") => `(tactic| ((with_reducible show wpAny _ _ (compareOp CmpOp.Eq (ovv _) (ovv _)) _ _ _); refine ov_eq ?_))
local macro_rules | `(tactic| walk_at "compareOp NotEq") => `(tactic| ((with_reducible show wpAny _ _ (compareOp CmpOp.NotEq (ovv _) (ovv _)) _ _ _); refine ov_ne ?_))
local macro_rules | `(tactic| walk_at "compareOp Is") => `(tactic| ((with_reducible show wpAny _ _ (compareOp CmpOp.Is (ovv _) Value.none) _ _ _); refine ov_isNone ?_))
local macro_rules | `(tactic| walk_at "compareOp IsNot") => `(tactic| ((with_reducible show wpAny _ _ (compareOp CmpOp.IsNot (ovv _) Value.none) _ _ _); refine ov_isNotNone ?_))
local macro_rules | `(tactic| walk_at "truthy") => `(tactic| ((with_reducible show wpAny _ _ (truthy (ovv _)) _ _ _); refine ov_truthy ?_; intro tk))
local macro_rules | `(tactic| k_handed) => `(tactic| exact handedIn_ovv _)
local macro_rules | `(tactic| walk_at "call builtin:hasattr") => `(tactic| (k_here; k_dflt (refine' hasattr_K ?k1 ?k2 ?k3 ?k4 ?k5 ?k6 ?k7 ?k8 ?k9 ?k10 ?_; (case k1 => k_asm); (case k2 => k_asm); (case k3 => k_inst); (case k4 => k_is); (case k5 => k_is); (case k6 => k_is); (case k7 => k_is); (case k8 => k_is); (case k9 => k_get); (case k10 => k_handed); k_whole)))
local macro_rules | `(tactic| walk_at "call builtin:getattr") => `(tactic| (k_here; k_dflt (refine' getattr_K ?k1 ?k2 ?k3 ?k4 ?k5 ?k6 ?k7 ?k9 ?k10 ?_; (case k1 => k_asm); (case k2 => k_asm); (case k3 => k_inst); (case k4 => k_is); (case k5 => k_is); (case k6 => k_is); (case k7 => k_is); (case k9 => k_get); (case k10 => k_handed); k_whole)))
local macro_rules | `(tactic| k_room) => `(tactic| ((try simp only [depth_under_make, depth_under_kw, depth_in1, depth_deeper, depth_caller]); omega))
local macro_rules | `(tactic| walk_at "subscriptTail") => `(tactic| (k_here; (with_reducible show wpAny _ _ (subscriptTail _ _ (Value.ref _) (Value.str _ _)) _ _ _); k_dflt (refine' kdt_tail (knd := PySem.strKind _ _) ?N ?p ?d ?_; (case N => k_asm); (case p => k_mem); (case d => unfold DataIs at *; assumption); k_whole)))
local macro_rules | `(tactic| walk_at "subscriptTail Attribute Name Constant ref str") => `(tactic| (k_here; (with_reducible show wpAny _ _ (subscriptTail _ _ (Value.ref _) (Value.str _ _)) _ _ _); k_dflt (refine' kdt_tail (knd := PySem.strKind _ _) ?N ?p ?d ?_; (case N => k_asm); (case p => k_mem); (case d => unfold DataIs at *; assumption); k_whole)))
local macro_rules | `(tactic| walk_at "getItem ref str") => `(tactic| (k_here; k_dflt (refine' data_item ?d ?N ?p ?l ?_; (case N => k_asm); (case p => k_mem); (case d => assumption); (case l => rfl); k_whole)))
local macro_rules | `(tactic| walk_at "getMethod ref") => `(tactic| (k_here; (with_reducible show wpAny _ _ (getMethod (Value.ref _) (Str.ofString "get") _) _ _ _); k_dflt (refine' tab_method ?T ?N ?p ?_; (case N => k_asm); (case p => k_mem); (case T => assumption); k_whole)))
local macro_rules | `(tactic| walk_at "call builtin:dict.get") => `(tactic| (k_here; (with_reducible show wpAny _ _ (call (Value.builtin "dict.get") [Value.ref _, ovv _]) _ _ _); k_dflt (refine' tab_get ?T ?N ?p ?l ?k ?_; (case N => k_asm); (case p => k_mem); (case T => assumption); (case l => assumption); (case k => assumption); k_whole)))
local macro_rules | `(tactic| walk_at "call builtin:dict.get") => `(tactic| (k_here; (with_reducible show wpAny _ _ (call (Value.builtin "dict.get") [Value.ref _, Value.str _ _]) _ _ _); k_dflt (refine' tab_getE ?T ?N ?p ?l ?k ?_; (case N => k_asm); (case p => k_mem); (case T => assumption); (case l => assumption); (case k => assumption); k_whole)))
local macro_rules | `(tactic| walk_at "CutS") => `(tactic| first | (refine' cutS_s ?c ?F ?N ?P; (case F => k_asm); (case c => decide); (case N => first | k_asm | (refine' cb_drop ?cbN ?cbS; (case cbN => assumption); (case cbS => kcj_all))); (case P => first | exact Or.inl rfl | exact Or.inr rfl | (refine Or.inr ⟨rfl, ?_⟩; rintro ⟨rfl, rfl, rfl⟩; simp_all; done))) | (refine' cutS_n ?F ?N ?P; (case F => k_asm); (case N => first | k_asm | (refine' cb_drop ?cbN ?cbS; (case cbN => assumption); (case cbS => kcj_all))); (case P => first | exact Or.inl rfl | exact Or.inr rfl)))
local macro_rules | `(tactic| walk_at "call ref") => `(tactic| (k_here; (with_reducible show wpAny _ _ (call (Value.ref 177) [_, _, _, _, _] _) _ _ _); k_dflt (refine' locale5 ?B ?F ?X ?N ?T ?_; (case B => k_asm); (case F => k_asm); (case X => k_asm); (case N => k_asm); (case T => k_asm); k_whole); intro x' dx' t1' t2' t3' t4' t5' t6' h' tk' F' N'; (try k_sweep)))
local macro_rules | `(tactic| walk_at "call ref") => `(tactic| (k_here; (with_reducible show wpAny _ _ (call (Value.ref 177) [_, _, _, _, _, _] _) _ _ _); k_dflt (refine' locale6 ?B ?F ?X ?N ?T ?_; (case B => k_asm); (case F => k_asm); (case X => k_asm); (case N => k_asm); (case T => k_asm); k_whole); intro x' dx' t1' t2' t3' t4' t5' t6' h' tk' F' N'; (try k_sweep)))
set_option maxHeartbeats 8000000 in
theorem segD {w : World} {base h₀ : Heap} {fa : Addr} {cd : Value} {L : Addr} {m : Str → Option Value} {news : List (Addr × Obj)} {s : Shared} {Q : Flow → Shared → Prop} {E : Value → Shared → Prop} {mg mb : Str → Option Value} {mean : ExcName → Option Value} {p : Program} {loose : List Str}
   {pl : Nm} {os ot ov om : P2} {i : Int} {t : Tok} {l : Addr} {d1 d2 d3 d4 D : Addr}
   (B : Below callerA base [] h₀) (F : Fr h₀ L s.heap (fun y0 => if y0 = Str.ofString "data" then some (.ref D) else if y0 = Str.ofString "variants" then some (.ref d4) else if y0 = Str.ofString "territories" then some (.ref d3) else if y0 = Str.ofString "scripts" then some (.ref d2) else if y0 = Str.ofString "languages" then some (.ref d1) else if y0 = Str.ofString "modifier" then some (ovv om) else if y0 = Str.ofString "variant" then some (ovv ov) else if y0 = Str.ofString "territory" then some (ovv ot) else if y0 = Str.ofString "written" then some (ovv os) else if y0 = Str.ofString "language" then some (.str (Nm.x pl) (Nm.t pl)) else if y0 = Str.ofString "numbers" then some (.ref l) else if y0 = Str.ofString "setting" then some (.int i t) else m y0)) (X₀ : (hd.heap_39 w.params).In h₀) (N : News h₀ L s.heap news) (T : Top p loose mean mg mb h₀)
   
   (k : ∀ x dx y dy z dz a1 a2 a3 a4 a5 a6 b1 b2 b3 b4 b5 b6 c1 c2 c3 c4 c5 c6 v1 v2 h' tk', Fr h₀ L h' (fun y0 => if y0 = Str.ofString "bare" then some (.ref z) else if y0 = Str.ofString "other" then some (.ref y) else if y0 = Str.ofString "here" then some (.ref x) else if y0 = Str.ofString "data" then some (.ref D) else if y0 = Str.ofString "variants" then some (.ref d4) else if y0 = Str.ofString "territories" then some (.ref d3) else if y0 = Str.ofString "scripts" then some (.ref d2) else if y0 = Str.ofString "languages" then some (.ref d1) else if y0 = Str.ofString "modifier" then some (ovv om) else if y0 = Str.ofString "variant" then some (ovv ov) else if y0 = Str.ofString "territory" then some (ovv ot) else if y0 = Str.ofString "written" then some (ovv os) else if y0 = Str.ofString "language" then some (.str (Nm.x pl) (Nm.t pl)) else if y0 = Str.ofString "numbers" then some (.ref l) else if y0 = Str.ofString "setting" then some (.int i t) else m y0) → News h₀ L h' ((z, instObj 177 dz) :: (dz, dictOf (locEs w c1 c2 c3 c4 c5 c6 (ovv (some pl)) (ovv ot) (ovv os) (ovv ov) (ovv om) .none) 6) :: (y, instObj 177 dy) :: (dy, dictOf (locEs w b1 b2 b3 b4 b5 b6 (.str (Str.ofString "de") v1) (.str (Str.ofString "AT") v2) .none .none .none (.ref D)) 6) :: (x, instObj 177 dx) :: (dx, dictOf (locEs w a1 a2 a3 a4 a5 a6 (ovv (some pl)) (ovv ot) (ovv os) (ovv ov) (ovv om) (.ref D)) 6) :: news) → Q .next {s with heap := h', toks := tk'}) :
   wpAny (model Challenge.rw_nk0010_01.row.prog w) (callerA.deeper (lawEnv L fa cd)) (execs [lawSt 12, lawSt 13, lawSt 14] (lawEnv L fa cd)) Q E s := by
  have e12 : lawSt 12 = lawSt 12 := rfl
  conv at e12 => rhs; whnf
  have e13 : lawSt 13 = lawSt 13 := rfl
  conv at e13 => rhs; whnf
  have e14 : lawSt 14 = lawSt 14 := rfl
  conv at e14 => rhs; whnf
  rw [e12, e13, e14]
  clear e12 e13 e14
  repeat' (walk_at "STEP1")
  refine' k _ _ _ _ _ _ _ _ _ _ _ _ _ _ _ _ _ _ _ _ _ _ _ _ _ _ _ _ ?F ?N
  case F => assumption
  case N => assumption
end
section
theorem off_E : True := by
  w_top off
  exact trivial
local macro_rules | `(tactic| k_mem) => `(tactic| assumption)
local macro_rules | `(tactic| walk_at "compareOp Eq") => `(tactic| ((with_reducible show wpAny _ _ (compareOp CmpOp.Eq (ovv _) (ovv _)) _ _ _); refine ov_eq ?_))
local macro_rules | `(tactic| walk_at "compareOp NotEq") => `(tactic| ((with_reducible show wpAny _ _ (compareOp CmpOp.NotEq (ovv _) (ovv _)) _ _ _); refine ov_ne ?_))
local macro_rules | `(tactic| walk_at "compareOp Is") => `(tactic| ((with_reducible show wpAny _ _ (compareOp CmpOp.Is (ovv _) Value.none) _ _ _); refine ov_isNone ?_))
local macro_rules | `(tactic| walk_at "compareOp IsNot") => `(tactic| ((with_reducible show wpAny _ _ (compareOp CmpOp.IsNot (ovv _) Value.none) _ _ _); refine ov_isNotNone ?_))
local macro_rules | `(tactic| walk_at "truthy") => `(tactic| ((with_reducible show wpAny _ _ (truthy (ovv _)) _ _ _); refine ov_truthy ?_; intro tk))
local macro_rules | `(tactic| k_handed) => `(tactic| exact handedIn_ovv _)
local macro_rules | `(tactic| walk_at "call builtin:hasattr") => `(tactic| (k_here; k_dflt (refine' hasattr_K ?k1 ?k2 ?k3 ?k4 ?k5 ?k6 ?k7 ?k8 ?k9 ?k10 ?_; (case k1 => k_asm); (case k2 => k_asm); (case k3 => k_inst); (case k4 => k_is); (case k5 => k_is); (case k6 => k_is); (case k7 => k_is); (case k8 => k_is); (case k9 => k_get); (case k10 => k_handed); k_whole)))
local macro_rules | `(tactic| walk_at "call builtin:getattr") => `(tactic| (k_here; k_dflt (refine' getattr_K ?k1 ?k2 ?k3 ?k4 ?k5 ?k6 ?k7 ?k9 ?k10 ?_; (case k1 => k_asm); (case k2 => k_asm); (case k3 => k_inst); (case k4 => k_is); (case k5 => k_is); (case k6 => k_is); (case k7 => k_is); (case k9 => k_get); (case k10 => k_handed); k_whole)))
local macro_rules | `(tactic| k_room) => `(tactic| ((try simp only [depth_under_make, depth_under_kw, depth_in1, depth_deeper, depth_caller]); omega))
local macro_rules | `(tactic| walk_at "subscriptTail") => `(tactic| (k_here; (with_reducible show wpAny _ _ (subscriptTail _ _ (Value.ref _) (Value.str _ _)) _ _ _); k_dflt (refine' kdt_tail (knd := PySem.strKind _ _) ?N ?p ?d ?_; (case N => k_asm); (case p => k_mem); (case d => unfold DataIs at *; assumption); k_whole)))
local macro_rules | `(tactic| walk_at "subscriptTail Attribute Name Constant ref str") => `(tactic| (k_here; (with_reducible show wpAny _ _ (subscriptTail _ _ (Value.ref _) (Value.str _ _)) _ _ _); k_dflt (refine' kdt_tail (knd := PySem.strKind _ _) ?N ?p ?d ?_; (case N => k_asm); (case p => k_mem); (case d => unfold DataIs at *; assumption); k_whole)))
local macro_rules | `(tactic| walk_at "getItem ref str") => `(tactic| (k_here; k_dflt (refine' data_item ?d ?N ?p ?l ?_; (case N => k_asm); (case p => k_mem); (case d => assumption); (case l => rfl); k_whole)))
local macro_rules | `(tactic| walk_at "getMethod ref") => `(tactic| (k_here; (with_reducible show wpAny _ _ (getMethod (Value.ref _) (Str.ofString "get") _) _ _ _); k_dflt (refine' tab_method ?T ?N ?p ?_; (case N => k_asm); (case p => k_mem); (case T => assumption); k_whole)))
local macro_rules | `(tactic| walk_at "call builtin:dict.get") => `(tactic| (k_here; (with_reducible show wpAny _ _ (call (Value.builtin "dict.get") [Value.ref _, ovv _]) _ _ _); k_dflt (refine' tab_get ?T ?N ?p ?l ?k ?_; (case N => k_asm); (case p => k_mem); (case T => assumption); (case l => assumption); (case k => assumption); k_whole)))
local macro_rules | `(tactic| walk_at "call builtin:dict.get") => `(tactic| (k_here; (with_reducible show wpAny _ _ (call (Value.builtin "dict.get") [Value.ref _, Value.str _ _]) _ _ _); k_dflt (refine' tab_getE ?T ?N ?p ?l ?k ?_; (case N => k_asm); (case p => k_mem); (case T => assumption); (case l => assumption); (case k => assumption); k_whole)))
local macro_rules | `(tactic| walk_at "CutS") => `(tactic| first | (refine' cutS_s ?c ?F ?N ?P; (case F => k_asm); (case c => decide); (case N => first | k_asm | (refine' cb_drop ?cbN ?cbS; (case cbN => assumption); (case cbS => kcj_all))); (case P => first | exact Or.inl rfl | exact Or.inr rfl | (refine Or.inr ⟨rfl, ?_⟩; rintro ⟨rfl, rfl, rfl⟩; simp_all; done))) | (refine' cutS_n ?F ?N ?P; (case F => k_asm); (case N => first | k_asm | (refine' cb_drop ?cbN ?cbS; (case cbN => assumption); (case cbS => kcj_all))); (case P => first | exact Or.inl rfl | exact Or.inr rfl)))
set_option maxHeartbeats 8000000 in
theorem segE {w : World} {base h₀ : Heap} {fa : Addr} {cd : Value} {L : Addr} {m : Str → Option Value} {news : List (Addr × Obj)} {s : Shared} {Q : Flow → Shared → Prop} {E : Value → Shared → Prop} {mg mb : Str → Option Value} {mean : ExcName → Option Value} {p : Program} {loose : List Str}
   {pl : Nm} {os ot ov om : P2} {i : Int} {t : Tok} {l x y z : Addr} {d1 d2 d3 d4 D : Addr} {o1 o2 o3 o4 oD : Obj} {r1 r2 r3 r4 : P2}
   (B : Below callerA base [] h₀) (F : Fr h₀ L s.heap (fun y0 => if y0 = Str.ofString "bare" then some (.ref z) else if y0 = Str.ofString "other" then some (.ref y) else if y0 = Str.ofString "here" then some (.ref x) else if y0 = Str.ofString "data" then some (.ref D) else if y0 = Str.ofString "variants" then some (.ref d4) else if y0 = Str.ofString "territories" then some (.ref d3) else if y0 = Str.ofString "scripts" then some (.ref d2) else if y0 = Str.ofString "languages" then some (.ref d1) else if y0 = Str.ofString "modifier" then some (ovv om) else if y0 = Str.ofString "variant" then some (ovv ov) else if y0 = Str.ofString "territory" then some (ovv ot) else if y0 = Str.ofString "written" then some (ovv os) else if y0 = Str.ofString "language" then some (.str (Nm.x pl) (Nm.t pl)) else if y0 = Str.ofString "numbers" then some (.ref l) else if y0 = Str.ofString "setting" then some (.int i t) else m y0)) (X₀ : (hd.heap_39 w.params).In h₀) (N : News h₀ L s.heap ((d4, o4) :: (d3, o3) :: (d2, o2) :: (d1, o1) :: news)) (T : Top p loose mean mg mb h₀)
   (hT1 : TabIs Challenge.rw_nk0010_01.row.prog w o1 (Nm.x pl) r1) (hs1 : Sm r1) (hl1 : (d1 == sysModules) = false) (hT2 : TabIs Challenge.rw_nk0010_01.row.prog w o2 (Str.ofString "Hant") r2) (hs2 : Sm r2) (hl2 : (d2 == sysModules) = false) (hT3 : TabIs Challenge.rw_nk0010_01.row.prog w o3 (Str.ofString "TW") r3) (hs3 : Sm r3) (hl3 : (d3 == sysModules) = false) (hT4 : TabIs Challenge.rw_nk0010_01.row.prog w o4 (Str.ofString "POSIX") r4) (hs4 : Sm r4) (hl4 : (d4 == sysModules) = false) (hk2 : os.map Nm.x ≠ some (Str.ofString "other")) (hk3 : ot.map Nm.x ≠ some (Str.ofString "other")) (hk4 : ov.map Nm.x ≠ some (Str.ofString "other"))
   (k : ∀ u n items h' tk', items = List.filter tr [lk (Str.ofString "Hant") r2 os, lk (Str.ofString "TW") r3 ot, lk (Str.ofString "POSIX") r4 ov, om] → Fr h₀ L h' (fun y0 => if y0 = Str.ofString "told" then some (.ref u) else if y0 = Str.ofString "bare" then some (.ref z) else if y0 = Str.ofString "other" then some (.ref y) else if y0 = Str.ofString "here" then some (.ref x) else if y0 = Str.ofString "data" then some (.ref D) else if y0 = Str.ofString "variants" then some (.ref d4) else if y0 = Str.ofString "territories" then some (.ref d3) else if y0 = Str.ofString "scripts" then some (.ref d2) else if y0 = Str.ofString "languages" then some (.ref d1) else if y0 = Str.ofString "modifier" then some (ovv om) else if y0 = Str.ofString "variant" then some (ovv ov) else if y0 = Str.ofString "territory" then some (ovv ot) else if y0 = Str.ofString "written" then some (ovv os) else if y0 = Str.ofString "language" then some (.str (Nm.x pl) (Nm.t pl)) else if y0 = Str.ofString "numbers" then some (.ref l) else if y0 = Str.ofString "setting" then some (.int i t) else m y0) → News h₀ L h' ((u, W.listOf (items.map ovv).toArray n) :: (d4, o4) :: (d3, o3) :: (d2, o2) :: (d1, o1) :: news) → Q .next {s with heap := h', toks := tk'}) :
   wpAny (model Challenge.rw_nk0010_01.row.prog w) (callerA.deeper (lawEnv L fa cd)) (execs [lawSt 15, lawSt 16] (lawEnv L fa cd)) Q E s := by
  have e15 : lawSt 15 = lawSt 15 := rfl
  conv at e15 => rhs; whnf
  have e16 : lawSt 16 = lawSt 16 := rfl
  conv at e16 => rhs; whnf
  rw [e15, e16]
  clear e15 e16
  repeat' (walk_at "STEP1")
  refine' filt_ovv (items := [lk (Str.ofString "Hant") r2 os, lk (Str.ofString "TW") r3 ot, lk (Str.ofString "POSIX") r4 ov, om]) rfl ?F ?N ?l (Nat.le_of_ble_eq_true rfl) ?g1 ?g2 ?k
  case F => k_asm
  case N => k_asm
  case l => k_mem
  case g1 =>
    clear k T X₀ B hT1 hT2 hT3 hT4
    intro C b s₂ m₂ E' hn hm
    rw [List.forIn_cons]
    refine wpAny_bind ?_
    rw [if_pos rfl]
    refine wpAny_bind ?_
    cases b with
    | none =>
      dsimp only [ovv] at hm
      repeat' (walk_at "STEP1")
      refine wpAny_pure ?_
      dsimp only
      rw [List.forIn_nil]
      exact wpAny_pure ⟨rfl, _, _, rfl, fun _ _ e => e⟩
    | some q =>
      dsimp only [ovv] at hm
      repeat' (walk_at "STEP1")
      all_goals refine wpAny_pure ?_
      all_goals dsimp only
      all_goals rw [List.forIn_nil]
      all_goals exact wpAny_pure ⟨tr_ne (by assumption), _, _, rfl, fun _ _ e => e⟩
  case g2 =>
    clear k T X₀ B hT1 hT2 hT3 hT4
    intro C b s₂ m₂ E' hn hm
    refine wpAny_Name (wpAny_loadName_local rfl rfl hn hm ?_) (by decide)
    exact ⟨rfl, _, _, rfl, fun _ _ e => e⟩
  case k =>
    intro D' n' h' tk' F' N'
    exact wpAny_execs_nil (k _ _ _ _ _ rfl (fr_dup F') (fun p hp => N' p (by rcases List.mem_cons.mp hp with rfl | hp; exact .head _; exact .tail _ (.tail _ hp))))
end
section
theorem off_F : True := by
  w_top off
  exact trivial
local macro_rules | `(tactic| k_mem) => `(tactic| assumption)
local macro_rules | `(tactic| walk_at "compareOp Eq") => `(tactic| ((with_reducible show wpAny _ _ (compareOp CmpOp.Eq (ovv _) (ovv _)) _ _ _); refine ov_eq ?_))
local macro_rules | `(tactic| walk_at "compareOp NotEq") => `(tactic| ((with_reducible show wpAny _ _ (compareOp CmpOp.NotEq (ovv _) (ovv _)) _ _ _); refine ov_ne ?_))
local macro_rules | `(tactic| walk_at "compareOp Is") => `(tactic| ((with_reducible show wpAny _ _ (compareOp CmpOp.Is (ovv _) Value.none) _ _ _); refine ov_isNone ?_))
local macro_rules | `(tactic| walk_at "compareOp IsNot") => `(tactic| ((with_reducible show wpAny _ _ (compareOp CmpOp.IsNot (ovv _) Value.none) _ _ _); refine ov_isNotNone ?_))
local macro_rules | `(tactic| walk_at "truthy") => `(tactic| ((with_reducible show wpAny _ _ (truthy (ovv _)) _ _ _); refine ov_truthy ?_; intro tk))
local macro_rules | `(tactic| k_handed) => `(tactic| exact handedIn_ovv _)
local macro_rules | `(tactic| walk_at "call builtin:hasattr") => `(tactic| (k_here; k_dflt (refine' hasattr_K ?k1 ?k2 ?k3 ?k4 ?k5 ?k6 ?k7 ?k8 ?k9 ?k10 ?_; (case k1 => k_asm); (case k2 => k_asm); (case k3 => k_inst); (case k4 => k_is); (case k5 => k_is); (case k6 => k_is); (case k7 => k_is); (case k8 => k_is); (case k9 => k_get); (case k10 => k_handed); k_whole)))
local macro_rules | `(tactic| walk_at "call builtin:getattr") => `(tactic| (k_here; k_dflt (refine' getattr_K ?k1 ?k2 ?k3 ?k4 ?k5 ?k6 ?k7 ?k9 ?k10 ?_; (case k1 => k_asm); (case k2 => k_asm); (case k3 => k_inst); (case k4 => k_is); (case k5 => k_is); (case k6 => k_is); (case k7 => k_is); (case k9 => k_get); (case k10 => k_handed); k_whole)))
local macro_rules | `(tactic| k_room) => `(tactic| ((try simp only [depth_under_make, depth_under_kw, depth_in1, depth_deeper, depth_caller]); omega))
local macro_rules | `(tactic| walk_at "subscriptTail") => `(tactic| (k_here; (with_reducible show wpAny _ _ (subscriptTail _ _ (Value.ref _) (Value.str _ _)) _ _ _); k_dflt (refine' kdt_tail (knd := PySem.strKind _ _) ?N ?p ?d ?_; (case N => k_asm); (case p => k_mem); (case d => unfold DataIs at *; assumption); k_whole)))
local macro_rules | `(tactic| walk_at "subscriptTail Attribute Name Constant ref str") => `(tactic| (k_here; (with_reducible show wpAny _ _ (subscriptTail _ _ (Value.ref _) (Value.str _ _)) _ _ _); k_dflt (refine' kdt_tail (knd := PySem.strKind _ _) ?N ?p ?d ?_; (case N => k_asm); (case p => k_mem); (case d => unfold DataIs at *; assumption); k_whole)))
local macro_rules | `(tactic| walk_at "getItem ref str") => `(tactic| (k_here; k_dflt (refine' data_item ?d ?N ?p ?l ?_; (case N => k_asm); (case p => k_mem); (case d => assumption); (case l => rfl); k_whole)))
local macro_rules | `(tactic| walk_at "getMethod ref") => `(tactic| (k_here; (with_reducible show wpAny _ _ (getMethod (Value.ref _) (Str.ofString "get") _) _ _ _); k_dflt (refine' tab_method ?T ?N ?p ?_; (case N => k_asm); (case p => k_mem); (case T => assumption); k_whole)))
local macro_rules | `(tactic| walk_at "call builtin:dict.get") => `(tactic| (k_here; (with_reducible show wpAny _ _ (call (Value.builtin "dict.get") [Value.ref _, ovv _]) _ _ _); k_dflt (refine' tab_get ?T ?N ?p ?l ?k ?_; (case N => k_asm); (case p => k_mem); (case T => assumption); (case l => assumption); (case k => assumption); k_whole)))
local macro_rules | `(tactic| walk_at "call builtin:dict.get") => `(tactic| (k_here; (with_reducible show wpAny _ _ (call (Value.builtin "dict.get") [Value.ref _, Value.str _ _]) _ _ _); k_dflt (refine' tab_getE ?T ?N ?p ?l ?k ?_; (case N => k_asm); (case p => k_mem); (case T => assumption); (case l => assumption); (case k => assumption); k_whole)))
local macro_rules | `(tactic| walk_at "SMALL") => `(tactic| first | (exact List.forall_mem_nil _) | (refine' sm_app ?x9 ?y9 (by assumption); (case y9 => assumption); (case x9 => walk_at "SMALL")))
local macro_rules | `(tactic| walk_at "CLS") => `(tactic| first | exact List.forall_mem_nil _ | (refine List.forall_mem_cons.mpr ⟨?_, ?_⟩; (focus first | assumption | (intro h9; cases h9)); walk_at "CLS"))
local macro_rules | `(tactic| walk_at "AT105") => `(tactic| first | assumption | (refine' At105.head ?_; walk_at "CLS") | (refine' At105.tail ?c9 ?r9; (case c9 => first | assumption | (intro h9; cases h9)); (case r9 => walk_at "AT105")))
local macro_rules | `(tactic| walk_at "exec If") => `(tactic| ((with_reducible show wpAny _ _ (exec (Stmt.If (PySem.Expr.BoolOp BoolOp.And _ _) _ _ _) _) _ _ _); (with_reducible rename MkS => mk9); refine stop_of ?_; clear mk9))
local macro_rules | `(tactic| walk_at "exec If") => `(tactic| (k_here; (with_reducible show wpAny _ _ (exec (Stmt.If (PySem.Expr.Attribute _ _ _) [_] [] _) _) _ _ _); (with_reducible rename MkA _ => mk9); (focus ((k_dflt (first | (refine' if_app mk9 ?F ?N ?l ?_ ?_ ?_; (case F => k_asm); (case N => k_asm); (case l => assumption)) | (refine' if_app (items := []) mk9 ?F ?N (Nat.le_refl 0) ?_ ?_ ?_; (case F => k_asm); (case N => k_asm)))); (rotate_left); (intro h' tk' hc9 F' N'; (try k_sweep)); (rotate_left); (clear mk9; intro h' tk' n' items' hi9 hl9 F' N' mk9; (try k_sweep)); (rotate_left)))))
local macro_rules | `(tactic| walk_at "CutB") => `(tactic| (refine' cutB_i ?e ?F ?N; (case F => k_asm); (case N => first | k_asm | (refine' cb_drop ?cbN ?cbS; (case cbN => assumption); (case cbS => kcj_all))); (case e => first | rfl | (simp only [*, Bool.true_and, Bool.and_true, Bool.false_and, Bool.and_false, Bool.true_or, Bool.or_true, Bool.false_or, Bool.or_false]; done))))
local macro_rules | `(tactic| walk_at "CutA") => `(tactic| (k_dflt refine' cutA_i ?F ?N; (case F => k_asm); (case N => first | k_asm | (refine' cb_drop ?cbN ?cbS; (case cbN => assumption); (case cbS => kcj_all)))))
local macro_rules | `(tactic| walk_at "call builtin:list.append") => `(tactic| (k_here; (with_reducible show wpAny _ _ (call (Value.builtin _) [Value.ref _, ovv _]) _ _ _); k_dflt (refine' app_ovv ?k1 ?k2 ?k3 ?z ?_; (case k1 => k_asm); (case k2 => k_asm); (case k3 => k_upd); (case z => omega); k_whole); intro h' F' N'; (try k_sweep)))
local macro_rules | `(tactic| walk_at "truthy str") => `(tactic| ((with_reducible show wpAny _ _ (truthy (Value.str (Nm.x _) (Nm.t _))) _ _ _); refine ov_truthy (o := some _) ?_; intro tk))
local macro_rules | `(tactic| walk_at "eval GeneratorExp") => `(tactic| (k_here; k_dflt (refine' gen_ovv ?X ?T ?F ?N ?hdl (At105.toUpd ?U ?N2) ?ps ?G rfl rfl rfl rfl rfl ?cell rfl rfl ?xd rfl ?room ?hs ?hev ?_; (case X => k_asm); (case T => k_asm); (case F => k_asm); (case N => k_asm); (case N2 => k_asm); (case hdl => k_mem); (case U => walk_at "AT105"); (case ps => assumption); (case G => assumption); (case cell => decide); (case xd => decide); (case room => k_room); (case hs => intro _; with_unfolding_all rfl); (case hev => (intro Q9 hq9; walk1; exact hq9)); k_whole); intro a' s' ps' Kb' hps' F' N' G' os' lk' le' X'))
local macro_rules | `(tactic| walk_at "call builtin:str.join") => `(tactic| (k_here; (with_reducible show wpAny _ _ (call (Value.builtin "str.join") [Value.str _ _, Value.ref _]) _ _ _); k_dflt (refine' join_ovv ?F ?N ?b ?G ?lk ?X ?sp ?l ?sm ?_; (case X => assumption); (case F => k_asm); (case N => k_asm); (case b => assumption); (case G => assumption); (case lk => assumption); (case sp => decide); (case l => omega); (case sm => walk_at "SMALL"); k_whole); intro p' s' hp' hpl' F' N' G' os'))
local macro_rules | `(tactic| walk_at "formatField str") => `(tactic| ((with_reducible show wpAny _ _ (formatField (Value.str (Nm.x _) (Nm.t _)) _) _ _ _); k_dflt (refine' ff_nm (Nm.short _) ?_); intro u9 tk9))
local macro_rules | `(tactic| walk_at "And") => `(tactic| ((with_reducible show Str.length _ ≤ sizeLine ∧ _); refine' ⟨?z9, ?_⟩; (case z9 => (simp only [Str.length_append, lenA, lenB, lenE, sizeLine_eq]; omega))))
local macro_rules | `(tactic| walk_at "inplaceOp Add str str") => `(tactic| (k_dflt (refine' iadd_str ?_ ?z9; (case z9 => (simp only [Str.length_append, lenA, lenB, lenE, sizeLine_eq]; omega))); intro u9 tk9))
local macro_rules | `(tactic| walk_at "compareOp NotEq ref ref") => `(tactic| (k_here; (with_reducible show wpAny _ _ (compareOp CmpOp.NotEq (Value.ref _) (Value.ref _)) _ _ _); (with_reducible rename MkL _ _ => mkl); k_dflt (first | (refine' ne_tups mkl ?N ?a ?b rfl ?u ?_; (case N => k_asm); (case a => k_mem); (case b => k_mem); (case u => ke_room); k_whole) | (refine' ne_ovs mkl ?N ?a ?b ?u ?_; (case N => k_asm); (case a => k_mem); (case b => k_mem); (case u => ke_room); k_whole))))
local macro_rules | `(tactic| walk_at "CutS") => `(tactic| first | (refine' cutS_s ?c ?F ?N ?P; (case F => k_asm); (case c => decide); (case N => first | k_asm | (refine' cb_drop ?cbN ?cbS; (case cbN => assumption); (case cbS => kcj_all))); (case P => first | exact Or.inl rfl | exact Or.inr rfl | (refine Or.inr ⟨rfl, ?_⟩; rintro ⟨rfl, rfl, rfl⟩; simp_all; done))) | (refine' cutS_n ?F ?N ?P; (case F => k_asm); (case N => first | k_asm | (refine' cb_drop ?cbN ?cbS; (case cbN => assumption); (case cbS => kcj_all))); (case P => first | exact Or.inl rfl | exact Or.inr rfl)))
local macro_rules | `(tactic| walk_at "call builtin:str.join") => `(tactic| (k_here; (with_reducible show wpAny _ _ (call (Value.builtin "str.join") [Value.str _ _, Value.ref _]) _ _ _); (with_reducible rename MkJ _ => mkj); k_dflt (refine' join_items ?N ?a mkj.tr mkj.sm mkj.len ?s ?_; (case N => k_asm); (case a => k_mem); (case s => decide); k_whole); intro p' tk' hp' hpl'))
local macro_rules | `(tactic| walk_at "binaryOp Add str str") => `(tactic| (k_dflt (refine' PyProof.Rows.add_str ?_ ?z9; (case z9 => (simp only [Str.length_append, lenA, lenB, lenE, sizeLine_eq]; omega))); intro u9 tk9))
local macro_rules | `(tactic| walk_at "call builtin:dict.get") => `(tactic| (k_here; (with_reducible show wpAny _ _ (call (Value.builtin "dict.get") [Value.ref _, Value.str (Nm.x _) (Nm.t _)]) _ _ _); k_dflt (refine' tab_get (k := some _) ?T ?N ?p ?l ?k ?_; (case N => k_asm); (case p => k_mem); (case T => assumption); (case l => assumption); (case k => assumption); k_whole)))
local macro_rules | `(tactic| walk_at "CutB") => `(tactic| (refine' cutB_i ?e ?F ?N; (case F => k_asm); (case N => first | k_asm | (refine' cb_drop ?cbN ?cbS; (case cbN => assumption); (case cbS => kcj_all))); (case e => first | rfl | exact ce1 (by assumption) (by assumption) | exact ce2 (by assumption) (by assumption) | exact ce3 (by assumption))))
set_option maxHeartbeats 8000000 in
theorem segF {w : World} {base h₀ : Heap} {fa : Addr} {cd : Value} {L : Addr} {m : Str → Option Value} {news : List (Addr × Obj)} {s : Shared} {Q : Flow → Shared → Prop} {E : Value → Shared → Prop} {mg mb : Str → Option Value} {mean : ExcName → Option Value} {p : Program} {loose : List Str}
   {pl : Nm} {os ot ov om : P2} {i : Int} {t : Tok} {l x y z u : Addr} {items : List P2} {n : Nat} {d1 d2 d3 d4 D : Addr} {o1 o2 o3 o4 oD : Obj} {r1 r2 r3 r4 : P2}
   (B : Below callerA base [] h₀) (F : Fr h₀ L s.heap (fun y0 => if y0 = Str.ofString "told" then some (.ref u) else if y0 = Str.ofString "bare" then some (.ref z) else if y0 = Str.ofString "other" then some (.ref y) else if y0 = Str.ofString "here" then some (.ref x) else if y0 = Str.ofString "data" then some (.ref D) else if y0 = Str.ofString "variants" then some (.ref d4) else if y0 = Str.ofString "territories" then some (.ref d3) else if y0 = Str.ofString "scripts" then some (.ref d2) else if y0 = Str.ofString "languages" then some (.ref d1) else if y0 = Str.ofString "modifier" then some (ovv om) else if y0 = Str.ofString "variant" then some (ovv ov) else if y0 = Str.ofString "territory" then some (ovv ot) else if y0 = Str.ofString "written" then some (ovv os) else if y0 = Str.ofString "language" then some (.str (Nm.x pl) (Nm.t pl)) else if y0 = Str.ofString "numbers" then some (.ref l) else if y0 = Str.ofString "setting" then some (.int i t) else m y0)) (X₀ : (hd.heap_39 w.params).In h₀) (N : News h₀ L s.heap ((u, W.listOf (items.map ovv).toArray n) :: (d4, o4) :: (d3, o3) :: (d2, o2) :: (d1, o1) :: news)) (T : Top p loose mean mg mb h₀)
   (hT1 : TabIs Challenge.rw_nk0010_01.row.prog w o1 (Nm.x pl) r1) (hs1 : Sm r1) (hl1 : (d1 == sysModules) = false) (hT2 : TabIs Challenge.rw_nk0010_01.row.prog w o2 (Str.ofString "Hant") r2) (hs2 : Sm r2) (hl2 : (d2 == sysModules) = false) (hT3 : TabIs Challenge.rw_nk0010_01.row.prog w o3 (Str.ofString "TW") r3) (hs3 : Sm r3) (hl3 : (d3 == sysModules) = false) (hT4 : TabIs Challenge.rw_nk0010_01.row.prog w o4 (Str.ofString "POSIX") r4) (hs4 : Sm r4) (hl4 : (d4 == sysModules) = false) (hk1 : (some pl).map Nm.x ≠ some (Str.ofString "other")) (mkj : MkJ items)
   (k : ∀ du h' tk', du.map Nm.x = dueX (lk (Nm.x pl) r1 (some pl)) items → Fr h₀ L h' (fun y0 => if y0 = Str.ofString "due" then some (ovv du) else if y0 = Str.ofString "told" then some (.ref u) else if y0 = Str.ofString "bare" then some (.ref z) else if y0 = Str.ofString "other" then some (.ref y) else if y0 = Str.ofString "here" then some (.ref x) else if y0 = Str.ofString "data" then some (.ref D) else if y0 = Str.ofString "variants" then some (.ref d4) else if y0 = Str.ofString "territories" then some (.ref d3) else if y0 = Str.ofString "scripts" then some (.ref d2) else if y0 = Str.ofString "languages" then some (.ref d1) else if y0 = Str.ofString "modifier" then some (ovv om) else if y0 = Str.ofString "variant" then some (ovv ov) else if y0 = Str.ofString "territory" then some (ovv ot) else if y0 = Str.ofString "written" then some (ovv os) else if y0 = Str.ofString "language" then some (.str (Nm.x pl) (Nm.t pl)) else if y0 = Str.ofString "numbers" then some (.ref l) else if y0 = Str.ofString "setting" then some (.int i t) else m y0) → News h₀ L h' ((u, W.listOf (items.map ovv).toArray n) :: (d4, o4) :: (d3, o3) :: (d2, o2) :: (d1, o1) :: news) → Q .next {s with heap := h', toks := tk'}) :
   wpAny (model Challenge.rw_nk0010_01.row.prog w) (callerA.deeper (lawEnv L fa cd)) (execs [lawSt 17, lawSt 18] (lawEnv L fa cd)) Q E s := by
  have e17 : lawSt 17 = lawSt 17 := rfl
  conv at e17 => rhs; whnf
  have e18 : lawSt 18 = lawSt 18 := rfl
  conv at e18 => rhs; whnf
  rw [e17, e18]
  clear e17 e18
  have hS1 : Sm (lk (Nm.x pl) r1 (some pl)) := lk_sm hs1
  have mk9 : MkS := ⟨⟩
  repeat' (walk_at "STEP1")
  show wpAny _ _ _ _ _ _
  generalize (lk (Nm.x pl) r1 (some pl)) = R at *
  have mkc : Mk (tr R && !decide (xs items = [])) := ⟨⟩
  refine' if_cut mkc ?F ?N ?hc ?h
  case F => k_asm
  case N => k_asm
  case hc =>
    have mkl : MkL items [] := ⟨⟩
    clear k
    rename Fr _ _ _ _ => F
    cases R with
    | none =>
      dsimp only [ovv_some, ovv_none] at F
      repeat' (walk_at "STEP1")
    | some q =>
      dsimp only [ovv_some, ovv_none] at F
      repeat' (walk_at "STEP1")
  case h =>
    clear mkc
    intro h' tk' F' N'
    by_cases hc9 : (tr R && !decide (xs items = [])) = true
    · rw [if_pos hc9]
      cases R with
      | none => cases hc9
      | some q =>
        dsimp only [ovv_some, ovv_none] at F'
        have hR64 := hS1 q rfl
        repeat' (walk_at "STEP1")
        refine' k (some ⟨_, _, ?b⟩) _ _ (dueX_yes hc9 ?j rfl) (fr_dup ?F1) ?N1
        case F1 => assumption
        case N1 => assumption
        case j => assumption
        case b => simp only [Str.length_append, lenA, lenB]; omega
    · rw [if_neg hc9]
      repeat' (walk_at "STEP1")
      exact k R _ _ (dueX_no hc9) (by assumption) (by assumption)
end
section
theorem off_G : True := by
  w_top off
  exact trivial
local macro_rules | `(tactic| k_mem) => `(tactic| assumption)
local macro_rules | `(tactic| walk_at "compareOp Eq") => `(tactic| ((with_reducible show wpAny _ _ (compareOp CmpOp.Eq (ovv _) (ovv _)) _ _ _); refine ov_eq ?_))
local macro_rules | `(tactic| walk_at "compareOp NotEq") => `(tactic| ((with_reducible show wpAny _ _ (compareOp CmpOp.NotEq (ovv _) (ovv _)) _ _ _); refine ov_ne ?_))
local macro_rules | `(tactic| walk_at "compareOp Is") => `(tactic| ((with_reducible show wpAny _ _ (compareOp CmpOp.Is (ovv _) Value.none) _ _ _); refine ov_isNone ?_))
local macro_rules | `(tactic| walk_at "compareOp IsNot") => `(tactic| ((with_reducible show wpAny _ _ (compareOp CmpOp.IsNot (ovv _) Value.none) _ _ _); refine ov_isNotNone ?_))
local macro_rules | `(tactic| walk_at "truthy") => `(tactic| ((with_reducible show wpAny _ _ (truthy (ovv _)) _ _ _); refine ov_truthy ?_; intro tk))
local macro_rules | `(tactic| k_handed) => `(tactic| exact handedIn_ovv _)
local macro_rules | `(tactic| walk_at "call builtin:hasattr") => `(tactic| (k_here; k_dflt (refine' hasattr_K ?k1 ?k2 ?k3 ?k4 ?k5 ?k6 ?k7 ?k8 ?k9 ?k10 ?_; (case k1 => k_asm); (case k2 => k_asm); (case k3 => k_inst); (case k4 => k_is); (case k5 => k_is); (case k6 => k_is); (case k7 => k_is); (case k8 => k_is); (case k9 => k_get); (case k10 => k_handed); k_whole)))
local macro_rules | `(tactic| walk_at "call builtin:getattr") => `(tactic| (k_here; k_dflt (refine' getattr_K ?k1 ?k2 ?k3 ?k4 ?k5 ?k6 ?k7 ?k9 ?k10 ?_; (case k1 => k_asm); (case k2 => k_asm); (case k3 => k_inst); (case k4 => k_is); (case k5 => k_is); (case k6 => k_is); (case k7 => k_is); (case k9 => k_get); (case k10 => k_handed); k_whole)))
local macro_rules | `(tactic| k_room) => `(tactic| ((try simp only [depth_under_make, depth_under_kw, depth_in1, depth_deeper, depth_caller]); omega))
local macro_rules | `(tactic| walk_at "subscriptTail") => `(tactic| (k_here; (with_reducible show wpAny _ _ (subscriptTail _ _ (Value.ref _) (Value.str _ _)) _ _ _); k_dflt (refine' kdt_tail (knd := PySem.strKind _ _) ?N ?p ?d ?_; (case N => k_asm); (case p => k_mem); (case d => unfold DataIs at *; assumption); k_whole)))
local macro_rules | `(tactic| walk_at "subscriptTail Attribute Name Constant ref str") => `(tactic| (k_here; (with_reducible show wpAny _ _ (subscriptTail _ _ (Value.ref _) (Value.str _ _)) _ _ _); k_dflt (refine' kdt_tail (knd := PySem.strKind _ _) ?N ?p ?d ?_; (case N => k_asm); (case p => k_mem); (case d => unfold DataIs at *; assumption); k_whole)))
local macro_rules | `(tactic| walk_at "getItem ref str") => `(tactic| (k_here; k_dflt (refine' data_item ?d ?N ?p ?l ?_; (case N => k_asm); (case p => k_mem); (case d => assumption); (case l => rfl); k_whole)))
local macro_rules | `(tactic| walk_at "getMethod ref") => `(tactic| (k_here; (with_reducible show wpAny _ _ (getMethod (Value.ref _) (Str.ofString "get") _) _ _ _); k_dflt (refine' tab_method ?T ?N ?p ?_; (case N => k_asm); (case p => k_mem); (case T => assumption); k_whole)))
local macro_rules | `(tactic| walk_at "call builtin:dict.get") => `(tactic| (k_here; (with_reducible show wpAny _ _ (call (Value.builtin "dict.get") [Value.ref _, ovv _]) _ _ _); k_dflt (refine' tab_get ?T ?N ?p ?l ?k ?_; (case N => k_asm); (case p => k_mem); (case T => assumption); (case l => assumption); (case k => assumption); k_whole)))
local macro_rules | `(tactic| walk_at "call builtin:dict.get") => `(tactic| (k_here; (with_reducible show wpAny _ _ (call (Value.builtin "dict.get") [Value.ref _, Value.str _ _]) _ _ _); k_dflt (refine' tab_getE ?T ?N ?p ?l ?k ?_; (case N => k_asm); (case p => k_mem); (case T => assumption); (case l => assumption); (case k => assumption); k_whole)))
local macro_rules | `(tactic| walk_at "SMALL") => `(tactic| first | (exact List.forall_mem_nil _) | (refine' sm_app ?x9 ?y9 (by assumption); (case y9 => assumption); (case x9 => walk_at "SMALL")))
local macro_rules | `(tactic| walk_at "CLS") => `(tactic| first | exact List.forall_mem_nil _ | (refine List.forall_mem_cons.mpr ⟨?_, ?_⟩; (focus first | assumption | (intro h9; cases h9)); walk_at "CLS"))
local macro_rules | `(tactic| walk_at "AT105") => `(tactic| first | assumption | (refine' At105.head ?_; walk_at "CLS") | (refine' At105.tail ?c9 ?r9; (case c9 => first | assumption | (intro h9; cases h9)); (case r9 => walk_at "AT105")))
local macro_rules | `(tactic| walk_at "exec If") => `(tactic| ((with_reducible show wpAny _ _ (exec (Stmt.If (PySem.Expr.BoolOp BoolOp.And _ _) _ _ _) _) _ _ _); (with_reducible rename MkS => mk9); refine stop_of ?_; clear mk9))
local macro_rules | `(tactic| walk_at "exec If") => `(tactic| (k_here; (with_reducible show wpAny _ _ (exec (Stmt.If (PySem.Expr.Attribute _ _ _) [_] [] _) _) _ _ _); (with_reducible rename MkA _ => mk9); (focus ((k_dflt (first | (refine' if_app mk9 ?F ?N ?l ?_ ?_ ?_; (case F => k_asm); (case N => k_asm); (case l => assumption)) | (refine' if_app (items := []) mk9 ?F ?N (Nat.le_refl 0) ?_ ?_ ?_; (case F => k_asm); (case N => k_asm)))); (rotate_left); (intro h' tk' hc9 F' N'; (try k_sweep)); (rotate_left); (clear mk9; intro h' tk' n' items' hi9 hl9 F' N' mk9; (try k_sweep)); (rotate_left)))))
local macro_rules | `(tactic| walk_at "CutB") => `(tactic| (refine' cutB_i ?e ?F ?N; (case F => k_asm); (case N => first | k_asm | (refine' cb_drop ?cbN ?cbS; (case cbN => assumption); (case cbS => kcj_all))); (case e => first | rfl | (simp only [*, Bool.true_and, Bool.and_true, Bool.false_and, Bool.and_false, Bool.true_or, Bool.or_true, Bool.false_or, Bool.or_false]; done))))
local macro_rules | `(tactic| walk_at "CutA") => `(tactic| (k_dflt refine' cutA_i ?F ?N; (case F => k_asm); (case N => first | k_asm | (refine' cb_drop ?cbN ?cbS; (case cbN => assumption); (case cbS => kcj_all)))))
local macro_rules | `(tactic| walk_at "call builtin:list.append") => `(tactic| (k_here; (with_reducible show wpAny _ _ (call (Value.builtin _) [Value.ref _, ovv _]) _ _ _); k_dflt (refine' app_ovv ?k1 ?k2 ?k3 ?z ?_; (case k1 => k_asm); (case k2 => k_asm); (case k3 => k_upd); (case z => omega); k_whole); intro h' F' N'; (try k_sweep)))
local macro_rules | `(tactic| walk_at "truthy str") => `(tactic| ((with_reducible show wpAny _ _ (truthy (Value.str (Nm.x _) (Nm.t _))) _ _ _); refine ov_truthy (o := some _) ?_; intro tk))
local macro_rules | `(tactic| walk_at "eval GeneratorExp") => `(tactic| (k_here; k_dflt (refine' gen_ovv ?X ?T ?F ?N ?hdl (At105.toUpd ?U ?N2) ?ps ?G rfl rfl rfl rfl rfl ?cell rfl rfl ?xd rfl ?room ?hs ?hev ?_; (case X => k_asm); (case T => k_asm); (case F => k_asm); (case N => k_asm); (case N2 => k_asm); (case hdl => k_mem); (case U => walk_at "AT105"); (case ps => assumption); (case G => assumption); (case cell => decide); (case xd => decide); (case room => k_room); (case hs => intro _; with_unfolding_all rfl); (case hev => (intro Q9 hq9; walk1; exact hq9)); k_whole); intro a' s' ps' Kb' hps' F' N' G' os' lk' le' X'))
local macro_rules | `(tactic| walk_at "call builtin:str.join") => `(tactic| (k_here; (with_reducible show wpAny _ _ (call (Value.builtin "str.join") [Value.str _ _, Value.ref _]) _ _ _); k_dflt (refine' join_ovv ?F ?N ?b ?G ?lk ?X ?sp ?l ?sm ?_; (case X => assumption); (case F => k_asm); (case N => k_asm); (case b => assumption); (case G => assumption); (case lk => assumption); (case sp => decide); (case l => omega); (case sm => walk_at "SMALL"); k_whole); intro p' s' hp' hpl' F' N' G' os'))
local macro_rules | `(tactic| walk_at "formatField str") => `(tactic| ((with_reducible show wpAny _ _ (formatField (Value.str (Nm.x _) (Nm.t _)) _) _ _ _); k_dflt (refine' ff_nm (Nm.short _) ?_); intro u9 tk9))
local macro_rules | `(tactic| walk_at "And") => `(tactic| ((with_reducible show Str.length _ ≤ sizeLine ∧ _); refine' ⟨?z9, ?_⟩; (case z9 => (simp only [Str.length_append, lenA, lenB, lenE, sizeLine_eq]; omega))))
local macro_rules | `(tactic| walk_at "inplaceOp Add str str") => `(tactic| (k_dflt (refine' iadd_str ?_ ?z9; (case z9 => (simp only [Str.length_append, lenA, lenB, lenE, sizeLine_eq]; omega))); intro u9 tk9))
local macro_rules | `(tactic| walk_at "CutS") => `(tactic| first | (refine' cutS_s ?c ?F ?N ?P; (case F => k_asm); (case c => decide); (case N => first | k_asm | (refine' cb_drop ?cbN ?cbS; (case cbN => assumption); (case cbS => kcj_all))); (case P => first | exact Or.inl rfl | exact Or.inr rfl | (refine Or.inr ⟨rfl, ?_⟩; rintro ⟨rfl, rfl, rfl⟩; simp_all; done))) | (refine' cutS_n ?F ?N ?P; (case F => k_asm); (case N => first | k_asm | (refine' cb_drop ?cbN ?cbS; (case cbN => assumption); (case cbS => kcj_all))); (case P => first | exact Or.inl rfl | exact Or.inr rfl)))
theorem ov_ne_same {prog : Program} {w : World} {A : Around} {E : Value → Shared → Prop} {s : Shared} {a b : P2} {Q : Value → Shared → Prop} (e : eqv a b = true) (h : Q (.bool false) s) : wpAny (model prog w) A (compareOp .NotEq (ovv a) (ovv b)) Q E s :=
  ov_ne (by rw [e]; exact h)
local macro_rules | `(tactic| walk_at "compareOp NotEq") => `(tactic| ((with_reducible show wpAny _ _ (compareOp CmpOp.NotEq (ovv _) (ovv _)) _ _ _); refine ov_ne_same (by assumption) ?_))
local macro_rules | `(tactic| walk_at "call ref") => `(tactic| (k_here; (with_reducible show wpAny _ _ (call (Value.ref 110) _ _) _ _ _); (with_reducible rename (∀ v : P2, _ → eqv v _ = true) => hdue9); k_dflt (refine' display1 (ol := some _) ?B ?F ?X ?N ?T ?G ?A ?ps ?x ?dx ?D ?DI ?d1 ?T1 ?l1 ?s1 ?d2 ?T2 ?l2 ?s2 ?d3 ?T3 ?l3 ?s3 ?d4 ?T4 ?l4 ?s4 ?k1 ?k2 ?k3 ?k4 ?sm ?_; (case B => k_asm); (case F => k_asm); (case X => k_asm); (case N => k_asm); (case T => k_asm); (case G => assumption); (case ps => assumption); (case x => k_mem); (case dx => k_mem); (case D => k_mem); (case DI => assumption); (case d1 => k_mem); (case d2 => k_mem); (case d3 => k_mem); (case d4 => k_mem); (case T1 => assumption); (case T2 => assumption); (case T3 => assumption); (case T4 => assumption); (case l1 => assumption); (case l2 => assumption); (case l3 => assumption); (case l4 => assumption); (case s1 => assumption); (case s2 => assumption); (case s3 => assumption); (case s4 => assumption); (case k1 => assumption); (case k2 => assumption); (case k3 => assumption); (case k4 => assumption); (case sm => assumption); (case A => walk_at "AT105"); k_whole); intro v' s' ps' hv' hps' F' N' G' os'; have ev' := hdue9 v' hv'; clear hv'; (try k_sweep)))
local macro_rules | `(tactic| walk_at "call ref") => `(tactic| (k_here; (with_reducible show wpAny _ _ (call (Value.ref 110) _ _) _ _ _); (with_reducible rename (∀ v : P2, _ → eqv v _ = true) => hdue9); k_dflt (refine' display2 (ol := some _) ?B ?F ?X ?N ?T ?G ?A ?ps ?x ?dx ?y ?dy ?D ?DI ?d1 ?T1 ?l1 ?s1 ?d2 ?T2 ?l2 ?s2 ?d3 ?T3 ?l3 ?s3 ?d4 ?T4 ?l4 ?s4 ?k1 ?k2 ?k3 ?k4 ?sm ?_; (case B => k_asm); (case F => k_asm); (case X => k_asm); (case N => k_asm); (case T => k_asm); (case G => assumption); (case ps => assumption); (case x => k_mem); (case dx => k_mem); (case y => k_mem); (case dy => k_mem); (case D => k_mem); (case DI => assumption); (case d1 => k_mem); (case d2 => k_mem); (case d3 => k_mem); (case d4 => k_mem); (case T1 => assumption); (case T2 => assumption); (case T3 => assumption); (case T4 => assumption); (case l1 => assumption); (case l2 => assumption); (case l3 => assumption); (case l4 => assumption); (case s1 => assumption); (case s2 => assumption); (case s3 => assumption); (case s4 => assumption); (case k1 => assumption); (case k2 => assumption); (case k3 => assumption); (case k4 => assumption); (case sm => assumption); (case A => walk_at "AT105"); k_whole); intro v' s' ps' hv' hps' F' N' G' os'; have ev' := hdue9 v' hv'; clear hv'; (try k_sweep)))
set_option maxHeartbeats 8000000 in
theorem segG {w : World} {base h₀ : Heap} {fa : Addr} {cd : Value} {L : Addr} {m : Str → Option Value} {news : List (Addr × Obj)} {s : Shared} {Q : Flow → Shared → Prop} {E : Value → Shared → Prop} {mg mb : Str → Option Value} {mean : ExcName → Option Value} {p : Program} {loose : List Str}
   {pl : Nm} {os ot ov om : P2}{i : Int} {t : Tok} {l x y z dx dy dz u : Addr} {du : P2} {ps : Array Value} {d1 d2 d3 d4 D : Addr} {o1 o2 o3 o4 oD : Obj} {r1 r2 r3 r4 : P2}{a1 a2 a3 a4 a5 a6 b1 b2 b3 b4 b5 b6 c1 c2 c3 c4 c5 c6 v1 v2 : Tok}
   (B : Below callerA base [] h₀) (F : Fr h₀ L s.heap (fun y0 => if y0 = Str.ofString "due" then some (ovv du) else if y0 = Str.ofString "told" then some (.ref u) else if y0 = Str.ofString "bare" then some (.ref z) else if y0 = Str.ofString "other" then some (.ref y) else if y0 = Str.ofString "here" then some (.ref x) else if y0 = Str.ofString "data" then some (.ref D) else if y0 = Str.ofString "variants" then some (.ref d4) else if y0 = Str.ofString "territories" then some (.ref d3) else if y0 = Str.ofString "scripts" then some (.ref d2) else if y0 = Str.ofString "languages" then some (.ref d1) else if y0 = Str.ofString "modifier" then some (ovv om) else if y0 = Str.ofString "variant" then some (ovv ov) else if y0 = Str.ofString "territory" then some (ovv ot) else if y0 = Str.ofString "written" then some (ovv os) else if y0 = Str.ofString "language" then some (.str (Nm.x pl) (Nm.t pl)) else if y0 = Str.ofString "numbers" then some (.ref l) else if y0 = Str.ofString "setting" then some (.int i t) else m y0)) (X₀ : (hd.heap_39 w.params).In h₀) (N : News h₀ L s.heap ((z, instObj 177 dz) :: (dz, dictOf (locEs w c1 c2 c3 c4 c5 c6 (ovv (some pl)) (ovv ot) (ovv os) (ovv ov) (ovv om) .none) 6) :: (y, instObj 177 dy) :: (dy, dictOf (locEs w b1 b2 b3 b4 b5 b6 (.str (Str.ofString "de") v1) (.str (Str.ofString "AT") v2) .none .none .none (.ref D)) 6) :: (x, instObj 177 dx) :: (dx, dictOf (locEs w a1 a2 a3 a4 a5 a6 (ovv (some pl)) (ovv ot) (ovv os) (ovv ov) (ovv om) (.ref D)) 6) :: (D, oD) :: (d4, o4) :: (d3, o3) :: (d2, o2) :: (d1, o1) :: (105, PySem.W.X.tableObj ps) :: [])) (T : Top p loose mean mg mb h₀)
   (hDI : DataIs Challenge.rw_nk0010_01.row.prog w oD d1 d2 d3 d4) (hT1 : TabIs Challenge.rw_nk0010_01.row.prog w o1 (Nm.x pl) r1) (hs1 : Sm r1) (hl1 : (d1 == sysModules) = false) (hT2 : TabIs Challenge.rw_nk0010_01.row.prog w o2 (Str.ofString "Hant") r2) (hs2 : Sm r2) (hl2 : (d2 == sysModules) = false) (hT3 : TabIs Challenge.rw_nk0010_01.row.prog w o3 (Str.ofString "TW") r3) (hs3 : Sm r3) (hl3 : (d3 == sysModules) = false) (hT4 : TabIs Challenge.rw_nk0010_01.row.prog w o4 (Str.ofString "POSIX") r4) (hs4 : Sm r4) (hl4 : (d4 == sysModules) = false) (hk1 : (some pl).map Nm.x ≠ some (Str.ofString "other")) (hk2 : os.map Nm.x ≠ some (Str.ofString "other")) (hk3 : ot.map Nm.x ≠ some (Str.ofString "other")) (hk4 : ov.map Nm.x ≠ some (Str.ofString "other")) (hsm : Sm om) (hps : PsOk gpos ps) (hG : AllBare s.gens) (hdue : ∀ v : P2, v.map Nm.x = disp (lk (Nm.x pl) r1 (some pl)) (tr ot || tr os || tr ov) [(tr os, lk (Str.ofString "Hant") r2 os), (tr ot, lk (Str.ofString "TW") r3 ot), (tr ov, lk (Str.ofString "POSIX") r4 ov), (tr om, om)] → eqv v du = true)
   (k : ∀ s' ps', PsOk gpos ps' → Fr h₀ L s'.heap (fun y0 => if y0 = Str.ofString "due" then some (ovv du) else if y0 = Str.ofString "told" then some (.ref u) else if y0 = Str.ofString "bare" then some (.ref z) else if y0 = Str.ofString "other" then some (.ref y) else if y0 = Str.ofString "here" then some (.ref x) else if y0 = Str.ofString "data" then some (.ref D) else if y0 = Str.ofString "variants" then some (.ref d4) else if y0 = Str.ofString "territories" then some (.ref d3) else if y0 = Str.ofString "scripts" then some (.ref d2) else if y0 = Str.ofString "languages" then some (.ref d1) else if y0 = Str.ofString "modifier" then some (ovv om) else if y0 = Str.ofString "variant" then some (ovv ov) else if y0 = Str.ofString "territory" then some (ovv ot) else if y0 = Str.ofString "written" then some (ovv os) else if y0 = Str.ofString "language" then some (.str (Nm.x pl) (Nm.t pl)) else if y0 = Str.ofString "numbers" then some (.ref l) else if y0 = Str.ofString "setting" then some (.int i t) else m y0) → News h₀ L s'.heap ((z, instObj 177 dz) :: (dz, dictOf (locEs w c1 c2 c3 c4 c5 c6 (ovv (some pl)) (ovv ot) (ovv os) (ovv ov) (ovv om) .none) 6) :: (y, instObj 177 dy) :: (dy, dictOf (locEs w b1 b2 b3 b4 b5 b6 (.str (Str.ofString "de") v1) (.str (Str.ofString "AT") v2) .none .none .none (.ref D)) 6) :: (x, instObj 177 dx) :: (dx, dictOf (locEs w a1 a2 a3 a4 a5 a6 (ovv (some pl)) (ovv ot) (ovv os) (ovv ov) (ovv om) (.ref D)) 6) :: (D, oD) :: (d4, o4) :: (d3, o3) :: (d2, o2) :: (d1, o1) :: (105, PySem.W.X.tableObj ps') :: []) → AllBare s'.gens → s'.os = s.os → Q .next s') :
   wpAny (model Challenge.rw_nk0010_01.row.prog w) (callerA.deeper (lawEnv L fa cd)) (execs [lawSt 19] (lawEnv L fa cd)) Q E s := by
  have e19 : lawSt 19 = lawSt 19 := rfl
  conv at e19 => rhs; whnf
  rw [e19]
  clear e19
  have hcD := data_cls hDI
  have hc1 := tab_cls hT1
  have hc2 := tab_cls hT2
  have hc3 := tab_cls hT3
  have hc4 := tab_cls hT4
  repeat' (walk_at "STEP1")
  exact k _ _ (by assumption) (by assumption) (by assumption) (by assumption) (Eq.trans (by assumption) (by assumption))
end
section
theorem off_H : True := by
  w_top off
  exact trivial
local macro_rules | `(tactic| k_mem) => `(tactic| assumption)
local macro_rules | `(tactic| walk_at "compareOp Eq") => `(tactic| ((with_reducible show wpAny _ _ (compareOp CmpOp.Eq (ovv _) (ovv _)) _ _ _); refine ov_eq ?_))
local macro_rules | `(tactic| walk_at "compareOp NotEq") => `(tactic| ((with_reducible show wpAny _ _ (compareOp CmpOp.NotEq (ovv _) (ovv _)) _ _ _); refine ov_ne ?_))
local macro_rules | `(tactic| walk_at "compareOp Is") => `(tactic| ((with_reducible show wpAny _ _ (compareOp CmpOp.Is (ovv _) Value.none) _ _ _); refine ov_isNone ?_))
local macro_rules | `(tactic| walk_at "compareOp IsNot") => `(tactic| ((with_reducible show wpAny _ _ (compareOp CmpOp.IsNot (ovv _) Value.none) _ _ _); refine ov_isNotNone ?_))
local macro_rules | `(tactic| walk_at "truthy") => `(tactic| ((with_reducible show wpAny _ _ (truthy (ovv _)) _ _ _); refine ov_truthy ?_; intro tk))
local macro_rules | `(tactic| k_handed) => `(tactic| exact handedIn_ovv _)
local macro_rules | `(tactic| walk_at "call builtin:hasattr") => `(tactic| (k_here; k_dflt (refine' hasattr_K ?k1 ?k2 ?k3 ?k4 ?k5 ?k6 ?k7 ?k8 ?k9 ?k10 ?_; (case k1 => k_asm); (case k2 => k_asm); (case k3 => k_inst); (case k4 => k_is); (case k5 => k_is); (case k6 => k_is); (case k7 => k_is); (case k8 => k_is); (case k9 => k_get); (case k10 => k_handed); k_whole)))
local macro_rules | `(tactic| walk_at "call builtin:getattr") => `(tactic| (k_here; k_dflt (refine' getattr_K ?k1 ?k2 ?k3 ?k4 ?k5 ?k6 ?k7 ?k9 ?k10 ?_; (case k1 => k_asm); (case k2 => k_asm); (case k3 => k_inst); (case k4 => k_is); (case k5 => k_is); (case k6 => k_is); (case k7 => k_is); (case k9 => k_get); (case k10 => k_handed); k_whole)))
local macro_rules | `(tactic| k_room) => `(tactic| ((try simp only [depth_under_make, depth_under_kw, depth_in1, depth_deeper, depth_caller]); omega))
local macro_rules | `(tactic| walk_at "subscriptTail") => `(tactic| (k_here; (with_reducible show wpAny _ _ (subscriptTail _ _ (Value.ref _) (Value.str _ _)) _ _ _); k_dflt (refine' kdt_tail (knd := PySem.strKind _ _) ?N ?p ?d ?_; (case N => k_asm); (case p => k_mem); (case d => unfold DataIs at *; assumption); k_whole)))
local macro_rules | `(tactic| walk_at "subscriptTail Attribute Name Constant ref str") => `(tactic| (k_here; (with_reducible show wpAny _ _ (subscriptTail _ _ (Value.ref _) (Value.str _ _)) _ _ _); k_dflt (refine' kdt_tail (knd := PySem.strKind _ _) ?N ?p ?d ?_; (case N => k_asm); (case p => k_mem); (case d => unfold DataIs at *; assumption); k_whole)))
local macro_rules | `(tactic| walk_at "getItem ref str") => `(tactic| (k_here; k_dflt (refine' data_item ?d ?N ?p ?l ?_; (case N => k_asm); (case p => k_mem); (case d => assumption); (case l => rfl); k_whole)))
local macro_rules | `(tactic| walk_at "getMethod ref") => `(tactic| (k_here; (with_reducible show wpAny _ _ (getMethod (Value.ref _) (Str.ofString "get") _) _ _ _); k_dflt (refine' tab_method ?T ?N ?p ?_; (case N => k_asm); (case p => k_mem); (case T => assumption); k_whole)))
local macro_rules | `(tactic| walk_at "call builtin:dict.get") => `(tactic| (k_here; (with_reducible show wpAny _ _ (call (Value.builtin "dict.get") [Value.ref _, ovv _]) _ _ _); k_dflt (refine' tab_get ?T ?N ?p ?l ?k ?_; (case N => k_asm); (case p => k_mem); (case T => assumption); (case l => assumption); (case k => assumption); k_whole)))
local macro_rules | `(tactic| walk_at "call builtin:dict.get") => `(tactic| (k_here; (with_reducible show wpAny _ _ (call (Value.builtin "dict.get") [Value.ref _, Value.str _ _]) _ _ _); k_dflt (refine' tab_getE ?T ?N ?p ?l ?k ?_; (case N => k_asm); (case p => k_mem); (case T => assumption); (case l => assumption); (case k => assumption); k_whole)))
local macro_rules | `(tactic| walk_at "SMALL") => `(tactic| first | (exact List.forall_mem_nil _) | (refine' sm_app ?x9 ?y9 (by assumption); (case y9 => assumption); (case x9 => walk_at "SMALL")))
local macro_rules | `(tactic| walk_at "CLS") => `(tactic| first | exact List.forall_mem_nil _ | (refine List.forall_mem_cons.mpr ⟨?_, ?_⟩; (focus first | assumption | (intro h9; cases h9)); walk_at "CLS"))
local macro_rules | `(tactic| walk_at "AT105") => `(tactic| first | assumption | (refine' At105.head ?_; walk_at "CLS") | (refine' At105.tail ?c9 ?r9; (case c9 => first | assumption | (intro h9; cases h9)); (case r9 => walk_at "AT105")))
local macro_rules | `(tactic| walk_at "exec If") => `(tactic| ((with_reducible show wpAny _ _ (exec (Stmt.If (PySem.Expr.BoolOp BoolOp.And _ _) _ _ _) _) _ _ _); (with_reducible rename MkS => mk9); refine stop_of ?_; clear mk9))
local macro_rules | `(tactic| walk_at "exec If") => `(tactic| (k_here; (with_reducible show wpAny _ _ (exec (Stmt.If (PySem.Expr.Attribute _ _ _) [_] [] _) _) _ _ _); (with_reducible rename MkA _ => mk9); (focus ((k_dflt (first | (refine' if_app mk9 ?F ?N ?l ?_ ?_ ?_; (case F => k_asm); (case N => k_asm); (case l => assumption)) | (refine' if_app (items := []) mk9 ?F ?N (Nat.le_refl 0) ?_ ?_ ?_; (case F => k_asm); (case N => k_asm)))); (rotate_left); (intro h' tk' hc9 F' N'; (try k_sweep)); (rotate_left); (clear mk9; intro h' tk' n' items' hi9 hl9 F' N' mk9; (try k_sweep)); (rotate_left)))))
local macro_rules | `(tactic| walk_at "CutB") => `(tactic| (refine' cutB_i ?e ?F ?N; (case F => k_asm); (case N => first | k_asm | (refine' cb_drop ?cbN ?cbS; (case cbN => assumption); (case cbS => kcj_all))); (case e => first | rfl | (simp only [*, Bool.true_and, Bool.and_true, Bool.false_and, Bool.and_false, Bool.true_or, Bool.or_true, Bool.false_or, Bool.or_false]; done))))
local macro_rules | `(tactic| walk_at "CutA") => `(tactic| (k_dflt refine' cutA_i ?F ?N; (case F => k_asm); (case N => first | k_asm | (refine' cb_drop ?cbN ?cbS; (case cbN => assumption); (case cbS => kcj_all)))))
local macro_rules | `(tactic| walk_at "call builtin:list.append") => `(tactic| (k_here; (with_reducible show wpAny _ _ (call (Value.builtin _) [Value.ref _, ovv _]) _ _ _); k_dflt (refine' app_ovv ?k1 ?k2 ?k3 ?z ?_; (case k1 => k_asm); (case k2 => k_asm); (case k3 => k_upd); (case z => omega); k_whole); intro h' F' N'; (try k_sweep)))
local macro_rules | `(tactic| walk_at "truthy str") => `(tactic| ((with_reducible show wpAny _ _ (truthy (Value.str (Nm.x _) (Nm.t _))) _ _ _); refine ov_truthy (o := some _) ?_; intro tk))
local macro_rules | `(tactic| walk_at "eval GeneratorExp") => `(tactic| (k_here; k_dflt (refine' gen_ovv ?X ?T ?F ?N ?hdl (At105.toUpd ?U ?N2) ?ps ?G rfl rfl rfl rfl rfl ?cell rfl rfl ?xd rfl ?room ?hs ?hev ?_; (case X => k_asm); (case T => k_asm); (case F => k_asm); (case N => k_asm); (case N2 => k_asm); (case hdl => k_mem); (case U => walk_at "AT105"); (case ps => assumption); (case G => assumption); (case cell => decide); (case xd => decide); (case room => k_room); (case hs => intro _; with_unfolding_all rfl); (case hev => (intro Q9 hq9; walk1; exact hq9)); k_whole); intro a' s' ps' Kb' hps' F' N' G' os' lk' le' X'))
local macro_rules | `(tactic| walk_at "call builtin:str.join") => `(tactic| (k_here; (with_reducible show wpAny _ _ (call (Value.builtin "str.join") [Value.str _ _, Value.ref _]) _ _ _); k_dflt (refine' join_ovv ?F ?N ?b ?G ?lk ?X ?sp ?l ?sm ?_; (case X => assumption); (case F => k_asm); (case N => k_asm); (case b => assumption); (case G => assumption); (case lk => assumption); (case sp => decide); (case l => omega); (case sm => walk_at "SMALL"); k_whole); intro p' s' hp' hpl' F' N' G' os'))
local macro_rules | `(tactic| walk_at "formatField str") => `(tactic| ((with_reducible show wpAny _ _ (formatField (Value.str (Nm.x _) (Nm.t _)) _) _ _ _); k_dflt (refine' ff_nm (Nm.short _) ?_); intro u9 tk9))
local macro_rules | `(tactic| walk_at "And") => `(tactic| ((with_reducible show Str.length _ ≤ sizeLine ∧ _); refine' ⟨?z9, ?_⟩; (case z9 => (simp only [Str.length_append, lenA, lenB, lenE, sizeLine_eq]; omega))))
local macro_rules | `(tactic| walk_at "inplaceOp Add str str") => `(tactic| (k_dflt (refine' iadd_str ?_ ?z9; (case z9 => (simp only [Str.length_append, lenA, lenB, lenE, sizeLine_eq]; omega))); intro u9 tk9))
local macro_rules | `(tactic| walk_at "compareOp NotEq ref ref") => `(tactic| (k_here; (with_reducible show wpAny _ _ (compareOp CmpOp.NotEq (Value.ref _) (Value.ref _)) _ _ _); (with_reducible rename MkL _ _ => mkl); k_dflt (first | (refine' ne_tups mkl ?N ?a ?b rfl ?u ?_; (case N => k_asm); (case a => k_mem); (case b => k_mem); (case u => ke_room); k_whole) | (refine' ne_ovs mkl ?N ?a ?b ?u ?_; (case N => k_asm); (case a => k_mem); (case b => k_mem); (case u => ke_room); k_whole))))
theorem ne_same {prog : Program} {w : World} {A : Around} {E : Value → Shared → Prop} {s : Shared} {h₀ : Heap} {L : Addr} {news : List (Addr × Obj)} {a b : Addr} {l1 : List P2} {n1 n2 : Nat} {Q : Value → Shared → Prop}
    (mk : MkL l1 l1) (N : News h₀ L s.heap news) (ha : (a, W.listOf (l1.map ovv).toArray n1) ∈ news) (hb : (b, W.listOf (l1.map ovv).toArray n2) ∈ news) (hu : A.units < cLine)
    (h : Q (.bool false) s) : wpAny (model prog w) A (compareOp .NotEq (.ref a) (.ref b)) Q E s := ne_ovs mk N ha hb hu (by rw [decide_eq_true rfl]; exact h)
local macro_rules | `(tactic| walk_at "compareOp NotEq ref ref") => `(tactic| (k_here; (with_reducible show wpAny _ _ (compareOp CmpOp.NotEq (Value.ref _) (Value.ref _)) _ _ _); (with_reducible rename MkL _ _ => mkl); k_dflt (refine' ne_same mkl ?N ?a ?b ?u ?_; (case N => k_asm); (case a => k_mem); (case b => k_mem); (case u => ke_room); k_whole)))
local macro_rules | `(tactic| walk_at "CutS") => `(tactic| first | (refine' cutS_s ?c ?F ?N ?P; (case F => k_asm); (case c => decide); (case N => first | k_asm | (refine' cb_drop ?cbN ?cbS; (case cbN => assumption); (case cbS => kcj_all))); (case P => first | exact Or.inl rfl | exact Or.inr rfl | (refine Or.inr ⟨rfl, ?_⟩; rintro ⟨rfl, rfl, rfl⟩; simp_all; done))) | (refine' cutS_n ?F ?N ?P; (case F => k_asm); (case N => first | k_asm | (refine' cb_drop ?cbN ?cbS; (case cbN => assumption); (case cbS => kcj_all))); (case P => first | exact Or.inl rfl | exact Or.inr rfl)))
local macro_rules | `(tactic| walk_at "call builtin:str.join") => `(tactic| (k_here; (with_reducible show wpAny _ _ (call (Value.builtin "str.join") [Value.str _ _, Value.ref _]) _ _ _); (with_reducible rename MkJ _ => mkj); k_dflt (refine' join_items ?N ?a mkj.tr mkj.sm mkj.len ?s ?_; (case N => k_asm); (case a => k_mem); (case s => decide); k_whole); intro p' tk' hp' hpl'))
local macro_rules | `(tactic| walk_at "binaryOp Add str str") => `(tactic| (k_dflt (refine' PyProof.Rows.add_str ?_ ?z9; (case z9 => (simp only [Str.length_append, lenA, lenB, lenE, sizeLine_eq]; omega))); intro u9 tk9))
local macro_rules | `(tactic| walk_at "call builtin:dict.get") => `(tactic| (k_here; (with_reducible show wpAny _ _ (call (Value.builtin "dict.get") [Value.ref _, Value.str (Nm.x _) (Nm.t _)]) _ _ _); k_dflt (refine' tab_get (k := some _) ?T ?N ?p ?l ?k ?_; (case N => k_asm); (case p => k_mem); (case T => assumption); (case l => assumption); (case k => assumption); k_whole)))
local macro_rules | `(tactic| walk_at "CutB") => `(tactic| (refine' cutB_i ?e ?F ?N; (case F => k_asm); (case N => first | k_asm | (refine' cb_drop ?cbN ?cbS; (case cbN => assumption); (case cbS => kcj_all))); (case e => first | rfl | exact ce1 (by assumption) (by assumption) | exact ce2 (by assumption) (by assumption) | exact ce3 (by assumption))))
local macro_rules | `(tactic| walk_at "call ref") => `(tactic| (k_here; (with_reducible show wpAny _ _ (call (Value.ref 118) _ _) _ _ _); k_dflt (refine' name_lang2 (ol := some _) ?B ?F ?X ?N ?T ?x ?dx ?y ?dy ?D ?DI ?d1 ?T1 ?l1 ?k1 ?_; (case B => k_asm); (case F => k_asm); (case X => k_asm); (case N => k_asm); (case T => k_asm); (case x => k_mem); (case dx => k_mem); (case y => k_mem); (case dy => k_mem); (case D => k_mem); (case DI => assumption); (case d1 => k_mem); (case T1 => assumption); (case l1 => assumption); (case k1 => assumption); k_whole); intro h' tk' F' N'; (try k_sweep)))
local macro_rules | `(tactic| walk_at "call ref") => `(tactic| (k_here; (with_reducible show wpAny _ _ (call (Value.ref 118) _ _) _ _ _); k_dflt (refine' name_lang1 (ol := some _) ?B ?F ?X ?N ?T ?x ?dx ?D ?DI ?d1 ?T1 ?l1 ?k1 ?_; (case B => k_asm); (case F => k_asm); (case X => k_asm); (case N => k_asm); (case T => k_asm); (case x => k_mem); (case dx => k_mem); (case D => k_mem); (case DI => assumption); (case d1 => k_mem); (case T1 => assumption); (case l1 => assumption); (case k1 => assumption); k_whole); intro h' tk' F' N'; (try k_sweep)))
local macro_rules | `(tactic| walk_at "call ref") => `(tactic| (k_here; (with_reducible show wpAny _ _ (call (Value.ref 134) _ _) _ _ _); k_dflt (refine' name_scr2 (ol := some _) ?B ?F ?X ?N ?T ?x ?dx ?y ?dy ?D ?DI ?d1 ?T1 ?l1 ?k1 ?hc ?_; (case B => k_asm); (case F => k_asm); (case X => k_asm); (case N => k_asm); (case T => k_asm); (case x => k_mem); (case dx => k_mem); (case y => k_mem); (case dy => k_mem); (case D => k_mem); (case DI => assumption); (case d1 => k_mem); (case T1 => assumption); (case l1 => assumption); (case k1 => assumption); (case hc => decide); k_whole); intro h' tk' F' N'; (try k_sweep)))
local macro_rules | `(tactic| walk_at "call ref") => `(tactic| (k_here; (with_reducible show wpAny _ _ (call (Value.ref 134) _ _) _ _ _); k_dflt (refine' name_scr1 (ol := some _) ?B ?F ?X ?N ?T ?x ?dx ?D ?DI ?d1 ?T1 ?l1 ?k1 ?hc ?_; (case B => k_asm); (case F => k_asm); (case X => k_asm); (case N => k_asm); (case T => k_asm); (case x => k_mem); (case dx => k_mem); (case D => k_mem); (case DI => assumption); (case d1 => k_mem); (case T1 => assumption); (case l1 => assumption); (case k1 => assumption); (case hc => decide); k_whole); intro h' tk' F' N'; (try k_sweep)))
local macro_rules | `(tactic| walk_at "call ref") => `(tactic| (k_here; (with_reducible show wpAny _ _ (call (Value.ref 126) _ _) _ _ _); k_dflt (refine' name_terr2 (ol := some _) ?B ?F ?X ?N ?T ?x ?dx ?y ?dy ?D ?DI ?d1 ?T1 ?l1 ?k1 ?hc ?_; (case B => k_asm); (case F => k_asm); (case X => k_asm); (case N => k_asm); (case T => k_asm); (case x => k_mem); (case dx => k_mem); (case y => k_mem); (case dy => k_mem); (case D => k_mem); (case DI => assumption); (case d1 => k_mem); (case T1 => assumption); (case l1 => assumption); (case k1 => assumption); (case hc => decide); k_whole); intro h' tk' F' N'; (try k_sweep)))
local macro_rules | `(tactic| walk_at "call ref") => `(tactic| (k_here; (with_reducible show wpAny _ _ (call (Value.ref 126) _ _) _ _ _); k_dflt (refine' name_terr1 (ol := some _) ?B ?F ?X ?N ?T ?x ?dx ?D ?DI ?d1 ?T1 ?l1 ?k1 ?hc ?_; (case B => k_asm); (case F => k_asm); (case X => k_asm); (case N => k_asm); (case T => k_asm); (case x => k_mem); (case dx => k_mem); (case D => k_mem); (case DI => assumption); (case d1 => k_mem); (case T1 => assumption); (case l1 => assumption); (case k1 => assumption); (case hc => decide); k_whole); intro h' tk' F' N'; (try k_sweep)))
set_option maxHeartbeats 8000000 in
theorem segH {w : World} {base h₀ : Heap} {fa : Addr} {cd : Value} {L : Addr} {m : Str → Option Value} {news : List (Addr × Obj)} {s : Shared} {Q : Flow → Shared → Prop} {E : Value → Shared → Prop} {mg mb : Str → Option Value} {mean : ExcName → Option Value} {p : Program} {loose : List Str}
   {pl : Nm} {os ot ov om : P2}{i : Int} {t : Tok} {l x y z dx dy dz u : Addr} {du : P2} {ps : Array Value} {d1 d2 d3 d4 D : Addr} {o1 o2 o3 o4 oD : Obj} {r1 r2 r3 r4 : P2}{a1 a2 a3 a4 a5 a6 b1 b2 b3 b4 b5 b6 c1 c2 c3 c4 c5 c6 v1 v2 : Tok}
   (B : Below callerA base [] h₀) (F : Fr h₀ L s.heap (fun y0 => if y0 = Str.ofString "due" then some (ovv du) else if y0 = Str.ofString "told" then some (.ref u) else if y0 = Str.ofString "bare" then some (.ref z) else if y0 = Str.ofString "other" then some (.ref y) else if y0 = Str.ofString "here" then some (.ref x) else if y0 = Str.ofString "data" then some (.ref D) else if y0 = Str.ofString "variants" then some (.ref d4) else if y0 = Str.ofString "territories" then some (.ref d3) else if y0 = Str.ofString "scripts" then some (.ref d2) else if y0 = Str.ofString "languages" then some (.ref d1) else if y0 = Str.ofString "modifier" then some (ovv om) else if y0 = Str.ofString "variant" then some (ovv ov) else if y0 = Str.ofString "territory" then some (ovv ot) else if y0 = Str.ofString "written" then some (ovv os) else if y0 = Str.ofString "language" then some (.str (Nm.x pl) (Nm.t pl)) else if y0 = Str.ofString "numbers" then some (.ref l) else if y0 = Str.ofString "setting" then some (.int i t) else m y0)) (X₀ : (hd.heap_39 w.params).In h₀) (N : News h₀ L s.heap ((z, instObj 177 dz) :: (dz, dictOf (locEs w c1 c2 c3 c4 c5 c6 (ovv (some pl)) (ovv ot) (ovv os) (ovv ov) (ovv om) .none) 6) :: (y, instObj 177 dy) :: (dy, dictOf (locEs w b1 b2 b3 b4 b5 b6 (.str (Str.ofString "de") v1) (.str (Str.ofString "AT") v2) .none .none .none (.ref D)) 6) :: (x, instObj 177 dx) :: (dx, dictOf (locEs w a1 a2 a3 a4 a5 a6 (ovv (some pl)) (ovv ot) (ovv os) (ovv ov) (ovv om) (.ref D)) 6) :: (D, oD) :: (d4, o4) :: (d3, o3) :: (d2, o2) :: (d1, o1) :: (105, PySem.W.X.tableObj ps) :: [])) (T : Top p loose mean mg mb h₀)
   (hDI : DataIs Challenge.rw_nk0010_01.row.prog w oD d1 d2 d3 d4) (hT1 : TabIs Challenge.rw_nk0010_01.row.prog w o1 (Nm.x pl) r1) (hs1 : Sm r1) (hl1 : (d1 == sysModules) = false) (hT2 : TabIs Challenge.rw_nk0010_01.row.prog w o2 (Str.ofString "Hant") r2) (hs2 : Sm r2) (hl2 : (d2 == sysModules) = false) (hT3 : TabIs Challenge.rw_nk0010_01.row.prog w o3 (Str.ofString "TW") r3) (hs3 : Sm r3) (hl3 : (d3 == sysModules) = false) (hT4 : TabIs Challenge.rw_nk0010_01.row.prog w o4 (Str.ofString "POSIX") r4) (hs4 : Sm r4) (hl4 : (d4 == sysModules) = false) (hk1 : (some pl).map Nm.x ≠ some (Str.ofString "other")) (hk2 : os.map Nm.x ≠ some (Str.ofString "other")) (hk3 : ot.map Nm.x ≠ some (Str.ofString "other")) (hk4 : ov.map Nm.x ≠ some (Str.ofString "other")) (hne : Nm.x pl ≠ Str.ofString "")
   (k : ∀ h' tk' q, Fr h₀ L h' (fun y0 => if y0 = Str.ofString "names" then some (.ref q) else if y0 = Str.ofString "due" then some (ovv du) else if y0 = Str.ofString "told" then some (.ref u) else if y0 = Str.ofString "bare" then some (.ref z) else if y0 = Str.ofString "other" then some (.ref y) else if y0 = Str.ofString "here" then some (.ref x) else if y0 = Str.ofString "data" then some (.ref D) else if y0 = Str.ofString "variants" then some (.ref d4) else if y0 = Str.ofString "territories" then some (.ref d3) else if y0 = Str.ofString "scripts" then some (.ref d2) else if y0 = Str.ofString "languages" then some (.ref d1) else if y0 = Str.ofString "modifier" then some (ovv om) else if y0 = Str.ofString "variant" then some (ovv ov) else if y0 = Str.ofString "territory" then some (ovv ot) else if y0 = Str.ofString "written" then some (ovv os) else if y0 = Str.ofString "language" then some (.str (Nm.x pl) (Nm.t pl)) else if y0 = Str.ofString "numbers" then some (.ref l) else if y0 = Str.ofString "setting" then some (.int i t) else m y0) → News h₀ L h' ((z, instObj 177 dz) :: (dz, dictOf (locEs w c1 c2 c3 c4 c5 c6 (ovv (some pl)) (ovv ot) (ovv os) (ovv ov) (ovv om) .none) 6) :: (y, instObj 177 dy) :: (dy, dictOf (locEs w b1 b2 b3 b4 b5 b6 (.str (Str.ofString "de") v1) (.str (Str.ofString "AT") v2) .none .none .none (.ref D)) 6) :: (x, instObj 177 dx) :: (dx, dictOf (locEs w a1 a2 a3 a4 a5 a6 (ovv (some pl)) (ovv ot) (ovv os) (ovv ov) (ovv om) (.ref D)) 6) :: (D, oD) :: (d4, o4) :: (d3, o3) :: (d2, o2) :: (d1, o1) :: (105, PySem.W.X.tableObj ps) :: []) → Q .next {s with heap := h', toks := tk'}) :
   wpAny (model Challenge.rw_nk0010_01.row.prog w) (callerA.deeper (lawEnv L fa cd)) (execs [lawSt 20, lawSt 21, lawSt 22] (lawEnv L fa cd)) Q E s := by
  have e20 : lawSt 20 = lawSt 20 := rfl
  conv at e20 => rhs; whnf
  have e21 : lawSt 21 = lawSt 21 := rfl
  conv at e21 => rhs; whnf
  have e22 : lawSt 22 = lawSt 22 := rfl
  conv at e22 => rhs; whnf
  rw [e20, e21, e22]
  clear e20 e21 e22
  have mkl : MkL [lk (Nm.x pl) r1 (some pl), lk (Str.ofString "TW") r3 ot, lk (Str.ofString "Hant") r2 os] [lk (Nm.x pl) r1 (some pl), lk (Str.ofString "TW") r3 ot, lk (Str.ofString "Hant") r2 os] := ⟨⟩
  repeat' (walk_at "STEP1")
  refine' k _ _ _ ?F ?N
  case F => assumption
  case N => refine' cb_drop ?cbN ?cbS; (case cbN => assumption); (case cbS => kcj_all)
end
section
theorem off_I : True := by
  w_top off
  exact trivial
local macro_rules | `(tactic| k_mem) => `(tactic| assumption)
local macro_rules | `(tactic| walk_at "compareOp Eq") => `(tactic| ((with_reducible show wpAny _ _ (compareOp CmpOp.Eq (ovv _) (ovv _)) _ _ _); refine ov_eq ?_))
local macro_rules | `(tactic| walk_at "compareOp NotEq") => `(tactic| ((with_reducible show wpAny _ _ (compareOp CmpOp.NotEq (ovv _) (ovv _)) _ _ _); refine ov_ne ?_))
local macro_rules | `(tactic| walk_at "compareOp Is") => `(tactic| ((with_reducible show wpAny _ _ (compareOp CmpOp.Is (ovv _) Value.none) _ _ _); refine ov_isNone ?_))
local macro_rules | `(tactic| walk_at "compareOp IsNot") => `(tactic| ((with_reducible show wpAny _ _ (compareOp CmpOp.IsNot (ovv _) Value.none) _ _ _); refine ov_isNotNone ?_))
local macro_rules | `(tactic| walk_at "truthy") => `(tactic| ((with_reducible show wpAny _ _ (truthy (ovv _)) _ _ _); refine ov_truthy ?_; intro tk))
local macro_rules | `(tactic| k_handed) => `(tactic| exact handedIn_ovv _)
local macro_rules | `(tactic| walk_at "call builtin:hasattr") => `(tactic| (k_here; k_dflt (refine' hasattr_K ?k1 ?k2 ?k3 ?k4 ?k5 ?k6 ?k7 ?k8 ?k9 ?k10 ?_; (case k1 => k_asm); (case k2 => k_asm); (case k3 => k_inst); (case k4 => k_is); (case k5 => k_is); (case k6 => k_is); (case k7 => k_is); (case k8 => k_is); (case k9 => k_get); (case k10 => k_handed); k_whole)))
local macro_rules | `(tactic| walk_at "call builtin:getattr") => `(tactic| (k_here; k_dflt (refine' getattr_K ?k1 ?k2 ?k3 ?k4 ?k5 ?k6 ?k7 ?k9 ?k10 ?_; (case k1 => k_asm); (case k2 => k_asm); (case k3 => k_inst); (case k4 => k_is); (case k5 => k_is); (case k6 => k_is); (case k7 => k_is); (case k9 => k_get); (case k10 => k_handed); k_whole)))
local macro_rules | `(tactic| k_room) => `(tactic| ((try simp only [depth_under_make, depth_under_kw, depth_in1, depth_deeper, depth_caller]); omega))
local macro_rules | `(tactic| walk_at "subscriptTail") => `(tactic| (k_here; (with_reducible show wpAny _ _ (subscriptTail _ _ (Value.ref _) (Value.str _ _)) _ _ _); k_dflt (refine' kdt_tail (knd := PySem.strKind _ _) ?N ?p ?d ?_; (case N => k_asm); (case p => k_mem); (case d => unfold DataIs at *; assumption); k_whole)))
local macro_rules | `(tactic| walk_at "subscriptTail Attribute Name Constant ref str") => `(tactic| (k_here; (with_reducible show wpAny _ _ (subscriptTail _ _ (Value.ref _) (Value.str _ _)) _ _ _); k_dflt (refine' kdt_tail (knd := PySem.strKind _ _) ?N ?p ?d ?_; (case N => k_asm); (case p => k_mem); (case d => unfold DataIs at *; assumption); k_whole)))
local macro_rules | `(tactic| walk_at "getItem ref str") => `(tactic| (k_here; k_dflt (refine' data_item ?d ?N ?p ?l ?_; (case N => k_asm); (case p => k_mem); (case d => assumption); (case l => rfl); k_whole)))
local macro_rules | `(tactic| walk_at "getMethod ref") => `(tactic| (k_here; (with_reducible show wpAny _ _ (getMethod (Value.ref _) (Str.ofString "get") _) _ _ _); k_dflt (refine' tab_method ?T ?N ?p ?_; (case N => k_asm); (case p => k_mem); (case T => assumption); k_whole)))
local macro_rules | `(tactic| walk_at "call builtin:dict.get") => `(tactic| (k_here; (with_reducible show wpAny _ _ (call (Value.builtin "dict.get") [Value.ref _, ovv _]) _ _ _); k_dflt (refine' tab_get ?T ?N ?p ?l ?k ?_; (case N => k_asm); (case p => k_mem); (case T => assumption); (case l => assumption); (case k => assumption); k_whole)))
local macro_rules | `(tactic| walk_at "call builtin:dict.get") => `(tactic| (k_here; (with_reducible show wpAny _ _ (call (Value.builtin "dict.get") [Value.ref _, Value.str _ _]) _ _ _); k_dflt (refine' tab_getE ?T ?N ?p ?l ?k ?_; (case N => k_asm); (case p => k_mem); (case T => assumption); (case l => assumption); (case k => assumption); k_whole)))
local macro_rules | `(tactic| walk_at "compareOp NotEq ref ref") => `(tactic| (k_here; (with_reducible show wpAny _ _ (compareOp CmpOp.NotEq (Value.ref _) (Value.ref _)) _ _ _); (with_reducible rename MkL _ _ => mkl); k_dflt (first | (refine' ne_tups mkl ?N ?a ?b rfl ?u ?_; (case N => k_asm); (case a => k_mem); (case b => k_mem); (case u => ke_room); k_whole) | (refine' ne_ovs mkl ?N ?a ?b ?u ?_; (case N => k_asm); (case a => k_mem); (case b => k_mem); (case u => ke_room); k_whole))))
local macro_rules | `(tactic| walk_at "CutS") => `(tactic| first | (refine' cutS_s ?c ?F ?N ?P; (case F => k_asm); (case c => decide); (case N => first | k_asm | (refine' cb_drop ?cbN ?cbS; (case cbN => assumption); (case cbS => kcj_all))); (case P => first | exact Or.inl rfl | exact Or.inr rfl | (refine Or.inr ⟨rfl, ?_⟩; rintro ⟨rfl, rfl, rfl⟩; simp_all; done))) | (refine' cutS_n ?F ?N ?P; (case F => k_asm); (case N => first | k_asm | (refine' cb_drop ?cbN ?cbS; (case cbN => assumption); (case cbS => kcj_all))); (case P => first | exact Or.inl rfl | exact Or.inr rfl)))
local macro_rules | `(tactic| walk_at "call builtin:str.join") => `(tactic| (k_here; (with_reducible show wpAny _ _ (call (Value.builtin "str.join") [Value.str _ _, Value.ref _]) _ _ _); (with_reducible rename MkJ _ => mkj); k_dflt (refine' join_items ?N ?a mkj.tr mkj.sm mkj.len ?s ?_; (case N => k_asm); (case a => k_mem); (case s => decide); k_whole); intro p' tk' hp' hpl'))
local macro_rules | `(tactic| walk_at "binaryOp Add str str") => `(tactic| (k_dflt (refine' PyProof.Rows.add_str ?_ ?z9; (case z9 => (simp only [Str.length_append, lenA, lenB, lenE, sizeLine_eq]; omega))); intro u9 tk9))
local macro_rules | `(tactic| walk_at "call builtin:dict.get") => `(tactic| (k_here; (with_reducible show wpAny _ _ (call (Value.builtin "dict.get") [Value.ref _, Value.str (Nm.x _) (Nm.t _)]) _ _ _); k_dflt (refine' tab_get (k := some _) ?T ?N ?p ?l ?k ?_; (case N => k_asm); (case p => k_mem); (case T => assumption); (case l => assumption); (case k => assumption); k_whole)))
local macro_rules | `(tactic| walk_at "CutB") => `(tactic| (refine' cutB_i ?e ?F ?N; (case F => k_asm); (case N => first | k_asm | (refine' cb_drop ?cbN ?cbS; (case cbN => assumption); (case cbS => kcj_all))); (case e => first | rfl | exact ce1 (by assumption) (by assumption) | exact ce2 (by assumption) (by assumption) | exact ce3 (by assumption))))
local macro_rules | `(tactic| walk_at "execs cons") => `(tactic| refine wpAny_execs_cons ?_)
local macro_rules | `(tactic| walk_at "formatField") => `(tactic| ((with_reducible show wpAny _ _ (formatField (Value.str (Nm.x _) (Nm.t _)) _) _ _ _); k_dflt (refine' ff_nm (Nm.short _) ?_); intro u9 tk9))
local macro_rules | `(tactic| walk_at "And") => `(tactic| ((with_reducible show Str.length _ ≤ sizeLine ∧ _); refine' ⟨?z9, ?_⟩; (case z9 => (simp only [Str.length_append, lenAt, lenE, sizeLine_eq]; omega))))
structure MkR (l : List P2) : Prop where
theorem ne_known {prog : Program} {w : World} {A : Around} {E : Value → Shared → Prop} {s : Shared} {h₀ : Heap} {L : Addr} {news : List (Addr × Obj)} {a b : Addr} {l1 l2 : List P2} {n1 n2 : Nat} {Q : Value → Shared → Prop}
    (_mk : MkR l2) (N : News h₀ L s.heap news) (ha : (a, W.listOf (l1.map ovv).toArray n1) ∈ news) (hb : (b, W.listOf (l2.map ovv).toArray n2) ∈ news) (hu : A.units < cLine) (e : xs l1 = xs l2)
    (h : Q (.bool false) s) : wpAny (model prog w) A (compareOp .NotEq (.ref a) (.ref b)) Q E s := ne_ovs ⟨⟩ N ha hb hu (by rw [decide_eq_true e]; exact h)
local macro_rules | `(tactic| walk_at "compareOp NotEq ref ref") => `(tactic| (k_here; (with_reducible show wpAny _ _ (compareOp CmpOp.NotEq (Value.ref _) (Value.ref _)) _ _ _); (with_reducible rename MkR _ => mkr); k_dflt (refine' ne_known mkr ?N ?a ?b ?u ?e ?_; (case N => k_asm); (case a => k_mem); (case b => k_mem); (case u => ke_room); (case e => assumption); k_whole)))
local macro_rules | `(tactic| walk_at "call type:str") => `(tactic| (k_here; (with_reducible rename (∀ o ∈ _, Sm o) => hsm9); k_dflt (refine' str_loc ?B ?F ?X ?N ?T ?x ?dx hsm9 ?_; (case B => k_asm); (case F => k_asm); (case X => k_asm); (case N => k_asm); (case T => k_asm); (case x => k_mem); (case dx => k_mem); k_whole); intro p' h' tk' hp' F' N'; (try k_sweep)))
local macro_rules | `(tactic| walk_at "call ref") => `(tactic| (k_here; (with_reducible show wpAny _ _ (call (Value.ref 189) _ _) _ _ _); (with_reducible rename Setup _ _ _ _ _ => set9); k_dflt (refine' parse_all ?B ?F ?X ?N ?T set9 ?hp ?_; (case B => k_asm); (case F => k_asm); (case X => k_asm); (case N => k_asm); (case T => k_asm); (case hp => assumption); k_whole); intro D' l' h' tk' hl' F' N'; (try k_sweep)))
theorem list_of_tup {prog : Program} {w : World} {A : Around} {E : Value → Shared → Prop} {s : Shared} {h₀ : Heap} {L b : Addr} {m : Str → Option Value} {news : List (Addr × Obj)} {l : List P2} {r : List (Option Str)} {n : Nat} {Q : Value → Shared → Prop} (hx : xs l = r) (hr : r.length ≤ 100)
    (F : Fr h₀ L s.heap m) (N : News h₀ L s.heap news) (hb : (b, ({ cls := .type "tuple", data := .seq (l.map ovv).toArray n } : Obj)) ∈ news)
    (h : ∀ D c h', Fr h₀ L h' m → News h₀ L h' ((D, W.listOf (l.map ovv).toArray c) :: news) → (∀ q ∈ news, q.1 < D) → Q (.ref D) { s with heap := h' }) : wpAny (model prog w) A (call (.type "list") [.ref b]) Q E s :=
  W.kup_listOfT F N hb (by simp) h (by have := congrArg List.length hx; simp at this ⊢; rw [sizeLine_eq]; omega)
local macro_rules | `(tactic| walk_at "call type:list") => `(tactic| (k_here; (with_reducible show wpAny _ _ (call (Value.type _) [Value.ref _]) _ _ _); (with_reducible rename xs _ = xs _ => hl9); k_dflt (refine' list_of_tup hl9 (Nat.le_of_ble_eq_true rfl) ?F ?N ?b ?_; (case F => k_asm); (case N => k_asm); (case b => k_mem)); intro D' c' h' F' N' l1; (try k_lt l1); (try k_sweep)))
set_option maxHeartbeats 8000000 in
theorem segI {w : World} {base h₀ : Heap} {fa : Addr} {cd : Value} {L : Addr} {m : Str → Option Value} {news : List (Addr × Obj)} {s : Shared} {Q : Flow → Shared → Prop} {E : Value → Shared → Prop} {mg mb : Str → Option Value} {mean : ExcName → Option Value} {p : Program} {loose : List Str}
   {pl : Nm} {os ot ov om : P2}{q9 : Addr} {i : Int} {t : Tok} {l x y z dx dy dz u : Addr} {du : P2} {ps : Array Value} {d1 d2 d3 d4 D : Addr} {o1 o2 o3 o4 oD : Obj} {r1 r2 r3 r4 : P2}{a1 a2 a3 a4 a5 a6 b1 b2 b3 b4 b5 b6 c1 c2 c3 c4 c5 c6 v1 v2 : Tok}
   (B : Below callerA base [] h₀) (F : Fr h₀ L s.heap (fun y0 => if y0 = Str.ofString "names" then some (.ref q9) else if y0 = Str.ofString "due" then some (ovv du) else if y0 = Str.ofString "told" then some (.ref u) else if y0 = Str.ofString "bare" then some (.ref z) else if y0 = Str.ofString "other" then some (.ref y) else if y0 = Str.ofString "here" then some (.ref x) else if y0 = Str.ofString "data" then some (.ref D) else if y0 = Str.ofString "variants" then some (.ref d4) else if y0 = Str.ofString "territories" then some (.ref d3) else if y0 = Str.ofString "scripts" then some (.ref d2) else if y0 = Str.ofString "languages" then some (.ref d1) else if y0 = Str.ofString "modifier" then some (ovv om) else if y0 = Str.ofString "variant" then some (ovv ov) else if y0 = Str.ofString "territory" then some (ovv ot) else if y0 = Str.ofString "written" then some (ovv os) else if y0 = Str.ofString "language" then some (.str (Nm.x pl) (Nm.t pl)) else if y0 = Str.ofString "numbers" then some (.ref l) else if y0 = Str.ofString "setting" then some (.int i t) else m y0)) (X₀ : (hd.heap_39 w.params).In h₀) (N : News h₀ L s.heap ((z, instObj 177 dz) :: (dz, dictOf (locEs w c1 c2 c3 c4 c5 c6 (ovv (some pl)) (ovv ot) (ovv os) (ovv ov) (ovv om) .none) 6) :: (y, instObj 177 dy) :: (dy, dictOf (locEs w b1 b2 b3 b4 b5 b6 (.str (Str.ofString "de") v1) (.str (Str.ofString "AT") v2) .none .none .none (.ref D)) 6) :: (x, instObj 177 dx) :: (dx, dictOf (locEs w a1 a2 a3 a4 a5 a6 (ovv (some pl)) (ovv ot) (ovv os) (ovv ov) (ovv om) (.ref D)) 6) :: (D, oD) :: (d4, o4) :: (d3, o3) :: (d2, o2) :: (d1, o1) :: (105, PySem.W.X.tableObj ps) :: [])) (T : Top p loose mean mg mb h₀)
   (hS : Setup pl ot os ov om) (hsm5 : ∀ o ∈ [some pl, ot, os, ov, om], Sm o)
   (k : ∀ pp n h' tk', Fr h₀ L h' (fun y0 => if y0 = Str.ofString "parts" then some (.ref pp) else if y0 = Str.ofString "names" then some (.ref q9) else if y0 = Str.ofString "due" then some (ovv du) else if y0 = Str.ofString "told" then some (.ref u) else if y0 = Str.ofString "bare" then some (.ref z) else if y0 = Str.ofString "other" then some (.ref y) else if y0 = Str.ofString "here" then some (.ref x) else if y0 = Str.ofString "data" then some (.ref D) else if y0 = Str.ofString "variants" then some (.ref d4) else if y0 = Str.ofString "territories" then some (.ref d3) else if y0 = Str.ofString "scripts" then some (.ref d2) else if y0 = Str.ofString "languages" then some (.ref d1) else if y0 = Str.ofString "modifier" then some (ovv om) else if y0 = Str.ofString "variant" then some (ovv ov) else if y0 = Str.ofString "territory" then some (ovv ot) else if y0 = Str.ofString "written" then some (ovv os) else if y0 = Str.ofString "language" then some (.str (Nm.x pl) (Nm.t pl)) else if y0 = Str.ofString "numbers" then some (.ref l) else if y0 = Str.ofString "setting" then some (.int i t) else m y0) → News h₀ L h' ((pp, W.listOf ([some pl, ot, os, ov, om].map ovv).toArray n) :: (z, instObj 177 dz) :: (dz, dictOf (locEs w c1 c2 c3 c4 c5 c6 (ovv (some pl)) (ovv ot) (ovv os) (ovv ov) (ovv om) .none) 6) :: (y, instObj 177 dy) :: (dy, dictOf (locEs w b1 b2 b3 b4 b5 b6 (.str (Str.ofString "de") v1) (.str (Str.ofString "AT") v2) .none .none .none (.ref D)) 6) :: (x, instObj 177 dx) :: (dx, dictOf (locEs w a1 a2 a3 a4 a5 a6 (ovv (some pl)) (ovv ot) (ovv os) (ovv ov) (ovv om) (.ref D)) 6) :: (D, oD) :: (d4, o4) :: (d3, o3) :: (d2, o2) :: (d1, o1) :: (105, PySem.W.X.tableObj ps) :: []) → Q .next {s with heap := h', toks := tk'}) :
   wpAny (model Challenge.rw_nk0010_01.row.prog w) (callerA.deeper (lawEnv L fa cd)) (execs [lawSt 23, lawSt 24] (lawEnv L fa cd)) Q E s := by
  have e23 : lawSt 23 = lawSt 23 := rfl
  conv at e23 => rhs; whnf
  have e24 : lawSt 24 = lawSt 24 := rfl
  conv at e24 => rhs; whnf
  rw [e23, e24]
  clear e23 e24
  cases om with
  | none =>
    have mkr : MkR [some pl, ot, os, ov] := ⟨⟩
    dsimp only [ovv_none] at F
    repeat' (walk_at "STEP1")
    refine' k _ _ _ _ ?F1 ?N1
    case F1 => assumption
    case N1 => refine' cb_drop ?cb1 ?cc1; (case cb1 => assumption); (case cc1 => kcj_all)
  | some q =>
    have mkr : MkR [some pl, ot, os, ov, some q] := ⟨⟩
    dsimp only [ovv_some] at F
    repeat' (walk_at "STEP1")
    refine' k _ _ _ _ ?F2 ?N2
    case F2 => assumption
    case N2 => refine' cb_drop ?cb2 ?cc2; (case cb2 => assumption); (case cc2 => kcj_all)
end
section
theorem off_T : True := by
  w_top off
  exact trivial
local macro_rules | `(tactic| k_mem) => `(tactic| assumption)
local macro_rules | `(tactic| walk_at "compareOp Eq") => `(tactic| ((with_reducible show wpAny _ _ (compareOp CmpOp.Eq (ovv _) (ovv _)) _ _ _); refine ov_eq ?_))
local macro_rules | `(tactic| walk_at "compareOp NotEq") => `(tactic| ((with_reducible show wpAny _ _ (compareOp CmpOp.NotEq (ovv _) (ovv _)) _ _ _); refine ov_ne ?_))
local macro_rules | `(tactic| walk_at "compareOp Is") => `(tactic| ((with_reducible show wpAny _ _ (compareOp CmpOp.Is (ovv _) Value.none) _ _ _); refine ov_isNone ?_))
local macro_rules | `(tactic| walk_at "compareOp IsNot") => `(tactic| ((with_reducible show wpAny _ _ (compareOp CmpOp.IsNot (ovv _) Value.none) _ _ _); refine ov_isNotNone ?_))
local macro_rules | `(tactic| walk_at "truthy") => `(tactic| ((with_reducible show wpAny _ _ (truthy (ovv _)) _ _ _); refine ov_truthy ?_; intro tk))
local macro_rules | `(tactic| k_handed) => `(tactic| exact handedIn_ovv _)
local macro_rules | `(tactic| walk_at "call builtin:hasattr") => `(tactic| (k_here; k_dflt (refine' hasattr_K ?k1 ?k2 ?k3 ?k4 ?k5 ?k6 ?k7 ?k8 ?k9 ?k10 ?_; (case k1 => k_asm); (case k2 => k_asm); (case k3 => k_inst); (case k4 => k_is); (case k5 => k_is); (case k6 => k_is); (case k7 => k_is); (case k8 => k_is); (case k9 => k_get); (case k10 => k_handed); k_whole)))
local macro_rules | `(tactic| walk_at "call builtin:getattr") => `(tactic| (k_here; k_dflt (refine' getattr_K ?k1 ?k2 ?k3 ?k4 ?k5 ?k6 ?k7 ?k9 ?k10 ?_; (case k1 => k_asm); (case k2 => k_asm); (case k3 => k_inst); (case k4 => k_is); (case k5 => k_is); (case k6 => k_is); (case k7 => k_is); (case k9 => k_get); (case k10 => k_handed); k_whole)))
local macro_rules | `(tactic| k_room) => `(tactic| ((try simp only [depth_under_make, depth_under_kw, depth_in1, depth_deeper, depth_caller]); omega))
local macro_rules | `(tactic| walk_at "subscriptTail") => `(tactic| (k_here; (with_reducible show wpAny _ _ (subscriptTail _ _ (Value.ref _) (Value.str _ _)) _ _ _); k_dflt (refine' kdt_tail (knd := PySem.strKind _ _) ?N ?p ?d ?_; (case N => k_asm); (case p => k_mem); (case d => unfold DataIs at *; assumption); k_whole)))
local macro_rules | `(tactic| walk_at "subscriptTail Attribute Name Constant ref str") => `(tactic| (k_here; (with_reducible show wpAny _ _ (subscriptTail _ _ (Value.ref _) (Value.str _ _)) _ _ _); k_dflt (refine' kdt_tail (knd := PySem.strKind _ _) ?N ?p ?d ?_; (case N => k_asm); (case p => k_mem); (case d => unfold DataIs at *; assumption); k_whole)))
local macro_rules | `(tactic| walk_at "getItem ref str") => `(tactic| (k_here; k_dflt (refine' data_item ?d ?N ?p ?l ?_; (case N => k_asm); (case p => k_mem); (case d => assumption); (case l => rfl); k_whole)))
local macro_rules | `(tactic| walk_at "getMethod ref") => `(tactic| (k_here; (with_reducible show wpAny _ _ (getMethod (Value.ref _) (Str.ofString "get") _) _ _ _); k_dflt (refine' tab_method ?T ?N ?p ?_; (case N => k_asm); (case p => k_mem); (case T => assumption); k_whole)))
local macro_rules | `(tactic| walk_at "call builtin:dict.get") => `(tactic| (k_here; (with_reducible show wpAny _ _ (call (Value.builtin "dict.get") [Value.ref _, ovv _]) _ _ _); k_dflt (refine' tab_get ?T ?N ?p ?l ?k ?_; (case N => k_asm); (case p => k_mem); (case T => assumption); (case l => assumption); (case k => assumption); k_whole)))
local macro_rules | `(tactic| walk_at "call builtin:dict.get") => `(tactic| (k_here; (with_reducible show wpAny _ _ (call (Value.builtin "dict.get") [Value.ref _, Value.str _ _]) _ _ _); k_dflt (refine' tab_getE ?T ?N ?p ?l ?k ?_; (case N => k_asm); (case p => k_mem); (case T => assumption); (case l => assumption); (case k => assumption); k_whole)))
local macro_rules | `(tactic| walk_at "compareOp NotEq ref ref") => `(tactic| (k_here; (with_reducible show wpAny _ _ (compareOp CmpOp.NotEq (Value.ref _) (Value.ref _)) _ _ _); (with_reducible rename MkL _ _ => mkl); k_dflt (first | (refine' ne_tups mkl ?N ?a ?b rfl ?u ?_; (case N => k_asm); (case a => k_mem); (case b => k_mem); (case u => ke_room); k_whole) | (refine' ne_ovs mkl ?N ?a ?b ?u ?_; (case N => k_asm); (case a => k_mem); (case b => k_mem); (case u => ke_room); k_whole))))
local macro_rules | `(tactic| walk_at "CutS") => `(tactic| first | (refine' cutS_s ?c ?F ?N ?P; (case F => k_asm); (case c => decide); (case N => first | k_asm | (refine' cb_drop ?cbN ?cbS; (case cbN => assumption); (case cbS => kcj_all))); (case P => first | exact Or.inl rfl | exact Or.inr rfl | (refine Or.inr ⟨rfl, ?_⟩; rintro ⟨rfl, rfl, rfl⟩; simp_all; done))) | (refine' cutS_n ?F ?N ?P; (case F => k_asm); (case N => first | k_asm | (refine' cb_drop ?cbN ?cbS; (case cbN => assumption); (case cbS => kcj_all))); (case P => first | exact Or.inl rfl | exact Or.inr rfl)))
noncomputable def lawFor : List Stmt := match lawSt 25 with
  | .For _ _ body _ _ => body
  | _ => []
noncomputable def forSt (i : Nat) : Stmt := lawFor.getD i (.Pass ⟨0, 0, 0, 0⟩)
theorem eqv_none {o : P2} (h : o.isSome = true) : eqv o none = false := by
  cases o with
  | none => cases h
  | some p => rfl
theorem itemK {prog : Program} {w : World} {A : Around} {E : Value → Shared → Prop} {s : Shared} {h₀ : Heap} {L l : Addr} {news : List (Addr × Obj)} {value slice : PySem.Expr} {v : Value} {vs : List Value} {u : Tok} {n : Nat} {k : Int} {Q : Value → Shared → Prop}
    (N : News h₀ L s.heap news) (hl : (l, W.listOf vs.toArray n) ∈ news) (e : vs[k.toNat]? = some v) (h0 : 0 ≤ k) (hk : k < 100) (h : Q v s)
    (hs : subscripted slice false (.ref l) (.int k u) = operate [.ref l, .int k u] (getItem (.ref l) (.int k u))) :
    wpAny (model prog w) A (subscriptTail value slice (.ref l) (.int k u)) Q E s := by
  have hL : s.heap.IsList l vs.toArray := ⟨_, (N _ hl).1, rfl, n, rfl⟩
  exact tail_any hL.typeIs slot_list_getitem.lookup (wpAny_getItem_list hL h0 (by omega) (x := v) (by simpa using e) h) hs
theorem neqv_and {a b c d e : Bool} (h : a = false ∨ b = false ∨ c = false ∨ d = false ∨ e = false) : (a && b && c && d && e) = false := by
  rcases h with h | h | h | h | h <;> simp [h]
local macro_rules | `(tactic| walk_at "subscriptTail Name Constant ref int") => `(tactic| (k_here; k_dflt (refine' itemK ?N ?l ?e (by decide) ?k ?_ ?s; (case N => k_asm); (case l => k_mem); (case e => rfl); (case k => decide); (case s => rfl); k_whole)))
local macro_rules | `(tactic| walk_at "subscriptTail Name Name ref int") => `(tactic| (k_here; k_dflt (refine' itemK ?N ?l ?e (by decide) ?k ?_ ?s; (case N => k_asm); (case l => k_mem); (case e => rfl); (case k => decide); (case s => rfl); k_whole)))
local macro_rules | `(tactic| walk_at "CutS") => `(tactic| first | (with_reducible rename (∀ t h, eqv _ _ = false) => hE9; refine' cutS_s ?c ?F ?N ?P; (case F => k_asm); (case c => decide); (case N => first | k_asm | (refine' cb_drop ?cbN ?cbS; (case cbN => assumption); (case cbS => kcj_all))); (case P => exact hE9 _ _)) | (refine' cutS_n ?F ?N ?P; (case F => k_asm); (case N => first | k_asm | (refine' cb_drop ?cbN ?cbS; (case cbN => assumption); (case cbS => kcj_all))); (case P => exact eqv_none (by assumption))))
theorem add_lit {prog : Program} {w : World} {A : Around} {E : Value → Shared → Prop} {s : Shared} {a b c : Int} {t u : Tok} {Q : Value → Shared → Prop} (e : a + b = c) (h : Q (.int c s.toks) { s with toks := s.toks + 1 }) : wpAny (model prog w) A (binaryOp .Add (.int a t) (.int b u)) Q E s := by
  subst e
  exact PyProof.Rows.add_int h
local macro_rules | `(tactic| walk_at "binaryOp Add int int") => `(tactic| (k_here; refine' add_lit ?ee ?_; (case ee => (simp only [Int.reduceAdd]; exact rfl))))
local macro_rules | `(tactic| k_mem) => `(tactic| ((repeat (first | exact List.Mem.head _ | refine List.Mem.tail _ ?_ | refine List.mem_append_right _ ?_)); done))
theorem fr_dup4 {h₀ h : Heap} {L : Addr} {a b c d : Str} {x1 x2 x3 x4 y1 y2 y3 y4 : Option Value} {m : Str → Option Value} (F : Fr h₀ L h (fun q => if q = a then x1 else if q = b then x2 else if q = c then x3 else if q = d then x4 else if q = a then y1 else if q = b then y2 else if q = c then y3 else if q = d then y4 else m q)) :
    Fr h₀ L h (fun q => if q = a then x1 else if q = b then x2 else if q = c then x3 else if q = d then x4 else m q) := by
  have e : (fun q => if q = a then x1 else if q = b then x2 else if q = c then x3 else if q = d then x4 else if q = a then y1 else if q = b then y2 else if q = c then y3 else if q = d then y4 else m q) = (fun q => if q = a then x1 else if q = b then x2 else if q = c then x3 else if q = d then x4 else m q) := by
    funext q
    by_cases h1 : q = a
    · simp only [if_pos h1]
    · by_cases h2 : q = b
      · simp only [if_neg h1, if_pos h2]
      · by_cases h3 : q = c
        · simp only [if_neg h1, if_neg h2, if_pos h3]
        · by_cases h4 : q = d
          · simp only [if_neg h1, if_neg h2, if_neg h3, if_pos h4]
          · simp only [if_neg h1, if_neg h2, if_neg h3, if_neg h4]
  rwa [e] at F
local macro_rules | `(tactic| walk_at "call ref") => `(tactic| (k_here; (with_reducible show wpAny _ _ (call (Value.ref 177) [_, _, _, _, _] _) _ _ _); k_dflt (refine' locale5 ?B ?F ?X ?N ?T ?_; (case B => k_asm); (case F => k_asm); (case X => k_asm); (case N => k_asm); (case T => k_asm); k_whole); intro x' dx' t1' t2' t3' t4' t5' t6' h' tk' F' N'; (try k_sweep)))
local macro_rules | `(tactic| walk_at "call ref") => `(tactic| (k_here; (with_reducible show wpAny _ _ (call (Value.ref 177) [_, _, _, _, _, _] _) _ _ _); k_dflt (refine' locale6 ?B ?F ?X ?N ?T ?_; (case B => k_asm); (case F => k_asm); (case X => k_asm); (case N => k_asm); (case T => k_asm); k_whole); intro x' dx' t1' t2' t3' t4' t5' t6' h' tk' F' N'; (try k_sweep)))
theorem pickD1 (a b c d e : Value) : (slicePick #[a, b, c, d, e] (some 1) none none).toList = [b, c, d, e] := by kernel_rfl
theorem pickD2 (a b c d e : Value) : (slicePick #[a, b, c, d, e] (some 2) none none).toList = [c, d, e] := by kernel_rfl
theorem pickD3 (a b c d e : Value) : (slicePick #[a, b, c, d, e] (some 3) none none).toList = [d, e] := by kernel_rfl
theorem pickD4 (a b c d e : Value) : (slicePick #[a, b, c, d, e] (some 4) none none).toList = [e] := by kernel_rfl
theorem pickD5 (a b c d e : Value) : (slicePick #[a, b, c, d, e] (some 5) none none).toList = [] := by kernel_rfl
theorem pickU0 (a b c d e : Value) : (slicePick #[a, b, c, d, e] none (some 0) none).toList = [] := by kernel_rfl
theorem pickU1 (a b c d e : Value) : (slicePick #[a, b, c, d, e] none (some 1) none).toList = [a] := by kernel_rfl
theorem pickU2 (a b c d e : Value) : (slicePick #[a, b, c, d, e] none (some 2) none).toList = [a, b] := by kernel_rfl
theorem pickU3 (a b c d e : Value) : (slicePick #[a, b, c, d, e] none (some 3) none).toList = [a, b, c] := by kernel_rfl
theorem pickU4 (a b c d e : Value) : (slicePick #[a, b, c, d, e] none (some 4) none).toList = [a, b, c, d] := by kernel_rfl
theorem loc_eqF {w : World} {base h₀ : Heap} {A₀ : Around} {d u : Nat} {gd : Option (List Code)} {env : Env} {outer : List Env} {L : Addr} {m : Str → Option Value} {news : List (Addr × Obj)} {s : Shared} {Q E : Value → Shared → Prop} {mg mb : Str → Option Value} {mean : ExcName → Option Value} {p : Program} {loose : List Str}
   (hdp : d + 8 < recursionLimit) (hf : env.frame = some L) (hke : env.scope.kind = .function) (B : Below A₀ base outer h₀) (F : Fr h₀ L s.heap m) (X₀ : (hd.heap_39 w.params).In h₀) (N : News h₀ L s.heap news) (T : Top p loose mean mg mb h₀)
   {a1 a2 a3 a4 a5 b1 b2 b3 b4 b5 : P2} {va vb : Value} {x dx y dy : Addr} {t1 t2 t3 t4 t5 t6 u1 u2 u3 u4 u5 u6 : Tok}
   (hx : (x, instObj 177 dx) ∈ news) (hdx : (dx, dictOf (locEs w t1 t2 t3 t4 t5 t6 (ovv a1) (ovv a2) (ovv a3) (ovv a4) (ovv a5) va) 6) ∈ news)
   (hy : (y, instObj 177 dy) ∈ news) (hdy : (dy, dictOf (locEs w u1 u2 u3 u4 u5 u6 (ovv b1) (ovv b2) (ovv b3) (ovv b4) (ovv b5) vb) 6) ∈ news) {r : Bool} (hr : (eqv a1 b1 && eqv a2 b2 && eqv a3 b3 && eqv a4 b4 && eqv a5 b5) = r)
   (k : ∀ h' tk', Fr h₀ L h' m → News h₀ L h' news → Q (.bool r) {s with heap := h', toks := tk'}) :
   wpAny (model Challenge.rw_nk0010_01.row.prog w) { handled := none, depth := d, frames := some (env :: outer), guards := gd, units := u } (call (.ref 81) [.ref x, .ref y]) Q E s :=
  loc_eq hdp hf hke B F X₀ N T hx hdx hy hdy (fun h' tk' F' N' => by rw [hr]; exact k h' tk' F' N')
theorem loc_neT {w : World} {base h₀ : Heap} {fa : Addr} {cd : Value} {L : Addr} {m : Str → Option Value} {news : List (Addr × Obj)} {s : Shared} {Q E : Value → Shared → Prop} {mg mb : Str → Option Value} {mean : ExcName → Option Value} {p : Program} {loose : List Str}
   (B : Below callerA base [] h₀) (F : Fr h₀ L s.heap m) (X₀ : (hd.heap_39 w.params).In h₀) (N : News h₀ L s.heap news) (T : Top p loose mean mg mb h₀)
   {a1 a2 a3 a4 a5 b1 b2 b3 b4 b5 : P2} {va vb : Value} {x dx y dy : Addr} {t1 t2 t3 t4 t5 t6 u1 u2 u3 u4 u5 u6 : Tok}
   (hx : (x, instObj 177 dx) ∈ news) (hdx : (dx, dictOf (locEs w t1 t2 t3 t4 t5 t6 (ovv a1) (ovv a2) (ovv a3) (ovv a4) (ovv a5) va) 6) ∈ news)
   (hy : (y, instObj 177 dy) ∈ news) (hdy : (dy, dictOf (locEs w u1 u2 u3 u4 u5 u6 (ovv b1) (ovv b2) (ovv b3) (ovv b4) (ovv b5) vb) 6) ∈ news) {r : Bool} (hr : (eqv a1 b1 && eqv a2 b2 && eqv a3 b3 && eqv a4 b4 && eqv a5 b5) = r)
   (k : ∀ h' tk', Fr h₀ L h' m → News h₀ L h' news → Q (.bool (!r)) {s with heap := h', toks := tk'}) :
   wpAny (model Challenge.rw_nk0010_01.row.prog w) (callerA.deeper (lawEnv L fa cd)) (call (.ref 88) [.ref x, .ref y]) Q E s :=
  loc_ne B F X₀ N T hx hdx hy hdy (fun h' tk' F' N' => by rw [hr]; exact k h' tk' F' N')
local macro_rules | `(tactic| walk_at "call ref") => `(tactic| (k_here; (with_reducible show wpAny _ _ (call (Value.ref 81) _ _) _ _ _); (with_reducible rename ((_ && _) = _) => hr9); k_dflt (refine' loc_eqF ?d ?f ?k ?B ?F ?X ?N ?T ?hx ?hdx ?hy ?hdy hr9 ?_; (case d => k_room); (case f => exact rfl); (case k => exact rfl); (case B => k_asm); (case F => k_asm); (case X => k_asm); (case N => k_asm); (case T => k_asm); (case hx => k_mem); (case hdx => k_mem); (case hy => k_mem); (case hdy => k_mem); k_whole); intro h' tk' F' N'; (try k_sweep)))
local macro_rules | `(tactic| walk_at "call ref") => `(tactic| (k_here; (with_reducible show wpAny _ _ (call (Value.ref 88) _ _) _ _ _); (with_reducible rename ((_ && _) = _) => hr9); k_dflt (refine' loc_neT ?B ?F ?X ?N ?T ?hx ?hdx ?hy ?hdy hr9 ?_; (case B => k_asm); (case F => k_asm); (case X => k_asm); (case N => k_asm); (case T => k_asm); (case hx => k_mem); (case hdx => k_mem); (case hy => k_mem); (case hdy => k_mem); k_whole); intro h' tk' F' N'; (try k_sweep)))
local macro_rules | `(tactic| walk_at "subscriptTail Name Slice ref ref") => `(tactic| (k_here; (with_reducible show wpAny _ _ (subscriptTail _ (PySem.Expr.Slice _ _ none _) (Value.ref _) (Value.ref _)) _ _ _); k_dflt (refine' W.kmk_slice_lit ?F ?N ?l ?p ?q ?e ?_ ?s ?t ?z; (case F => k_asm); (case N => k_asm); (case l => (refine News.isList ?n9 ?m9; (case n9 => k_asm); (case m9 => k_mem))); (case p => kmk_part); (case q => kmk_part); (case e => with_reducible first | exact pickD1 _ _ _ _ _ | exact pickD2 _ _ _ _ _ | exact pickD3 _ _ _ _ _ | exact pickD4 _ _ _ _ _ | exact pickD5 _ _ _ _ _ | exact pickU0 _ _ _ _ _ | exact pickU1 _ _ _ _ _ | exact pickU2 _ _ _ _ _ | exact pickU3 _ _ _ _ _ | exact pickU4 _ _ _ _ _); (case s => with_unfolding_all rfl); (case t => kmk_pure); (case z => kmk_size)); intro D' h' F' N' l1; (try k_lt l1); (try k_sweep)))
local macro_rules | `(tactic| walk_at "CmpBack") => `(tactic| (with_reducible show W.CmpBack _ (Value.bool _) _; dsimp only [W.CmpBack]))
set_option maxHeartbeats 8000000 in
theorem turn0 {w : World} {base h₀ : Heap} {fa : Addr} {cd : Value} {L : Addr} {m : Str → Option Value} {news : List (Addr × Obj)} {s : Shared} {Q : Flow → Shared → Prop} {E : Value → Shared → Prop} {mg mb : Str → Option Value} {mean : ExcName → Option Value} {p : Program} {loose : List Str}
   {pl : Nm} {os ot ov om : P2}{q9 pp : Addr} {n : Nat} {i : Int} {t : Tok} {l x y z dx dy dz u : Addr} {du : P2} {ps : Array Value} {d1 d2 d3 d4 D : Addr} {o1 o2 o3 o4 oD : Obj} {r1 r2 r3 r4 : P2}{a1 a2 a3 a4 a5 a6 b1 b2 b3 b4 b5 b6 c1 c2 c3 c4 c5 c6 v1 v2 : Tok} {g1 g2 g3 g4 : Option Value} {t9 : Tok} {own : List (Addr × Obj)}
   (B : Below callerA base [] h₀) (F : Fr h₀ L s.heap (fun y0 => if y0 = Str.ofString "place" then some (.int 0 t9) else if y0 = Str.ofString "unlike" then g1 else if y0 = Str.ofString "five" then g2 else if y0 = Str.ofString "turned" then g3 else if y0 = Str.ofString "place" then g4 else if y0 = Str.ofString "parts" then some (.ref pp) else if y0 = Str.ofString "names" then some (.ref q9) else if y0 = Str.ofString "due" then some (ovv du) else if y0 = Str.ofString "told" then some (.ref u) else if y0 = Str.ofString "bare" then some (.ref z) else if y0 = Str.ofString "other" then some (.ref y) else if y0 = Str.ofString "here" then some (.ref x) else if y0 = Str.ofString "data" then some (.ref D) else if y0 = Str.ofString "variants" then some (.ref d4) else if y0 = Str.ofString "territories" then some (.ref d3) else if y0 = Str.ofString "scripts" then some (.ref d2) else if y0 = Str.ofString "languages" then some (.ref d1) else if y0 = Str.ofString "modifier" then some (ovv om) else if y0 = Str.ofString "variant" then some (ovv ov) else if y0 = Str.ofString "territory" then some (ovv ot) else if y0 = Str.ofString "written" then some (ovv os) else if y0 = Str.ofString "language" then some (.str (Nm.x pl) (Nm.t pl)) else if y0 = Str.ofString "numbers" then some (.ref l) else if y0 = Str.ofString "setting" then some (.int i t) else m y0)) (X₀ : (hd.heap_39 w.params).In h₀) (N : News h₀ L s.heap (own ++ ((pp, W.listOf #[.str (Nm.x pl) (Nm.t pl), ovv ot, ovv os, ovv ov, ovv om] n) :: (z, instObj 177 dz) :: (dz, dictOf (locEs w c1 c2 c3 c4 c5 c6 (ovv (some pl)) (ovv ot) (ovv os) (ovv ov) (ovv om) .none) 6) :: (y, instObj 177 dy) :: (dy, dictOf (locEs w b1 b2 b3 b4 b5 b6 (.str (Str.ofString "de") v1) (.str (Str.ofString "AT") v2) .none .none .none (.ref D)) 6) :: (x, instObj 177 dx) :: (dx, dictOf (locEs w a1 a2 a3 a4 a5 a6 (ovv (some pl)) (ovv ot) (ovv os) (ovv ov) (ovv om) (.ref D)) 6) :: (D, oD) :: (d4, o4) :: (d3, o3) :: (d2, o2) :: (d1, o1) :: (105, PySem.W.X.tableObj ps) :: []))) (T : Top p loose mean mg mb h₀)
   (hE9 : ∀ t h, eqv (some pl) (some ⟨Str.ofString "fr", t, h⟩) = false)
   (k : ∀ h' tk' g1 g2 g3 g4, Fr h₀ L h' (fun y0 => if y0 = Str.ofString "unlike" then g1 else if y0 = Str.ofString "five" then g2 else if y0 = Str.ofString "turned" then g3 else if y0 = Str.ofString "place" then g4 else if y0 = Str.ofString "parts" then some (.ref pp) else if y0 = Str.ofString "names" then some (.ref q9) else if y0 = Str.ofString "due" then some (ovv du) else if y0 = Str.ofString "told" then some (.ref u) else if y0 = Str.ofString "bare" then some (.ref z) else if y0 = Str.ofString "other" then some (.ref y) else if y0 = Str.ofString "here" then some (.ref x) else if y0 = Str.ofString "data" then some (.ref D) else if y0 = Str.ofString "variants" then some (.ref d4) else if y0 = Str.ofString "territories" then some (.ref d3) else if y0 = Str.ofString "scripts" then some (.ref d2) else if y0 = Str.ofString "languages" then some (.ref d1) else if y0 = Str.ofString "modifier" then some (ovv om) else if y0 = Str.ofString "variant" then some (ovv ov) else if y0 = Str.ofString "territory" then some (ovv ot) else if y0 = Str.ofString "written" then some (ovv os) else if y0 = Str.ofString "language" then some (.str (Nm.x pl) (Nm.t pl)) else if y0 = Str.ofString "numbers" then some (.ref l) else if y0 = Str.ofString "setting" then some (.int i t) else m y0) → News h₀ L h' (own ++ ((pp, W.listOf #[.str (Nm.x pl) (Nm.t pl), ovv ot, ovv os, ovv ov, ovv om] n) :: (z, instObj 177 dz) :: (dz, dictOf (locEs w c1 c2 c3 c4 c5 c6 (ovv (some pl)) (ovv ot) (ovv os) (ovv ov) (ovv om) .none) 6) :: (y, instObj 177 dy) :: (dy, dictOf (locEs w b1 b2 b3 b4 b5 b6 (.str (Str.ofString "de") v1) (.str (Str.ofString "AT") v2) .none .none .none (.ref D)) 6) :: (x, instObj 177 dx) :: (dx, dictOf (locEs w a1 a2 a3 a4 a5 a6 (ovv (some pl)) (ovv ot) (ovv os) (ovv ov) (ovv om) (.ref D)) 6) :: (D, oD) :: (d4, o4) :: (d3, o3) :: (d2, o2) :: (d1, o1) :: (105, PySem.W.X.tableObj ps) :: [])) → Q .next {s with heap := h', toks := tk'}) :
   wpAny (model Challenge.rw_nk0010_01.row.prog w) (callerA.deeper (lawEnv L fa cd)) (execs [forSt 0, forSt 1, forSt 2, forSt 3] (lawEnv L fa cd)) Q E s := by
  have e0 : forSt 0 = forSt 0 := rfl
  conv at e0 => rhs; whnf
  have e1 : forSt 1 = forSt 1 := rfl
  conv at e1 => rhs; whnf
  have e2 : forSt 2 = forSt 2 := rfl
  conv at e2 => rhs; whnf
  have e3 : forSt 3 = forSt 3 := rfl
  conv at e3 => rhs; whnf
  rw [e0, e1, e2, e3]
  clear e0 e1 e2 e3
  refine wpAny_execs_cons (st_cut (h₀ := h₀) (L := L) (m := (fun y0 => if y0 = Str.ofString "place" then some (.int 0 t9) else if y0 = Str.ofString "unlike" then g1 else if y0 = Str.ofString "five" then g2 else if y0 = Str.ofString "turned" then g3 else if y0 = Str.ofString "place" then g4 else if y0 = Str.ofString "parts" then some (.ref pp) else if y0 = Str.ofString "names" then some (.ref q9) else if y0 = Str.ofString "due" then some (ovv du) else if y0 = Str.ofString "told" then some (.ref u) else if y0 = Str.ofString "bare" then some (.ref z) else if y0 = Str.ofString "other" then some (.ref y) else if y0 = Str.ofString "here" then some (.ref x) else if y0 = Str.ofString "data" then some (.ref D) else if y0 = Str.ofString "variants" then some (.ref d4) else if y0 = Str.ofString "territories" then some (.ref d3) else if y0 = Str.ofString "scripts" then some (.ref d2) else if y0 = Str.ofString "languages" then some (.ref d1) else if y0 = Str.ofString "modifier" then some (ovv om) else if y0 = Str.ofString "variant" then some (ovv ov) else if y0 = Str.ofString "territory" then some (ovv ot) else if y0 = Str.ofString "written" then some (ovv os) else if y0 = Str.ofString "language" then some (.str (Nm.x pl) (Nm.t pl)) else if y0 = Str.ofString "numbers" then some (.ref l) else if y0 = Str.ofString "setting" then some (.int i t) else m y0)) (news := own ++ ((pp, W.listOf #[.str (Nm.x pl) (Nm.t pl), ovv ot, ovv os, ovv ov, ovv om] n) :: (z, instObj 177 dz) :: (dz, dictOf (locEs w c1 c2 c3 c4 c5 c6 (ovv (some pl)) (ovv ot) (ovv os) (ovv ov) (ovv om) .none) 6) :: (y, instObj 177 dy) :: (dy, dictOf (locEs w b1 b2 b3 b4 b5 b6 (.str (Str.ofString "de") v1) (.str (Str.ofString "AT") v2) .none .none .none (.ref D)) 6) :: (x, instObj 177 dx) :: (dx, dictOf (locEs w a1 a2 a3 a4 a5 a6 (ovv (some pl)) (ovv ot) (ovv os) (ovv ov) (ovv om) (.ref D)) 6) :: (D, oD) :: (d4, o4) :: (d3, o3) :: (d2, o2) :: (d1, o1) :: (105, PySem.W.X.tableObj ps) :: [])) (fun o => eqv (some pl) o = false) (Str.ofString "turned") ?_ ?_)
  · clear k
    repeat' (walk_at "STEP1")
  clear F N hE9
  intro o9 h' tk' P9 F N
  dsimp only
  have hF9 : (eqv (some pl) o9 && eqv ot ot && eqv os os && eqv ov ov && eqv om om) = false := neqv_and (by simp [P9])
  repeat' (walk_at "STEP1")
  refine' k _ _ _ _ _ _ (fr_dup4 ?F77) ?N77
  case F77 => assumption
  case N77 => refine' cb_drop ?cb77 ?cc77; (case cb77 => assumption); (case cc77 => intro p77 hp77; repeat (first | exact hp77 | refine List.Mem.tail _ ?_))
set_option maxHeartbeats 8000000 in
theorem turn1 {w : World} {base h₀ : Heap} {fa : Addr} {cd : Value} {L : Addr} {m : Str → Option Value} {news : List (Addr × Obj)} {s : Shared} {Q : Flow → Shared → Prop} {E : Value → Shared → Prop} {mg mb : Str → Option Value} {mean : ExcName → Option Value} {p : Program} {loose : List Str}
   {pl : Nm} {os ot ov om : P2}{q9 pp : Addr} {n : Nat} {i : Int} {t : Tok} {l x y z dx dy dz u : Addr} {du : P2} {ps : Array Value} {d1 d2 d3 d4 D : Addr} {o1 o2 o3 o4 oD : Obj} {r1 r2 r3 r4 : P2}{a1 a2 a3 a4 a5 a6 b1 b2 b3 b4 b5 b6 c1 c2 c3 c4 c5 c6 v1 v2 : Tok} {g1 g2 g3 g4 : Option Value} {t9 : Tok} {own : List (Addr × Obj)}
   (B : Below callerA base [] h₀) (F : Fr h₀ L s.heap (fun y0 => if y0 = Str.ofString "place" then some (.int 1 t9) else if y0 = Str.ofString "unlike" then g1 else if y0 = Str.ofString "five" then g2 else if y0 = Str.ofString "turned" then g3 else if y0 = Str.ofString "place" then g4 else if y0 = Str.ofString "parts" then some (.ref pp) else if y0 = Str.ofString "names" then some (.ref q9) else if y0 = Str.ofString "due" then some (ovv du) else if y0 = Str.ofString "told" then some (.ref u) else if y0 = Str.ofString "bare" then some (.ref z) else if y0 = Str.ofString "other" then some (.ref y) else if y0 = Str.ofString "here" then some (.ref x) else if y0 = Str.ofString "data" then some (.ref D) else if y0 = Str.ofString "variants" then some (.ref d4) else if y0 = Str.ofString "territories" then some (.ref d3) else if y0 = Str.ofString "scripts" then some (.ref d2) else if y0 = Str.ofString "languages" then some (.ref d1) else if y0 = Str.ofString "modifier" then some (ovv om) else if y0 = Str.ofString "variant" then some (ovv ov) else if y0 = Str.ofString "territory" then some (ovv ot) else if y0 = Str.ofString "written" then some (ovv os) else if y0 = Str.ofString "language" then some (.str (Nm.x pl) (Nm.t pl)) else if y0 = Str.ofString "numbers" then some (.ref l) else if y0 = Str.ofString "setting" then some (.int i t) else m y0)) (X₀ : (hd.heap_39 w.params).In h₀) (N : News h₀ L s.heap (own ++ ((pp, W.listOf #[.str (Nm.x pl) (Nm.t pl), ovv ot, ovv os, ovv ov, ovv om] n) :: (z, instObj 177 dz) :: (dz, dictOf (locEs w c1 c2 c3 c4 c5 c6 (ovv (some pl)) (ovv ot) (ovv os) (ovv ov) (ovv om) .none) 6) :: (y, instObj 177 dy) :: (dy, dictOf (locEs w b1 b2 b3 b4 b5 b6 (.str (Str.ofString "de") v1) (.str (Str.ofString "AT") v2) .none .none .none (.ref D)) 6) :: (x, instObj 177 dx) :: (dx, dictOf (locEs w a1 a2 a3 a4 a5 a6 (ovv (some pl)) (ovv ot) (ovv os) (ovv ov) (ovv om) (.ref D)) 6) :: (D, oD) :: (d4, o4) :: (d3, o3) :: (d2, o2) :: (d1, o1) :: (105, PySem.W.X.tableObj ps) :: []))) (T : Top p loose mean mg mb h₀)
   (hE9 : ∀ t h, eqv ot (some ⟨Str.ofString "AT", t, h⟩) = false)
   (k : ∀ h' tk' g1 g2 g3 g4, Fr h₀ L h' (fun y0 => if y0 = Str.ofString "unlike" then g1 else if y0 = Str.ofString "five" then g2 else if y0 = Str.ofString "turned" then g3 else if y0 = Str.ofString "place" then g4 else if y0 = Str.ofString "parts" then some (.ref pp) else if y0 = Str.ofString "names" then some (.ref q9) else if y0 = Str.ofString "due" then some (ovv du) else if y0 = Str.ofString "told" then some (.ref u) else if y0 = Str.ofString "bare" then some (.ref z) else if y0 = Str.ofString "other" then some (.ref y) else if y0 = Str.ofString "here" then some (.ref x) else if y0 = Str.ofString "data" then some (.ref D) else if y0 = Str.ofString "variants" then some (.ref d4) else if y0 = Str.ofString "territories" then some (.ref d3) else if y0 = Str.ofString "scripts" then some (.ref d2) else if y0 = Str.ofString "languages" then some (.ref d1) else if y0 = Str.ofString "modifier" then some (ovv om) else if y0 = Str.ofString "variant" then some (ovv ov) else if y0 = Str.ofString "territory" then some (ovv ot) else if y0 = Str.ofString "written" then some (ovv os) else if y0 = Str.ofString "language" then some (.str (Nm.x pl) (Nm.t pl)) else if y0 = Str.ofString "numbers" then some (.ref l) else if y0 = Str.ofString "setting" then some (.int i t) else m y0) → News h₀ L h' (own ++ ((pp, W.listOf #[.str (Nm.x pl) (Nm.t pl), ovv ot, ovv os, ovv ov, ovv om] n) :: (z, instObj 177 dz) :: (dz, dictOf (locEs w c1 c2 c3 c4 c5 c6 (ovv (some pl)) (ovv ot) (ovv os) (ovv ov) (ovv om) .none) 6) :: (y, instObj 177 dy) :: (dy, dictOf (locEs w b1 b2 b3 b4 b5 b6 (.str (Str.ofString "de") v1) (.str (Str.ofString "AT") v2) .none .none .none (.ref D)) 6) :: (x, instObj 177 dx) :: (dx, dictOf (locEs w a1 a2 a3 a4 a5 a6 (ovv (some pl)) (ovv ot) (ovv os) (ovv ov) (ovv om) (.ref D)) 6) :: (D, oD) :: (d4, o4) :: (d3, o3) :: (d2, o2) :: (d1, o1) :: (105, PySem.W.X.tableObj ps) :: [])) → Q .next {s with heap := h', toks := tk'}) :
   wpAny (model Challenge.rw_nk0010_01.row.prog w) (callerA.deeper (lawEnv L fa cd)) (execs [forSt 0, forSt 1, forSt 2, forSt 3] (lawEnv L fa cd)) Q E s := by
  have e0 : forSt 0 = forSt 0 := rfl
  conv at e0 => rhs; whnf
  have e1 : forSt 1 = forSt 1 := rfl
  conv at e1 => rhs; whnf
  have e2 : forSt 2 = forSt 2 := rfl
  conv at e2 => rhs; whnf
  have e3 : forSt 3 = forSt 3 := rfl
  conv at e3 => rhs; whnf
  rw [e0, e1, e2, e3]
  clear e0 e1 e2 e3
  refine wpAny_execs_cons (st_cut (h₀ := h₀) (L := L) (m := (fun y0 => if y0 = Str.ofString "place" then some (.int 1 t9) else if y0 = Str.ofString "unlike" then g1 else if y0 = Str.ofString "five" then g2 else if y0 = Str.ofString "turned" then g3 else if y0 = Str.ofString "place" then g4 else if y0 = Str.ofString "parts" then some (.ref pp) else if y0 = Str.ofString "names" then some (.ref q9) else if y0 = Str.ofString "due" then some (ovv du) else if y0 = Str.ofString "told" then some (.ref u) else if y0 = Str.ofString "bare" then some (.ref z) else if y0 = Str.ofString "other" then some (.ref y) else if y0 = Str.ofString "here" then some (.ref x) else if y0 = Str.ofString "data" then some (.ref D) else if y0 = Str.ofString "variants" then some (.ref d4) else if y0 = Str.ofString "territories" then some (.ref d3) else if y0 = Str.ofString "scripts" then some (.ref d2) else if y0 = Str.ofString "languages" then some (.ref d1) else if y0 = Str.ofString "modifier" then some (ovv om) else if y0 = Str.ofString "variant" then some (ovv ov) else if y0 = Str.ofString "territory" then some (ovv ot) else if y0 = Str.ofString "written" then some (ovv os) else if y0 = Str.ofString "language" then some (.str (Nm.x pl) (Nm.t pl)) else if y0 = Str.ofString "numbers" then some (.ref l) else if y0 = Str.ofString "setting" then some (.int i t) else m y0)) (news := own ++ ((pp, W.listOf #[.str (Nm.x pl) (Nm.t pl), ovv ot, ovv os, ovv ov, ovv om] n) :: (z, instObj 177 dz) :: (dz, dictOf (locEs w c1 c2 c3 c4 c5 c6 (ovv (some pl)) (ovv ot) (ovv os) (ovv ov) (ovv om) .none) 6) :: (y, instObj 177 dy) :: (dy, dictOf (locEs w b1 b2 b3 b4 b5 b6 (.str (Str.ofString "de") v1) (.str (Str.ofString "AT") v2) .none .none .none (.ref D)) 6) :: (x, instObj 177 dx) :: (dx, dictOf (locEs w a1 a2 a3 a4 a5 a6 (ovv (some pl)) (ovv ot) (ovv os) (ovv ov) (ovv om) (.ref D)) 6) :: (D, oD) :: (d4, o4) :: (d3, o3) :: (d2, o2) :: (d1, o1) :: (105, PySem.W.X.tableObj ps) :: [])) (fun o => eqv ot o = false) (Str.ofString "turned") ?_ ?_)
  · clear k
    repeat' (walk_at "STEP1")
  clear F N hE9
  intro o9 h' tk' P9 F N
  dsimp only
  have hF9 : (eqv (some pl) (some pl) && eqv ot o9 && eqv os os && eqv ov ov && eqv om om) = false := neqv_and (by simp [P9])
  repeat' (walk_at "STEP1")
  refine' k _ _ _ _ _ _ (fr_dup4 ?F77) ?N77
  case F77 => assumption
  case N77 => refine' cb_drop ?cb77 ?cc77; (case cb77 => assumption); (case cc77 => intro p77 hp77; repeat (first | exact hp77 | refine List.Mem.tail _ ?_))
set_option maxHeartbeats 8000000 in
theorem turn2 {w : World} {base h₀ : Heap} {fa : Addr} {cd : Value} {L : Addr} {m : Str → Option Value} {news : List (Addr × Obj)} {s : Shared} {Q : Flow → Shared → Prop} {E : Value → Shared → Prop} {mg mb : Str → Option Value} {mean : ExcName → Option Value} {p : Program} {loose : List Str}
   {pl : Nm} {os ot ov om : P2}{q9 pp : Addr} {n : Nat} {i : Int} {t : Tok} {l x y z dx dy dz u : Addr} {du : P2} {ps : Array Value} {d1 d2 d3 d4 D : Addr} {o1 o2 o3 o4 oD : Obj} {r1 r2 r3 r4 : P2}{a1 a2 a3 a4 a5 a6 b1 b2 b3 b4 b5 b6 c1 c2 c3 c4 c5 c6 v1 v2 : Tok} {g1 g2 g3 g4 : Option Value} {t9 : Tok} {own : List (Addr × Obj)}
   (B : Below callerA base [] h₀) (F : Fr h₀ L s.heap (fun y0 => if y0 = Str.ofString "place" then some (.int 2 t9) else if y0 = Str.ofString "unlike" then g1 else if y0 = Str.ofString "five" then g2 else if y0 = Str.ofString "turned" then g3 else if y0 = Str.ofString "place" then g4 else if y0 = Str.ofString "parts" then some (.ref pp) else if y0 = Str.ofString "names" then some (.ref q9) else if y0 = Str.ofString "due" then some (ovv du) else if y0 = Str.ofString "told" then some (.ref u) else if y0 = Str.ofString "bare" then some (.ref z) else if y0 = Str.ofString "other" then some (.ref y) else if y0 = Str.ofString "here" then some (.ref x) else if y0 = Str.ofString "data" then some (.ref D) else if y0 = Str.ofString "variants" then some (.ref d4) else if y0 = Str.ofString "territories" then some (.ref d3) else if y0 = Str.ofString "scripts" then some (.ref d2) else if y0 = Str.ofString "languages" then some (.ref d1) else if y0 = Str.ofString "modifier" then some (ovv om) else if y0 = Str.ofString "variant" then some (ovv ov) else if y0 = Str.ofString "territory" then some (ovv ot) else if y0 = Str.ofString "written" then some (ovv os) else if y0 = Str.ofString "language" then some (.str (Nm.x pl) (Nm.t pl)) else if y0 = Str.ofString "numbers" then some (.ref l) else if y0 = Str.ofString "setting" then some (.int i t) else m y0)) (X₀ : (hd.heap_39 w.params).In h₀) (N : News h₀ L s.heap (own ++ ((pp, W.listOf #[.str (Nm.x pl) (Nm.t pl), ovv ot, ovv os, ovv ov, ovv om] n) :: (z, instObj 177 dz) :: (dz, dictOf (locEs w c1 c2 c3 c4 c5 c6 (ovv (some pl)) (ovv ot) (ovv os) (ovv ov) (ovv om) .none) 6) :: (y, instObj 177 dy) :: (dy, dictOf (locEs w b1 b2 b3 b4 b5 b6 (.str (Str.ofString "de") v1) (.str (Str.ofString "AT") v2) .none .none .none (.ref D)) 6) :: (x, instObj 177 dx) :: (dx, dictOf (locEs w a1 a2 a3 a4 a5 a6 (ovv (some pl)) (ovv ot) (ovv os) (ovv ov) (ovv om) (.ref D)) 6) :: (D, oD) :: (d4, o4) :: (d3, o3) :: (d2, o2) :: (d1, o1) :: (105, PySem.W.X.tableObj ps) :: []))) (T : Top p loose mean mg mb h₀)
   (hE9 : ∀ t h, eqv os (some ⟨Str.ofString "Latn", t, h⟩) = false)
   (k : ∀ h' tk' g1 g2 g3 g4, Fr h₀ L h' (fun y0 => if y0 = Str.ofString "unlike" then g1 else if y0 = Str.ofString "five" then g2 else if y0 = Str.ofString "turned" then g3 else if y0 = Str.ofString "place" then g4 else if y0 = Str.ofString "parts" then some (.ref pp) else if y0 = Str.ofString "names" then some (.ref q9) else if y0 = Str.ofString "due" then some (ovv du) else if y0 = Str.ofString "told" then some (.ref u) else if y0 = Str.ofString "bare" then some (.ref z) else if y0 = Str.ofString "other" then some (.ref y) else if y0 = Str.ofString "here" then some (.ref x) else if y0 = Str.ofString "data" then some (.ref D) else if y0 = Str.ofString "variants" then some (.ref d4) else if y0 = Str.ofString "territories" then some (.ref d3) else if y0 = Str.ofString "scripts" then some (.ref d2) else if y0 = Str.ofString "languages" then some (.ref d1) else if y0 = Str.ofString "modifier" then some (ovv om) else if y0 = Str.ofString "variant" then some (ovv ov) else if y0 = Str.ofString "territory" then some (ovv ot) else if y0 = Str.ofString "written" then some (ovv os) else if y0 = Str.ofString "language" then some (.str (Nm.x pl) (Nm.t pl)) else if y0 = Str.ofString "numbers" then some (.ref l) else if y0 = Str.ofString "setting" then some (.int i t) else m y0) → News h₀ L h' (own ++ ((pp, W.listOf #[.str (Nm.x pl) (Nm.t pl), ovv ot, ovv os, ovv ov, ovv om] n) :: (z, instObj 177 dz) :: (dz, dictOf (locEs w c1 c2 c3 c4 c5 c6 (ovv (some pl)) (ovv ot) (ovv os) (ovv ov) (ovv om) .none) 6) :: (y, instObj 177 dy) :: (dy, dictOf (locEs w b1 b2 b3 b4 b5 b6 (.str (Str.ofString "de") v1) (.str (Str.ofString "AT") v2) .none .none .none (.ref D)) 6) :: (x, instObj 177 dx) :: (dx, dictOf (locEs w a1 a2 a3 a4 a5 a6 (ovv (some pl)) (ovv ot) (ovv os) (ovv ov) (ovv om) (.ref D)) 6) :: (D, oD) :: (d4, o4) :: (d3, o3) :: (d2, o2) :: (d1, o1) :: (105, PySem.W.X.tableObj ps) :: [])) → Q .next {s with heap := h', toks := tk'}) :
   wpAny (model Challenge.rw_nk0010_01.row.prog w) (callerA.deeper (lawEnv L fa cd)) (execs [forSt 0, forSt 1, forSt 2, forSt 3] (lawEnv L fa cd)) Q E s := by
  have e0 : forSt 0 = forSt 0 := rfl
  conv at e0 => rhs; whnf
  have e1 : forSt 1 = forSt 1 := rfl
  conv at e1 => rhs; whnf
  have e2 : forSt 2 = forSt 2 := rfl
  conv at e2 => rhs; whnf
  have e3 : forSt 3 = forSt 3 := rfl
  conv at e3 => rhs; whnf
  rw [e0, e1, e2, e3]
  clear e0 e1 e2 e3
  refine wpAny_execs_cons (st_cut (h₀ := h₀) (L := L) (m := (fun y0 => if y0 = Str.ofString "place" then some (.int 2 t9) else if y0 = Str.ofString "unlike" then g1 else if y0 = Str.ofString "five" then g2 else if y0 = Str.ofString "turned" then g3 else if y0 = Str.ofString "place" then g4 else if y0 = Str.ofString "parts" then some (.ref pp) else if y0 = Str.ofString "names" then some (.ref q9) else if y0 = Str.ofString "due" then some (ovv du) else if y0 = Str.ofString "told" then some (.ref u) else if y0 = Str.ofString "bare" then some (.ref z) else if y0 = Str.ofString "other" then some (.ref y) else if y0 = Str.ofString "here" then some (.ref x) else if y0 = Str.ofString "data" then some (.ref D) else if y0 = Str.ofString "variants" then some (.ref d4) else if y0 = Str.ofString "territories" then some (.ref d3) else if y0 = Str.ofString "scripts" then some (.ref d2) else if y0 = Str.ofString "languages" then some (.ref d1) else if y0 = Str.ofString "modifier" then some (ovv om) else if y0 = Str.ofString "variant" then some (ovv ov) else if y0 = Str.ofString "territory" then some (ovv ot) else if y0 = Str.ofString "written" then some (ovv os) else if y0 = Str.ofString "language" then some (.str (Nm.x pl) (Nm.t pl)) else if y0 = Str.ofString "numbers" then some (.ref l) else if y0 = Str.ofString "setting" then some (.int i t) else m y0)) (news := own ++ ((pp, W.listOf #[.str (Nm.x pl) (Nm.t pl), ovv ot, ovv os, ovv ov, ovv om] n) :: (z, instObj 177 dz) :: (dz, dictOf (locEs w c1 c2 c3 c4 c5 c6 (ovv (some pl)) (ovv ot) (ovv os) (ovv ov) (ovv om) .none) 6) :: (y, instObj 177 dy) :: (dy, dictOf (locEs w b1 b2 b3 b4 b5 b6 (.str (Str.ofString "de") v1) (.str (Str.ofString "AT") v2) .none .none .none (.ref D)) 6) :: (x, instObj 177 dx) :: (dx, dictOf (locEs w a1 a2 a3 a4 a5 a6 (ovv (some pl)) (ovv ot) (ovv os) (ovv ov) (ovv om) (.ref D)) 6) :: (D, oD) :: (d4, o4) :: (d3, o3) :: (d2, o2) :: (d1, o1) :: (105, PySem.W.X.tableObj ps) :: [])) (fun o => eqv os o = false) (Str.ofString "turned") ?_ ?_)
  · clear k
    repeat' (walk_at "STEP1")
  clear F N hE9
  intro o9 h' tk' P9 F N
  dsimp only
  have hF9 : (eqv (some pl) (some pl) && eqv ot ot && eqv os o9 && eqv ov ov && eqv om om) = false := neqv_and (by simp [P9])
  repeat' (walk_at "STEP1")
  refine' k _ _ _ _ _ _ (fr_dup4 ?F77) ?N77
  case F77 => assumption
  case N77 => refine' cb_drop ?cb77 ?cc77; (case cb77 => assumption); (case cc77 => intro p77 hp77; repeat (first | exact hp77 | refine List.Mem.tail _ ?_))
set_option maxHeartbeats 8000000 in
theorem turn3 {w : World} {base h₀ : Heap} {fa : Addr} {cd : Value} {L : Addr} {m : Str → Option Value} {news : List (Addr × Obj)} {s : Shared} {Q : Flow → Shared → Prop} {E : Value → Shared → Prop} {mg mb : Str → Option Value} {mean : ExcName → Option Value} {p : Program} {loose : List Str}
   {pl : Nm} {os ot ov om : P2}{q9 pp : Addr} {n : Nat} {i : Int} {t : Tok} {l x y z dx dy dz u : Addr} {du : P2} {ps : Array Value} {d1 d2 d3 d4 D : Addr} {o1 o2 o3 o4 oD : Obj} {r1 r2 r3 r4 : P2}{a1 a2 a3 a4 a5 a6 b1 b2 b3 b4 b5 b6 c1 c2 c3 c4 c5 c6 v1 v2 : Tok} {g1 g2 g3 g4 : Option Value} {t9 : Tok} {own : List (Addr × Obj)}
   (B : Below callerA base [] h₀) (F : Fr h₀ L s.heap (fun y0 => if y0 = Str.ofString "place" then some (.int 3 t9) else if y0 = Str.ofString "unlike" then g1 else if y0 = Str.ofString "five" then g2 else if y0 = Str.ofString "turned" then g3 else if y0 = Str.ofString "place" then g4 else if y0 = Str.ofString "parts" then some (.ref pp) else if y0 = Str.ofString "names" then some (.ref q9) else if y0 = Str.ofString "due" then some (ovv du) else if y0 = Str.ofString "told" then some (.ref u) else if y0 = Str.ofString "bare" then some (.ref z) else if y0 = Str.ofString "other" then some (.ref y) else if y0 = Str.ofString "here" then some (.ref x) else if y0 = Str.ofString "data" then some (.ref D) else if y0 = Str.ofString "variants" then some (.ref d4) else if y0 = Str.ofString "territories" then some (.ref d3) else if y0 = Str.ofString "scripts" then some (.ref d2) else if y0 = Str.ofString "languages" then some (.ref d1) else if y0 = Str.ofString "modifier" then some (ovv om) else if y0 = Str.ofString "variant" then some (ovv ov) else if y0 = Str.ofString "territory" then some (ovv ot) else if y0 = Str.ofString "written" then some (ovv os) else if y0 = Str.ofString "language" then some (.str (Nm.x pl) (Nm.t pl)) else if y0 = Str.ofString "numbers" then some (.ref l) else if y0 = Str.ofString "setting" then some (.int i t) else m y0)) (X₀ : (hd.heap_39 w.params).In h₀) (N : News h₀ L s.heap (own ++ ((pp, W.listOf #[.str (Nm.x pl) (Nm.t pl), ovv ot, ovv os, ovv ov, ovv om] n) :: (z, instObj 177 dz) :: (dz, dictOf (locEs w c1 c2 c3 c4 c5 c6 (ovv (some pl)) (ovv ot) (ovv os) (ovv ov) (ovv om) .none) 6) :: (y, instObj 177 dy) :: (dy, dictOf (locEs w b1 b2 b3 b4 b5 b6 (.str (Str.ofString "de") v1) (.str (Str.ofString "AT") v2) .none .none .none (.ref D)) 6) :: (x, instObj 177 dx) :: (dx, dictOf (locEs w a1 a2 a3 a4 a5 a6 (ovv (some pl)) (ovv ot) (ovv os) (ovv ov) (ovv om) (.ref D)) 6) :: (D, oD) :: (d4, o4) :: (d3, o3) :: (d2, o2) :: (d1, o1) :: (105, PySem.W.X.tableObj ps) :: []))) (T : Top p loose mean mg mb h₀)
   (hE9 : ∀ t h, eqv ov (some ⟨Str.ofString "1996", t, h⟩) = false)
   (k : ∀ h' tk' g1 g2 g3 g4, Fr h₀ L h' (fun y0 => if y0 = Str.ofString "unlike" then g1 else if y0 = Str.ofString "five" then g2 else if y0 = Str.ofString "turned" then g3 else if y0 = Str.ofString "place" then g4 else if y0 = Str.ofString "parts" then some (.ref pp) else if y0 = Str.ofString "names" then some (.ref q9) else if y0 = Str.ofString "due" then some (ovv du) else if y0 = Str.ofString "told" then some (.ref u) else if y0 = Str.ofString "bare" then some (.ref z) else if y0 = Str.ofString "other" then some (.ref y) else if y0 = Str.ofString "here" then some (.ref x) else if y0 = Str.ofString "data" then some (.ref D) else if y0 = Str.ofString "variants" then some (.ref d4) else if y0 = Str.ofString "territories" then some (.ref d3) else if y0 = Str.ofString "scripts" then some (.ref d2) else if y0 = Str.ofString "languages" then some (.ref d1) else if y0 = Str.ofString "modifier" then some (ovv om) else if y0 = Str.ofString "variant" then some (ovv ov) else if y0 = Str.ofString "territory" then some (ovv ot) else if y0 = Str.ofString "written" then some (ovv os) else if y0 = Str.ofString "language" then some (.str (Nm.x pl) (Nm.t pl)) else if y0 = Str.ofString "numbers" then some (.ref l) else if y0 = Str.ofString "setting" then some (.int i t) else m y0) → News h₀ L h' (own ++ ((pp, W.listOf #[.str (Nm.x pl) (Nm.t pl), ovv ot, ovv os, ovv ov, ovv om] n) :: (z, instObj 177 dz) :: (dz, dictOf (locEs w c1 c2 c3 c4 c5 c6 (ovv (some pl)) (ovv ot) (ovv os) (ovv ov) (ovv om) .none) 6) :: (y, instObj 177 dy) :: (dy, dictOf (locEs w b1 b2 b3 b4 b5 b6 (.str (Str.ofString "de") v1) (.str (Str.ofString "AT") v2) .none .none .none (.ref D)) 6) :: (x, instObj 177 dx) :: (dx, dictOf (locEs w a1 a2 a3 a4 a5 a6 (ovv (some pl)) (ovv ot) (ovv os) (ovv ov) (ovv om) (.ref D)) 6) :: (D, oD) :: (d4, o4) :: (d3, o3) :: (d2, o2) :: (d1, o1) :: (105, PySem.W.X.tableObj ps) :: [])) → Q .next {s with heap := h', toks := tk'}) :
   wpAny (model Challenge.rw_nk0010_01.row.prog w) (callerA.deeper (lawEnv L fa cd)) (execs [forSt 0, forSt 1, forSt 2, forSt 3] (lawEnv L fa cd)) Q E s := by
  have e0 : forSt 0 = forSt 0 := rfl
  conv at e0 => rhs; whnf
  have e1 : forSt 1 = forSt 1 := rfl
  conv at e1 => rhs; whnf
  have e2 : forSt 2 = forSt 2 := rfl
  conv at e2 => rhs; whnf
  have e3 : forSt 3 = forSt 3 := rfl
  conv at e3 => rhs; whnf
  rw [e0, e1, e2, e3]
  clear e0 e1 e2 e3
  refine wpAny_execs_cons (st_cut (h₀ := h₀) (L := L) (m := (fun y0 => if y0 = Str.ofString "place" then some (.int 3 t9) else if y0 = Str.ofString "unlike" then g1 else if y0 = Str.ofString "five" then g2 else if y0 = Str.ofString "turned" then g3 else if y0 = Str.ofString "place" then g4 else if y0 = Str.ofString "parts" then some (.ref pp) else if y0 = Str.ofString "names" then some (.ref q9) else if y0 = Str.ofString "due" then some (ovv du) else if y0 = Str.ofString "told" then some (.ref u) else if y0 = Str.ofString "bare" then some (.ref z) else if y0 = Str.ofString "other" then some (.ref y) else if y0 = Str.ofString "here" then some (.ref x) else if y0 = Str.ofString "data" then some (.ref D) else if y0 = Str.ofString "variants" then some (.ref d4) else if y0 = Str.ofString "territories" then some (.ref d3) else if y0 = Str.ofString "scripts" then some (.ref d2) else if y0 = Str.ofString "languages" then some (.ref d1) else if y0 = Str.ofString "modifier" then some (ovv om) else if y0 = Str.ofString "variant" then some (ovv ov) else if y0 = Str.ofString "territory" then some (ovv ot) else if y0 = Str.ofString "written" then some (ovv os) else if y0 = Str.ofString "language" then some (.str (Nm.x pl) (Nm.t pl)) else if y0 = Str.ofString "numbers" then some (.ref l) else if y0 = Str.ofString "setting" then some (.int i t) else m y0)) (news := own ++ ((pp, W.listOf #[.str (Nm.x pl) (Nm.t pl), ovv ot, ovv os, ovv ov, ovv om] n) :: (z, instObj 177 dz) :: (dz, dictOf (locEs w c1 c2 c3 c4 c5 c6 (ovv (some pl)) (ovv ot) (ovv os) (ovv ov) (ovv om) .none) 6) :: (y, instObj 177 dy) :: (dy, dictOf (locEs w b1 b2 b3 b4 b5 b6 (.str (Str.ofString "de") v1) (.str (Str.ofString "AT") v2) .none .none .none (.ref D)) 6) :: (x, instObj 177 dx) :: (dx, dictOf (locEs w a1 a2 a3 a4 a5 a6 (ovv (some pl)) (ovv ot) (ovv os) (ovv ov) (ovv om) (.ref D)) 6) :: (D, oD) :: (d4, o4) :: (d3, o3) :: (d2, o2) :: (d1, o1) :: (105, PySem.W.X.tableObj ps) :: [])) (fun o => eqv ov o = false) (Str.ofString "turned") ?_ ?_)
  · clear k
    repeat' (walk_at "STEP1")
  clear F N hE9
  intro o9 h' tk' P9 F N
  dsimp only
  have hF9 : (eqv (some pl) (some pl) && eqv ot ot && eqv os os && eqv ov o9 && eqv om om) = false := neqv_and (by simp [P9])
  repeat' (walk_at "STEP1")
  refine' k _ _ _ _ _ _ (fr_dup4 ?F77) ?N77
  case F77 => assumption
  case N77 => refine' cb_drop ?cb77 ?cc77; (case cb77 => assumption); (case cc77 => intro p77 hp77; repeat (first | exact hp77 | refine List.Mem.tail _ ?_))
set_option maxHeartbeats 8000000 in
theorem turn4 {w : World} {base h₀ : Heap} {fa : Addr} {cd : Value} {L : Addr} {m : Str → Option Value} {news : List (Addr × Obj)} {s : Shared} {Q : Flow → Shared → Prop} {E : Value → Shared → Prop} {mg mb : Str → Option Value} {mean : ExcName → Option Value} {p : Program} {loose : List Str}
   {pl : Nm} {os ot ov om : P2}{q9 pp : Addr} {n : Nat} {i : Int} {t : Tok} {l x y z dx dy dz u : Addr} {du : P2} {ps : Array Value} {d1 d2 d3 d4 D : Addr} {o1 o2 o3 o4 oD : Obj} {r1 r2 r3 r4 : P2}{a1 a2 a3 a4 a5 a6 b1 b2 b3 b4 b5 b6 c1 c2 c3 c4 c5 c6 v1 v2 : Tok} {g1 g2 g3 g4 : Option Value} {t9 : Tok} {own : List (Addr × Obj)}
   (B : Below callerA base [] h₀) (F : Fr h₀ L s.heap (fun y0 => if y0 = Str.ofString "place" then some (.int 4 t9) else if y0 = Str.ofString "unlike" then g1 else if y0 = Str.ofString "five" then g2 else if y0 = Str.ofString "turned" then g3 else if y0 = Str.ofString "place" then g4 else if y0 = Str.ofString "parts" then some (.ref pp) else if y0 = Str.ofString "names" then some (.ref q9) else if y0 = Str.ofString "due" then some (ovv du) else if y0 = Str.ofString "told" then some (.ref u) else if y0 = Str.ofString "bare" then some (.ref z) else if y0 = Str.ofString "other" then some (.ref y) else if y0 = Str.ofString "here" then some (.ref x) else if y0 = Str.ofString "data" then some (.ref D) else if y0 = Str.ofString "variants" then some (.ref d4) else if y0 = Str.ofString "territories" then some (.ref d3) else if y0 = Str.ofString "scripts" then some (.ref d2) else if y0 = Str.ofString "languages" then some (.ref d1) else if y0 = Str.ofString "modifier" then some (ovv om) else if y0 = Str.ofString "variant" then some (ovv ov) else if y0 = Str.ofString "territory" then some (ovv ot) else if y0 = Str.ofString "written" then some (ovv os) else if y0 = Str.ofString "language" then some (.str (Nm.x pl) (Nm.t pl)) else if y0 = Str.ofString "numbers" then some (.ref l) else if y0 = Str.ofString "setting" then some (.int i t) else m y0)) (X₀ : (hd.heap_39 w.params).In h₀) (N : News h₀ L s.heap (own ++ ((pp, W.listOf #[.str (Nm.x pl) (Nm.t pl), ovv ot, ovv os, ovv ov, ovv om] n) :: (z, instObj 177 dz) :: (dz, dictOf (locEs w c1 c2 c3 c4 c5 c6 (ovv (some pl)) (ovv ot) (ovv os) (ovv ov) (ovv om) .none) 6) :: (y, instObj 177 dy) :: (dy, dictOf (locEs w b1 b2 b3 b4 b5 b6 (.str (Str.ofString "de") v1) (.str (Str.ofString "AT") v2) .none .none .none (.ref D)) 6) :: (x, instObj 177 dx) :: (dx, dictOf (locEs w a1 a2 a3 a4 a5 a6 (ovv (some pl)) (ovv ot) (ovv os) (ovv ov) (ovv om) (.ref D)) 6) :: (D, oD) :: (d4, o4) :: (d3, o3) :: (d2, o2) :: (d1, o1) :: (105, PySem.W.X.tableObj ps) :: []))) (T : Top p loose mean mg mb h₀)
   (hE9 : ∀ t h, eqv om (some ⟨Str.ofString "latin", t, h⟩) = false)
   (k : ∀ h' tk' g1 g2 g3 g4, Fr h₀ L h' (fun y0 => if y0 = Str.ofString "unlike" then g1 else if y0 = Str.ofString "five" then g2 else if y0 = Str.ofString "turned" then g3 else if y0 = Str.ofString "place" then g4 else if y0 = Str.ofString "parts" then some (.ref pp) else if y0 = Str.ofString "names" then some (.ref q9) else if y0 = Str.ofString "due" then some (ovv du) else if y0 = Str.ofString "told" then some (.ref u) else if y0 = Str.ofString "bare" then some (.ref z) else if y0 = Str.ofString "other" then some (.ref y) else if y0 = Str.ofString "here" then some (.ref x) else if y0 = Str.ofString "data" then some (.ref D) else if y0 = Str.ofString "variants" then some (.ref d4) else if y0 = Str.ofString "territories" then some (.ref d3) else if y0 = Str.ofString "scripts" then some (.ref d2) else if y0 = Str.ofString "languages" then some (.ref d1) else if y0 = Str.ofString "modifier" then some (ovv om) else if y0 = Str.ofString "variant" then some (ovv ov) else if y0 = Str.ofString "territory" then some (ovv ot) else if y0 = Str.ofString "written" then some (ovv os) else if y0 = Str.ofString "language" then some (.str (Nm.x pl) (Nm.t pl)) else if y0 = Str.ofString "numbers" then some (.ref l) else if y0 = Str.ofString "setting" then some (.int i t) else m y0) → News h₀ L h' (own ++ ((pp, W.listOf #[.str (Nm.x pl) (Nm.t pl), ovv ot, ovv os, ovv ov, ovv om] n) :: (z, instObj 177 dz) :: (dz, dictOf (locEs w c1 c2 c3 c4 c5 c6 (ovv (some pl)) (ovv ot) (ovv os) (ovv ov) (ovv om) .none) 6) :: (y, instObj 177 dy) :: (dy, dictOf (locEs w b1 b2 b3 b4 b5 b6 (.str (Str.ofString "de") v1) (.str (Str.ofString "AT") v2) .none .none .none (.ref D)) 6) :: (x, instObj 177 dx) :: (dx, dictOf (locEs w a1 a2 a3 a4 a5 a6 (ovv (some pl)) (ovv ot) (ovv os) (ovv ov) (ovv om) (.ref D)) 6) :: (D, oD) :: (d4, o4) :: (d3, o3) :: (d2, o2) :: (d1, o1) :: (105, PySem.W.X.tableObj ps) :: [])) → Q .next {s with heap := h', toks := tk'}) :
   wpAny (model Challenge.rw_nk0010_01.row.prog w) (callerA.deeper (lawEnv L fa cd)) (execs [forSt 0, forSt 1, forSt 2, forSt 3] (lawEnv L fa cd)) Q E s := by
  have e0 : forSt 0 = forSt 0 := rfl
  conv at e0 => rhs; whnf
  have e1 : forSt 1 = forSt 1 := rfl
  conv at e1 => rhs; whnf
  have e2 : forSt 2 = forSt 2 := rfl
  conv at e2 => rhs; whnf
  have e3 : forSt 3 = forSt 3 := rfl
  conv at e3 => rhs; whnf
  rw [e0, e1, e2, e3]
  clear e0 e1 e2 e3
  refine wpAny_execs_cons (st_cut (h₀ := h₀) (L := L) (m := (fun y0 => if y0 = Str.ofString "place" then some (.int 4 t9) else if y0 = Str.ofString "unlike" then g1 else if y0 = Str.ofString "five" then g2 else if y0 = Str.ofString "turned" then g3 else if y0 = Str.ofString "place" then g4 else if y0 = Str.ofString "parts" then some (.ref pp) else if y0 = Str.ofString "names" then some (.ref q9) else if y0 = Str.ofString "due" then some (ovv du) else if y0 = Str.ofString "told" then some (.ref u) else if y0 = Str.ofString "bare" then some (.ref z) else if y0 = Str.ofString "other" then some (.ref y) else if y0 = Str.ofString "here" then some (.ref x) else if y0 = Str.ofString "data" then some (.ref D) else if y0 = Str.ofString "variants" then some (.ref d4) else if y0 = Str.ofString "territories" then some (.ref d3) else if y0 = Str.ofString "scripts" then some (.ref d2) else if y0 = Str.ofString "languages" then some (.ref d1) else if y0 = Str.ofString "modifier" then some (ovv om) else if y0 = Str.ofString "variant" then some (ovv ov) else if y0 = Str.ofString "territory" then some (ovv ot) else if y0 = Str.ofString "written" then some (ovv os) else if y0 = Str.ofString "language" then some (.str (Nm.x pl) (Nm.t pl)) else if y0 = Str.ofString "numbers" then some (.ref l) else if y0 = Str.ofString "setting" then some (.int i t) else m y0)) (news := own ++ ((pp, W.listOf #[.str (Nm.x pl) (Nm.t pl), ovv ot, ovv os, ovv ov, ovv om] n) :: (z, instObj 177 dz) :: (dz, dictOf (locEs w c1 c2 c3 c4 c5 c6 (ovv (some pl)) (ovv ot) (ovv os) (ovv ov) (ovv om) .none) 6) :: (y, instObj 177 dy) :: (dy, dictOf (locEs w b1 b2 b3 b4 b5 b6 (.str (Str.ofString "de") v1) (.str (Str.ofString "AT") v2) .none .none .none (.ref D)) 6) :: (x, instObj 177 dx) :: (dx, dictOf (locEs w a1 a2 a3 a4 a5 a6 (ovv (some pl)) (ovv ot) (ovv os) (ovv ov) (ovv om) (.ref D)) 6) :: (D, oD) :: (d4, o4) :: (d3, o3) :: (d2, o2) :: (d1, o1) :: (105, PySem.W.X.tableObj ps) :: [])) (fun o => eqv om o = false) (Str.ofString "turned") ?_ ?_)
  · clear k
    repeat' (walk_at "STEP1")
  clear F N hE9
  intro o9 h' tk' P9 F N
  dsimp only
  have hF9 : (eqv (some pl) (some pl) && eqv ot ot && eqv os os && eqv ov ov && eqv om o9) = false := neqv_and (by simp [P9])
  repeat' (walk_at "STEP1")
  refine' k _ _ _ _ _ _ (fr_dup4 ?F77) ?N77
  case F77 => assumption
  case N77 => refine' cb_drop ?cb77 ?cc77; (case cb77 => assumption); (case cc77 => intro p77 hp77; repeat (first | exact hp77 | refine List.Mem.tail _ ?_))
end
section
theorem off_J : True := by
  w_top off
  exact trivial
local macro_rules | `(tactic| k_mem) => `(tactic| assumption)
local macro_rules | `(tactic| walk_at "compareOp Eq") => `(tactic| ((with_reducible show wpAny _ _ (compareOp CmpOp.Eq (ovv _) (ovv _)) _ _ _); refine ov_eq ?_))
local macro_rules | `(tactic| walk_at "compareOp NotEq") => `(tactic| ((with_reducible show wpAny _ _ (compareOp CmpOp.NotEq (ovv _) (ovv _)) _ _ _); refine ov_ne ?_))
local macro_rules | `(tactic| walk_at "compareOp Is") => `(tactic| ((with_reducible show wpAny _ _ (compareOp CmpOp.Is (ovv _) Value.none) _ _ _); refine ov_isNone ?_))
local macro_rules | `(tactic| walk_at "compareOp IsNot") => `(tactic| ((with_reducible show wpAny _ _ (compareOp CmpOp.IsNot (ovv _) Value.none) _ _ _); refine ov_isNotNone ?_))
local macro_rules | `(tactic| walk_at "truthy") => `(tactic| ((with_reducible show wpAny _ _ (truthy (ovv _)) _ _ _); refine ov_truthy ?_; intro tk))
local macro_rules | `(tactic| k_handed) => `(tactic| exact handedIn_ovv _)
local macro_rules | `(tactic| walk_at "call builtin:hasattr") => `(tactic| (k_here; k_dflt (refine' hasattr_K ?k1 ?k2 ?k3 ?k4 ?k5 ?k6 ?k7 ?k8 ?k9 ?k10 ?_; (case k1 => k_asm); (case k2 => k_asm); (case k3 => k_inst); (case k4 => k_is); (case k5 => k_is); (case k6 => k_is); (case k7 => k_is); (case k8 => k_is); (case k9 => k_get); (case k10 => k_handed); k_whole)))
local macro_rules | `(tactic| walk_at "call builtin:getattr") => `(tactic| (k_here; k_dflt (refine' getattr_K ?k1 ?k2 ?k3 ?k4 ?k5 ?k6 ?k7 ?k9 ?k10 ?_; (case k1 => k_asm); (case k2 => k_asm); (case k3 => k_inst); (case k4 => k_is); (case k5 => k_is); (case k6 => k_is); (case k7 => k_is); (case k9 => k_get); (case k10 => k_handed); k_whole)))
local macro_rules | `(tactic| k_room) => `(tactic| ((try simp only [depth_under_make, depth_under_kw, depth_in1, depth_deeper, depth_caller]); omega))
local macro_rules | `(tactic| walk_at "subscriptTail") => `(tactic| (k_here; (with_reducible show wpAny _ _ (subscriptTail _ _ (Value.ref _) (Value.str _ _)) _ _ _); k_dflt (refine' kdt_tail (knd := PySem.strKind _ _) ?N ?p ?d ?_; (case N => k_asm); (case p => k_mem); (case d => unfold DataIs at *; assumption); k_whole)))
local macro_rules | `(tactic| walk_at "subscriptTail Attribute Name Constant ref str") => `(tactic| (k_here; (with_reducible show wpAny _ _ (subscriptTail _ _ (Value.ref _) (Value.str _ _)) _ _ _); k_dflt (refine' kdt_tail (knd := PySem.strKind _ _) ?N ?p ?d ?_; (case N => k_asm); (case p => k_mem); (case d => unfold DataIs at *; assumption); k_whole)))
local macro_rules | `(tactic| walk_at "getItem ref str") => `(tactic| (k_here; k_dflt (refine' data_item ?d ?N ?p ?l ?_; (case N => k_asm); (case p => k_mem); (case d => assumption); (case l => rfl); k_whole)))
local macro_rules | `(tactic| walk_at "getMethod ref") => `(tactic| (k_here; (with_reducible show wpAny _ _ (getMethod (Value.ref _) (Str.ofString "get") _) _ _ _); k_dflt (refine' tab_method ?T ?N ?p ?_; (case N => k_asm); (case p => k_mem); (case T => assumption); k_whole)))
local macro_rules | `(tactic| walk_at "call builtin:dict.get") => `(tactic| (k_here; (with_reducible show wpAny _ _ (call (Value.builtin "dict.get") [Value.ref _, ovv _]) _ _ _); k_dflt (refine' tab_get ?T ?N ?p ?l ?k ?_; (case N => k_asm); (case p => k_mem); (case T => assumption); (case l => assumption); (case k => assumption); k_whole)))
local macro_rules | `(tactic| walk_at "call builtin:dict.get") => `(tactic| (k_here; (with_reducible show wpAny _ _ (call (Value.builtin "dict.get") [Value.ref _, Value.str _ _]) _ _ _); k_dflt (refine' tab_getE ?T ?N ?p ?l ?k ?_; (case N => k_asm); (case p => k_mem); (case T => assumption); (case l => assumption); (case k => assumption); k_whole)))
theorem loop5 {prog : Program} {w : World} {A : Around} {E : Value → Shared → Prop} {s : Shared} {env : Env} {h₀ : Heap} {x : Str} {body : List Stmt} {Q : Flow → Shared → Prop} {r : Addr} {t u v : Tok} {m : Str → Option Value} {news : List (Addr × Obj)}
    (hh : A.handled = none) (hr : IsRange s.heap r 0 5 1 t u v) (F : Fr h₀ env.locals s.heap m) (N : News h₀ env.locals s.heap news) (Jm : (Str → Option Value) → Prop) (J0 : Jm m)
    (turn : ∀ (i : Nat) tk m₁ s₁ own (Q' : Flow → Shared → Prop), i < 5 → (∃ h tk, s₁ = { s with heap := h, toks := tk }) → Jm m₁ → Fr h₀ env.locals s₁.heap (fun y => if y = x then some (.int (i : Int) tk) else m₁ y) → News h₀ env.locals s₁.heap (own ++ news) →
      (∀ h' tk' m₂, Fr h₀ env.locals h' m₂ → Jm m₂ → News h₀ env.locals h' (own ++ news) → Q' .next { s₁ with heap := h', toks := tk' }) → wpAny (model prog w) A (execs body env) Q' E s₁)
    (done : ∀ h' tk m', Fr h₀ env.locals h' m' → Jm m' → News h₀ env.locals h' news → Q .next { s with heap := h', toks := tk }) :
    wpAny (model prog w) A (pyIter (.ref r)) (fun it s₂ => LoopAtV prog w A h₀ env x body Q E it s₂) E s := by
  refine wpAny_pyIter_range hr (by decide) ?_
  have hoff : ∀ p ∈ news, p.1 ∉ [s.heap.objs.size] := fun p hp hI => absurd (Heap.lt_size (N p hp).1) ((List.mem_singleton.mp hI) ▸ Nat.lt_irrefl _)
  refine ⟨s.heap.objs.size, [s.heap.objs.size], [s.heap.objs.size], 5, _, _, m, news, (fun _ m₁ news₁ => news₁ = news ∧ Jm m₁), rfl, Walks.range hh _ 0 1 5, ?_, ?_, hoff, ?_, F.push _, (fun p hp => ⟨Heap.get?_push_of_some _ (N p hp).1, (N p hp).2⟩), ⟨rfl, J0⟩, ?_, ?_⟩
  · intro hm
    exact absurd F.ns.lt ((List.mem_singleton.mp hm) ▸ Nat.lt_irrefl _)
  · intro b hb
    rw [List.mem_singleton.mp hb]
    exact next_is_new F
  · show IsRangeIter _ _ _ _ _
    have e : Builtin.Range.rangeSize 0 5 1 = 5 := by decide
    rw [e]
    simpa using Heap.get?_push_size _ rfl
  · rintro i v m₁ news₁ s₁ own ⟨hh', tk', rfl⟩ hi ⟨t, rfl⟩ ⟨rfl, hJ⟩ ho hsub hget hall hst F₁ N₁
    have ev : (0 : Int) + (i : Int) * 1 = (i : Int) := by omega
    rw [ev] at F₁
    refine turn i t m₁ _ own _ hi ⟨hh', tk', rfl⟩ hJ F₁ N₁ (fun h₂ tk₂ m₂ F₂ hJ₂ N₂ => ?_)
    exact LoopStepV.next (LoopStepU.intro F₂ N₂ ho ⟨rfl, hJ₂⟩)
  · rintro h' tk m' news' F' N' _ ⟨rfl, hJ⟩
    exact done h' tk m' F' hJ N'
theorem two_eqv {o : P2} {a b : Option Str} {c : Str} (h : Two a b o) (ha : a ≠ some c) (hb : b ≠ some c) : ∀ t h, eqv o (some ⟨c, t, h⟩) = false := by
  intro t h9
  refine decide_eq_false ?_
  show o.map Nm.x ≠ some c
  rcases h with h | h <;> rw [h] <;> assumption
theorem ne_ofString {a b : Str} (h : a ≠ b) : (some a) ≠ (some b) := fun e => h (Option.some.inj e)
theorem setup_l {pl : Nm} {ot os ov om : P2} (h : Setup pl ot os ov om) : Two (some (Str.ofString "zh")) (some (Str.ofString "en")) (some pl) := h.l.imp (congrArg some) (congrArg some)
theorem setup_m {pl : Nm} {ot os ov om : P2} (h : Setup pl ot os ov om) : Two none (some (Str.ofString "euro")) om := h.m.imp (fun e => by rw [e]; rfl) (·.1)
theorem fr_self (f : Str → Option Value) (a b c d : Str) : f = fun q => if q = a then f a else if q = b then f b else if q = c then f c else if q = d then f d else f q := by
  funext q
  by_cases h1 : q = a
  · subst h1; rw [if_pos rfl]
  · by_cases h2 : q = b
    · subst h2; rw [if_neg h1, if_pos rfl]
    · by_cases h3 : q = c
      · subst h3; rw [if_neg h1, if_neg h2, if_pos rfl]
      · by_cases h4 : q = d
        · subst h4; rw [if_neg h1, if_neg h2, if_neg h3, if_pos rfl]
        · rw [if_neg h1, if_neg h2, if_neg h3, if_neg h4]
set_option maxHeartbeats 8000000 in
theorem segJ {w : World} {base h₀ : Heap} {fa : Addr} {cd : Value} {L : Addr} {m : Str → Option Value} {news : List (Addr × Obj)} {s : Shared} {Q : Flow → Shared → Prop} {E : Value → Shared → Prop} {mg mb : Str → Option Value} {mean : ExcName → Option Value} {p : Program} {loose : List Str}
   {pl : Nm} {os ot ov om : P2}{q9 pp : Addr} {n : Nat} {i : Int} {t : Tok} {l x y z dx dy dz u : Addr} {du : P2} {ps : Array Value} {d1 d2 d3 d4 D : Addr} {o1 o2 o3 o4 oD : Obj} {r1 r2 r3 r4 : P2}{a1 a2 a3 a4 a5 a6 b1 b2 b3 b4 b5 b6 c1 c2 c3 c4 c5 c6 v1 v2 : Tok}
   (B : Below callerA base [] h₀) (F : Fr h₀ L s.heap (fun y0 => if y0 = Str.ofString "parts" then some (.ref pp) else if y0 = Str.ofString "names" then some (.ref q9) else if y0 = Str.ofString "due" then some (ovv du) else if y0 = Str.ofString "told" then some (.ref u) else if y0 = Str.ofString "bare" then some (.ref z) else if y0 = Str.ofString "other" then some (.ref y) else if y0 = Str.ofString "here" then some (.ref x) else if y0 = Str.ofString "data" then some (.ref D) else if y0 = Str.ofString "variants" then some (.ref d4) else if y0 = Str.ofString "territories" then some (.ref d3) else if y0 = Str.ofString "scripts" then some (.ref d2) else if y0 = Str.ofString "languages" then some (.ref d1) else if y0 = Str.ofString "modifier" then some (ovv om) else if y0 = Str.ofString "variant" then some (ovv ov) else if y0 = Str.ofString "territory" then some (ovv ot) else if y0 = Str.ofString "written" then some (ovv os) else if y0 = Str.ofString "language" then some (.str (Nm.x pl) (Nm.t pl)) else if y0 = Str.ofString "numbers" then some (.ref l) else if y0 = Str.ofString "setting" then some (.int i t) else m y0)) (X₀ : (hd.heap_39 w.params).In h₀) (N : News h₀ L s.heap ((pp, W.listOf #[.str (Nm.x pl) (Nm.t pl), ovv ot, ovv os, ovv ov, ovv om] n) :: (z, instObj 177 dz) :: (dz, dictOf (locEs w c1 c2 c3 c4 c5 c6 (ovv (some pl)) (ovv ot) (ovv os) (ovv ov) (ovv om) .none) 6) :: (y, instObj 177 dy) :: (dy, dictOf (locEs w b1 b2 b3 b4 b5 b6 (.str (Str.ofString "de") v1) (.str (Str.ofString "AT") v2) .none .none .none (.ref D)) 6) :: (x, instObj 177 dx) :: (dx, dictOf (locEs w a1 a2 a3 a4 a5 a6 (ovv (some pl)) (ovv ot) (ovv os) (ovv ov) (ovv om) (.ref D)) 6) :: (D, oD) :: (d4, o4) :: (d3, o3) :: (d2, o2) :: (d1, o1) :: (105, PySem.W.X.tableObj ps) :: [])) (T : Top p loose mean mg mb h₀)
   (hS : Setup pl ot os ov om)
   (k : ∀ h' tk' g1 g2 g3 g4, Fr h₀ L h' (fun y0 => if y0 = Str.ofString "unlike" then g1 else if y0 = Str.ofString "five" then g2 else if y0 = Str.ofString "turned" then g3 else if y0 = Str.ofString "place" then g4 else if y0 = Str.ofString "parts" then some (.ref pp) else if y0 = Str.ofString "names" then some (.ref q9) else if y0 = Str.ofString "due" then some (ovv du) else if y0 = Str.ofString "told" then some (.ref u) else if y0 = Str.ofString "bare" then some (.ref z) else if y0 = Str.ofString "other" then some (.ref y) else if y0 = Str.ofString "here" then some (.ref x) else if y0 = Str.ofString "data" then some (.ref D) else if y0 = Str.ofString "variants" then some (.ref d4) else if y0 = Str.ofString "territories" then some (.ref d3) else if y0 = Str.ofString "scripts" then some (.ref d2) else if y0 = Str.ofString "languages" then some (.ref d1) else if y0 = Str.ofString "modifier" then some (ovv om) else if y0 = Str.ofString "variant" then some (ovv ov) else if y0 = Str.ofString "territory" then some (ovv ot) else if y0 = Str.ofString "written" then some (ovv os) else if y0 = Str.ofString "language" then some (.str (Nm.x pl) (Nm.t pl)) else if y0 = Str.ofString "numbers" then some (.ref l) else if y0 = Str.ofString "setting" then some (.int i t) else m y0) → News h₀ L h' ((pp, W.listOf #[.str (Nm.x pl) (Nm.t pl), ovv ot, ovv os, ovv ov, ovv om] n) :: (z, instObj 177 dz) :: (dz, dictOf (locEs w c1 c2 c3 c4 c5 c6 (ovv (some pl)) (ovv ot) (ovv os) (ovv ov) (ovv om) .none) 6) :: (y, instObj 177 dy) :: (dy, dictOf (locEs w b1 b2 b3 b4 b5 b6 (.str (Str.ofString "de") v1) (.str (Str.ofString "AT") v2) .none .none .none (.ref D)) 6) :: (x, instObj 177 dx) :: (dx, dictOf (locEs w a1 a2 a3 a4 a5 a6 (ovv (some pl)) (ovv ot) (ovv os) (ovv ov) (ovv om) (.ref D)) 6) :: (D, oD) :: (d4, o4) :: (d3, o3) :: (d2, o2) :: (d1, o1) :: (105, PySem.W.X.tableObj ps) :: []) → Q .next {s with heap := h', toks := tk'}) :
   wpAny (model Challenge.rw_nk0010_01.row.prog w) (callerA.deeper (lawEnv L fa cd)) (execs [lawSt 25] (lawEnv L fa cd)) Q E s := by
  have e25 : lawSt 25 = lawSt 25 := rfl
  conv at e25 => rhs; whnf
  rw [e25]
  clear e25
  refine wpAny_noRaise ?_
  refine wpAny_execs_cons ?_
  refine For_invV h₀ rfl rfl ?_
  iterate 7 (walk_at "STEP1")
  rename IsRange _ _ _ _ _ _ _ _ => hr9
  rename Fr _ _ _ _ => F
  rename News _ _ _ _ => N
  refine loop5 (h₀ := h₀) (env := lawEnv L fa cd) rfl hr9 F N (fun m' => ∃ g1 g2 g3 g4 : Option Value, m' = (fun y0 => if y0 = Str.ofString "unlike" then g1 else if y0 = Str.ofString "five" then g2 else if y0 = Str.ofString "turned" then g3 else if y0 = Str.ofString "place" then g4 else if y0 = Str.ofString "parts" then some (.ref pp) else if y0 = Str.ofString "names" then some (.ref q9) else if y0 = Str.ofString "due" then some (ovv du) else if y0 = Str.ofString "told" then some (.ref u) else if y0 = Str.ofString "bare" then some (.ref z) else if y0 = Str.ofString "other" then some (.ref y) else if y0 = Str.ofString "here" then some (.ref x) else if y0 = Str.ofString "data" then some (.ref D) else if y0 = Str.ofString "variants" then some (.ref d4) else if y0 = Str.ofString "territories" then some (.ref d3) else if y0 = Str.ofString "scripts" then some (.ref d2) else if y0 = Str.ofString "languages" then some (.ref d1) else if y0 = Str.ofString "modifier" then some (ovv om) else if y0 = Str.ofString "variant" then some (ovv ov) else if y0 = Str.ofString "territory" then some (ovv ot) else if y0 = Str.ofString "written" then some (ovv os) else if y0 = Str.ofString "language" then some (.str (Nm.x pl) (Nm.t pl)) else if y0 = Str.ofString "numbers" then some (.ref l) else if y0 = Str.ofString "setting" then some (.int i t) else m y0)) ⟨_, _, _, _, fr_self _ _ _ _ _⟩ ?_ ?_
  · clear k F N hr9
    rintro i9 tk9 m9 s9 own9 Q9 hi9 ⟨h9, tk8, rfl⟩ ⟨g1, g2, g3, g4, rfl⟩ F N k9
    have hi8 : i9 = 0 ∨ i9 = 1 ∨ i9 = 2 ∨ i9 = 3 ∨ i9 = 4 := by omega
    clear hi9
    rcases hi8 with rfl | rfl | rfl | rfl | rfl
    · exact turn0 (news := []) (r1 := none) (r2 := none) (r3 := none) (r4 := none) B F X₀ N T (two_eqv (setup_l hS) (by decide) (by decide)) (fun h' tk' q1 q2 q3 q4 F2 N2 => k9 h' tk' _ F2 ⟨q1, q2, q3, q4, rfl⟩ N2)
    · exact turn1 (news := []) (r1 := none) (r2 := none) (r3 := none) (r4 := none) B F X₀ N T (two_eqv hS.t (by decide) (by decide)) (fun h' tk' q1 q2 q3 q4 F2 N2 => k9 h' tk' _ F2 ⟨q1, q2, q3, q4, rfl⟩ N2)
    · exact turn2 (news := []) (r1 := none) (r2 := none) (r3 := none) (r4 := none) B F X₀ N T (two_eqv hS.s (by decide) (by decide)) (fun h' tk' q1 q2 q3 q4 F2 N2 => k9 h' tk' _ F2 ⟨q1, q2, q3, q4, rfl⟩ N2)
    · exact turn3 (news := []) (r1 := none) (r2 := none) (r3 := none) (r4 := none) B F X₀ N T (two_eqv hS.v (by decide) (by decide)) (fun h' tk' q1 q2 q3 q4 F2 N2 => k9 h' tk' _ F2 ⟨q1, q2, q3, q4, rfl⟩ N2)
    · exact turn4 (news := []) (r1 := none) (r2 := none) (r3 := none) (r4 := none) B F X₀ N T (two_eqv (setup_m hS) (by decide) (by decide)) (fun h' tk' q1 q2 q3 q4 F2 N2 => k9 h' tk' _ F2 ⟨q1, q2, q3, q4, rfl⟩ N2)
  · rintro h9 tk9 m9 F9 ⟨g1, g2, g3, g4, rfl⟩ N9
    exact wpAny_execs_nil (k _ _ _ _ _ _ F9 N9)
end
section
theorem off_K : True := by
  w_top off
  exact trivial
local macro_rules | `(tactic| k_mem) => `(tactic| assumption)
local macro_rules | `(tactic| walk_at "compareOp Eq") => `(tactic| ((with_reducible show wpAny _ _ (compareOp CmpOp.Eq (ovv _) (ovv _)) _ _ _); refine ov_eq ?_))
local macro_rules | `(tactic| walk_at "compareOp NotEq") => `(tactic| ((with_reducible show wpAny _ _ (compareOp CmpOp.NotEq (ovv _) (ovv _)) _ _ _); refine ov_ne ?_))
local macro_rules | `(tactic| walk_at "compareOp Is") => `(tactic| ((with_reducible show wpAny _ _ (compareOp CmpOp.Is (ovv _) Value.none) _ _ _); refine ov_isNone ?_))
local macro_rules | `(tactic| walk_at "compareOp IsNot") => `(tactic| ((with_reducible show wpAny _ _ (compareOp CmpOp.IsNot (ovv _) Value.none) _ _ _); refine ov_isNotNone ?_))
local macro_rules | `(tactic| walk_at "truthy") => `(tactic| ((with_reducible show wpAny _ _ (truthy (ovv _)) _ _ _); refine ov_truthy ?_; intro tk))
local macro_rules | `(tactic| k_handed) => `(tactic| exact handedIn_ovv _)
local macro_rules | `(tactic| walk_at "call builtin:hasattr") => `(tactic| (k_here; k_dflt (refine' hasattr_K ?k1 ?k2 ?k3 ?k4 ?k5 ?k6 ?k7 ?k8 ?k9 ?k10 ?_; (case k1 => k_asm); (case k2 => k_asm); (case k3 => k_inst); (case k4 => k_is); (case k5 => k_is); (case k6 => k_is); (case k7 => k_is); (case k8 => k_is); (case k9 => k_get); (case k10 => k_handed); k_whole)))
local macro_rules | `(tactic| walk_at "call builtin:getattr") => `(tactic| (k_here; k_dflt (refine' getattr_K ?k1 ?k2 ?k3 ?k4 ?k5 ?k6 ?k7 ?k9 ?k10 ?_; (case k1 => k_asm); (case k2 => k_asm); (case k3 => k_inst); (case k4 => k_is); (case k5 => k_is); (case k6 => k_is); (case k7 => k_is); (case k9 => k_get); (case k10 => k_handed); k_whole)))
local macro_rules | `(tactic| k_room) => `(tactic| ((try simp only [depth_under_make, depth_under_kw, depth_in1, depth_deeper, depth_caller]); omega))
local macro_rules | `(tactic| walk_at "subscriptTail") => `(tactic| (k_here; (with_reducible show wpAny _ _ (subscriptTail _ _ (Value.ref _) (Value.str _ _)) _ _ _); k_dflt (refine' kdt_tail (knd := PySem.strKind _ _) ?N ?p ?d ?_; (case N => k_asm); (case p => k_mem); (case d => unfold DataIs at *; assumption); k_whole)))
local macro_rules | `(tactic| walk_at "subscriptTail Attribute Name Constant ref str") => `(tactic| (k_here; (with_reducible show wpAny _ _ (subscriptTail _ _ (Value.ref _) (Value.str _ _)) _ _ _); k_dflt (refine' kdt_tail (knd := PySem.strKind _ _) ?N ?p ?d ?_; (case N => k_asm); (case p => k_mem); (case d => unfold DataIs at *; assumption); k_whole)))
local macro_rules | `(tactic| walk_at "getItem ref str") => `(tactic| (k_here; k_dflt (refine' data_item ?d ?N ?p ?l ?_; (case N => k_asm); (case p => k_mem); (case d => assumption); (case l => rfl); k_whole)))
local macro_rules | `(tactic| walk_at "getMethod ref") => `(tactic| (k_here; (with_reducible show wpAny _ _ (getMethod (Value.ref _) (Str.ofString "get") _) _ _ _); k_dflt (refine' tab_method ?T ?N ?p ?_; (case N => k_asm); (case p => k_mem); (case T => assumption); k_whole)))
local macro_rules | `(tactic| walk_at "call builtin:dict.get") => `(tactic| (k_here; (with_reducible show wpAny _ _ (call (Value.builtin "dict.get") [Value.ref _, ovv _]) _ _ _); k_dflt (refine' tab_get ?T ?N ?p ?l ?k ?_; (case N => k_asm); (case p => k_mem); (case T => assumption); (case l => assumption); (case k => assumption); k_whole)))
local macro_rules | `(tactic| walk_at "call builtin:dict.get") => `(tactic| (k_here; (with_reducible show wpAny _ _ (call (Value.builtin "dict.get") [Value.ref _, Value.str _ _]) _ _ _); k_dflt (refine' tab_getE ?T ?N ?p ?l ?k ?_; (case N => k_asm); (case p => k_mem); (case T => assumption); (case l => assumption); (case k => assumption); k_whole)))
local macro_rules | `(tactic| walk_at "compareOp NotEq ref ref") => `(tactic| (k_here; (with_reducible show wpAny _ _ (compareOp CmpOp.NotEq (Value.ref _) (Value.ref _)) _ _ _); (with_reducible rename MkL _ _ => mkl); k_dflt (first | (refine' ne_tups mkl ?N ?a ?b rfl ?u ?_; (case N => k_asm); (case a => k_mem); (case b => k_mem); (case u => ke_room); k_whole) | (refine' ne_ovs mkl ?N ?a ?b ?u ?_; (case N => k_asm); (case a => k_mem); (case b => k_mem); (case u => ke_room); k_whole))))
local macro_rules | `(tactic| walk_at "CutS") => `(tactic| first | (refine' cutS_s ?c ?F ?N ?P; (case F => k_asm); (case c => decide); (case N => first | k_asm | (refine' cb_drop ?cbN ?cbS; (case cbN => assumption); (case cbS => kcj_all))); (case P => first | exact Or.inl rfl | exact Or.inr rfl | (refine Or.inr ⟨rfl, ?_⟩; rintro ⟨rfl, rfl, rfl⟩; simp_all; done))) | (refine' cutS_n ?F ?N ?P; (case F => k_asm); (case N => first | k_asm | (refine' cb_drop ?cbN ?cbS; (case cbN => assumption); (case cbS => kcj_all))); (case P => first | exact Or.inl rfl | exact Or.inr rfl)))
local macro_rules | `(tactic| walk_at "subscriptTail Name Constant ref int") => `(tactic| (k_here; k_dflt (refine' itemK ?N ?l ?e (by decide) ?k ?_ ?s; (case N => k_asm); (case l => k_mem); (case e => rfl); (case k => decide); (case s => rfl); k_whole)))
local macro_rules | `(tactic| walk_at "subscriptTail Name Name ref int") => `(tactic| (k_here; k_dflt (refine' itemK ?N ?l ?e (by decide) ?k ?_ ?s; (case N => k_asm); (case l => k_mem); (case e => rfl); (case k => decide); (case s => rfl); k_whole)))
local macro_rules | `(tactic| walk_at "CutS") => `(tactic| first | (with_reducible rename (∀ t h, eqv _ _ = false) => hE9; refine' cutS_s ?c ?F ?N ?P; (case F => k_asm); (case c => decide); (case N => first | k_asm | (refine' cb_drop ?cbN ?cbS; (case cbN => assumption); (case cbS => kcj_all))); (case P => exact hE9 _ _)) | (refine' cutS_n ?F ?N ?P; (case F => k_asm); (case N => first | k_asm | (refine' cb_drop ?cbN ?cbS; (case cbN => assumption); (case cbS => kcj_all))); (case P => exact eqv_none (by assumption))))
local macro_rules | `(tactic| walk_at "binaryOp Add int int") => `(tactic| (k_here; refine' add_lit ?ee ?_; (case ee => (simp only [Int.reduceAdd]; exact rfl))))
local macro_rules | `(tactic| k_mem) => `(tactic| ((repeat (first | exact List.Mem.head _ | refine List.Mem.tail _ ?_ | refine List.mem_append_right _ ?_)); done))
local macro_rules | `(tactic| walk_at "call ref") => `(tactic| (k_here; (with_reducible show wpAny _ _ (call (Value.ref 81) _ _) _ _ _); (with_reducible rename ((_ && _) = _) => hr9); k_dflt (refine' loc_eqF ?d ?f ?k ?B ?F ?X ?N ?T ?hx ?hdx ?hy ?hdy hr9 ?_; (case d => k_room); (case f => exact rfl); (case k => exact rfl); (case B => k_asm); (case F => k_asm); (case X => k_asm); (case N => k_asm); (case T => k_asm); (case hx => k_mem); (case hdx => k_mem); (case hy => k_mem); (case hdy => k_mem); k_whole); intro h' tk' F' N'; (try k_sweep)))
local macro_rules | `(tactic| walk_at "call ref") => `(tactic| (k_here; (with_reducible show wpAny _ _ (call (Value.ref 88) _ _) _ _ _); (with_reducible rename ((_ && _) = _) => hr9); k_dflt (refine' loc_neT ?B ?F ?X ?N ?T ?hx ?hdx ?hy ?hdy hr9 ?_; (case B => k_asm); (case F => k_asm); (case X => k_asm); (case N => k_asm); (case T => k_asm); (case hx => k_mem); (case hdx => k_mem); (case hy => k_mem); (case hdy => k_mem); k_whole); intro h' tk' F' N'; (try k_sweep)))
local macro_rules | `(tactic| walk_at "subscriptTail Name Slice ref ref") => `(tactic| (k_here; (with_reducible show wpAny _ _ (subscriptTail _ (PySem.Expr.Slice _ _ none _) (Value.ref _) (Value.ref _)) _ _ _); k_dflt (refine' W.kmk_slice_lit ?F ?N ?l ?p ?q ?e ?_ ?s ?t ?z; (case F => k_asm); (case N => k_asm); (case l => (refine News.isList ?n9 ?m9; (case n9 => k_asm); (case m9 => k_mem))); (case p => kmk_part); (case q => kmk_part); (case e => with_reducible first | exact pickD1 _ _ _ _ _ | exact pickD2 _ _ _ _ _ | exact pickD3 _ _ _ _ _ | exact pickD4 _ _ _ _ _ | exact pickD5 _ _ _ _ _ | exact pickU0 _ _ _ _ _ | exact pickU1 _ _ _ _ _ | exact pickU2 _ _ _ _ _ | exact pickU3 _ _ _ _ _ | exact pickU4 _ _ _ _ _); (case s => with_unfolding_all rfl); (case t => kmk_pure); (case z => kmk_size)); intro D' h' F' N' l1; (try k_lt l1); (try k_sweep)))
local macro_rules | `(tactic| walk_at "CmpBack") => `(tactic| (with_reducible show W.CmpBack _ (Value.bool _) _; dsimp only [W.CmpBack]))
set_option maxHeartbeats 8000000 in
theorem segK {w : World} {base h₀ : Heap} {fa : Addr} {cd : Value} {L : Addr} {m : Str → Option Value} {news : List (Addr × Obj)} {s : Shared} {Q : Flow → Shared → Prop} {E : Value → Shared → Prop} {mg mb : Str → Option Value} {mean : ExcName → Option Value} {p : Program} {loose : List Str}
   {pl : Nm} {os ot ov om : P2}{q9 pp : Addr} {n : Nat} {i : Int} {t : Tok} {l x y z dx dy dz u : Addr} {du : P2} {ps : Array Value} {d1 d2 d3 d4 D : Addr} {o1 o2 o3 o4 oD : Obj} {r1 r2 r3 r4 : P2}{a1 a2 a3 a4 a5 a6 b1 b2 b3 b4 b5 b6 c1 c2 c3 c4 c5 c6 v1 v2 : Tok} {g1 g2 g3 g4 : Option Value}
   (B : Below callerA base [] h₀) (F : Fr h₀ L s.heap (fun y0 => if y0 = Str.ofString "unlike" then g1 else if y0 = Str.ofString "five" then g2 else if y0 = Str.ofString "turned" then g3 else if y0 = Str.ofString "place" then g4 else if y0 = Str.ofString "parts" then some (.ref pp) else if y0 = Str.ofString "names" then some (.ref q9) else if y0 = Str.ofString "due" then some (ovv du) else if y0 = Str.ofString "told" then some (.ref u) else if y0 = Str.ofString "bare" then some (.ref z) else if y0 = Str.ofString "other" then some (.ref y) else if y0 = Str.ofString "here" then some (.ref x) else if y0 = Str.ofString "data" then some (.ref D) else if y0 = Str.ofString "variants" then some (.ref d4) else if y0 = Str.ofString "territories" then some (.ref d3) else if y0 = Str.ofString "scripts" then some (.ref d2) else if y0 = Str.ofString "languages" then some (.ref d1) else if y0 = Str.ofString "modifier" then some (ovv om) else if y0 = Str.ofString "variant" then some (ovv ov) else if y0 = Str.ofString "territory" then some (ovv ot) else if y0 = Str.ofString "written" then some (ovv os) else if y0 = Str.ofString "language" then some (.str (Nm.x pl) (Nm.t pl)) else if y0 = Str.ofString "numbers" then some (.ref l) else if y0 = Str.ofString "setting" then some (.int i t) else m y0)) (X₀ : (hd.heap_39 w.params).In h₀) (N : News h₀ L s.heap ((pp, W.listOf #[.str (Nm.x pl) (Nm.t pl), ovv ot, ovv os, ovv ov, ovv om] n) :: (z, instObj 177 dz) :: (dz, dictOf (locEs w c1 c2 c3 c4 c5 c6 (ovv (some pl)) (ovv ot) (ovv os) (ovv ov) (ovv om) .none) 6) :: (y, instObj 177 dy) :: (dy, dictOf (locEs w b1 b2 b3 b4 b5 b6 (.str (Str.ofString "de") v1) (.str (Str.ofString "AT") v2) .none .none .none (.ref D)) 6) :: (x, instObj 177 dx) :: (dx, dictOf (locEs w a1 a2 a3 a4 a5 a6 (ovv (some pl)) (ovv ot) (ovv os) (ovv ov) (ovv om) (.ref D)) 6) :: (D, oD) :: (d4, o4) :: (d3, o3) :: (d2, o2) :: (d1, o1) :: (105, PySem.W.X.tableObj ps) :: [])) (T : Top p loose mean mg mb h₀)
   
   (k : ∀ h' tk', Fr h₀ L h' (fun y0 => if y0 = Str.ofString "unlike" then g1 else if y0 = Str.ofString "five" then g2 else if y0 = Str.ofString "turned" then g3 else if y0 = Str.ofString "place" then g4 else if y0 = Str.ofString "parts" then some (.ref pp) else if y0 = Str.ofString "names" then some (.ref q9) else if y0 = Str.ofString "due" then some (ovv du) else if y0 = Str.ofString "told" then some (.ref u) else if y0 = Str.ofString "bare" then some (.ref z) else if y0 = Str.ofString "other" then some (.ref y) else if y0 = Str.ofString "here" then some (.ref x) else if y0 = Str.ofString "data" then some (.ref D) else if y0 = Str.ofString "variants" then some (.ref d4) else if y0 = Str.ofString "territories" then some (.ref d3) else if y0 = Str.ofString "scripts" then some (.ref d2) else if y0 = Str.ofString "languages" then some (.ref d1) else if y0 = Str.ofString "modifier" then some (ovv om) else if y0 = Str.ofString "variant" then some (ovv ov) else if y0 = Str.ofString "territory" then some (ovv ot) else if y0 = Str.ofString "written" then some (ovv os) else if y0 = Str.ofString "language" then some (.str (Nm.x pl) (Nm.t pl)) else if y0 = Str.ofString "numbers" then some (.ref l) else if y0 = Str.ofString "setting" then some (.int i t) else m y0) → News h₀ L h' ((pp, W.listOf #[.str (Nm.x pl) (Nm.t pl), ovv ot, ovv os, ovv ov, ovv om] n) :: (z, instObj 177 dz) :: (dz, dictOf (locEs w c1 c2 c3 c4 c5 c6 (ovv (some pl)) (ovv ot) (ovv os) (ovv ov) (ovv om) .none) 6) :: (y, instObj 177 dy) :: (dy, dictOf (locEs w b1 b2 b3 b4 b5 b6 (.str (Str.ofString "de") v1) (.str (Str.ofString "AT") v2) .none .none .none (.ref D)) 6) :: (x, instObj 177 dx) :: (dx, dictOf (locEs w a1 a2 a3 a4 a5 a6 (ovv (some pl)) (ovv ot) (ovv os) (ovv ov) (ovv om) (.ref D)) 6) :: (D, oD) :: (d4, o4) :: (d3, o3) :: (d2, o2) :: (d1, o1) :: (105, PySem.W.X.tableObj ps) :: []) → Q (.ret (.bool true)) {s with heap := h', toks := tk'}) :
   wpAny (model Challenge.rw_nk0010_01.row.prog w) (callerA.deeper (lawEnv L fa cd)) (execs [lawSt 26] (lawEnv L fa cd)) Q E s := by
  have e26 : lawSt 26 = lawSt 26 := rfl
  conv at e26 => rhs; whnf
  rw [e26]
  clear e26
  have hr9 : (eqv (some pl) (some pl) && eqv ot ot && eqv os os && eqv ov ov && eqv om om) = true := by simp [eqv]
  repeat' (walk_at "STEP1")
  exact k _ _ (by assumption) (by assumption)
end
section
theorem off_Core : True := by
  w_top off
  exact trivial
theorem wp_execs_append {M : Model} {A : Around} {E : Value → Shared → Prop} {env : Env} {l₂ : List Stmt} {Q : Flow → Shared → Prop} {Γ : Ctx} (hΓ : Γ.In A) : ∀ (l₁ : List Stmt) (p : Pos) (s : Shared),
    Sem.wp M Γ (execs l₁ env) (fun fl _ s' => match fl with | .next => wpAny M A (execs l₂ env) Q E s' | f => Q f s') (fun e _ s' => E e s') p s → Sem.wp M Γ (execs (l₁ ++ l₂) env) (fun f _ s' => Q f s') (fun e _ s' => E e s') p s
  | [], p, s, h => (show wpAny M A (execs l₂ env) Q E s from h) Γ p hΓ
  | st :: r, p, s, h => by
    rw [execs_cons, Sem.wp_bind'] at h
    rw [List.cons_append, execs_cons, Sem.wp_bind']
    refine Sem.wp_mono M Γ _ (fun f p' s' h' => ?_) (fun _ _ _ h' => h') _ _ h
    cases f <;> first | exact wp_execs_append hΓ r p' s' h' | exact h'
theorem execs_app {M : Model} {A : Around} {E : Value → Shared → Prop} {s : Shared} {env : Env} {l₁ l₂ : List Stmt} {Q : Flow → Shared → Prop}
    (h : wpAny M A (execs l₁ env) (fun fl s' => match fl with | .next => wpAny M A (execs l₂ env) Q E s' | f => Q f s') E s) : wpAny M A (execs (l₁ ++ l₂) env) Q E s := fun Γ p hΓ => wp_execs_append hΓ l₁ p s (h Γ p hΓ)
theorem two_x {o : P2} {a b : Option Str} {c : Str} (h : Two a b o) (ha : a ≠ some c) (hb : b ≠ some c) : o.map Nm.x ≠ some c := by
  rcases h with h | h <;> rw [h] <;> assumption
theorem two_sm {o : P2} {a b : Option Str} (h : Two a b o) (ha : (a.map Str.length).getD 0 ≤ 64) (hb : (b.map Str.length).getD 0 ≤ 64) : Sm o := by
  rintro p rfl
  rcases h with rfl | rfl
  · exact ha
  · exact hb
set_option maxHeartbeats 8000000 in
theorem core {w : World} {base h₀ : Heap} {fa : Addr} {cd : Value} {L : Addr} {m : Str → Option Value} {s : Shared} {Q : Flow → Shared → Prop} {E : Value → Shared → Prop} {mg mb : Str → Option Value} {mean : ExcName → Option Value} {p : Program} {loose : List Str} {sc : Addr} {oc : Obj} {vs : List Value} {ns : List Int}
   (B : Below callerA base [] h₀) (F : Fr h₀ L s.heap m) (X₀ : (hd.heap_39 w.params).In h₀) (N : News h₀ L s.heap ((L + 1, oc) :: (105, PySem.W.X.tableObj #[]) :: [])) (T : Top p loose mean mg mb h₀)
   (hoc : oc.data = .cell (some (.ref sc))) (hL : h₀.IsList sc vs.toArray) (hI : IntsAre vs ns) (hlen : ¬ (63 : Int) < ns.length) (hG : AllBare s.gens)
   (k : ∀ s' m' ps', PsOk gpos ps' → Fr h₀ L s'.heap m' → News h₀ L s'.heap ((105, PySem.W.X.tableObj ps') :: []) → AllBare s'.gens → s'.os = s.os → Q (.ret (.bool true)) s') :
   wpAny (model Challenge.rw_nk0010_01.row.prog w) (callerA.deeper (lawEnv L fa cd)) (execs lawBody (lawEnv L fa cd)) Q E s := by
  have eb : lawBody = [lawSt 0, lawSt 1] ++ ([lawSt 2, lawSt 3, lawSt 4, lawSt 5, lawSt 6] ++ ([lawSt 7, lawSt 8, lawSt 9, lawSt 10, lawSt 11] ++ ([lawSt 12, lawSt 13, lawSt 14] ++ ([lawSt 15, lawSt 16] ++ ([lawSt 17, lawSt 18] ++ ([lawSt 19] ++ ([lawSt 20, lawSt 21, lawSt 22] ++ ([lawSt 23, lawSt 24] ++ ([lawSt 25] ++ [lawSt 26]))))))))) := rfl
  rw [eb]
  clear eb
  refine execs_app (segA B F X₀ N T hoc hL hI hlen ?_)
  clear F N
  intro i t l i0 i1 i2 i3 t0 t1 t2 t3 h' tk' F N
  refine execs_app (segB B F X₀ N T ?_)
  clear F N
  intro pl ot os ov om h' tk' S F N
  have nl1 : Nm.x pl ≠ Str.ofString "other" := fun e => two_x (setup_l S) (c := Str.ofString "other") (by decide) (by decide) (congrArg some e)
  have nl2 : Nm.x pl ≠ Str.ofString "" := fun e => two_x (setup_l S) (c := Str.ofString "") (by decide) (by decide) (congrArg some e)
  have hk1 := two_x (setup_l S) (c := Str.ofString "other") (by decide) (by decide)
  have hk2 := two_x S.s (c := Str.ofString "other") (by decide) (by decide)
  have hk3 := two_x S.t (c := Str.ofString "other") (by decide) (by decide)
  have hk4 := two_x S.v (c := Str.ofString "other") (by decide) (by decide)
  have sm1 := two_sm (setup_l S) (by decide) (by decide)
  have sm2 := two_sm S.s (by decide) (by decide)
  have sm3 := two_sm S.t (by decide) (by decide)
  have sm4 := two_sm S.v (by decide) (by decide)
  have sm5 := two_sm (setup_m S) (by decide) (by decide)
  refine execs_app (segC B F X₀ N T nl1 ?_)
  clear F N
  intro d1 d2 d3 d4 D o1 o2 o3 o4 oD r1 r2 r3 r4 h' tk' hT1 hs1 hl1 hT2 hs2 hl2 hT3 hs3 hl3 hT4 hs4 hl4 hDI F N
  refine execs_app (segD B F X₀ N T ?_)
  clear F N
  intro x dx y dy z dz a1 a2 a3 a4 a5 a6 b1 b2 b3 b4 b5 b6 c1 c2 c3 c4 c5 c6 v1 v2 h' tk' F N
  have N5 := cb_drop (news := (d4, o4) :: (d3, o3) :: (d2, o2) :: (d1, o1) :: (z, instObj 177 dz) :: (dz, dictOf (locEs w c1 c2 c3 c4 c5 c6 (ovv (some pl)) (ovv ot) (ovv os) (ovv ov) (ovv om) .none) 6) :: (y, instObj 177 dy) :: (dy, dictOf (locEs w b1 b2 b3 b4 b5 b6 (.str (Str.ofString "de") v1) (.str (Str.ofString "AT") v2) .none .none .none (.ref D)) 6) :: (x, instObj 177 dx) :: (dx, dictOf (locEs w a1 a2 a3 a4 a5 a6 (ovv (some pl)) (ovv ot) (ovv os) (ovv ov) (ovv om) (.ref D)) 6) :: (D, oD) :: (105, PySem.W.X.tableObj #[]) :: []) N (by kcj_all)
  clear N
  refine execs_app (segE (oD := oD) B F X₀ N5 T hT1 hs1 hl1 hT2 hs2 hl2 hT3 hs3 hl3 hT4 hs4 hl4 hk2 hk3 hk4 ?_)
  clear F N5
  intro u n items h' tk' hi F N
  have mkj : MkJ items := mkJ_of hi (by
    intro o ho
    simp only [List.mem_cons, List.not_mem_nil, or_false] at ho
    rcases ho with rfl | rfl | rfl | rfl
    · exact lk_sm hs2
    · exact lk_sm hs3
    · exact lk_sm hs4
    · exact sm5) (Nat.le_refl 4)
  refine execs_app (segF (oD := oD) B F X₀ N T hT1 hs1 hl1 hT2 hs2 hl2 hT3 hs3 hl3 hT4 hs4 hl4 hk1 mkj ?_)
  clear F
  intro du h' tk' hdu F N
  have N7 := cb_drop (news := ((z, instObj 177 dz) :: (dz, dictOf (locEs w c1 c2 c3 c4 c5 c6 (ovv (some pl)) (ovv ot) (ovv os) (ovv ov) (ovv om) .none) 6) :: (y, instObj 177 dy) :: (dy, dictOf (locEs w b1 b2 b3 b4 b5 b6 (.str (Str.ofString "de") v1) (.str (Str.ofString "AT") v2) .none .none .none (.ref D)) 6) :: (x, instObj 177 dx) :: (dx, dictOf (locEs w a1 a2 a3 a4 a5 a6 (ovv (some pl)) (ovv ot) (ovv os) (ovv ov) (ovv om) (.ref D)) 6) :: (D, oD) :: (d4, o4) :: (d3, o3) :: (d2, o2) :: (d1, o1) :: (105, PySem.W.X.tableObj #[]) :: [])) N (by kcj_all)
  clear N
  refine execs_app (segG (news := []) B F X₀ N7 T hDI hT1 hs1 hl1 hT2 hs2 hl2 hT3 hs3 hl3 hT4 hs4 hl4 hk1 hk2 hk3 hk4 sm5 (.inl rfl) hG (fun v hv => eqv_same (hv.trans (setup_disp S hi)) hdu) ?_)
  clear F N7 hG
  intro s' ps hps F N hG hos
  refine execs_app (segH (news := []) B F X₀ N T hDI hT1 hs1 hl1 hT2 hs2 hl2 hT3 hs3 hl3 hT4 hs4 hl4 hk1 hk2 hk3 hk4 nl2 ?_)
  clear F N
  intro h' tk' q9 F N
  refine execs_app (segI (news := []) (r1 := r1) (r2 := r2) (r3 := r3) (r4 := r4) B F X₀ N T S (by
    intro o ho
    simp only [List.mem_cons, List.not_mem_nil, or_false] at ho
    rcases ho with rfl | rfl | rfl | rfl | rfl
    · exact sm1
    · exact sm3
    · exact sm2
    · exact sm4
    · exact sm5) ?_)
  clear F N
  intro pp n9 h' tk' F N
  refine execs_app (segJ (news := []) (r1 := r1) (r2 := r2) (r3 := r3) (r4 := r4) B F X₀ N T S ?_)
  clear F N
  intro h' tk' g1 g2 g3 g4 F N
  refine segK (news := []) (r1 := r1) (r2 := r2) (r3 := r3) (r4 := r4) B F X₀ N T ?_
  clear F N
  intro h' tk' F N
  exact k _ _ _ hps F (cb_drop N (by kcj_all)) hG hos
end
section
theorem off_Main : True := by
  w_top off
  exact trivial
def emptyP : Program := { main := { body := [.Import [⟨Str.ofString "sys", none, ⟨0, 0, 0, 0⟩⟩] ⟨0, 0, 0, 0⟩], scope := default, futureAnnotations := false, file := Str.ofString "" }, modules := [], parses := [], absent := [] }
theorem ns_hide {h : Heap} {a b : Addr} {m : Str → Option Value} (hn : h.Ns a m) (ne : a ≠ b) : (h.hide b).Ns a m :=
  let ⟨o, es, ep, e, r⟩ := hn
  ⟨o, es, ep, (Heap.hide_ne h ne).trans e, r⟩
theorem top_hide {p : Program} {loose : List Str} {mean : ExcName → Option Value} {mg mb : Str → Option Value} {h : Heap} {ps : Array Value} (T : Top p loose mean mg mb h) (TB : h.get? 105 = some (PySem.W.X.tableObj ps)) :
    Top emptyP (loose ++ ((recsOf p).map (·.name) ++ ((litsOf p).map (·.1) ++ (clssOf p loose).map (·.name)))) mean mg mb (h.hide 105) where
  g := ns_hide T.g (by decide)
  b := ns_hide T.b (by decide)
  nolimit := let ⟨mc, a, b⟩ := T.nolimit; ⟨mc, ns_hide a (by decide), b⟩
  nodigits := let ⟨mc, a, b⟩ := T.nodigits; ⟨mc, ns_hide a (by decide), b⟩
  fn := fun d hd => by cases hd
  own := fun o ho => by cases ho
  const := fun x d h => by cases h
  free := fun x h1 h2 _ _ _ => by
    simp only [List.mem_append, not_or] at h2
    exact T.free x h1 h2.1 h2.2.1 h2.2.2.1 h2.2.2.2
  builtins := T.builtins
  tab := fun d hd => by cases hd
  bmain := by
    obtain ⟨bm, ob, h1, h2, h3, h4, r⟩ := T.bmain
    refine ⟨bm, ob, h1, h2, (Heap.hide_ne h ?_).trans h3, h4, r⟩
    rintro rfl
    rw [TB] at h3
    cases h3
    cases h4
  seer := fun h => by cases h
theorem list_hide {h : Heap} {a : Addr} {vs ps : Array Value} (TB : h.get? 105 = some (PySem.W.X.tableObj ps)) (hl : h.IsList a vs) : (h.hide 105).IsList a vs := by
  obtain ⟨o, ho, r⟩ := hl
  refine ⟨o, (Heap.hide_ne h ?_).trans ho, r⟩
  rintro rfl
  rw [TB] at ho
  cases ho
  obtain ⟨_, n, e⟩ := r
  cases e
theorem fr_hide {h h₁ : Heap} {L : Addr} {m : Str → Option Value} (F : Fr h L h₁ m) : Fr (h.hide 105) L h₁ m := ⟨F.ns, fun b o e => F.keep b o (Heap.of_hide e), by rw [Heap.hide_size]; exact F.above⟩
theorem news_hide {h h₁ : Heap} {L : Addr} {m : Str → Option Value} {news : List (Addr × Obj)} {ps : Array Value} (F : Fr h L h₁ m) (TB : h.get? 105 = some (PySem.W.X.tableObj ps)) (N : News h L h₁ news) : News (h.hide 105) L h₁ (news ++ [(105, PySem.W.X.tableObj ps)]) := by
  intro p hp
  rcases List.mem_append.mp hp with hp | hp
  · refine ⟨(N p hp).1, (N p hp).2.1, ?_⟩
    cases q : (h.hide 105).get? p.1 with
    | none => rfl
    | some o => have := Heap.of_hide q; rw [(N p hp).2.2] at this; cases this
  · rw [List.mem_singleton.mp hp]
    exact ⟨F.keep _ _ TB, Nat.ne_of_lt (Nat.lt_of_lt_of_le (Heap.lt_size TB) F.above), Heap.hide_self _ _⟩
theorem in_hide {K : Frag} {h : Heap} (X : K.In h) (hn : K.lookup 105 = none) : K.In (h.hide 105) := fun a o e => by
  refine (Heap.hide_ne h ?_).trans (X a o e)
  rintro rfl
  rw [hn] at e
  cases e
theorem mem_of_lookup : ∀ {K : Frag} {a : Addr} {o : Obj}, K.lookup a = some o → a ∈ K.map (·.1)
  | [], _, _, h => by cases h
  | (b, x) :: r, a, o, h => by
    by_cases q : a = b
    · subst q; exact .head _
    · rw [List.lookup_cons, beq_eq_false_iff_ne.mpr q] at h
      exact .tail _ (mem_of_lookup h)
theorem lookup_none {K : Frag} {as : List Addr} (e : as = K.map (·.1)) (hn : as.contains 105 = false) : K.lookup 105 = none := by
  cases q : K.lookup 105 with
  | none => rfl
  | some o =>
    have h := mem_of_lookup q
    rw [← e] at h
    rw [List.contains_iff_mem.mpr h] at hn
    cases hn
theorem old_hide {w : World} {h h' : Heap} {L : Addr} {m : Str → Option Value} {ps : Array Value} (X : (hd.heap_39 w.params).In h) (X' : (hd.heap_39 w.params).In h') (TB : h.get? 105 = some (PySem.W.X.tableObj #[])) (F : Fr (h.hide 105) L h' m)
    (TB' : h'.get? 105 = some (PySem.W.X.tableObj ps)) (hps : PsOk gpos ps) : OldK h h' := by
  have t0 := (code109_is X TB trivial).2
  have t1 := (code109_is X' TB' hps.triples).2
  refine OldK.step_table (OldK.refl h) (c := 109) (P := 105) (more := ps) t0 t0 (by simpa using t1) ?_ (by decide)
  intro b o hb e
  exact F.keep b o ((Heap.hide_ne h hb).trans e)
set_option maxHeartbeats 8000000 in
theorem k105 (P : Params) : (hd.heap_39 P).lookup 105 = none := by
  refine lookup_none (K := hd.heap_39 P) (as := (hd.heap_39 P).map (·.1)) rfl ?_
  rfl
set_option maxHeartbeats 8000000 in
theorem main_law : PySem.Challenge.rw_nk0010_01.Holds := hd (by
  k_fill
  intro w s₀ s₁ mg mb G Y fa o pm cd doc dV kV ho hd hcd hD hmg hg args vals as hpre hlay hrd hwl hlo
  have KX := Y.1
  have TB := Y.2
  clear Y
  lge_behind G ho hd hcd hD hmg hpre hlay hrd hwl hlo cd
  all_goals (try (with_reducible rename LGe.Mark => lgeM9); clear lgeM9)
  rename Fr _ _ _ _ => F
  rename News _ _ _ _ => N
  rename Top _ _ _ _ _ _ => T
  rename (_ : Obj).data = _ => hoc
  rename Heap.IsList _ _ _ => hL
  rename IntsAre _ _ => hI
  rename ¬ (_ : Int) < _ => hlen
  have KX9 : (hd.heap_39 w.params).In s₁.heap := KX
  have F9 := fr_hide F
  have N9 := news_hide F TB N
  have T9 := top_hide T TB
  have X9 := in_hide KX9 (k105 w.params)
  have L9 := list_hide TB hL
  refine wpAny_noRaise ?_
  refine core (below_caller _) F9 X9 N9 T9 hoc L9 hI hlen (AllBare.of_eq hg) ?_
  intro s' m' ps' hps F' N' hG' hos
  have TB' := (N' _ (.head _)).1
  have X1 := X9.keeps F'.keep
  refine ⟨.inl ⟨_, _, [], rfl, ?_, .bool true, ?_, ?_⟩, ?_, ?_, hG'⟩
  · skip
    intro cls
    rfl
  · skip
    wrow_post
  · skip
    intro h9
    exact ⟨.nil, fun a ha => by cases ha⟩
  · skip
    exact old_hide KX9 X1 TB F' TB' hps
  · skip
    exact hos)
end
end Mine
theorem PySem.Challenge.cw_nk0010_01_holds : PySem.Challenge.rw_nk0010_01.Holds := by
  exact Mine.main_law
