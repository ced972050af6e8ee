import PyProof.Rows.All
import Wide.All
import OpenK.AllK
import Wide.FinOn
import PySem.Challenge.RW_ph0092_01
set_option Elab.async false
set_option linter.unusedVariables false
-- part Hd
section
open PySem PySem.W PyProof.Rows
set_option Elab.async false
set_option maxRecDepth 100000
set_option maxHeartbeats 8000000
namespace Mine
open_top hd for PySem.Challenge.rw_ph0092_01
end Mine
end
-- part Base
section
open PySem PySem.W PySem.Calls PyProof.Rows
set_option Elab.async false
set_option maxRecDepth 100000
set_option maxHeartbeats 4000000
namespace Mine

abbrev Ext (h h' : Heap) : Prop := ∀ b o, h.get? b = some o → h'.get? b = some o
theorem Ext.refl (h : Heap) : Ext h h := fun _ _ e => e
theorem Ext.trans {a b c : Heap} (x : Ext a b) (y : Ext b c) : Ext a c := fun p o e => y p o (x p o e)

/-- known locals -/
def Kn (m : Str → Option Value) (l : List (Str × Value)) : Prop := ∀ p ∈ l, m p.1 = some p.2
inductive Put (x : Str) : List (Str × Value) → List (Str × Value) → List (Str × Value) → Prop
  | nil {acc : List (Str × Value)} : Put x [] acc acc
  | drop {w : Value} {r acc l' : List (Str × Value)} : Put x r acc l' → Put x ((x, w) :: r) acc l'
  | keep {y : Str} {w : Value} {r acc l' : List (Str × Value)} : (y == x) = false → Put x r ((y, w) :: acc) l' → Put x ((y, w) :: r) acc l'
theorem Put.ok {m : Str → Option Value} {x : Str} {v : Value} {l acc l' : List (Str × Value)} (P : Put x l acc l') : Kn m l → Kn (fun y => if y = x then some v else m y) acc → Kn (fun y => if y = x then some v else m y) l' := by
  induction P with
  | nil => exact fun _ k => k
  | drop _ ih => exact fun k a => ih (fun p hp => k p (.tail _ hp)) a
  | @keep y w r acc l' e _ ih =>
    intro k a
    refine ih (fun p hp => k p (.tail _ hp)) fun p hp => ?_
    cases hp with
    | head =>
      show (if y = x then some v else m y) = some w
      rw [if_neg (by simpa using e)]; exact k _ (.head _)
    | tail _ h => exact a p h
theorem Kn.put {m : Str → Option Value} {x : Str} {v : Value} {l l' : List (Str × Value)} (k : Kn m l) (P : Put x l [(x, v)] l') : Kn (fun y => if y = x then some v else m y) l' :=
  P.ok k fun p hp => by
    cases hp with
    | head => simp
    | tail _ h => cases h
theorem Kn.sub {m : Str → Option Value} {l l' : List (Str × Value)} (k : Kn m l) (h : ∀ p ∈ l', p ∈ l) : Kn m l' := fun p hp => k p (h p hp)

theorem mem0 {α : Type} {a : α} {l : List α} : a ∈ a :: l := List.mem_cons_self
theorem mem1 {α : Type} {a b : α} {l : List α} (h : a ∈ l) : a ∈ b :: l := List.mem_cons_of_mem _ h
theorem all0 {α : Type} {p : α → Prop} : ∀ a ∈ ([] : List α), p a := fun _ h => nomatch h
theorem all1 {α : Type} {p : α → Prop} {a : α} {l : List α} (h : p a) (r : ∀ a ∈ l, p a) : ∀ b ∈ a :: l, p b := List.forall_mem_cons.mpr ⟨h, r⟩
theorem kn0 {m : Str → Option Value} : Kn m [] := fun _ h => nomatch h
theorem kn1 {m : Str → Option Value} {x : Str} {v : Value} {l : List (Str × Value)} (h : m x = some v) (r : Kn m l) : Kn m ((x, v) :: l) := List.forall_mem_cons.mpr ⟨h, r⟩
/-- what the module's top gives -/
structure Gd (w : World) (mg mb : Str → Option Value) (h : Heap) : Prop where
  X : (hd.heap_39 w.params).In h
  g : h.Ns mainGlobals mg
  b : h.Ns builtinsNs mb
  nl : h.NoLimit
  bi : ∀ x : Str, x ≠ "__name__" → mb x = bootBuiltins x
  bm : ∃ bm ob, mg "__builtins__" = some (.ref bm) ∧ bm ≠ builtinsNs ∧ h.get? bm = some ob ∧ ob.cls = .type "module" ∧ ob.dict = some builtinsNs ∧ ob.data = .plain
theorem Gd.keeps {w : World} {mg mb : Str → Option Value} {h h' : Heap} (G : Gd w mg mb h) (k : Ext h h') : Gd w mg mb h' :=
  ⟨G.X.keeps k, G.g.keeps k, G.b.keeps k, G.nl.keeps k, G.bi, let ⟨bm, ob, a, b, c, r⟩ := G.bm; ⟨bm, ob, a, b, k _ _ c, r⟩⟩

structure Ok (A : Around) (d : Nat) : Prop where
  hh : A.handled = none
  dp : A.depth + d < recursionLimit
  un : A.units + 8 * d < cLine
theorem Ok.deeper {A : Around} {d : Nat} {env : Env} (o : Ok A (d + 1)) : Ok (A.deeper env) d :=
  ⟨o.hh, by have := o.dp; show A.depth + 1 + d < _; omega, by have := o.un; show A.units + 3 + 8 * d < _; omega⟩
theorem Ok.le {A : Around} {d d' : Nat} (o : Ok A d) (h : d' ≤ d) : Ok A d' := ⟨o.hh, by have := o.dp; omega, by have := o.un; omega⟩

def mk (s : Shared) (h : Heap) (t : Nat) : Shared := { s with heap := h, toks := t }
def NoE : Value → Shared → Prop := fun _ _ => False
theorem passesNoE {M : Model} {A : Around} {env : Env} : PassesOwn M A env NoE := fun _ _ h => h.elim
theorem wpAny_any {α : Type} {M : Model} {A : Around} {t : Sem α} {Q : α → Shared → Prop} {E : Value → Shared → Prop} {s : Shared} (h : wpAny M A t Q NoE s) : wpAny M A t Q E s := wpAny_mono h (fun _ _ x => x) fun _ _ x => x.elim

section
variable {prog : Program} {w : World} {A : Around} {s : Shared} {h : Heap} {t : Nat} {name : Str} {scope : Scope} {L a : Addr} {cd : Value} {h₀ : Heap} {m : Str → Option Value} {news : List (Addr × Obj)} {l l' : List (Str × Value)} {mg mb : Str → Option Value} {env : Env} {E : Value → Shared → Prop}

theorem ldK {x : Str} {pos : Pos} {v : Value} {Q : Value → Shared → Prop} (F : Fr h₀ L h m) (K : Kn m l) (hm : (x, v) ∈ l) (hq : Q v (mk s h t))
    (hL : env.locals = L) (hk : env.scope.kind = .function) (hl : env.kindOf x = some .local) (hd : (x == ("__debug__" : Str)) = false) :
    wpAny (model prog w) A (eval (.Name x pos) env) Q E (mk s h t) := wpAny_Name (s := mk s h t) (wpAny_loadName_local hk hl (hL ▸ F.ns) (K _ hm) hq) hd
theorem ldnK {x : Str} {v : Value} {Q : Value → Shared → Prop} (F : Fr h₀ L h m) (K : Kn m l) (hm : (x, v) ∈ l) (hq : Q v (mk s h t))
    (hL : env.locals = L) (hk : env.scope.kind = .function) (hl : env.kindOf x = some .local) :
    wpAny (model prog w) A (loadName env x) Q E (mk s h t) := wpAny_loadName_local (s := mk s h t) hk hl (hL ▸ F.ns) (K _ hm) hq
theorem stK {x : Str} {v : Value} {Q : Unit → Shared → Prop} (F : Fr h₀ L h m) (K : Kn m l) (N : News h₀ L h news) (P : Put x l [(x, v)] l')
    (hq : ∀ h' m' t', Fr h₀ L h' m' → Kn m' l' → News h₀ L h' news → Q () (mk s h' t'))
    (hL : env.locals = L) (hk : env.scope.kind = .function) (hl : env.kindOf x = some .local) :
    wpAny (model prog w) A (storeName env x v) Q E (mk s h t) := by
  subst hL
  exact wpAny_storeName_local (s := mk s h t) hl F.ns (fun h' hn hs => hq h' _ _ (F.set hn hs) (K.put P) (N.set hs))
    (by show (env.scope.kind == .class || (env.scope.kind == .module && env.locals != env.globals)) = false; rw [hk]; rfl)
theorem glF {x : Str} {pos : Pos} {v : Value} {Q : Value → Shared → Prop} (F : Fr h₀ L h m) (G : Gd w mg mb h₀) (e : mg x = some v) (hq : Q v (mk s h t))
    (hg : env.globals = mainGlobals) (hk : env.scope.kind = .function) (hx : env.kindOf x = some .globalImplicit) (hd : (x == ("__debug__" : Str)) = false) :
    wpAny (model prog w) A (eval (.Name x pos) env) Q E (mk s h t) := Name_function_global (s := mk s h t) hk hx (loadGlobal_global (hg ▸ G.g.keeps F.keep) e hq) hd
theorem glB {x : Str} {pos : Pos} {v : Value} {Q : Value → Shared → Prop} (F : Fr h₀ L h m) (G : Gd w mg mb h₀) (e : mg x = none ∧ mb x = some v) (hq : Q v (mk s h t))
    (hg : env.globals = mainGlobals) (hb : env.builtins = builtinsNs) (hk : env.scope.kind = .function) (hx : env.kindOf x = some .globalImplicit) (hd : (x == ("__debug__" : Str)) = false) :
    wpAny (model prog w) A (eval (.Name x pos) env) Q E (mk s h t) := Name_function_global (s := mk s h t) hk hx (loadGlobal_builtin (hg ▸ G.g.keeps F.keep) e.1 (hb ▸ G.b.keeps F.keep) e.2 hq) hd
/-- cells -/
abbrev cel (v : Value) : Obj := { cls := .type "cell", data := .cell (some v) }
theorem ldC {x : Str} {pos : Pos} {v : Value} {c : Addr} {Q : Value → Shared → Prop} (hc : env.cells.lookup x = some c) (ho : h.IsCell c (some v)) (hq : Q v (mk s h t))
    (hk : env.scope.kind = .function) (hl : env.kindOf x = some .cell) (hd : (x == ("__debug__" : Str)) = false) :
    wpAny (model prog w) A (eval (.Name x pos) env) Q E (mk s h t) := wpAny_Name (s := mk s h t) (wpAny_loadName_cell hk hl hc ho hq) hd
theorem ldFr {x : Str} {pos : Pos} {v : Value} {c : Addr} {Q : Value → Shared → Prop} (hc : env.cells.lookup x = some c) (ho : h.IsCell c (some v)) (hq : Q v (mk s h t))
    (hk : env.scope.kind = .function) (hl : env.kindOf x = some .free) (hd : (x == ("__debug__" : Str)) = false) (hn : (x == ("__classdict__" : Str)) = false) :
    wpAny (model prog w) A (eval (.Name x pos) env) Q E (mk s h t) := wpAny_Name (s := mk s h t) (wpAny_loadName_free hk hl hc ho hq hn) hd

/-- entering a def of the text's top that has no cells -/
theorem enter {qual : Str} {params : Arguments} {body : List Stmt} {dV kV doc pm cdv ct oc : Value} {an od : Option Addr} {osl : Array (Option Value)} {f : Addr} {args : Args} {binds : List (Str × Value)} {Q : Value → Shared → Prop}
    (G : Gd w mg mb h) (hroom : A.depth < recursionLimit)
    (hK : (hd.heap_39 w.params).lookup f = some ⟨oc, od, .func (fnOf name qual params body scope dV kV doc pm an cdv ct), osl⟩) (hcd : codeIn (hd.heap_39 w.params) cdv qual = true)
    (hbind : BindsTo (mk s h t) (fnOf name qual params body scope dV kV doc pm an cdv ct) args binds) (hloc : ∀ y ∈ binds, scope.names.lookup y.1 = some .local)
    (hkn : Kn (fun y => binds.reverse.lookup y) binds)
    (hq : ∀ h₁ m₁ t₁, Fr h h.objs.size h₁ m₁ → Kn m₁ binds → News h h.objs.size h₁ [] →
      wpAny (model prog w) (A.deeper (envOf qual scope h.objs.size f cdv)) (execs body (envOf qual scope h.objs.size f cdv))
        (fun fl s' => Q (match fl with | .ret v => v | _ => .none) s') NoE (mk s h₁ t₁))
    (hco : scope.isCoroutine = false) (hgen : scope.isGenerator = false) (hk : scope.kind = .function)
    (hcell : ∀ x ∈ scope.names, x.2 ≠ .cell) : wpAny (model prog w) A (call (.ref f) args.pos args.kw) Q E (mk s h t) := by
  refine wpAny_call ?_
  refine codeAny_call_def (s := mk s h t) (fd := fnOf name qual params body scope dV kV doc pm an cdv ct) (body := body) (binds := binds) hroom (G.X _ _ hK) rfl G.nl (codeRec_of G.X hcd) rfl hbind hcell hloc (fun h₁ hns hk₁ => ?_) hco hgen hk
  exact wpAny_mono (hq h₁ _ _ ⟨hns, hk₁, Nat.le_refl _⟩ hkn News.nil) (fun fl s' hl => hl) fun _ _ x => x.elim

theorem if_tt {P R : Prop} (p : P) : if true = true then P else R := p
theorem if_ff {P R : Prop} (p : R) : if false = true then P else R := p
/-- behind a call that keeps all -/
theorem after {h' : Heap} (F : Fr h₀ L h m) (k : Ext h h') : Fr h₀ L h' m := ⟨F.ns.keeps k, fun b o e => k b o (F.keep b o e), F.above⟩
theorem afterN {h' : Heap} (N : News h₀ L h news) (k : Ext h h') : News h₀ L h' news := fun p hp => ⟨k _ _ (N p hp).1, (N p hp).2⟩
theorem afterNew {h' : Heap} {r : Addr} {o : Obj} (F : Fr h₀ L h m) (N : News h₀ L h news) (k : Ext h h') (hr : h.get? r = none) (ho : h'.get? r = some o) : News h₀ L h' ((r, o) :: news) := by
  intro p hp
  cases hp with
  | head =>
    refine ⟨ho, ?_, ?_⟩
    · rintro rfl
      obtain ⟨oL, _, _, hL, _⟩ := F.ns
      rw [hr] at hL; cases hL
    · cases q : h₀.get? r with
      | none => rfl
      | some o' => rw [F.keep _ _ q] at hr; cases hr
  | tail _ hp => exact afterN N k p hp

theorem c_int {i : Int} {k : Nat} {pos : Pos} {Q : Value → Shared → Prop} (hq : ∀ t' u, Q (.int i u) (mk s h t')) : wpAny (model prog w) A (eval (.Constant (.int i) k pos) env) Q E (mk s h t) :=
  wpAny_Constant_int (s := mk s h t) (hq (t + 1) t)
theorem c_none {k : Nat} {pos : Pos} {Q : Value → Shared → Prop} (hq : Q .none (mk s h t)) : wpAny (model prog w) A (eval (.Constant .none k pos) env) Q E (mk s h t) := wpAny_pure hq
theorem c_bool {b : Bool} {k : Nat} {pos : Pos} {Q : Value → Shared → Prop} (hq : Q (.bool b) (mk s h t)) : wpAny (model prog w) A (eval (.Constant (.bool b) k pos) env) Q E (mk s h t) := wpAny_pure hq
section
variable {x y : Int} {tx ty : Tok} {Q : Value → Shared → Prop}
theorem i_add (hq : ∀ t' u, Q (.int (x + y) u) (mk s h t')) : wpAny (model prog w) A (binaryOp .Add (.int x tx) (.int y ty)) Q E (mk s h t) := add_int (s := mk s h t) (hq (t + 1) t)
theorem i_sub (hq : ∀ t' u, Q (.int (x - y) u) (mk s h t')) : wpAny (model prog w) A (binaryOp .Sub (.int x tx) (.int y ty)) Q E (mk s h t) := sub_int (s := mk s h t) (hq (t + 1) t)
theorem i_iadd (hq : ∀ t' u, Q (.int (x + y) u) (mk s h t')) : wpAny (model prog w) A (inplaceOp .Add (.int x tx) (.int y ty)) Q E (mk s h t) := iadd_int (s := mk s h t) (hq (t + 1) t)
theorem i_mod (hy : y ≠ 0) (hq : ∀ t' u, Q (.int (x.fmod y) u) (mk s h t')) : wpAny (model prog w) A (binaryOp .Mod (.int x tx) (.int y ty)) Q E (mk s h t) := mod_int (s := mk s h t) hy (hq (t + 1) t)
theorem i_fdiv (hy : y ≠ 0) (hp : y.natAbs < 1073741824) (hq : ∀ t' u, Q (.int (x.fdiv y) u) (mk s h t')) : wpAny (model prog w) A (binaryOp .FloorDiv (.int x tx) (.int y ty)) Q E (mk s h t) :=
  floordiv_int (s := mk s h t) hy (hq (t + 1) t) (.inl (PyProof.noPylong_small hp))
theorem i_lt (hq : Q (.bool (decide (x < y))) (mk s h t)) : wpAny (model prog w) A (compareOp .Lt (.int x tx) (.int y ty)) Q E (mk s h t) := lt_int hq
theorem i_gt (hq : Q (.bool (decide (y < x))) (mk s h t)) : wpAny (model prog w) A (compareOp .Gt (.int x tx) (.int y ty)) Q E (mk s h t) := gt_int hq
theorem i_ge (hq : Q (.bool (decide (y ≤ x))) (mk s h t)) : wpAny (model prog w) A (compareOp .GtE (.int x tx) (.int y ty)) Q E (mk s h t) := ge_int hq
theorem i_eq (hq : Q (.bool (x == y)) (mk s h t)) : wpAny (model prog w) A (compareOp .Eq (.int x tx) (.int y ty)) Q E (mk s h t) := eq_int hq
theorem i_ne (hq : Q (.bool (x != y)) (mk s h t)) : wpAny (model prog w) A (compareOp .NotEq (.int x tx) (.int y ty)) Q E (mk s h t) := ne_int hq
theorem l_len {l : Addr} {vs : List Value} (hl : h.IsList l vs.toArray) (hn : vs.length < 2 ^ 62) (hq : ∀ t' u, Q (.int vs.length u) (mk s h t')) :
    wpAny (model prog w) A (call (.builtin "len") [.ref l]) Q E (mk s h t) := by
  refine PyProof.Rows.len_list (s := mk s h t) hl (by simp; omega) ?_
  rw [List.size_toArray]
  exact hq _ _
theorem i_item {value slice : PySem.Expr} {l : Addr} {vs : List Value} {ns : List Int} {k : Int} (hl : h.IsList l vs.toArray) (hi : IntsAre vs ns) (h0 : 0 ≤ k) (h1 : k < (ns.length : Int)) (hn : ns.length < 2 ^ 62)
    (hq : ∀ u, Q (.int (ns.getD k.toNat 0) u) (mk s h t))
    (hs : subscripted slice false (.ref l) (.int k ty) = operate [.ref l, .int k ty] (getItem (.ref l) (.int k ty))) (hg : ∀ r, letTemporaryGo value (.ref l) r = pure ()) :
    wpAny (model prog w) A (subscriptTail value slice (.ref l) (.int k ty)) Q E (mk s h t) := by
  have hlt : k.toNat < ns.length := by omega
  obtain ⟨u, hx⟩ := hi.get k.toNat (ns[k.toNat]) (by simp [hlt])
  refine PyProof.Rows.item_list (s := mk s h t) hl h0 (by omega) (by simpa using hx) ?_ hs hg
  have := hq u
  rwa [List.getD_eq_getElem?_getD, List.getElem?_eq_getElem hlt] at this
end
end

section
variable {prog : Program} {w : World} {A : Around} {s : Shared} {h : Heap} {t : Nat} {env : Env} {E : Value → Shared → Prop} {mg mb : Str → Option Value} {Q : Value → Shared → Prop} {D : Addr} {its : List Value} {n : Nat}
theorem callF {pos : Pos} {f : Addr} {o : Obj} {fd : FuncData} {e : PySem.Expr} {rest : List PySem.Expr} {h₀ : Heap} (_ : Gd w mg mb h₀) (hK : (hd.heap_39 w.params).lookup f = some o) (hdat : o.data = .func fd)
    (hq : wpAny (model prog w) A (spliced (backTo pos (starEach (e :: rest) env))) (fun vs s₁ => (∃ h₁ t₁, s₁ = mk s h₁ t₁ ∧ Gd w mg mb h₁) ∧ wpAny (model prog w) A (call (.ref f) vs) Q E s₁) E (mk s h t))
    (he : starEach (e :: rest) env = (false, eval e env) :: starEach rest env) :
    wpAny (model prog w) A (callWith pos (.ref f) [] (backTo pos (starEach (e :: rest) env)) []) Q E (mk s h t) := by
  refine callWith_def hdat (wpAny_mono hq (fun vs s₁ h₁ => ?_) fun _ _ x => x) he
  obtain ⟨⟨h₁, t₁, rfl, G⟩, r⟩ := h₁
  exact ⟨G.X _ _ hK, r⟩
/-- a list of the call's own -/
abbrev lst (vs : List Value) (n : Nat) : Obj := { cls := .type "list", data := .seq vs.toArray n }
theorem lst_is {vs : List Value} (ho : h.get? D = some (lst vs n)) : h.IsList D vs.toArray := ⟨_, ho, rfl, n, rfl⟩
theorem l_meth {name : Str} {id : String} {pl : Sem Bool} {Q : Value × List Value → Shared → Prop} (ho : h.get? D = some (lst its n)) (slot : Slot "list" name id) (hty : typeOf (.builtin id) = pure (.type "method_descriptor"))
    (hq : Q (.builtin id, [.ref D]) (mk s h t)) : wpAny (model prog w) A (getMethod (.ref D) name pl) Q E (mk s h t) :=
  getMethod_builtin (s := mk s h t) ⟨_, ho, rfl⟩ PySem.F.plainAttrs_list slot hty (fun a e => by cases e; exact ⟨_, ho, rfl⟩) hq
theorem upd_seq {its' : List Value} {f : Array Value → Array Value} (ho : h.get? D = some (lst its n)) (e : f its.toArray = its'.toArray) (hne : its'.length ≠ its.length) :
    (h.update D (Obj.mapSeq f)).get? D = some (lst its' (n + 1)) := by
  have q := PySem.IsL.update (h := h) (l := D) (items := its.toArray) (n := n) ho f
  rw [e, if_neg (by simpa using hne)] at q
  exact q
theorem l_insert {x : Int} {u : Tok} {y : Value} (ho : h.get? D = some (lst its n)) (h0 : 0 ≤ x) (h1 : x ≤ its.length) (hn : its.length ≤ 1000000)
    (hq : ∀ h', h'.get? D = some (lst (its.take x.toNat ++ y :: its.drop x.toNat) (n + 1)) → Heap.SameBut D h h' → Q .none (mk s h' t)) :
    wpAny (model prog w) A (call (.builtin "list.insert") [.ref D, .int x u, y]) Q E (mk s h t) := by
  have hf : Builtin.List.listFitsIndex x = true := by
    have h2 : (2 : Int) ^ 63 = 9223372036854775808 := by decide
    unfold Builtin.List.listFitsIndex
    rw [h2]
    simp only [Bool.and_eq_true, decide_eq_true_eq]
    omega
  refine call_meets (s := mk s h t) PySem.F.slot_list_insert ⟨_, ho, rfl⟩ PySem.F.entry_list_insert (PySem.F.args_list_insert_3 _ _ _) (PySem.AutoSeq1.list_insert_list_int_val_1 D _ n x u y (by simp [hf]) (by rw [List.size_toArray, sizeLine_eq]; omega)) ⟨ho, hq _ ?_ (Heap.SameBut.update ..)⟩
  refine upd_seq (f := fun xs : Array Value => have k := if x < 0 then (x + (xs.size : Int)).toNat else min x.toNat xs.size; (xs.extract 0 k).push y ++ xs.extract k) ho ?_ ?_
  · show (its.toArray.extract 0 (if x < 0 then (x + (its.toArray.size : Int)).toNat else min x.toNat its.toArray.size)).push y ++ its.toArray.extract (if x < 0 then (x + (its.toArray.size : Int)).toNat else min x.toNat its.toArray.size) = _
    rw [kl_ins_eq, if_neg (by omega), List.size_toArray, Nat.min_eq_left (by omega)]
  · rw [List.length_append, List.length_cons, List.length_take, List.length_drop]
    omega
theorem l_append {y : Value} (ho : h.get? D = some (lst its n)) (hn : its.length ≤ 1000000)
    (hq : ∀ h' n', h'.get? D = some (lst (its ++ [y]) n') → Heap.SameBut D h h' → Q .none (mk s h' t)) :
    wpAny (model prog w) A (call (.builtin "list.append") [.ref D, y]) Q E (mk s h t) := by
  refine wpAny_list_append_plain (s := mk s h t) ⟨n, ho⟩ (fun h' hp hs => ?_) (by rw [List.size_toArray, sizeLine_eq]; omega)
  obtain ⟨n', e⟩ := hp
  exact hq h' n' (by rw [e]; simp) hs

theorem whileR {test : PySem.Expr} {body : List Stmt} {pos : Pos} {Q : Flow → Shared → Prop} (I : Nat → Heap → Prop) (n₀ : Nat) (h0 : I n₀ h)
    (turn : ∀ n h t, I n h → wpAny (model prog w) A (isTrue test env (eval test env)) (fun b s₂ =>
      if b = true then wpAny (model prog w) A (execs body env) (fun f s₃ => f = .next ∧ ∃ n' h' t', n' < n ∧ s₃ = mk s h' t' ∧ I n' h') NoE s₂ else Q .next s₂) NoE (mk s h t)) :
    wpAny (model prog w) A (exec (.While test body [] pos) env) Q NoE (mk s h t) := by
  refine wpAny_While (codeAny_whileLoop (fun n s' => ∃ h t, s' = mk s h t ∧ I n h) ?_ n₀ ⟨h, t, rfl, h0⟩)
  rintro n s' ⟨h, t, rfl, hI⟩
  refine wpAny_mono (turn n h t hI) (fun b s₂ h₂ => ?_) fun _ _ x => x.elim
  cases b with
  | false =>
    simp only [Bool.false_eq_true, if_false] at h₂ ⊢
    exact wpAny_execs_nil h₂
  | true =>
    simp only [if_true] at h₂ ⊢
    refine wpAny_mono h₂ (fun f s₃ h₃ => ?_) fun _ _ x => x.elim
    obtain ⟨rfl, n', h', t', hlt, rfl, hI'⟩ := h₃
    exact ⟨n', hlt, h', t', rfl, hI'⟩
end
section
variable {w : World} {mg mb : Str → Option Value} {h : Heap}
theorem g_insort_right (G : Gd w mg mb h) : mg "insort_right" = some (.ref 23) := mg_of G.X G.g (by kernel_rfl)
theorem g_bisect_right (G : Gd w mg mb h) : mg "bisect_right" = some (.ref 32) := mg_of G.X G.g (by kernel_rfl)
theorem g_insort_left (G : Gd w mg mb h) : mg "insort_left" = some (.ref 41) := mg_of G.X G.g (by kernel_rfl)
theorem g_bisect_left (G : Gd w mg mb h) : mg "bisect_left" = some (.ref 50) := mg_of G.X G.g (by kernel_rfl)
theorem g_add_func_stats (G : Gd w mg mb h) : mg "add_func_stats" = some (.ref 57) := mg_of G.X G.g (by kernel_rfl)
theorem g_add_callers (G : Gd w mg mb h) : mg "add_callers" = some (.ref 64) := mg_of G.X G.g (by kernel_rfl)
theorem g_count_calls (G : Gd w mg mb h) : mg "count_calls" = some (.ref 71) := mg_of G.X G.g (by kernel_rfl)
theorem g_law_halves (G : Gd w mg mb h) : mg "_law_halves" = some (.ref 78) := mg_of G.X G.g (by kernel_rfl)
theorem g_law_kept (G : Gd w mg mb h) : mg "_law_kept" = some (.ref 85) := mg_of G.X G.g (by kernel_rfl)
theorem g_law_hooks (G : Gd w mg mb h) : mg "_law_hooks" = some (.ref 92) := mg_of G.X G.g (by kernel_rfl)
theorem g_law_cells (G : Gd w mg mb h) : mg "_law_cells" = some (.ref 97) := mg_of G.X G.g (by kernel_rfl)
theorem g_law_profile (G : Gd w mg mb h) : mg "_law_profile" = some (.ref 104) := mg_of G.X G.g (by kernel_rfl)
theorem g_law_back (G : Gd w mg mb h) : mg "_law_back" = some (.ref 111) := mg_of G.X G.g (by kernel_rfl)
theorem b_len (G : Gd w mg mb h) : mg "len" = none ∧ mb "len" = some (.builtin "len") := ⟨mg_none_of G.X G.g (by kernel_rfl), (G.bi _ (by decide)).trans (by kernel_rfl)⟩
theorem b_range (G : Gd w mg mb h) : mg "range" = none ∧ mb "range" = some (.type "range") := ⟨mg_none_of G.X G.g (by kernel_rfl), (G.bi _ (by decide)).trans (by kernel_rfl)⟩
theorem b_list (G : Gd w mg mb h) : mg "list" = none ∧ mb "list" = some (.type "list") := ⟨mg_none_of G.X G.g (by kernel_rfl), (G.bi _ (by decide)).trans (by kernel_rfl)⟩
theorem b_sum (G : Gd w mg mb h) : mg "sum" = none ∧ mb "sum" = some (.builtin "sum") := ⟨mg_none_of G.X G.g (by kernel_rfl), (G.bi _ (by decide)).trans (by kernel_rfl)⟩
theorem b_enumerate (G : Gd w mg mb h) : mg "enumerate" = none ∧ mb "enumerate" = some (.type "enumerate") := ⟨mg_none_of G.X G.g (by kernel_rfl), (G.bi _ (by decide)).trans (by kernel_rfl)⟩
theorem b_isinstance (G : Gd w mg mb h) : mg "isinstance" = none ∧ mb "isinstance" = some (.builtin "isinstance") := ⟨mg_none_of G.X G.g (by kernel_rfl), (G.bi _ (by decide)).trans (by kernel_rfl)⟩
theorem b_tuple (G : Gd w mg mb h) : mg "tuple" = none ∧ mb "tuple" = some (.type "tuple") := ⟨mg_none_of G.X G.g (by kernel_rfl), (G.bi _ (by decide)).trans (by kernel_rfl)⟩
theorem b_min (G : Gd w mg mb h) : mg "min" = none ∧ mb "min" = some (.builtin "min") := ⟨mg_none_of G.X G.g (by kernel_rfl), (G.bi _ (by decide)).trans (by kernel_rfl)⟩
theorem b_sorted (G : Gd w mg mb h) : mg "sorted" = none ∧ mb "sorted" = some (.builtin "sorted") := ⟨mg_none_of G.X G.g (by kernel_rfl), (G.bi _ (by decide)).trans (by kernel_rfl)⟩
end
end Mine
end
-- part Pl1
section
set_option linter.unusedVariables false
namespace Mine
/-- a place where a falling test turns -/
def Turn (n : Nat) (p : Nat → Bool) (lo hi : Int) : Prop := 0 ≤ lo ∧ lo ≤ hi ∧ hi ≤ n ∧ (∀ i : Nat, (i : Int) < lo → p i = true) ∧ ∀ i : Nat, hi ≤ (i : Int) → i < n → p i = false
def Falls (n : Nat) (p : Nat → Bool) : Prop := ∀ i j : Nat, i ≤ j → j < n → p j = true → p i = true
theorem Turn.start (n : Nat) (p : Nat → Bool) : Turn n p 0 n := ⟨by omega, by omega, by omega, fun i h => by omega, fun i h h' => by omega⟩
theorem mid_facts {lo hi : Int} (h0 : 0 ≤ lo) (h : lo < hi) : lo ≤ (lo + hi).fdiv 2 ∧ (lo + hi).fdiv 2 < hi := by
  rw [Int.fdiv_eq_ediv_of_nonneg _ (by omega)]; omega
theorem Turn.left {n : Nat} {p : Nat → Bool} {lo hi mid : Int} (f : Falls n p) (T : Turn n p lo hi) (h1 : lo ≤ mid) (h2 : mid < hi) (hp : p mid.toNat = true) : Turn n p (mid + 1) hi := by
  obtain ⟨a, b, c, d, e⟩ := T
  exact ⟨by omega, by omega, c, fun i hi => f i mid.toNat (by omega) (by omega) hp, e⟩
theorem Turn.right {n : Nat} {p : Nat → Bool} {lo hi mid : Int} (f : Falls n p) (T : Turn n p lo hi) (h1 : lo ≤ mid) (h2 : mid < hi) (hp : p mid.toNat = false) : Turn n p lo mid := by
  obtain ⟨a, b, c, d, e⟩ := T
  refine ⟨a, by omega, by omega, d, fun i h h' => ?_⟩
  cases q : p i with
  | false => rfl
  | true => rw [f mid.toNat i (by omega) h' q] at hp; cases hp
theorem countP_turn (q : Int → Bool) : ∀ (ns : List Int) (r : Nat), r ≤ ns.length → (∀ i, i < r → q (ns.getD i 0) = true) → (∀ i, r ≤ i → i < ns.length → q (ns.getD i 0) = false) → ns.countP q = r
  | [], r, h, _, _ => by simp at h; simp [h]
  | a :: ns, 0, _, _, h2 => by
    rw [List.countP_eq_zero]
    intro x hx
    obtain ⟨i, hi, rfl⟩ := List.getElem_of_mem hx
    have := h2 i (by omega) hi
    rw [List.getD_eq_getElem?_getD, List.getElem?_eq_getElem hi] at this
    simpa using this
  | a :: ns, r + 1, h, h1, h2 => by
    have h0 := h1 0 (by omega)
    simp only [List.getD_cons_zero] at h0
    rw [List.countP_cons_of_pos h0]
    rw [countP_turn q ns r (by simpa using h) (fun i hi => by simpa using h1 (i + 1) (by omega)) (fun i hi hl => by simpa using h2 (i + 1) (by omega) (by simpa using hl))]
theorem Turn.count {ns : List Int} {q : Int → Bool} {r : Int} (T : Turn ns.length (fun i => q (ns.getD i 0)) r r) : (r : Int) = (ns.countP q : Nat) := by
  obtain ⟨a, b, c, d, e⟩ := T
  rw [countP_turn q ns r.toNat (by omega) (fun i hi => d i (by omega)) (fun i hi hl => e i (by omega) hl)]
  omega
theorem falls_lt {ns : List Int} (hs : ns.Pairwise (· ≤ ·)) (x : Int) : Falls ns.length (fun i => decide (ns.getD i 0 < x)) := by
  intro i j hij hj hp
  have hi : i < ns.length := by omega
  simp only [decide_eq_true_eq, List.getD_eq_getElem?_getD, List.getElem?_eq_getElem hi, List.getElem?_eq_getElem hj, Option.getD_some] at hp ⊢
  rcases Nat.lt_or_eq_of_le hij with h | rfl
  · have := List.pairwise_iff_getElem.mp hs i j hi hj h
    omega
  · exact hp
theorem falls_le {ns : List Int} (hs : ns.Pairwise (· ≤ ·)) (x : Int) : Falls ns.length (fun i => decide (¬ x < ns.getD i 0)) := by
  intro i j hij hj hp
  have hi : i < ns.length := by omega
  simp only [decide_eq_true_eq, List.getD_eq_getElem?_getD, List.getElem?_eq_getElem hi, List.getElem?_eq_getElem hj, Option.getD_some] at hp ⊢
  rcases Nat.lt_or_eq_of_le hij with h | rfl
  · have := List.pairwise_iff_getElem.mp hs i j hi hj h
    omega
  · exact hp
end Mine
end
-- part Pl2
section
set_option linter.unusedVariables false
open PySem PyProof.Rows
namespace Mine
def insAt (r : Nat) (x : Int) (ns : List Int) : List Int := ns.take r ++ x :: ns.drop r
theorem ints_app {vs vs' : List Value} {ns ns' : List Int} (h : IntsAre vs ns) (h' : IntsAre vs' ns') : IntsAre (vs ++ vs') (ns ++ ns') := by
  induction h with
  | nil => exact h'
  | cons n t _ ih => exact .cons n t ih
theorem ints_take {vs : List Value} {ns : List Int} (h : IntsAre vs ns) : ∀ r, IntsAre (vs.take r) (ns.take r) := by
  induction h with
  | nil => intro r; simp; exact .nil
  | cons n t _ ih =>
    intro r
    cases r with
    | zero => exact .nil
    | succ r => exact .cons n t (ih r)
theorem ints_drop {vs : List Value} {ns : List Int} (h : IntsAre vs ns) : ∀ r, IntsAre (vs.drop r) (ns.drop r) := by
  induction h with
  | nil => intro r; simp; exact .nil
  | cons n t h ih =>
    intro r
    cases r with
    | zero => exact .cons n t h
    | succ r => exact ih r
theorem ints_ins {vs : List Value} {ns : List Int} (h : IntsAre vs ns) (r : Nat) (x : Int) (u : Tok) : IntsAre (vs.take ((r : Int).toNat) ++ .int x u :: vs.drop ((r : Int).toNat)) (insAt r x ns) :=
  ints_app (ints_take h r) (.cons x u (ints_drop h r))
theorem insAt_perm (r : Nat) (x : Int) (ns : List Int) : (insAt r x ns).Perm (x :: ns) := by
  unfold insAt
  refine List.perm_middle.trans (List.Perm.cons x ?_)
  rw [List.take_append_drop]
theorem insAt_length (r : Nat) (x : Int) (ns : List Int) : (insAt r x ns).length = ns.length + 1 := by
  have := (insAt_perm r x ns).length_eq
  simpa using this
theorem countP_split {ns : List Int} (q : Int → Bool) (f : Falls ns.length (fun i => q (ns.getD i 0))) : (∀ v ∈ ns.take (ns.countP q), q v = true) ∧ ∀ v ∈ ns.drop (ns.countP q), q v = false := by
  induction ns with
  | nil => simp
  | cons a ns ih =>
    have ih' := ih fun i j hij hj hp => by
      have := f (i + 1) (j + 1) (by omega) (by simpa using hj) (by simpa using hp)
      simpa using this
    cases hq : q a with
    | true =>
      rw [List.countP_cons_of_pos hq, List.take_succ_cons, List.drop_succ_cons]
      refine ⟨?_, ih'.2⟩
      intro v hv
      rcases List.mem_cons.mp hv with rfl | h
      · exact hq
      · exact ih'.1 v h
    | false =>
      have hall : ∀ v ∈ a :: ns, q v = false := by
        intro v hv
        obtain ⟨i, hi, rfl⟩ := List.getElem_of_mem hv
        cases hp : q (a :: ns)[i] with
        | false => rfl
        | true =>
          have := f 0 i (by omega) hi (by simpa [List.getD_eq_getElem?_getD, List.getElem?_eq_getElem hi] using hp)
          simp only [List.getD_cons_zero] at this
          rw [hq] at this; cases this
      have h0 : (a :: ns).countP q = 0 := by
        rw [List.countP_eq_zero]
        intro v hv; rw [hall v hv]; exact Bool.false_ne_true
      rw [h0]
      exact ⟨by simp, by simpa using hall⟩
theorem insAt_sorted {ns : List Int} (hs : ns.Pairwise (· ≤ ·)) (r : Nat) (x : Int) (h1 : ∀ v ∈ ns.take r, v ≤ x) (h2 : ∀ v ∈ ns.drop r, x ≤ v) : (insAt r x ns).Pairwise (· ≤ ·) := by
  unfold insAt
  have hs' : (ns.take r ++ ns.drop r).Pairwise (· ≤ ·) := by rw [List.take_append_drop]; exact hs
  obtain ⟨a, b, c⟩ := List.pairwise_append.mp hs'
  refine List.pairwise_append.mpr ⟨a, List.pairwise_cons.mpr ⟨h2, b⟩, ?_⟩
  intro u hu v hv
  rcases List.mem_cons.mp hv with rfl | hv
  · exact h1 u hu
  · exact c u hu v hv
theorem ins_left_sorted {ns : List Int} (hs : ns.Pairwise (· ≤ ·)) (x : Int) : (insAt (ns.countP fun v => decide (v < x)) x ns).Pairwise (· ≤ ·) := by
  obtain ⟨a, b⟩ := countP_split (ns := ns) (fun v => decide (v < x)) (falls_lt hs x)
  refine insAt_sorted hs _ x (fun v hv => ?_) fun v hv => ?_
  · have := a v hv; simp at this; omega
  · have := b v hv; simp at this; omega
theorem ins_right_sorted {ns : List Int} (hs : ns.Pairwise (· ≤ ·)) (x : Int) : (insAt (ns.countP fun v => decide (¬ x < v)) x ns).Pairwise (· ≤ ·) := by
  obtain ⟨a, b⟩ := countP_split (ns := ns) (fun v => decide (¬ x < v)) (falls_le hs x)
  refine insAt_sorted hs _ x (fun v hv => ?_) fun v hv => ?_
  · have := a v hv; simp at this; omega
  · have := b v hv; simp at this; omega
end Mine
end
-- part For
section
open PySem PySem.W PySem.Calls PyProof.Rows
set_option Elab.async false
set_option maxRecDepth 100000
set_option maxHeartbeats 4000000
set_option linter.unusedVariables false
namespace Mine

structure Wk1 (prog : Program) (w : World) (A : Around) (It : Addr) (fp wr : List Addr) (n : Nat) (P : Nat → Value → Prop) (St : Nat → Heap → Prop) : Prop where
  sub : ∀ b ∈ wr, b ∈ fp
  live : ∀ i h, St i h → ∀ b ∈ wr, ∃ o, h.get? b = some o
  frame : ∀ i h h', St i h → (∀ b ∈ fp, ∀ o, h.get? b = some o → h'.get? b = some o) → St i h'
  item : ∀ i (s : Shared) h t (Q : Option Value → Shared → Prop), i < n → St i h →
    (∀ v h' t', P i v → St (i + 1) h' → (∀ b o, b ∉ wr → h.get? b = some o → h'.get? b = some o) → Q (some v) (mk s h' t')) → wpAny (model prog w) A (pyNext (.ref It)) Q NoE (mk s h t)
  done : ∀ (s : Shared) h t (Q : Option Value → Shared → Prop), St n h →
    (∀ h' t', (∀ b o, b ∉ wr → h.get? b = some o → h'.get? b = some o) → Q none (mk s h' t')) → wpAny (model prog w) A (pyNext (.ref It)) Q NoE (mk s h t)

structure Wk2 (prog : Program) (w : World) (A : Around) (It : Addr) (fp wr : List Addr) (n : Nat) (P : Nat → Value → Value → Prop) (St : Nat → Heap → Prop) : Prop where
  sub : ∀ b ∈ wr, b ∈ fp
  live : ∀ i h, St i h → ∀ b ∈ wr, ∃ o, h.get? b = some o
  frame : ∀ i h h', St i h → (∀ b ∈ fp, ∀ o, h.get? b = some o → h'.get? b = some o) → St i h'
  item : ∀ (elts : List PySem.Expr) (k : Nat) (pos : Pos) i (s : Shared) h t (Q : Value → Shared → Prop), i < n → St i h →
    (∀ T v0 v1 h' t', P i v0 v1 → h'.IsTuple T #[v0, v1] → St (i + 1) h' → (∀ b o, b ∉ wr → h.get? b = some o → h'.get? b = some o) → Q (.ref T) (mk s h' t')) →
    wpAny (model prog w) A (pyNext (.ref It)) (fun r s₁ => ∃ v, r = some v ∧ wpAny (model prog w) A (letOwnedTupleGo (.Tuple elts k pos) (.ref It) v) (fun _ s₂ => Q v s₂) NoE s₁) NoE (mk s h t)
  done : ∀ (s : Shared) h t (Q : Option Value → Shared → Prop), St n h →
    (∀ h' t', (∀ b o, b ∉ wr → h.get? b = some o → h'.get? b = some o) → Q none (mk s h' t')) → wpAny (model prog w) A (pyNext (.ref It)) Q NoE (mk s h t)

section
variable {prog : Program} {w : World} {A : Around} {s : Shared} {h : Heap} {t : Nat} {env : Env} {h₀ : Heap}

theorem stays_wr {wr : List Addr} {L : Addr} {m : Str → Option Value} {h' : Heap} {news : List (Addr × Obj)} (hL : L ∉ wr) (hwr : ∀ b ∈ wr, h₀.get? b = none) (F : Fr h₀ L h m) (N : News h₀ L h news) (hoff : ∀ p ∈ news, p.1 ∉ wr)
    (k : ∀ b o, b ∉ wr → h.get? b = some o → h'.get? b = some o) : Fr h₀ L h' m ∧ News h₀ L h' news :=
  ⟨⟨F.ns.at' fun o e => k _ o hL e, fun b o e => k b o (fun hb => by rw [hwr b hb] at e; cases e) (F.keep b o e), F.above⟩, fun p hp => ⟨k _ _ (hoff p hp) (N p hp).1, (N p hp).2⟩⟩

theorem fp_back {fp : List Addr} {L : Addr} {m m' : Str → Option Value} {h h' : Heap} {news' : List (Addr × Obj)} (F : Fr h₀ L h m) (F' : Fr h₀ L h' m') (N' : News h₀ L h' (news' ++ ownOf h₀ fp h)) :
    ∀ b ∈ fp, ∀ o, h.get? b = some o → h'.get? b = some o := fun b hb o e => by
  cases hn : h₀.get? b with
  | some o₀ =>
    have : o₀ = o := by have := F.keep b o₀ hn; rw [e] at this; exact (Option.some.inj this).symm
    exact this ▸ F'.keep b o₀ hn
  | none => exact (N' _ (List.mem_append_right _ (mem_ownOf hb hn e))).1
theorem news_left {L : Addr} {a b : List (Addr × Obj)} (N : News h₀ L h (a ++ b)) : News h₀ L h a := fun p hp => N p (List.mem_append_left _ hp)
theorem news_app {L : Addr} {a b : List (Addr × Obj)} (N : News h₀ L h a) (N' : News h₀ L h b) : News h₀ L h (a ++ b) := fun p hp => (List.mem_append.mp hp).elim (N p) (N' p)

/-- what a turn leaves -/
def Left {σ : Type} (s : Shared) (h₀ : Heap) (L : Addr) (wr : List Addr) (own : List (Addr × Obj)) (kn : σ → List (Str × Value)) (nw : σ → List (Addr × Obj)) (J : σ → Prop) (f : Flow) (s₃ : Shared) : Prop :=
  f = .next ∧ ∃ c' h' t' m', s₃ = mk s h' t' ∧ Fr h₀ L h' m' ∧ Kn m' (kn c') ∧ News h₀ L h' (nw c' ++ own) ∧ (∀ p ∈ nw c', p.1 ∉ wr) ∧ J c'

theorem for1 {σ : Type} {x : Str} {px : Pos} {body : List Stmt} {It : Addr} {fp wr : List Addr} {n : Nat} {P : Nat → Value → Prop} {St : Nat → Heap → Prop} {m : Str → Option Value} {R : Result → Shared → Prop}
    (W : Wk1 prog w A It fp wr n P St) (hLf : env.locals ∉ fp) (hwr : ∀ b ∈ wr, h₀.get? b = none)
    (kn : σ → List (Str × Value)) (nw : σ → List (Addr × Obj)) (J : Nat → σ → Prop) (c₀ : σ)
    (F : Fr h₀ env.locals h m) (K : Kn m (kn c₀)) (N : News h₀ env.locals h (nw c₀)) (hoff : ∀ p ∈ nw c₀, p.1 ∉ wr) (hst : St 0 h) (hJ : J 0 c₀)
    (turn : ∀ i v c h t m own, i < n → P i v → J i c → (∀ p ∈ nw c, p.1 ∉ wr) → (∀ p ∈ own, p.1 ∈ fp) → (∀ b ∈ wr, ∃ o, (b, o) ∈ own) → Fr h₀ env.locals h m → Kn m (kn c) → News h₀ env.locals h (nw c ++ own) →
      wpAny (model prog w) A (storeName env x v) (fun _ s₂ => wpAny (model prog w) A (execs body env) (Left s h₀ env.locals wr own kn nw (J (i + 1))) NoE s₂) NoE (mk s h t))
    (done : ∀ c h t m, J n c → Fr h₀ env.locals h m → Kn m (kn c) → News h₀ env.locals h (nw c) → R (.ok .next) (mk s h t)) :
    codeAny (model prog w) A (.forLoop (.Name x px) (.ref It) body [] env) R (mk s h t) := by
  have hLw : env.locals ∉ wr := fun hb => hLf (W.sub _ hb)
  refine codeAny_forLoop (fun k s' => ∃ c h' t' m' i, s' = mk s h' t' ∧ St i h' ∧ Fr h₀ env.locals h' m' ∧ Kn m' (kn c) ∧ News h₀ env.locals h' (nw c) ∧ (∀ p ∈ nw c, p.1 ∉ wr) ∧ J i c ∧ i ≤ n ∧ k = n + 1 - i) ?_ (n + 1)
    ⟨c₀, h, t, m, 0, rfl, hst, F, K, N, hoff, hJ, Nat.zero_le _, rfl⟩
  rintro k s' ⟨c, h', t', m', i, rfl, hst', F', K', N', hoff', hJ', hi, rfl⟩
  by_cases hlt : i < n
  · refine wpAny_any (W.item i s h' t' _ hlt hst' fun v h₁ t₁ hP hst₁ k₁ => ?_)
    obtain ⟨F₁, N₁⟩ := stays_wr hLw hwr F' N' hoff' k₁
    have Nown : News h₀ env.locals h₁ (ownOf h₀ fp h₁) := news_ownOf hLf
    refine wpAny_assign_Name (wpAny_mono (turn i v c h₁ t₁ m' (ownOf h₀ fp h₁) hlt hP hJ' hoff' ownOf_sub (fun b hb => ?_) F₁ K' (news_app N₁ Nown)) (fun _ s₂ h₂ => wpAny_mono h₂ (fun f s₃ h₃ => ?_) fun _ _ x => x.elim) fun _ _ x => x.elim)
    · obtain ⟨o, ho⟩ := W.live _ _ hst₁ b hb
      exact ⟨o, mem_ownOf (W.sub _ hb) (hwr _ hb) ho⟩
    · obtain ⟨rfl, c', h₃', t₃, m₃, rfl, F₃, K₃, N₃, off₃, J₃⟩ := h₃
      exact ⟨n + 1 - (i + 1), by omega, c', h₃', t₃, m₃, i + 1, rfl, W.frame _ _ _ hst₁ (fp_back F₁ F₃ N₃), F₃, K₃, news_left N₃, off₃, J₃, hlt, rfl⟩
  · have hin : i = n := by omega
    subst hin
    refine wpAny_any (W.done s h' t' _ hst' fun h₁ t₁ k₁ => wpAny_execs_nil ?_)
    obtain ⟨F₁, N₁⟩ := stays_wr hLw hwr F' N' hoff' k₁
    exact done c h₁ t₁ m' hJ' F₁ K' N₁

theorem for2 {σ : Type} {x y : Str} {px py pt : Pos} {k : Nat} {body : List Stmt} {It : Addr} {fp wr : List Addr} {n : Nat} {P : Nat → Value → Value → Prop} {St : Nat → Heap → Prop} {m : Str → Option Value} {R : Result → Shared → Prop}
    (hh : A.handled = none) (W : Wk2 prog w A It fp wr n P St) (hLf : env.locals ∉ fp) (hwr : ∀ b ∈ wr, h₀.get? b = none)
    (kn : σ → List (Str × Value)) (nw : σ → List (Addr × Obj)) (J : Nat → σ → Prop) (c₀ : σ)
    (F : Fr h₀ env.locals h m) (K : Kn m (kn c₀)) (N : News h₀ env.locals h (nw c₀)) (hoff : ∀ p ∈ nw c₀, p.1 ∉ wr) (hst : St 0 h) (hJ : J 0 c₀)
    (turn : ∀ i v0 v1 c h t m own, i < n → P i v0 v1 → J i c → (∀ p ∈ nw c, p.1 ∉ wr) → (∀ p ∈ own, p.1 ∈ fp) → (∀ b ∈ wr, ∃ o, (b, o) ∈ own) → Fr h₀ env.locals h m → Kn m (kn c) → News h₀ env.locals h (nw c ++ own) →
      wpAny (model prog w) A (storeName env x v0) (fun _ s₁ => wpAny (model prog w) A (storeName env y v1) (fun _ s₂ => wpAny (model prog w) A (execs body env) (Left s h₀ env.locals wr own kn nw (J (i + 1))) NoE s₂) NoE s₁) NoE (mk s h t))
    (done : ∀ c h t m, J n c → Fr h₀ env.locals h m → Kn m (kn c) → News h₀ env.locals h (nw c) → R (.ok .next) (mk s h t)) :
    codeAny (model prog w) A (.forLoop (.Tuple [.Name x px, .Name y py] k pt) (.ref It) body [] env) R (mk s h t) := by
  have hLw : env.locals ∉ wr := fun hb => hLf (W.sub _ hb)
  have hIe : ∃ I : Nat → Shared → Prop, I = fun kk s' => ∃ c h' t' m' i, s' = mk s h' t' ∧ St i h' ∧ Fr h₀ env.locals h' m' ∧ Kn m' (kn c) ∧ News h₀ env.locals h' (nw c) ∧ (∀ p ∈ nw c, p.1 ∉ wr) ∧ J i c ∧ i ≤ n ∧ kk = n + 1 - i := ⟨_, rfl⟩
  obtain ⟨I, hI⟩ := hIe
  refine codeAny_forLoop_any I ?_ (n + 1) (by rw [hI]; exact ⟨c₀, h, t, m, 0, rfl, hst, F, K, N, hoff, hJ, Nat.zero_le _, rfl⟩)
  intro kk s' hs'
  rw [hI] at hs'
  obtain ⟨c, h', t', m', i, rfl, hst', F', K', N', hoff', hJ', hi, rfl⟩ := hs'
  by_cases hlt : i < n
  · refine wpAny_any (wpAny_mono (W.item [.Name x px, .Name y py] k pt i s h' t' (fun v s₂ => wpAny (model prog w) A (assign (.Tuple [.Name x px, .Name y py] k pt) env v) (fun _ s₂ => wpAny (model prog w) A (execs body env) (fun f s₃ => f = .next ∧ ∃ m, m < n + 1 - i ∧ I m s₃) NoE s₂) NoE s₂) hlt hst' fun T v0 v1 h₁ t₁ hP hT hst₁ k₁ => ?_) (fun r s₁ hr => ?_) fun _ _ x => x)
    rotate_left
    · obtain ⟨v, rfl, hv⟩ := hr
      refine wpAny_mono hv (fun _ s₂ h₂ => wpAny_mono h₂ (fun _ s₃ h₃ => wpAny_mono h₃ (fun f s₄ h₄ => ?_) fun _ _ x => x.elim) fun _ _ x => x.elim) fun _ _ x => x.elim
      obtain ⟨rfl, q⟩ := h₄
      exact q
    obtain ⟨F₁, N₁⟩ := stays_wr hLw hwr F' N' hoff' k₁
    refine wpAny_assign_Tuple (s := mk s h₁ t₁) hh hT rfl rfl fun h₂ x₂ => ?_
    have up₂ : Ext h₁ h₂ := fun b o e => x₂ b o (Nat.ne_of_lt (Heap.lt_size e)) e
    have F₂ := after F₁ up₂
    have N₂ := afterN N₁ up₂
    have hst₂ : St (i + 1) h₂ := W.frame _ _ _ hst₁ fun b _ o e => up₂ b o e
    have Nown : News h₀ env.locals h₂ (ownOf h₀ fp h₂) := news_ownOf hLf
    show wpAny _ A (do holding [v1] (assign (.Name x px) env v0); do holding [] (assign (.Name y py) env v1); pure ()) _ _ (mk s h₂ t₁)
    refine wpAny_bind (wpAny_holding (wpAny_assign_Name (wpAny_mono (turn i v0 v1 c h₂ t₁ m' (ownOf h₀ fp h₂) hlt hP hJ' hoff' ownOf_sub (fun b hb => ?_) F₂ K' (news_app N₂ Nown)) (fun _ s₃ h₃ => ?_) fun _ _ x => x.elim)))
    · obtain ⟨o, ho⟩ := W.live _ _ hst₂ b hb
      exact ⟨o, mem_ownOf (W.sub _ hb) (hwr _ hb) ho⟩
    · refine wpAny_bind (wpAny_holding (wpAny_assign_Name (wpAny_mono h₃ (fun _ s₄ h₄ => wpAny_pure (wpAny_mono h₄ (fun f s₅ h₅ => ?_) fun _ _ x => x.elim)) fun _ _ x => x.elim)))
      obtain ⟨rfl, c', h₃', t₃, m₃, rfl, F₃, K₃, N₃, off₃, J₃⟩ := h₅
      refine ⟨rfl, n + 1 - (i + 1), by omega, ?_⟩
      rw [hI]
      exact ⟨c', h₃', t₃, m₃, i + 1, rfl, W.frame _ _ _ hst₂ (fp_back F₂ F₃ N₃), F₃, K₃, news_left N₃, off₃, J₃, hlt, rfl⟩
  · have hin : i = n := by omega
    subst hin
    refine wpAny_any (W.done s h' t' _ hst' fun h₁ t₁ k₁ => wpAny_execs_nil ?_)
    obtain ⟨F₁, N₁⟩ := stays_wr hLw hwr F' N' hoff' k₁
    exact done c h₁ t₁ m' hJ' F₁ K' N₁
end

section
variable {prog : Program} {w : World} {A : Around}
theorem Wk1.of {It : Addr} {fp wr : List Addr} {n : Nat} {P : Nat → Value → Prop} {St : Nat → Heap → Prop} (W : Walks prog w A It fp wr n P St) (live : ∀ i h, St i h → ∀ b ∈ wr, ∃ o, h.get? b = some o) : Wk1 prog w A It fp wr n P St where
  sub := W.sub
  live := live
  frame := W.frame
  item := fun i s h t Q hi st hQ => W.item i (Mine.mk s h t) Q NoE hi st hQ
  done := fun s h t Q st hQ => W.done (Mine.mk s h t) Q NoE st hQ
theorem wk_list (hh : A.handled = none) (I ax : Addr) (hne : ax ≠ I) (vs : List Value) :
    Wk1 prog w A I [I, ax] [I] vs.length (fun i v => vs[i]? = some v) (fun i h => h.IsListIter I ax i ∧ h.IsList ax vs.toArray) := by
  have W := Walks.list (prog := prog) (w := w) hh I ax hne vs.toArray
  rw [List.size_toArray] at W
  have W' : Walks prog w A I [I, ax] [I] vs.length (fun i v => vs[i]? = some v) (fun i h => h.IsListIter I ax i ∧ h.IsList ax vs.toArray) := by simpa using W
  exact Wk1.of W' fun i h st b hb => by
    obtain ⟨⟨o, ho, _⟩, _⟩ := st
    rw [List.mem_singleton.mp hb]; exact ⟨o, ho⟩
theorem Wk2.of {It : Addr} {fp wr : List Addr} {n : Nat} {Pt : Nat → Array Value → Prop} {P : Nat → Value → Value → Prop} {St : Nat → Heap → Prop} {Mid : Nat → Addr → Heap → Prop} (W : WalksU prog w A It fp wr n Pt St Mid)
    (h2 : ∀ i vals, Pt i vals → ∃ v0 v1, vals = #[v0, v1] ∧ P i v0 v1) (live : ∀ i h, St i h → ∀ b ∈ wr, ∃ o, h.get? b = some o) : Wk2 prog w A It fp wr n P St where
  sub := W.sub
  live := live
  frame := W.frame
  item := fun elts k pos i s h t Q hi st hQ => W.item i (Mine.mk s h t) _ NoE hi st fun T vals h' tk hP hT hMid hk => by
    obtain ⟨v0, v1, rfl, hP2⟩ := h2 i vals hP
    refine ⟨_, rfl, W.go elts k pos i T (Mine.mk s h' tk) _ NoE hMid fun h'' st' hk' => ?_⟩
    exact hQ T v0 v1 h'' tk hP2 (hT.at fun o e => hk' T o (W.apart i T h' hMid) e) st' fun b o hb e => hk' b o hb (hk b o hb e)
  done := fun s h t Q st hQ => W.done (Mine.mk s h t) Q NoE st hQ
theorem wk_enum (hh : A.handled = none) (e it l : Addr) (hei : e ≠ it) (hle : l ≠ e) (hli : l ≠ it) (vs : List Value) :
    Wk2 prog w A e [e, it, l] [e, it] vs.length (fun i v0 v1 => ∃ t, v0 = .int i t ∧ vs[i]? = some v1)
      (fun i h => (∃ old, IsEnum h e it i old) ∧ h.IsListIter it l i ∧ h.IsList l vs.toArray) := by
  have W := (WalksT.enumerate (prog := prog) (w := w) hh e it l hei hle hli vs.toArray).toU
  rw [List.size_toArray] at W
  refine Wk2.of W (fun i vals hp => ?_) fun i h st b hb => ?_
  · obtain ⟨t, x, hx, rfl⟩ := hp
    exact ⟨_, _, rfl, t, rfl, by simpa using hx⟩
  · obtain ⟨⟨old, he⟩, ⟨o, ho, _⟩, _⟩ := st
    rcases List.mem_cons.mp hb with rfl | hb
    · exact ⟨_, he⟩
    · rw [List.mem_singleton.mp hb]; exact ⟨o, ho⟩
end

section
variable {prog : Program} {w : World} {A : Around} {s : Shared} {h h' : Heap} {t : Nat} {env : Env} {h₀ : Heap} {L r : Addr} {m : Str → Option Value} {o o' : Obj} {rest : List (Addr × Obj)} {E : Value → Shared → Prop}
theorem upd1 (F : Fr h₀ L h m) (N : News h₀ L h ((r, o) :: rest)) (hr : ∀ p ∈ rest, p.1 ≠ r) (k : ∀ b o, b ≠ r → h.get? b = some o → h'.get? b = some o) (ho : h'.get? r = some o') :
    Fr h₀ L h' m ∧ News h₀ L h' ((r, o') :: rest) := by
  have D := N _ mem0
  refine ⟨⟨F.ns.at' fun o e => k _ o (Ne.symm D.2.1) e, fun b o e => k b o ?_ (F.keep b o e), F.above⟩, fun p hp => ?_⟩
  · rintro rfl
    have := D.2.2
    rw [e] at this; cases this
  · rcases List.mem_cons.mp hp with rfl | hp
    · exact ⟨ho, D.2⟩
    · have P := N p (mem1 hp)
      exact ⟨k _ _ (hr p hp) P.1, P.2⟩
theorem sameBut_ext (hs : Heap.SameBut r h h') : ∀ b o, b ≠ r → h.get? b = some o → h'.get? b = some o := fun b o hb e => (hs.2 b hb).trans e
theorem fresh_ne {b : Addr} (hr : h.get? r = none) (hb : h.get? b = some o) : r ≠ b := by rintro rfl; rw [hr] at hb; cases hb
theorem news_fresh {news : List (Addr × Obj)} (N : News h₀ L h news) (hr : h.get? r = none) : ∀ p ∈ news, p.1 ≠ r := fun p hp e => by
  have := (N p hp).1; rw [e, hr] at this; cases this
theorem off_fresh {wr : List Addr} {own : List (Addr × Obj)} (N : News h₀ L h own) (hl : ∀ b ∈ wr, ∃ o, (b, o) ∈ own) (hr : h.get? r = none) : r ∉ wr := fun hb => by
  obtain ⟨o, ho⟩ := hl r hb
  exact news_fresh N hr _ ho rfl
theorem size_none (h : Heap) : h.get? h.objs.size = none := Heap.get?_none_of_le (Nat.le_refl _)
theorem fr_live (F : Fr h₀ L h m) : ∃ o, h.get? L = some o := let ⟨oL, _, _, hoL, _⟩ := F.ns; ⟨oL, hoL⟩
theorem gone_old (F : Fr h₀ L h m) {b : Addr} (hb : h.get? b = none) : h₀.get? b = none := by
  cases q : h₀.get? b with
  | none => rfl
  | some o => rw [F.keep _ _ q] at hb; cases hb
theorem L_new (F : Fr h₀ L h m) : h₀.get? L = none := Heap.get?_none_of_le F.above
theorem notL2 (F : Fr h₀ L h m) {it d : Addr} (hit : h.get? it = none) (hd : h₀.get? d = some o) : L ∉ [it, d] := by
  obtain ⟨oL, hoL⟩ := fr_live F
  simp only [List.mem_cons, List.not_mem_nil, or_false, not_or]
  exact ⟨(fresh_ne hit hoL).symm, fresh_ne (L_new F) hd⟩
theorem fresh1 (F : Fr h₀ L h m) {it : Addr} (hit : h.get? it = none) : ∀ b ∈ [it], h₀.get? b = none := all1 (gone_old F hit) all0
theorem ne_old (N : News h₀ L h ((r, o) :: rest)) {d : Addr} (hd : h₀.get? d = some o') : r ≠ d := fresh_ne (N _ mem0).2.2 hd
theorem off1 {it : Addr} (hit : h.get? it = none) (hr : h.get? r = some o) : r ∉ [it] := by
  simp only [List.mem_cons, List.not_mem_nil, or_false]
  exact (fresh_ne hit hr).symm
theorem own_ne {fp : List Addr} {own : List (Addr × Obj)} (hs : ∀ p ∈ own, p.1 ∈ fp) (hr : r ∉ fp) : ∀ p ∈ own, p.1 ≠ r := fun p hp e => hr (e ▸ hs p hp)
theorem notIn2 {x a b : Addr} (h1 : x ≠ a) (h2 : x ≠ b) : x ∉ [a, b] := by simp [h1, h2]
theorem push_ext (h : Heap) (o : Obj) : Ext h (h.push o) := fun b x e => Heap.get?_push_of_some _ e

theorem n_list {vs : List Value} {Q : Value → Shared → Prop} (hn : vs.length ≤ 1000000) (hq : ∀ r h', h.get? r = none → h'.get? r = some (lst vs 0) → Ext h h' → Q (.ref r) (mk s h' t)) : wpAny (model prog w) A (newList vs) Q E (mk s h t) :=
  wpAny_newObj_type (s := mk s h t) (hq _ _ (size_none h) (Heap.get?_push_size _ rfl) (push_ext h _)) (by show vs.toArray.size ≤ sizeLine; rw [List.size_toArray, sizeLine_eq]; omega)
abbrev tup (vs : List Value) : Obj := { cls := .type "tuple", data := .seq vs.toArray }
theorem n_tup {vs : List Value} {Q : Value → Shared → Prop} (hn : vs.length ≤ 1000000) (hq : ∀ r h', h.get? r = none → h'.get? r = some (tup vs) → Ext h h' → Q (.ref r) (mk s h' t)) : wpAny (model prog w) A (newTuple vs) Q E (mk s h t) :=
  wpAny_newObj_type (s := mk s h t) (hq _ _ (size_none h) (Heap.get?_push_size _ rfl) (push_ext h _)) (by show vs.toArray.size ≤ sizeLine; rw [List.size_toArray, sizeLine_eq]; omega)
theorem a_tup {elts : List PySem.Expr} {k : Nat} {pos : Pos} {T : Addr} {vs : List Value} {Q : Unit → Shared → Prop} (hh : A.handled = none) (ho : h.get? T = some (tup vs))
    (hn : (assignEach elts env).length = vs.length) (hstar : (assignEach elts env).findIdx? (·.1) = none)
    (hq : ∀ h', Ext h h' → wpAny (model prog w) A (assignInOrder ((assignEach elts env).map (·.2)) vs) Q E (mk s h' t)) : wpAny (model prog w) A (assign (.Tuple elts k pos) env (.ref T)) Q E (mk s h t) :=
  wpAny_assign_Tuple (s := mk s h t) hh ⟨_, ho, rfl, _, rfl⟩ (by simpa using hn) hstar fun h' hx => by
    exact hq h' fun b o e => hx b o (Nat.ne_of_lt (Heap.lt_size e)) e
theorem aio1 {x : Str} {px : Pos} {rest : List PySem.Expr} {v : Value} {vs : List Value} {Q : Unit → Shared → Prop} {σ : Shared}
    (hq : wpAny (model prog w) A (storeName env x v) (fun _ s₁ => wpAny (model prog w) A (assignInOrder ((assignEach rest env).map (·.2)) vs) Q E s₁) E σ) :
    wpAny (model prog w) A (assignInOrder ((assignEach (.Name x px :: rest) env).map (·.2)) (v :: vs)) Q E σ := by
  show wpAny _ A (do holding vs (assign (.Name x px) env v); assignInOrder ((assignEach rest env).map (·.2)) vs) _ _ _
  exact wpAny_bind (wpAny_holding (wpAny_assign_Name hq))
theorem aio0 {Q : Unit → Shared → Prop} {σ : Shared} (hq : Q () σ) : wpAny (model prog w) A (assignInOrder ((assignEach [] env).map (·.2)) []) Q E σ := wpAny_pure hq
theorem l_add {a b : Addr} {vs ws : List Value} {n k : Nat} {Q : Value → Shared → Prop} (ha : h.get? a = some (lst vs n)) (hb : h.get? b = some (lst ws k)) (hn : vs.length + ws.length ≤ 1000000)
    (hq : ∀ r h' us, us = vs ++ ws → h.get? r = none → h'.get? r = some (lst us 0) → Ext h h' → Q (.ref r) (mk s h' t)) : wpAny (model prog w) A (binaryOp .Add (.ref a) (.ref b)) Q E (mk s h t) := by
  refine PySem.P.add_list (s := mk s h t) ha hb ?_ (by simp only [List.size_toArray]; rw [sizeLine_eq]; omega)
  refine hq _ _ _ rfl (size_none h) ?_ (push_ext h _)
  rw [show lst (vs ++ ws) 0 = { cls := .type "list", data := .seq (vs.toArray ++ ws.toArray) } from by simp [lst]]
  exact Heap.get?_push_size _ rfl
theorem foldl_rep (v : Value) : ∀ (k : Nat) (a : Array Value), List.foldl (fun x1 x2 => x1 ++ x2) a (List.replicate k #[v]) = a ++ (List.replicate k v).toArray
  | 0, a => by simp
  | k + 1, a => by
    rw [List.replicate_succ, List.foldl_cons, foldl_rep v k]
    apply Array.toList_inj.mp
    simp [List.replicate_succ]
theorem l_mul {a : Addr} {v : Value} {n : Nat} {x : Int} {u : Tok} {Q : Value → Shared → Prop} (ha : h.get? a = some (lst [v] n)) (h0 : 0 ≤ x) (h1 : x ≤ 1000000)
    (hq : ∀ r h' us, us = List.replicate x.toNat v → h.get? r = none → h'.get? r = some (lst us 0) → Ext h h' → Q (.ref r) (mk s h' t)) : wpAny (model prog w) A (binaryOp .Mult (.ref a) (.int x u)) Q E (mk s h t) := by
  have h63 : (2 : Int) ^ 63 = 9223372036854775808 := by decide
  have hl : (mk s h t).heap.get? a = some { cls := .type "list", dict := none, data := .seq [v].toArray n, slots := #[] } := ha
  refine wpAny_binaryOp_repeat_ref (s := mk s h t) (T := "list") (U := "int") (by decide) ⟨_, hl, rfl⟩ (fun s' => typeIs_int s' x u) noFill_list_mul F.fills_int_mul F.slot_int_rmul repeat_list F.slot_int_index.lookup
    (call_meets F.slot_int_rmul (typeIs_int (mk s h t) x u) F.entry_int_rmul (F.args_int_rmul_2 _ _) (int___rmul___int_list x u a [v].toArray n)
      ⟨hl, rfl, ⟨_, hl, rfl⟩, call_meets F.slot_list_mul ⟨_, hl, rfl⟩ F.entry_list_mul (F.args_list_mul_2 _ _)
        (AutoListH.list___mul___list_int_3 a [v].toArray n x u (by simp [Builtin.List.listFitsIndex]; omega) (by rw [show ([v].toArray).size = 1 from rfl]; omega) (by rw [show ([v].toArray).size = 1 from rfl]; simp [Builtin.List.listTooLong, sizeLine]; omega))
        ⟨hl, hq _ _ _ rfl (size_none h) ?_ (push_ext h _)⟩⟩)
  have e : List.foldl (fun x1 x2 => x1 ++ x2) #[] (List.replicate (if ([v].toArray).isEmpty = true then 0 else x.toNat) [v].toArray) = (List.replicate x.toNat v).toArray := by
    rw [if_neg (by simp)]
    have := foldl_rep v x.toNat #[]
    simpa using this
  show (Heap.push h { cls := Value.type "list", data := Data.seq (List.foldl (fun x1 x2 => x1 ++ x2) #[] (List.replicate (if ([v].toArray).isEmpty = true then 0 else x.toNat) [v].toArray)) }).get? h.objs.size = _
  rw [e]
  exact Heap.get?_push_size _ rfl
theorem i_mul {x y : Int} {tx ty : Tok} {Q : Value → Shared → Prop} (h1 : -1000000000 ≤ x) (h2 : x ≤ 1000000000) (hq : ∀ t' u, Q (.int (x * y) u) (mk s h t')) : wpAny (model prog w) A (binaryOp .Mult (.int x tx) (.int y ty)) Q E (mk s h t) :=
  PyProof.Rows.mul_int (s := mk s h t) (hq (t + 1) t) (.of_left (intBits_le_64 (by omega) (by omega)))
theorem t_int {x : Int} {u : Tok} {Q : Bool → Shared → Prop} (hq : Q (x != 0) (mk s h t)) : wpAny (model prog w) A (truthy (.int x u)) Q E (mk s h t) := truthy_int hq
theorem c_enum {l : Addr} {vs : List Value} {Q : Value → Shared → Prop} (hl : h.IsList l vs.toArray)
    (hq : ∀ e it h', IsEnum h' e it 0 .none → h'.IsListIter it l 0 → h.get? e = none → h.get? it = none → e ≠ it → Ext h h' → Q (.ref e) (mk s h' t)) : wpAny (model prog w) A (call (.type "enumerate") [.ref l]) Q E (mk s h t) := by
  refine call_enumerate_list (s := mk s h t) hl fun h' he hit hsz hk => hq _ _ h' he hit ?_ (size_none h) (Nat.succ_ne_self _) hk
  exact Heap.get?_none_of_le (Nat.le_succ _)
theorem p_enum {e it : Addr} {i : Int} {old : Value} {Q : Value → Shared → Prop} (he : IsEnum h e it i old) (hq : Q (.ref e) (mk s h t)) : wpAny (model prog w) A (pyIter (.ref e)) Q E (mk s h t) := wpAny_pyIter_enum (s := mk s h t) he hq
theorem p_list {l : Addr} {vs : List Value} {Q : Value → Shared → Prop} (hl : h.IsList l vs.toArray) (hq : ∀ it h', h'.IsListIter it l 0 → h.get? it = none → Ext h h' → Q (.ref it) (mk s h' t)) : wpAny (model prog w) A (pyIter (.ref l)) Q E (mk s h t) :=
  wpAny_pyIter_list (s := mk s h t) hl (hq _ _ ⟨_, Heap.get?_push_size _ rfl, rfl, rfl⟩ (size_none h) (push_ext h _))
end
end Mine
end
-- part Dict
section
open PySem PySem.W PySem.Calls PyProof.Rows
set_option Elab.async false
set_option maxRecDepth 100000
set_option maxHeartbeats 4000000
set_option linter.unusedVariables false
namespace Mine

/-- pairs of ints behind keys and values -/
inductive VI : List (Int × Value) → List (Int × Int) → Prop
  | nil : VI [] []
  | cons (k v : Int) (t : Tok) {r : List (Int × Value)} {r' : List (Int × Int)} : VI r r' → VI ((k, .int v t) :: r) ((k, v) :: r')
def lookD (c : List (Int × Int)) (k : Int) : Option Int := (c.find? fun p => decide (p.1 = k)).map (·.2)
def putD (c : List (Int × Int)) (k v : Int) : List (Int × Int) := if c.any (fun p => decide (p.1 = k)) then c.map (fun p => if p.1 = k then (p.1, v) else p) else c ++ [(k, v)]
def addD (c : List (Int × Int)) (p : Int × Int) : List (Int × Int) := match lookD c p.1 with
  | some u => putD c p.1 (u + p.2)
  | none => putD c p.1 p.2
theorem VI.length {kvs : List (Int × Value)} {c : List (Int × Int)} (h : VI kvs c) : kvs.length = c.length := by
  induction h with
  | nil => rfl
  | cons k v t _ ih => simp [ih]
theorem VI.keys {kvs : List (Int × Value)} {c : List (Int × Int)} (h : VI kvs c) : kvs.map (·.1) = c.map (·.1) := by
  induction h with
  | nil => rfl
  | cons k v t _ ih => simp [ih]
theorem VI.get {kvs : List (Int × Value)} {c : List (Int × Int)} (h : VI kvs c) : ∀ (i : Nat) (k : Int) (v : Value), kvs[i]? = some (k, v) → ∃ n t, c[i]? = some (k, n) ∧ v = .int n t := by
  induction h with
  | nil => intro i k v e; simp at e
  | cons k₀ v₀ t _ ih =>
    intro i k v e
    cases i with
    | zero => simp at e; obtain ⟨rfl, rfl⟩ := e; exact ⟨v₀, t, by simp, rfl⟩
    | succ i => simpa using ih i k v (by simpa using e)
theorem VI.there {kvs : List (Int × Value)} {c : List (Int × Int)} (h : VI kvs c) {k v : Int} (e : lookD c k = some v) : ∃ t, valueAt kvs k = some (.int v t) := by
  induction h with
  | nil => simp [lookD] at e
  | cons k₀ v₀ t _ ih =>
    by_cases hk : k₀ = k
    · simp [lookD, hk] at e; subst e; exact ⟨t, by simp [valueAt, hk]⟩
    · obtain ⟨t', q⟩ := ih (by simpa [lookD, hk] using e)
      exact ⟨t', by simpa [valueAt, hk] using q⟩
theorem VI.gone {kvs : List (Int × Value)} {c : List (Int × Int)} (h : VI kvs c) {k : Int} (e : lookD c k = none) : valueAt kvs k = none := by
  induction h with
  | nil => rfl
  | cons k₀ v₀ t _ ih =>
    by_cases hk : k₀ = k
    · simp [lookD, hk] at e
    · simpa [valueAt, hk] using ih (by simpa [lookD, hk] using e)
theorem VI.isSome {kvs : List (Int × Value)} {c : List (Int × Int)} (h : VI kvs c) (k : Int) : (valueAt kvs k).isSome = (lookD c k).isSome := by
  cases e : lookD c k with
  | none => rw [h.gone e]; rfl
  | some v => obtain ⟨t, q⟩ := h.there e; rw [q]; rfl
theorem VI.any {kvs : List (Int × Value)} {c : List (Int × Int)} (h : VI kvs c) (k : Int) : kvs.any (fun kv => decide (kv.1 = k)) = c.any (fun p => decide (p.1 = k)) := by
  induction h with
  | nil => rfl
  | cons k₀ v₀ t _ ih => simp [ih]
theorem VI.app {kvs kvs' : List (Int × Value)} {c c' : List (Int × Int)} (h : VI kvs c) (h' : VI kvs' c') : VI (kvs ++ kvs') (c ++ c') := by
  induction h with
  | nil => exact h'
  | cons k v t _ ih => exact .cons k v t ih
theorem VI.map {kvs : List (Int × Value)} {c : List (Int × Int)} (h : VI kvs c) (k v : Int) (t : Tok) : VI (kvs.map (fun kv => if kv.1 = k then (kv.1, .int v t) else kv)) (c.map (fun p => if p.1 = k then (p.1, v) else p)) := by
  induction h with
  | nil => exact .nil
  | cons k₀ v₀ t₀ _ ih =>
    rw [List.map_cons, List.map_cons]
    by_cases hk : k₀ = k
    · simp only [hk, if_true]; exact .cons k v t ih
    · simp only [hk, if_false]; exact .cons k₀ v₀ t₀ ih
theorem VI.stored {kvs : List (Int × Value)} {c : List (Int × Int)} (h : VI kvs c) (k v : Int) (t : Tok) : VI (PySem.stored kvs k (.int v t)) (putD c k v) := by
  unfold PySem.stored putD
  rw [h.any k]
  split
  · exact h.map k v t
  · exact h.app (.cons k v t .nil)

/-- an own dict from ints to ints -/
def DI (prog : Program) (w : World) (d : Addr) (o : Obj) (c : List (Int × Int)) : Prop := (d == sysModules) = false ∧ ∃ kvs, o.IsDictOf (PySem.intKind prog w) kvs ∧ VI kvs c

section
variable {prog : Program} {w : World} {A : Around} {s : Shared} {h : Heap} {t : Nat} {env : Env} {E : Value → Shared → Prop} {d : Addr} {o : Obj} {c : List (Int × Int)} {k : Int} {u : Tok}
theorem DI.dictOf (D : DI prog w d o c) (ho : h.get? d = some o) : ∃ kvs, h.DictOf (PySem.intKind prog w) d kvs ∧ VI kvs c := by
  obtain ⟨_, kvs, a, b⟩ := D
  exact ⟨kvs, Heap.dictOf_iff.mpr ⟨o, ho, a⟩, b⟩
theorem DI.nodup (D : DI prog w d o c) : (c.map (·.1)).Nodup := by
  obtain ⟨_, kvs, ⟨_, _, _, _, _, _, hn⟩, b⟩ := D
  rwa [b.keys] at hn
theorem d_empty {pos : Pos} {Q : Value → Shared → Prop} (hb : sysModules < h.objs.size)
    (hq : ∀ d o h', h.get? d = none → h'.get? d = some o → DI prog w d o [] → Ext h h' → Q (.ref d) (mk s h' t)) : wpAny (model prog w) A (eval (.Dict [] [] pos) env) Q E (mk s h t) := by
  refine wpAny_Dict_empty (s := mk s h t) (hq _ _ _ (size_none h) (Heap.get?_push_size _ rfl) ⟨?_, [], ?_, .nil⟩ (push_ext h _))
  · exact beq_eq_false_iff_ne.mpr (Nat.ne_of_gt hb)
  · obtain ⟨o, ho, hd⟩ := Heap.dictOf_iff.mp (Heap.DictOf.new (knd := PySem.intKind prog w) h)
    rw [Heap.get?_push_size _ rfl] at ho
    exact (Option.some.inj ho) ▸ hd
theorem d_one {ke ve : PySem.Expr} {pos : Pos} {Q : Value → Shared → Prop} (hb : sysModules < h.objs.size)
    (hq : ∀ d o₀ h₁, h.get? d = none → h₁.get? d = some o₀ → Ext h h₁ → wpAny (model prog w) A (eval ke env) (fun kv s₁ => wpAny (model prog w) A (eval ve env) (fun vv s₂ => ∃ k u v uv h₂ t₂, kv = .int k u ∧ vv = .int v uv ∧ s₂ = mk s h₂ t₂ ∧ h₂.get? d = some o₀ ∧
      ∀ h' o t', h'.get? d = some o → DI prog w d o [(k, v)] → Heap.SameBut d h₂ h' → Q (.ref d) (mk s h' t')) E s₁) E (mk s h₁ t))
    (hshape : (evalEachOpt [some ke] env).zip ((evalEach [ve] env).map fun v => do let x ← v; standAt pos; pure x) = [(eval ke env, do let x ← eval ve env; standAt pos; pure x)].map fun p => (some p.1, p.2)) :
    wpAny (model prog w) A (eval (.Dict [some ke] [ve] pos) env) Q E (mk s h t) := by
  refine wpAny_Dict_pairs (s := mk s h t) (knd := PySem.intKind prog w) hshape (by simp) (by simp) ?_
  refine evalPairs_cons (wpAny_mono (hq h.objs.size { cls := .type "dict", data := .dict #[] } (h.push { cls := .type "dict", data := .dict #[] }) (size_none h) (Heap.get?_push_size _ rfl) (push_ext h _)) (fun kv s₁ h₁ => ?_) fun _ _ x => x)
  refine wpAny_bind (wpAny_mono h₁ (fun vv s₂ h₂ => ?_) fun _ _ x => x)
  obtain ⟨k, u, v, uv, h₂, t₂, rfl, rfl, rfl, ho, hk⟩ := h₂
  refine wpAny_bind (wpAny_standAt (wpAny_pure (evalPairs_nil ?_)))
  refine ⟨[(k, .int v uv)], ⟨intKind_is _ _ _ _, rfl, trivial⟩, ?_, fun h' hm hs => ?_⟩
  · refine Heap.dictOf_iff.mpr ⟨_, ho, ?_⟩
    obtain ⟨o, ho', hd⟩ := Heap.dictOf_iff.mp (Heap.DictOf.new (knd := PySem.intKind prog w) h)
    rw [Heap.get?_push_size _ rfl] at ho'
    exact (Option.some.inj ho') ▸ hd
  · obtain ⟨o, ho', hd⟩ := Heap.dictOf_iff.mp hm
    exact hk h' o _ ho' ⟨beq_eq_false_iff_ne.mpr (Nat.ne_of_gt hb), _, hd, .cons k v uv .nil⟩ hs
theorem d_set {v : Int} {uv : Tok} {Q : Unit → Shared → Prop} (D : DI prog w d o c) (ho : h.get? d = some o) (hn : c.length ≤ 1000000)
    (hq : ∀ h' o' t', h'.get? d = some o' → DI prog w d o' (putD c k v) → Heap.SameBut d h h' → Q () (mk s h' t')) : wpAny (model prog w) A (setItem (.ref d) (.int k u) (.int v uv)) Q E (mk s h t) := by
  obtain ⟨lo, kvs, a, b⟩ := D
  refine wpAny_setItem_pairs (s := mk s h t) (knd := PySem.intKind prog w) (intKind_is _ _ _ _) (Heap.dictOf_iff.mpr ⟨o, ho, a⟩) (fun h' hm hs => ?_) (by rw [sizeLine_eq, b.length]; omega)
  obtain ⟨o', ho', r⟩ := Heap.dictOf_iff.mp hm
  exact hq h' o' _ ho' ⟨lo, _, r, b.stored k v uv⟩ hs
theorem d_get {v : Int} {Q : Value → Shared → Prop} (D : DI prog w d o c) (ho : h.get? d = some o) (e : lookD c k = some v) (hq : ∀ t' u', Q (.int v u') (mk s h t')) : wpAny (model prog w) A (getItem (.ref d) (.int k u)) Q E (mk s h t) := by
  obtain ⟨lo, kvs, a, b⟩ := D
  obtain ⟨u', q⟩ := b.there e
  exact wpAny_getItem_of (s := mk s h t) (knd := PySem.intKind prog w) (intKind_is _ _ _ _) (Heap.dictOf_iff.mpr ⟨o, ho, a⟩ : h.DictOf _ d kvs).mapOf q (hq _ _)
theorem d_in {Q : Value → Shared → Prop} (D : DI prog w d o c) (ho : h.get? d = some o) (hq : ∀ t', Q (.bool (lookD c k).isSome) (mk s h t')) : wpAny (model prog w) A (compareOp .In (.int k u) (.ref d)) Q E (mk s h t) := by
  obtain ⟨lo, kvs, a, b⟩ := D
  refine wpAny_in_of (s := mk s h t) (knd := PySem.intKind prog w) (intKind_is _ _ _ _) lo (Heap.dictOf_iff.mpr ⟨o, ho, a⟩ : h.DictOf _ d kvs).mapOf ?_
  rw [b.isSome]
  exact hq _
theorem d_meth {name : Str} {id : String} {pl : Sem Bool} {Q : Value × List Value → Shared → Prop} (D : DI prog w d o c) (ho : h.get? d = some o) (slot : Slot "dict" name id) (hty : typeOf (.builtin id) = pure (.type "method_descriptor"))
    (hq : Q (.builtin id, [.ref d]) (mk s h t)) : wpAny (model prog w) A (getMethod (.ref d) name pl) Q E (mk s h t) := by
  obtain ⟨lo, kvs, ⟨es, ep, ⟨c1, c2, c3⟩, _⟩, b⟩ := D
  exact getMethod_builtin (s := mk s h t) ⟨_, ho, c1⟩ PySem.F.plainAttrs_dict slot hty (fun a e => by cases e; exact ⟨_, ho, c2⟩) hq
theorem d_items {Q : Value → Shared → Prop} (D : DI prog w d o c) (ho : h.get? d = some o)
    (hq : ∀ v h', h'.IsItemsView v d → h.get? v = none → Ext h h' → Q (.ref v) (mk s h' t)) : wpAny (model prog w) A (call (.builtin "dict.items") [.ref d]) Q E (mk s h t) := by
  obtain ⟨lo, kvs, a, b⟩ := D
  have hd : h.DictOf (PySem.intKind prog w) d kvs := Heap.dictOf_iff.mpr ⟨o, ho, a⟩
  exact call_meetsIn (s := mk s h t) PySem.F.slot_dict_items hd.typeIs PySem.F.entry_dict_items (PySem.F.args_dict_items_1 _) (meets_dict_items (PySem.intKind prog w) d lo)
    ⟨⟨kvs, hd⟩, hq _ _ ⟨_, Heap.get?_push_size _ rfl, rfl, rfl⟩ (size_none h) (push_ext h _)⟩
theorem d_values {Q : Value → Shared → Prop} (D : DI prog w d o c) (ho : h.get? d = some o)
    (hq : ∀ v h', h'.IsValuesView v d → h.get? v = none → Ext h h' → Q (.ref v) (mk s h' t)) : wpAny (model prog w) A (call (.builtin "dict.values") [.ref d]) Q E (mk s h t) := by
  obtain ⟨lo, kvs, a, b⟩ := D
  have hd : h.DictOf (PySem.intKind prog w) d kvs := Heap.dictOf_iff.mpr ⟨o, ho, a⟩
  exact call_meetsIn (s := mk s h t) PySem.F.slot_dict_values hd.typeIs PySem.F.entry_dict_values (PySem.F.args_dict_values_1 _) (meets_dict_values (PySem.intKind prog w) d lo)
    ⟨⟨kvs, hd⟩, hq _ _ ⟨_, Heap.get?_push_size _ rfl, rfl, rfl⟩ (size_none h) (push_ext h _)⟩
theorem i_isTuple {n : Int} {Q : Value → Shared → Prop} (hq : ∀ t', Q (.bool false) (mk s h t')) : wpAny (model prog w) A (call (.builtin "isinstance") [.int n u, .type "tuple"]) Q E (mk s h t) :=
  call_isinstance (s := mk s h t) (isinstance_false_int (by decide +kernel) F.isi_meta_tuple F.sub_int_tuple) (hq _)

/-- the walk over items -/
def ItSt (prog : Program) (w : World) (it d : Addr) (kvs : List (Int × Value)) (ep : Nat) (i : Nat) (h : Heap) : Prop := (∃ ok ov, IsItemIter h it d i kvs.length ep ok ov) ∧ h.DictAt (PySem.intKind prog w) d kvs ep
theorem wk_items (hh : A.handled = none) (it d : Addr) (hne : d ≠ it) (kvs : List (Int × Value)) (ep : Nat) :
    Wk2 prog w A it [it, d] [it] kvs.length (fun i v0 v1 => ∃ k u, v0 = .int k u ∧ kvs[i]? = some (k, v1)) (ItSt prog w it d kvs ep) where
  sub := fun b hb => by simp at hb; simp [hb]
  live := fun i h st b hb => by
    obtain ⟨⟨ok, ov, e⟩, _⟩ := st
    rw [List.mem_singleton.mp hb]; exact ⟨_, e⟩
  frame := fun i h h' st hk => by
    obtain ⟨⟨ok, ov, e⟩, dd⟩ := st
    exact ⟨⟨ok, ov, hk it (by simp) _ e⟩, dd.at' fun o e => hk d (by simp) o e⟩
  item := fun elts kk pos i s h t Q hi st hQ => by
    obtain ⟨⟨ok, ov, e⟩, dd⟩ := st
    obtain ⟨⟨k, x⟩, hx⟩ : ∃ p, kvs[i]? = some p := ⟨kvs[i], by simp [hi]⟩
    refine wpAny_pyNext_items_item (s := Mine.mk s h t) e dd hx fun key h' hkey hit' hT hsz hk => ⟨_, rfl, ?_⟩
    have helt : it < h.objs.size := Heap.lt_size e
    refine wpAny_letOwnedTupleGo_items (s := Mine.mk s h' t) hit' fun h'' hit'' hs'' => ?_
    obtain ⟨u, rfl⟩ : ∃ u, key = .int k u := by
      cases key with
      | int n u =>
        have : n = k := by simpa [PySem.intKind, Value.isInt] using hkey
        exact ⟨u, by rw [this]⟩
      | _ => simp [PySem.intKind, Value.isInt] at hkey
    have kk' : ∀ b o, b ∉ [it] → h.get? b = some o → h''.get? b = some o := fun b o hb e => by
      have hb' : b ≠ it := fun q => hb (by simp [q])
      exact (hs''.2 b hb').trans (hk b o hb' e)
    refine hQ h.objs.size (.int k u) x h'' t ⟨k, u, rfl, hx⟩ ?_ ⟨⟨_, _, hit''⟩, ?_⟩ kk'
    · exact ⟨_, (hs''.2 _ (Nat.ne_of_gt helt)).trans hT, rfl, _, rfl⟩
    · exact dd.at' fun o e => kk' d o (by simp [hne]) e
  done := fun s h t Q st hQ => by
    obtain ⟨⟨ok, ov, e⟩, dd⟩ := st
    exact wpAny_pyNext_items_end (s := Mine.mk s h t) hh e dd (by simp) fun h' he' => hQ h' t fun b o hb e => he' b o (fun q => hb (by simp [q])) e
theorem p_items {v : Addr} {Q : Value → Shared → Prop} (hv : h.IsItemsView v d) {kvs : List (Int × Value)} {ep : Nat} (hm : h.DictAt (PySem.intKind prog w) d kvs ep)
    (hq : ∀ it h', ItSt prog w it d kvs ep 0 h' → h.get? it = none → Ext h h' → Q (.ref it) (mk s h' t)) : wpAny (model prog w) A (pyIter (.ref v)) Q E (mk s h t) :=
  wpAny_pyIter_items (s := mk s h t) hv hm (hq _ _ ⟨⟨_, _, Heap.get?_push_size _ rfl⟩, hm.push _⟩ (size_none h) (push_ext h _))
theorem wk_values (hh : A.handled = none) (it d : Addr) (hne : d ≠ it) (kvs : List (Int × Value)) (ep : Nat) :
    Wk1 prog w A it [it, d] [it] kvs.length (fun i v => ∃ k, kvs[i]? = some (k, v)) (fun i h => h.IsValIter it d i kvs.length ep ∧ h.DictAt (PySem.intKind prog w) d kvs ep) :=
  Wk1.of (Walks.dictValues (knd := PySem.intKind prog w) hh it d hne kvs ep) fun i h st b hb => by
    obtain ⟨⟨o, ho, _⟩, _⟩ := st
    rw [List.mem_singleton.mp hb]; exact ⟨o, ho⟩
theorem p_values {v : Addr} {Q : Value → Shared → Prop} (hv : h.IsValuesView v d) {kvs : List (Int × Value)} {ep : Nat} (hm : h.DictAt (PySem.intKind prog w) d kvs ep)
    (hq : ∀ it h', h'.IsValIter it d 0 kvs.length ep → h'.DictAt (PySem.intKind prog w) d kvs ep → h.get? it = none → Ext h h' → Q (.ref it) (mk s h' t)) : wpAny (model prog w) A (pyIter (.ref v)) Q E (mk s h t) :=
  wpAny_pyIter_values (s := mk s h t) hv hm (hq _ _ ⟨_, Heap.get?_push_size _ rfl, rfl, rfl⟩ (hm.push _) (size_none h) (push_ext h _))
end
end Mine
end
-- part Pl3
section
set_option linter.unusedVariables false
namespace Mine
theorem any_false {c : List (Int × Int)} {k : Int} (h : k ∉ c.map (·.1)) : c.any (fun p => decide (p.1 = k)) = false := by
  rw [List.any_eq_false]
  intro p hp
  simp only [decide_eq_true_eq]
  intro e
  exact h (e ▸ List.mem_map_of_mem hp)
theorem putD_new {c : List (Int × Int)} {k v : Int} (h : k ∉ c.map (·.1)) : putD c k v = c ++ [(k, v)] := by
  unfold putD; rw [any_false h]; rfl
theorem put_take {c : List (Int × Int)} (hn : (c.map (·.1)).Nodup) {i : Nat} (hi : i < c.length) : putD (c.take i) c[i].1 c[i].2 = c.take (i + 1) := by
  rw [putD_new, List.take_add_one, List.getElem?_eq_getElem hi]
  · rfl
  · intro hm
    rw [List.map_take] at hm
    obtain ⟨j, hj, e⟩ := List.getElem_of_mem hm
    rw [List.getElem_take] at e
    have hj' : j < i := by simp at hj; omega
    have hlen : j < (c.map (·.1)).length := by simp; omega
    have hlen' : i < (c.map (·.1)).length := by simpa using hi
    have e2 : (c.map (·.1))[i] = c[i].1 := by simp
    rw [← e2] at e
    have := (List.getElem_inj hn (h₀ := hlen) (h₁ := hlen')).mp e
    omega
theorem addD_none {c : List (Int × Int)} {k v : Int} (h : lookD c k = none) : addD c (k, v) = putD c k v := by unfold addD; simp only [h]
theorem addD_some {c : List (Int × Int)} {k v u : Int} (h : lookD c k = some u) : addD c (k, v) = putD c k (u + v) := by unfold addD; simp only [h]
theorem putD_length (c : List (Int × Int)) (k v : Int) : (putD c k v).length ≤ c.length + 1 := by
  unfold putD
  split <;> simp
theorem addD_length (c : List (Int × Int)) (p : Int × Int) : (addD c p).length ≤ c.length + 1 := by
  unfold addD
  split <;> exact putD_length _ _ _
theorem foldl_addD_length (src : List (Int × Int)) : ∀ c, (src.foldl addD c).length ≤ c.length + src.length := by
  induction src with
  | nil => intro c; simp
  | cons p src ih =>
    intro c
    rw [List.foldl_cons, List.length_cons]
    have h1 := ih (addD c p)
    have h2 := addD_length c p
    omega
theorem foldl_take {src c : List (Int × Int)} {i : Nat} (hi : i < src.length) : (src.take (i + 1)).foldl addD c = addD ((src.take i).foldl addD c) src[i] := by
  rw [List.take_add_one, List.getElem?_eq_getElem hi, List.foldl_append]; rfl
end Mine
end
-- part Rng
section
open PySem PySem.W PySem.Calls PyProof.Rows
set_option Elab.async false
set_option maxRecDepth 100000
set_option maxHeartbeats 4000000
set_option linter.unusedVariables false
namespace Mine
section
variable {prog : Program} {w : World} {A : Around} {s : Shared} {h : Heap} {t : Nat} {env : Env} {E : Value → Shared → Prop} {Q : Value → Shared → Prop} {a b c : Int} {ta tb tc : Tok}
theorem r_1 (hq : ∀ r h' t' u v z, h.get? r = none → IsRange h' r 0 a 1 u v z → Ext h h' → Q (.ref r) (mk s h' t')) : wpAny (model prog w) A (call (.type "range") [.int a ta]) Q E (mk s h t) :=
  call_range_1 (s := mk s h t) (hq _ _ _ _ _ _ (size_none h) (Heap.get?_push_size _ rfl) (push_ext h _))
theorem r_2 (hq : ∀ r h' t' u v z, h.get? r = none → IsRange h' r a b 1 u v z → Ext h h' → Q (.ref r) (mk s h' t')) : wpAny (model prog w) A (call (.type "range") [.int a ta, .int b tb]) Q E (mk s h t) :=
  call_range_2 (s := mk s h t) (hq _ _ _ _ _ _ (size_none h) (Heap.get?_push_size _ rfl) (push_ext h _))
theorem r_3 (h0 : c ≠ 0) (h1 : c.natAbs < 1073741824) (hq : ∀ r h' t' u v z, h.get? r = none → IsRange h' r a b c u v z → Ext h h' → Q (.ref r) (mk s h' t')) : wpAny (model prog w) A (call (.type "range") [.int a ta, .int b tb, .int c tc]) Q E (mk s h t) :=
  call_range_3 (s := mk s h t) h0 (hq _ _ _ _ _ _ (size_none h) (Heap.get?_push_size _ rfl) (push_ext h _)) (.inl (PyProof.noPylong_small h1))
theorem fitsLong {x : Int} (h1 : -10000000 ≤ x) (h2 : x ≤ 10000000) : Builtin.Range.rangeFitsLong x = true := by
  unfold Builtin.Range.rangeFitsLong
  simp only [Bool.and_eq_true, decide_eq_true_eq]
  omega
theorem p_range1 {r : Addr} {u v z : Tok} (hr : IsRange h r a b 1 u v z) (a1 : -1000000 ≤ a) (a2 : a ≤ 1000000) (b1 : -1000000 ≤ b) (b2 : b ≤ 1000000)
    (hq : ∀ it h', IsRangeIter h' it a ((b - a).toNat) 1 → h.get? it = none → Ext h h' → Q (.ref it) (mk s h' t)) : wpAny (model prog w) A (pyIter (.ref r)) Q E (mk s h t) := by
  have hs : Builtin.Range.rangeSize a b 1 = ((b - a).toNat : Int) := by
    rw [rangeSize_one]; split <;> omega
  refine wpAny_pyIter_range (s := mk s h t) hr ?_ ?_
  · unfold Builtin.Range.small
    rw [hs, fitsLong (by omega) (by omega), fitsLong (by omega) (by omega), fitsLong (by omega) (by omega), fitsLong (by omega) (by omega), if_pos (by decide), fitsLong (by omega) (by omega)]
    simp
  · rw [hs]
    exact hq _ _ (Heap.get?_push_size _ rfl) (size_none h) (push_ext h _)
theorem p_range2 {r : Addr} {u v z : Tok} {k : Nat} (hr : IsRange h r (2 * (k : Int)) (-1) (-2) u v z) (hk : k ≤ 1000000)
    (hq : ∀ it h', IsRangeIter h' it (2 * (k : Int)) ((k + 1 : Nat) : Int) (-2) → h.get? it = none → Ext h h' → Q (.ref it) (mk s h' t)) : wpAny (model prog w) A (pyIter (.ref r)) Q E (mk s h t) := by
  have hs : Builtin.Range.rangeSize (2 * (k : Int)) (-1) (-2) = ((k + 1 : Nat) : Int) := by
    unfold Builtin.Range.rangeSize
    rw [if_neg (by decide), if_pos (by omega), show (- -2 : Int) = 2 from rfl]
    omega
  refine wpAny_pyIter_range (s := mk s h t) hr ?_ ?_
  · unfold Builtin.Range.small
    rw [hs, fitsLong (by omega) (by omega), fitsLong (by omega) (by omega), fitsLong (by omega) (by omega), fitsLong (by omega) (by omega), if_neg (by decide), fitsLong (by omega) (by omega)]
    simp
  · rw [hs]
    exact hq _ _ (Heap.get?_push_size _ rfl) (size_none h) (push_ext h _)
theorem wk_range (hh : A.handled = none) (it : Addr) (a c : Int) (n : Nat) :
    Wk1 prog w A it [it] [it] n (fun i v => ∃ t, v = .int (a + i * c) t) (fun i h => IsRangeIter h it (a + (i : Nat) * c) ((n : Int) - (i : Nat)) c) :=
  Wk1.of (Walks.range hh it a c n) fun i h st b hb => by rw [List.mem_singleton.mp hb]; exact ⟨_, st⟩
theorem i_neg (hq : ∀ t' u, Q (.int (-a) u) (mk s h t')) : wpAny (model prog w) A (unaryOp .USub (.int a ta)) Q E (mk s h t) := PyProof.Rows.neg_int (s := mk s h t) (hq _ _)
theorem i_last {value slice : PySem.Expr} {l : Addr} {vs : List Value} {ns : List Int} {ty : Tok} (hl : h.IsList l vs.toArray) (hi : IntsAre vs ns) (h0 : 0 < ns.length)
    (hq : ∀ u, Q (.int (ns.getD (ns.length - 1) 0) u) (mk s h t))
    (hs : subscripted slice false (.ref l) (.int (-1) ty) = operate [.ref l, .int (-1) ty] (getItem (.ref l) (.int (-1) ty))) (hg : ∀ r, letTemporaryGo value (.ref l) r = pure ()) :
    wpAny (model prog w) A (subscriptTail value slice (.ref l) (.int (-1) ty)) Q E (mk s h t) := by
  have hlt : ns.length - 1 < ns.length := by omega
  have hlen := hi.length
  obtain ⟨u, hx⟩ := hi.get (ns.length - 1) (ns[ns.length - 1]) (by simp [hlt])
  refine subscriptTail_builtin (s := mk s h t) hl.typeIs slot_list_getitem.lookup (wpAny_getItem_list_neg hl (by decide) ?_ (by decide) (x := .int (ns[ns.length - 1]) u) ?_ ?_) hs hg
  · simp; omega
  · have e : (-1 + (vs.toArray.size : Int)).toNat = ns.length - 1 := by simp; omega
    rw [e]; simpa using hx
  · have := hq u
    rwa [List.getD_eq_getElem?_getD, List.getElem?_eq_getElem hlt] at this
end
end Mine
end
-- part Comp
section
open PySem PySem.W PySem.Calls PyProof.Rows
set_option Elab.async false
set_option maxRecDepth 100000
set_option maxHeartbeats 4000000
set_option linter.unusedVariables false
namespace Mine
def Tests (ifs : List PySem.Expr) (env : Env) : Sem Bool := forIn ifs true fun c r => if r = true then do let ok ← isTrue c env (eval c env); pure (ForInStep.yield ok) else pure (ForInStep.yield r)
section
variable {prog : Program} {w : World} {A : Around} {E : Value → Shared → Prop} {σ : Shared} {env : Env} {Q : Bool → Shared → Prop}
theorem tests0 (h : Q true σ) : wpAny (model prog w) A (Tests [] env) Q E σ := wpAny_tests_nil h
theorem tests1 {c : PySem.Expr} (h : wpAny (model prog w) A (isTrue c env (eval c env)) Q E σ) : wpAny (model prog w) A (Tests [c] env) Q E σ := wpAny_tests_one h
end

/-- how a target takes an item: K holds behind it -/
abbrev Take := Value → (Shared → Prop) → Shared → Prop
def Take.Grows (B : Take) : Prop := ∀ v K K' s, (∀ s', K s' → K' s') → B v K s → B v K' s
/-- one turn of a list comprehension: «over» when the items are at their end, else «again» -/
def CTurn (prog : Program) (w : World) (A : Around) (B : Take) (T : Sem Bool) (elt : PySem.Expr) (it acc : Value) (env : Env) (over again : Shared → Prop) (s : Shared) : Prop :=
  wpAny (model prog w) A (pyNext it) (fun r s₁ => match r with
    | none => over s₁
    | some v => B v (fun s₂ => wpAny (model prog w) A T (fun ok s₃ => if ok = true
        then wpAny (model prog w) A (eval elt env) (fun y s₄ => wpAny (model prog w) A (call (.builtin "list.append") [acc, y]) (fun _ => again) NoE s₄) NoE s₃
        else again s₃) NoE s₂) s₁) NoE s
/-- the turns, as often as there are items -/
def CRule (prog : Program) (w : World) (A : Around) (B : Take) (T : Sem Bool) (elt target iter : PySem.Expr) (ifs : List PySem.Expr) (scope : Scope) (pos : Pos) (it acc : Value) (env : Env) (R : Result → Shared → Prop) : Prop :=
  ∀ I : Nat → Shared → Prop, (∀ n s, I n s → CTurn prog w A B T elt it acc env (R (.ok .next)) (fun s' => ∃ m, m < n ∧ I m s') s) →
    ∀ n s, I n s → codeAny (model prog w) A (.compLoop (.ListComp elt [⟨target, iter, ifs, 0⟩] scope pos) 0 it acc env) R s
abbrev takeN (prog : Program) (w : World) (A : Around) (x : Str) (px : Pos) (env : Env) : Take :=
  fun v K s => wpAny (model prog w) A (assign (.Name x px) env v) (fun _ => K) NoE s
abbrev takeT (prog : Program) (w : World) (A : Around) (target : PySem.Expr) (it : Value) (env : Env) : Take :=
  fun v K s => wpAny (model prog w) A (letOwnedTupleGo target it v) (fun _ s' => wpAny (model prog w) A (assign target env v) (fun _ => K) NoE s') NoE s
section
variable {prog : Program} {w : World} {A : Around} {elt iter target c : PySem.Expr} {ifs : List PySem.Expr} {scope : Scope} {pos : Pos} {it acc : Value} {env : Env} {R : Result → Shared → Prop} {x : Str} {px : Pos}
theorem takeN_grows : (takeN prog w A x px env).Grows := fun _ _ _ _ k h => wpAny_mono h (fun _ s' q => k s' q) fun _ _ q => q
theorem takeT_grows : (takeT prog w A target it env).Grows := fun _ _ _ _ k h =>
  wpAny_mono h (fun _ _ h' => wpAny_mono h' (fun _ s' q => k s' q) fun _ _ q => q) fun _ _ q => q
/-- what stands behind a test -/
theorem tested {E : Value → Shared → Prop} {again : Shared → Prop} {ok : Bool} {s : Shared}
    (h : if ok = true then wpAny (model prog w) A (eval elt env) (fun y s₄ => wpAny (model prog w) A (call (.builtin "list.append") [acc, y]) (fun _ => again) NoE s₄) NoE s else again s) :
    if ok = true then wpAny (model prog w) A (eval elt env) (fun y s₄ => wpAny (model prog w) A (call (.builtin "list.append") [acc, y]) (fun _ => again) E s₄) E s else again s := by
  split at h
  · next hk => rw [if_pos hk]; exact wpAny_mono h (fun _ _ h' => wpAny_any h') fun _ _ q => q.elim
  · next hk => rw [if_neg hk]; exact h
/-- a name takes the items: the library's loop -/
theorem rule_name : CRule prog w A (takeN prog w A x px env) (Tests ifs env) elt (.Name x px) iter ifs scope pos it acc env R := fun I turn n s h => by
  refine codeAny_compLoop_tests I (fun n s hI => ?_) n h
  refine wpAny_mono (turn n s hI) (fun r s₁ h₁ => ?_) fun _ _ q => q.elim
  match r, h₁ with
  | none, h₁ => exact h₁
  | some v, h₁ => exact wpAny_mono h₁ (fun _ _ h₂ => wpAny_mono h₂ (fun _ _ h₃ => tested h₃) fun _ _ q => q.elim) fun _ _ q => q.elim
/-- names in a tuple take the items, one test: the library's loop -/
theorem rule_tuple : CRule prog w A (takeT prog w A target it env) (isTrue c env (eval c env)) elt target iter [c] scope pos it acc env R := fun I turn n s h => by
  refine kct_loop I (fun n s hI => ?_) n h
  refine wpAny_mono (turn n s hI) (fun r s₁ h₁ => ?_) fun _ _ q => q.elim
  match r, h₁ with
  | none, h₁ => exact h₁
  | some v, h₁ =>
    exact wpAny_mono h₁ (fun _ _ h₂ => wpAny_mono h₂ (fun _ _ h₃ => wpAny_mono h₃ (fun _ _ h₄ => tested h₄) fun _ _ q => q.elim) fun _ _ q => q.elim) fun _ _ q => q.elim
end

/-- what a turn of a comprehension leaves -/
def CLeft {σ : Type} (s : Shared) (hb : Heap) (C D : Addr) (wr : List Addr) (own : List (Addr × Obj)) (nw : σ → List (Addr × Obj)) (J : σ → Prop) (ys : List Value) (k : Nat) (s₄ : Shared) : Prop :=
  ∃ c' h' t' mc', s₄ = mk s h' t' ∧ Fr hb C h' mc' ∧ News hb C h' ((D, lst ys k) :: (nw c' ++ own)) ∧ (∀ p ∈ nw c', p.1 ∉ D :: wr) ∧ J c'

section
variable {prog : Program} {w : World} {A : Around} {s : Shared} {env : Env} {h : Heap} {t : Nat}

/-- a comprehension's loop by its own invariant -/
theorem compLoopR {σ : Type} {B : Take} {T : Sem Bool} {elt target iter : PySem.Expr} {ifs : List PySem.Expr} {scope : Scope} {pos : Pos} {cenv : Env} {It C D : Addr} {fp wr : List Addr} {n : Nat} {St : Nat → Heap → Prop} {R : Result → Shared → Prop} {mc : Str → Option Value} {hb h₁ : Heap}
    (grows : B.Grows) (rule : CRule prog w A B T elt target iter ifs scope pos (.ref It) (.ref D) cenv R)
    (sub : ∀ b ∈ wr, b ∈ fp) (live : ∀ i h, St i h → ∀ b ∈ wr, ∃ o, h.get? b = some o)
    (hCf : C ∉ fp) (hDf : D ∉ fp) (hwr : ∀ b ∈ wr, hb.get? b = none)
    (nw : σ → List (Addr × Obj)) (J : Nat → σ → List Value → Prop) (c₀ : σ)
    (F : Fr hb C h₁ mc) (N : News hb C h₁ ((D, lst [] 0) :: nw c₀)) (hoff : ∀ p ∈ nw c₀, p.1 ∉ D :: wr) (hst : St 0 h₁) (hJ : J 0 c₀ []) (hn : n ≤ 100000)
    (step : ∀ i c (ys : List Value) k h' t' m', i < n → J i c ys → (∀ p ∈ nw c, p.1 ∉ D :: wr) → St i h' → Fr hb C h' m' → News hb C h' ((D, lst ys k) :: nw c) →
      wpAny (model prog w) A (pyNext (.ref It)) (fun r s₁ => ∃ v, r = some v ∧ B v (fun s₂ =>
        wpAny (model prog w) A T (fun ok s₃ => if ok = true then wpAny (model prog w) A (eval elt cenv) (fun y s₄ => ∃ own, CLeft s hb C D wr own nw (fun c' => J (i + 1) c' (ys ++ [y])) ys k s₄ ∧ (∀ p ∈ own, p.1 ∈ fp) ∧ ∀ h'' m'', Fr hb C h'' m'' → News hb C h'' own → St (i + 1) h'') NoE s₃
          else ∃ own, CLeft s hb C D wr own nw (fun c' => J (i + 1) c' ys) ys k s₃ ∧ (∀ p ∈ own, p.1 ∈ fp) ∧ ∀ h'' m'', Fr hb C h'' m'' → News hb C h'' own → St (i + 1) h'') NoE s₂) s₁) NoE (mk s h' t'))
    (fin : ∀ h' t', St n h' → ∀ Q : Option Value → Shared → Prop, (∀ h'' t'', (∀ b o, b ∉ wr → h'.get? b = some o → h''.get? b = some o) → Q none (mk s h'' t'')) → wpAny (model prog w) A (pyNext (.ref It)) Q NoE (mk s h' t'))
    (done : ∀ c ys k h' t' m', J n c ys → (∀ p ∈ nw c, p.1 ∉ D :: wr) → Fr hb C h' m' → News hb C h' ((D, lst ys k) :: nw c) → R (.ok .next) (mk s h' t')) :
    codeAny (model prog w) A (.compLoop (.ListComp elt [⟨target, iter, ifs, 0⟩] scope pos) 0 (.ref It) (.ref D) cenv) R (mk s h₁ t) := by
  have hCw : C ∉ wr := fun q => hCf (sub _ q)
  have hDw : D ∉ wr := fun q => hDf (sub _ q)
  have hIe : ∃ I : Nat → Shared → Prop, I = fun kk s' => ∃ c ys k h' t' m' i, s' = mk s h' t' ∧ St i h' ∧ Fr hb C h' m' ∧ News hb C h' ((D, lst ys k) :: nw c) ∧ (∀ p ∈ nw c, p.1 ∉ D :: wr) ∧ J i c ys ∧ ys.length ≤ i ∧ i ≤ n ∧ kk = n + 1 - i := ⟨_, rfl⟩
  obtain ⟨I, hI⟩ := hIe
  refine rule I ?_ (n + 1) _ (by rw [hI]; exact ⟨c₀, [], 0, h₁, t, mc, 0, rfl, hst, F, N, hoff, hJ, Nat.le_refl _, Nat.zero_le _, rfl⟩)
  intro kk s' hs'
  rw [hI] at hs'
  obtain ⟨c, ys, k, h', t', m', i, rfl, hst', F', N', hoff', hJ', hlen, hi, rfl⟩ := hs'
  unfold CTurn
  by_cases hlt : i < n
  · refine wpAny_mono (step i c ys k h' t' m' hlt hJ' hoff' hst' F' N') (fun r s₁ h₁ => ?_) fun _ _ x => x
    obtain ⟨v, rfl, h₁⟩ := h₁
    refine grows v _ _ s₁ (fun s₂ h₂ => wpAny_mono h₂ (fun ok s₃ h₃ => ?_) fun _ _ x => x) h₁
    cases ok with
    | true =>
      simp only [if_true] at h₃ ⊢
      refine wpAny_mono h₃ (fun y s₄ h₄ => ?_) fun _ _ x => x
      obtain ⟨own, ⟨c', h'', t'', m'', rfl, F'', N'', off'', J''⟩, hown, hSt⟩ := h₄
      refine l_append (N'' _ mem0).1 (by omega) fun h₅ k₅ o₅ sb₅ => ?_
      have hne : ∀ p ∈ nw c' ++ own, p.1 ≠ D := fun p hp => by
        rcases List.mem_append.mp hp with q | q
        · exact fun e => off'' p q (by simp [e])
        · exact fun e => hDf (e ▸ hown p q)
      obtain ⟨F₅, N₅⟩ := upd1 F'' N'' hne (sameBut_ext sb₅) o₅
      refine ⟨n + 1 - (i + 1), by omega, ?_⟩
      rw [hI]
      refine ⟨c', ys ++ [y], k₅, h₅, t'', m'', i + 1, rfl, hSt _ _ F₅ fun p hp => N₅ p (mem1 (List.mem_append_right _ hp)), F₅, fun p hp => N₅ p ?_, off'', J'', by simp; omega, hlt, rfl⟩
      rcases List.mem_cons.mp hp with rfl | hp
      · exact mem0
      · exact mem1 (List.mem_append_left _ hp)
    | false =>
      simp only [Bool.false_eq_true, if_false] at h₃ ⊢
      obtain ⟨own, ⟨c', h'', t'', m'', rfl, F'', N'', off'', J''⟩, hown, hSt⟩ := h₃
      refine ⟨n + 1 - (i + 1), by omega, ?_⟩
      rw [hI]
      refine ⟨c', ys, k, h'', t'', m'', i + 1, rfl, hSt _ _ F'' fun p hp => N'' p (mem1 (List.mem_append_right _ hp)), F'', fun p hp => N'' p ?_, off'', J'', by omega, hlt, rfl⟩
      rcases List.mem_cons.mp hp with rfl | hp
      · exact mem0
      · exact mem1 (List.mem_append_left _ hp)
  · have hin : i = n := by omega
    subst hin
    refine fin h' t' hst' _ fun h'' t'' kk => ?_
    have hne : ∀ p ∈ (D, lst ys k) :: nw c, p.1 ∉ wr := fun p hp => by
      rcases List.mem_cons.mp hp with rfl | hp
      · exact hDw
      · exact fun q => hoff' p hp (by simp [q])
    obtain ⟨F'', N''⟩ := stays_wr hCw hwr F' N' hne kk
    exact done c ys k h'' t'' m' hJ' hoff' F'' N''
end

section
variable {prog : Program} {w : World} {A : Around} {s : Shared} {env : Env} {h : Heap} {t : Nat}
theorem unhide {wr : List Addr} {b : Addr} (hb : (hideAll h wr).get? b = none) (hw : b ∉ wr) : h.get? b = none := by
  cases q : h.get? b with
  | none => rfl
  | some o => rw [hideAll_get wr q hw] at hb; cases hb

theorem comp1 {σ : Type} {elt iter : PySem.Expr} {x : Str} {px : Pos} {ifs : List PySem.Expr} {scope : Scope} {cl : List (Str × Addr)} {pos : Pos} {It : Addr} {fp wr : List Addr} {n : Nat} {P : Nat → Value → Prop} {St : Nat → Heap → Prop}
    {use : Option (Value → Sem Unit)} {Q : Value → Shared → Prop}
    (W : Wk1 prog w A It fp wr n P St) (self : ∀ h t (Q : Value → Shared → Prop), St 0 h → Q (.ref It) (mk s h t) → wpAny (model prog w) A (pyIter (.ref It)) Q NoE (mk s h t))
    (hcell : ∀ y ∈ scope.names, y.2 ≠ .cell) (hkind : scope.kind = .function) (hfp : ∀ b ∈ fp, b < h.objs.size) (hst : St 0 h) (hn : n ≤ 100000)
    (nw : σ → List (Addr × Obj)) (J : Nat → σ → List Value → Prop) (c₀ : σ) (hnw : nw c₀ = []) (hJ : J 0 c₀ [])
    (turn : ∀ C D i v c (ys : List Value) k h' t' mc own, h.objs.size ≤ C → h.objs.size ≤ D → i < n → P i v → J i c ys → (∀ p ∈ nw c, p.1 ∉ D :: wr) → (∀ b ∈ D :: wr, ∃ o, (b, o) ∈ (D, lst ys k) :: own) → Fr (hideAll h wr) C h' mc → News (hideAll h wr) C h' ((D, lst ys k) :: (nw c ++ own)) →
      wpAny (model prog w) A (storeName (compEnvC scope cl C env) x v) (fun _ s₂ => wpAny (model prog w) A (Tests ifs (compEnvC scope cl C env)) (fun ok s₃ => if ok = true then wpAny (model prog w) A (eval elt (compEnvC scope cl C env)) (fun y s₄ => CLeft s (hideAll h wr) C D wr own nw (fun c' => J (i + 1) c' (ys ++ [y])) ys k s₄) NoE s₃
        else CLeft s (hideAll h wr) C D wr own nw (fun c' => J (i + 1) c' ys) ys k s₃) NoE s₂) NoE (mk s h' t'))
    (done : ∀ C D c ys k h' t' mc, h.get? C = none → h.get? D = none → D ≠ C → h'.Ns C mc → (∀ b o, b ∉ wr → h.get? b = some o → h'.get? b = some o) → h'.get? D = some (lst ys k) → (∀ p ∈ nw c, h'.get? p.1 = some p.2 ∧ h.get? p.1 = none ∧ p.1 ≠ C) → J n c ys → compPost (model prog w) A NoE use Q (.ref D) C (.ok .next) (mk s h' t')) :
    wpAny (model prog w) A (newList []) (fun acc s₃ => wpAny (model prog w) A (newFunctionEnv scope env.globals cl [] env.qual none .none (some env)) (fun cenv s₄ =>
      codeAny (model prog w) A (.compStart (.ListComp elt [⟨.Name x px, iter, ifs, 0⟩] scope pos) 0 (.ref It) acc { cenv with scope := relabel scope env }) (compPost (model prog w) A NoE use Q acc cenv.locals) s₄) NoE s₃) NoE (mk s h t) := by
  refine wpAny_newObj_type (s := mk s h t) (wpAny_newFunctionEnv hcell (by intro y hy; simp at hy) (fun h₁ hns₁ hsb₁ => ?_) hkind)
  dsimp only at hns₁ hsb₁ ⊢
  generalize hH2 : (mk s h t).heap.push { cls := .type "list", dict := none, data := .seq ([] : List Value).toArray } = H2 at hns₁ hsb₁ ⊢
  replace hH2 : h.push { cls := .type "list", dict := none, data := .seq ([] : List Value).toArray } = H2 := hH2
  have hC : H2.objs.size = h.objs.size + 1 := by rw [← hH2, Heap.size_push]
  have hDC : h.objs.size ≠ H2.objs.size := by rw [hC]; exact Nat.ne_of_lt (Nat.lt_succ_self _)
  have old : ∀ b o, h.get? b = some o → h₁.get? b = some o := fun b o e => hsb₁.extBut b o (by rw [hC]; exact Nat.ne_of_lt (Nat.lt_succ_of_lt (Heap.lt_size e))) (Heap.get?_push_of_some _ (hH2 ▸ Heap.get?_push_of_some _ e))
  have hD : h₁.get? h.objs.size = some (lst [] 0) := hsb₁.extBut _ _ hDC (Heap.get?_push_of_some _ (hH2 ▸ Heap.get?_push_size _ rfl))
  have hst₁ : St 0 h₁ := W.frame _ _ _ hst fun b _ o e => old b o e
  have fresh : ∀ a, h.objs.size ≤ a → h.get? a = none := fun a ha => Heap.get?_none_of_le ha
  have hbs : (hideAll h wr).objs.size = h.objs.size := hideAll_size _ _
  have F₁ : Fr (hideAll h wr) H2.objs.size h₁ _ := ⟨hns₁, fun b o e => old b o (of_hideAll _ e), by rw [hbs, hC]; exact Nat.le_succ _⟩
  have hnone : ∀ a, h.objs.size ≤ a → (hideAll h wr).get? a = none := fun a ha => Heap.get?_none_of_le (by rw [hbs]; exact ha)
  have N₁ : News (hideAll h wr) H2.objs.size h₁ ((h.objs.size, lst [] 0) :: nw c₀) := by
    rw [hnw]
    exact all1 ⟨hD, hDC, hnone _ (Nat.le_refl _)⟩ all0
  have hDf : h.objs.size ∉ fp := fun hm => Nat.lt_irrefl _ (hfp _ hm)
  have hCf : H2.objs.size ∉ fp := fun hm => by have := hfp _ hm; rw [hC] at this; exact absurd (Nat.lt_of_succ_lt this) (Nat.lt_irrefl _)
  have loop : codeAny (model prog w) A (.compLoop (.ListComp elt [⟨.Name x px, iter, ifs, 0⟩] scope pos) 0 (.ref It) (.ref h.objs.size) (compEnvC scope cl H2.objs.size env))
        (compPost (model prog w) A NoE use Q (.ref h.objs.size) H2.objs.size) (mk s h₁ t) := by
    refine compLoopR (σ := σ) (cenv := compEnvC scope cl H2.objs.size env) (St := St) takeN_grows rule_name W.sub W.live hCf hDf (fun b hb => hideAll_none _ hb) nw J c₀ F₁ N₁ (by rw [hnw]; exact all0) hst₁ hJ hn ?_ (fun h' t' st Q hQ => W.done s h' t' Q st hQ) ?_
    · intro i c ys k h' t' m' hi hJ' hoff' st' F' N'
      refine W.item i s h' t' _ hi st' fun v h₂ t₂ hP st₂ k₂ => ⟨v, rfl, ?_⟩
      have hne : ∀ p ∈ (h.objs.size, lst ys k) :: nw c, p.1 ∉ wr := fun p hp => by
        rcases List.mem_cons.mp hp with rfl | hp
        · exact fun q => hDf (W.sub _ q)
        · exact fun q => hoff' p hp (by simp [q])
      obtain ⟨F₂, N₂⟩ := stays_wr (fun q => hCf (W.sub _ q)) (fun b hb => hideAll_none _ hb) F' N' hne k₂
      have Nown : News (hideAll h wr) H2.objs.size h₂ (ownOf (hideAll h wr) fp h₂) := news_ownOf hCf
      refine wpAny_assign_Name ?_
      have N₃ : News (hideAll h wr) H2.objs.size h₂ ((h.objs.size, lst ys k) :: (nw c ++ ownOf (hideAll h wr) fp h₂)) := fun p hp => by
        rcases List.mem_cons.mp hp with rfl | hp
        · exact N₂ _ mem0
        · rcases List.mem_append.mp hp with q | q
          · exact N₂ p (mem1 q)
          · exact Nown p q
      have hSt : ∀ h'' m'', Fr (hideAll h wr) H2.objs.size h'' m'' → News (hideAll h wr) H2.objs.size h'' (ownOf (hideAll h wr) fp h₂) → St (i + 1) h'' := fun h'' m'' F'' N'' =>
        W.frame _ _ _ st₂ (fp_back (news' := []) F₂ F'' N'')
      have hown : ∀ p ∈ ownOf (hideAll h wr) fp h₂, p.1 ∈ fp := ownOf_sub
      have hlv : ∀ b ∈ h.objs.size :: wr, ∃ o, (b, o) ∈ (h.objs.size, lst ys k) :: ownOf (hideAll h wr) fp h₂ := fun b hb => by
        rcases List.mem_cons.mp hb with rfl | hb
        · exact ⟨_, mem0⟩
        · obtain ⟨o, ho⟩ := W.live _ _ st₂ b hb
          exact ⟨o, mem1 (mem_ownOf (W.sub _ hb) (hideAll_none _ hb) ho)⟩
      refine wpAny_mono (turn H2.objs.size h.objs.size i v c ys k h₂ t₂ m' (ownOf (hideAll h wr) fp h₂) (by rw [hC]; exact Nat.le_succ _) (Nat.le_refl _) hi hP hJ' hoff' hlv F₂ N₃) (fun _ s₂ h₂' => wpAny_mono h₂' (fun ok s₃ h₃ => ?_) fun _ _ x => x) fun _ _ x => x
      cases ok with
      | true =>
        simp only [if_true] at h₃ ⊢
        exact wpAny_mono h₃ (fun y s₄ h₄ => ⟨_, h₄, hown, hSt⟩) fun _ _ x => x
      | false =>
        simp only [Bool.false_eq_true, if_false] at h₃ ⊢
        exact ⟨_, h₃, hown, hSt⟩
    · intro c ys k h' t' m' hJ' hoff' F' N'
      refine done H2.objs.size h.objs.size c ys k h' t' m' (fresh _ (by rw [hC]; exact Nat.le_succ _)) (fresh _ (Nat.le_refl _)) hDC F'.ns (fun b o hb e => F'.keep b o (hideAll_get wr e hb)) (N' _ mem0).1 (fun p hp => ?_) hJ'
      have P := N' p (mem1 hp)
      exact ⟨P.1, unhide P.2.2 fun q => hoff' p hp (by simp [q]), P.2.1⟩
  exact codeAny_compStart_list loop (wpAny_any (self h₁ t _ hst₁ loop))
theorem comp2 {σ : Type} {elt iter : PySem.Expr} {x y : Str} {px py pt : Pos} {kt : Nat} {test : PySem.Expr} {scope : Scope} {cl : List (Str × Addr)} {pos : Pos} {It : Addr} {fp wr : List Addr} {n : Nat} {P : Nat → Value → Value → Prop} {St : Nat → Heap → Prop}
    {use : Option (Value → Sem Unit)} {Q : Value → Shared → Prop}
    (hh : A.handled = none) (W : Wk2 prog w A It fp wr n P St) (self : ∀ h t (Q : Value → Shared → Prop), St 0 h → Q (.ref It) (mk s h t) → wpAny (model prog w) A (pyIter (.ref It)) Q NoE (mk s h t))
    (hcell : ∀ y ∈ scope.names, y.2 ≠ .cell) (hkind : scope.kind = .function) (hfp : ∀ b ∈ fp, b < h.objs.size) (hst : St 0 h) (hn : n ≤ 100000)
    (nw : σ → List (Addr × Obj)) (J : Nat → σ → List Value → Prop) (c₀ : σ) (hnw : nw c₀ = []) (hJ : J 0 c₀ [])
    (turn : ∀ C D i v0 v1 c (ys : List Value) k h' t' mc own, h.objs.size ≤ C → h.objs.size ≤ D → i < n → P i v0 v1 → J i c ys → (∀ p ∈ nw c, p.1 ∉ D :: wr) → (∀ b ∈ D :: wr, ∃ o, (b, o) ∈ (D, lst ys k) :: own) → Fr (hideAll h wr) C h' mc → News (hideAll h wr) C h' ((D, lst ys k) :: (nw c ++ own)) →
      wpAny (model prog w) A (storeName (compEnvC scope cl C env) x v0) (fun _ s₁ => wpAny (model prog w) A (storeName (compEnvC scope cl C env) y v1) (fun _ s₂ => wpAny (model prog w) A (isTrue test (compEnvC scope cl C env) (eval test (compEnvC scope cl C env))) (fun ok s₃ => if ok = true then wpAny (model prog w) A (eval elt (compEnvC scope cl C env)) (fun y s₄ => CLeft s (hideAll h wr) C D wr own nw (fun c' => J (i + 1) c' (ys ++ [y])) ys k s₄) NoE s₃
        else CLeft s (hideAll h wr) C D wr own nw (fun c' => J (i + 1) c' ys) ys k s₃) NoE s₂) NoE s₁) NoE (mk s h' t'))
    (done : ∀ C D c ys k h' t' mc, h.get? C = none → h.get? D = none → D ≠ C → h'.Ns C mc → (∀ b o, b ∉ wr → h.get? b = some o → h'.get? b = some o) → h'.get? D = some (lst ys k) → (∀ p ∈ nw c, h'.get? p.1 = some p.2 ∧ h.get? p.1 = none ∧ p.1 ≠ C) → J n c ys → compPost (model prog w) A NoE use Q (.ref D) C (.ok .next) (mk s h' t')) :
    wpAny (model prog w) A (newList []) (fun acc s₃ => wpAny (model prog w) A (newFunctionEnv scope env.globals cl [] env.qual none .none (some env)) (fun cenv s₄ =>
      codeAny (model prog w) A (.compStart (.ListComp elt [⟨.Tuple [.Name x px, .Name y py] kt pt, iter, [test], 0⟩] scope pos) 0 (.ref It) acc { cenv with scope := relabel scope env }) (compPost (model prog w) A NoE use Q acc cenv.locals) s₄) NoE s₃) NoE (mk s h t) := by
  refine wpAny_newObj_type (s := mk s h t) (wpAny_newFunctionEnv hcell (by intro y hy; simp at hy) (fun h₁ hns₁ hsb₁ => ?_) hkind)
  dsimp only at hns₁ hsb₁ ⊢
  generalize hH2 : (mk s h t).heap.push { cls := .type "list", dict := none, data := .seq ([] : List Value).toArray } = H2 at hns₁ hsb₁ ⊢
  replace hH2 : h.push { cls := .type "list", dict := none, data := .seq ([] : List Value).toArray } = H2 := hH2
  have hC : H2.objs.size = h.objs.size + 1 := by rw [← hH2, Heap.size_push]
  have hDC : h.objs.size ≠ H2.objs.size := by rw [hC]; exact Nat.ne_of_lt (Nat.lt_succ_self _)
  have old : ∀ b o, h.get? b = some o → h₁.get? b = some o := fun b o e => hsb₁.extBut b o (by rw [hC]; exact Nat.ne_of_lt (Nat.lt_succ_of_lt (Heap.lt_size e))) (Heap.get?_push_of_some _ (hH2 ▸ Heap.get?_push_of_some _ e))
  have hD : h₁.get? h.objs.size = some (lst [] 0) := hsb₁.extBut _ _ hDC (Heap.get?_push_of_some _ (hH2 ▸ Heap.get?_push_size _ rfl))
  have hst₁ : St 0 h₁ := W.frame _ _ _ hst fun b _ o e => old b o e
  have fresh : ∀ a, h.objs.size ≤ a → h.get? a = none := fun a ha => Heap.get?_none_of_le ha
  have hbs : (hideAll h wr).objs.size = h.objs.size := hideAll_size _ _
  have F₁ : Fr (hideAll h wr) H2.objs.size h₁ _ := ⟨hns₁, fun b o e => old b o (of_hideAll _ e), by rw [hbs, hC]; exact Nat.le_succ _⟩
  have hnone : ∀ a, h.objs.size ≤ a → (hideAll h wr).get? a = none := fun a ha => Heap.get?_none_of_le (by rw [hbs]; exact ha)
  have N₁ : News (hideAll h wr) H2.objs.size h₁ ((h.objs.size, lst [] 0) :: nw c₀) := by
    rw [hnw]
    exact all1 ⟨hD, hDC, hnone _ (Nat.le_refl _)⟩ all0
  have hDf : h.objs.size ∉ fp := fun hm => Nat.lt_irrefl _ (hfp _ hm)
  have hCf : H2.objs.size ∉ fp := fun hm => by have := hfp _ hm; rw [hC] at this; exact absurd (Nat.lt_of_succ_lt this) (Nat.lt_irrefl _)
  have loop : codeAny (model prog w) A (.compLoop (.ListComp elt [⟨.Tuple [.Name x px, .Name y py] kt pt, iter, [test], 0⟩] scope pos) 0 (.ref It) (.ref h.objs.size) (compEnvC scope cl H2.objs.size env))
        (compPost (model prog w) A NoE use Q (.ref h.objs.size) H2.objs.size) (mk s h₁ t) := by
    refine compLoopR (σ := σ) (cenv := compEnvC scope cl H2.objs.size env) (St := St) takeT_grows rule_tuple W.sub W.live hCf hDf (fun b hb => hideAll_none _ hb) nw J c₀ F₁ N₁ (by rw [hnw]; exact all0) hst₁ hJ hn ?_ (fun h' t' st Q hQ => W.done s h' t' Q st hQ) ?_
    · intro i c ys k h' t' m' hi hJ' hoff' st' F' N'
      refine W.item [.Name x px, .Name y py] kt pt i s h' t' _ hi st' fun T v0 v1 h₂₀ t₂ hP hT st₂₀ k₂₀ => ?_
      refine wpAny_assign_Tuple (s := mk s h₂₀ t₂) hh hT rfl rfl fun h₂ x₂ => ?_
      have up₂ : Ext h₂₀ h₂ := fun b o e => x₂ b o (Nat.ne_of_lt (Heap.lt_size e)) e
      have k₂ : ∀ b o, b ∉ wr → h'.get? b = some o → h₂.get? b = some o := fun b o hb e => up₂ b o (k₂₀ b o hb e)
      have st₂ : St (i + 1) h₂ := W.frame _ _ _ st₂₀ fun b _ o e => up₂ b o e
      have hne : ∀ p ∈ (h.objs.size, lst ys k) :: nw c, p.1 ∉ wr := fun p hp => by
        rcases List.mem_cons.mp hp with rfl | hp
        · exact fun q => hDf (W.sub _ q)
        · exact fun q => hoff' p hp (by simp [q])
      obtain ⟨F₂, N₂⟩ := stays_wr (fun q => hCf (W.sub _ q)) (fun b hb => hideAll_none _ hb) F' N' hne k₂
      have Nown : News (hideAll h wr) H2.objs.size h₂ (ownOf (hideAll h wr) fp h₂) := news_ownOf hCf
      show wpAny _ A (do holding [v1] (assign (.Name x px) (compEnvC scope cl H2.objs.size env) v0); do holding [] (assign (.Name y py) (compEnvC scope cl H2.objs.size env) v1); pure ()) _ _ (mk s h₂ t₂)
      have N₃ : News (hideAll h wr) H2.objs.size h₂ ((h.objs.size, lst ys k) :: (nw c ++ ownOf (hideAll h wr) fp h₂)) := fun p hp => by
        rcases List.mem_cons.mp hp with rfl | hp
        · exact N₂ _ mem0
        · rcases List.mem_append.mp hp with q | q
          · exact N₂ p (mem1 q)
          · exact Nown p q
      have hSt : ∀ h'' m'', Fr (hideAll h wr) H2.objs.size h'' m'' → News (hideAll h wr) H2.objs.size h'' (ownOf (hideAll h wr) fp h₂) → St (i + 1) h'' := fun h'' m'' F'' N'' =>
        W.frame _ _ _ st₂ (fp_back (news' := []) F₂ F'' N'')
      have hown : ∀ p ∈ ownOf (hideAll h wr) fp h₂, p.1 ∈ fp := ownOf_sub
      have hlv : ∀ b ∈ h.objs.size :: wr, ∃ o, (b, o) ∈ (h.objs.size, lst ys k) :: ownOf (hideAll h wr) fp h₂ := fun b hb => by
        rcases List.mem_cons.mp hb with rfl | hb
        · exact ⟨_, mem0⟩
        · obtain ⟨o, ho⟩ := W.live _ _ st₂ b hb
          exact ⟨o, mem1 (mem_ownOf (W.sub _ hb) (hideAll_none _ hb) ho)⟩
      refine wpAny_bind (wpAny_holding (wpAny_assign_Name (wpAny_mono (turn H2.objs.size h.objs.size i v0 v1 c ys k h₂ t₂ m' (ownOf (hideAll h wr) fp h₂) (by rw [hC]; exact Nat.le_succ _) (Nat.le_refl _) hi hP hJ' hoff' hlv F₂ N₃) (fun _ s₁ h₁' => ?_) fun _ _ x => x)))
      refine wpAny_bind (wpAny_holding (wpAny_assign_Name (wpAny_mono h₁' (fun _ s₂ h₂' => wpAny_pure (wpAny_mono h₂' (fun ok s₃ h₃ => ?_) fun _ _ x => x)) fun _ _ x => x)))
      cases ok with
      | true =>
        simp only [if_true] at h₃ ⊢
        exact wpAny_mono h₃ (fun y s₄ h₄ => ⟨_, h₄, hown, hSt⟩) fun _ _ x => x
      | false =>
        simp only [Bool.false_eq_true, if_false] at h₃ ⊢
        exact ⟨_, h₃, hown, hSt⟩
    · intro c ys k h' t' m' hJ' hoff' F' N'
      refine done H2.objs.size h.objs.size c ys k h' t' m' (fresh _ (by rw [hC]; exact Nat.le_succ _)) (fresh _ (Nat.le_refl _)) hDC F'.ns (fun b o hb e => F'.keep b o (hideAll_get wr e hb)) (N' _ mem0).1 (fun p hp => ?_) hJ'
      have P := N' p (mem1 hp)
      exact ⟨P.1, unhide P.2.2 fun q => hoff' p hp (by simp [q]), P.2.1⟩
  exact codeAny_compStart_list loop (wpAny_any (self h₁ t _ hst₁ loop))

theorem e_comp {elt target iter : PySem.Expr} {ifs : List PySem.Expr} {scope : Scope} {cl : List (Str × Addr)} {pos : Pos} {Q : Value → Shared → Prop} {σ : Shared}
    (hclos : closureFor scope env = pure cl) (hkind : scope.kind = .function) (hnames : ∀ x ∈ scope.names, x.2 = .local → scope.names.lookup x.1 = some .local) (hs : ∀ x, foldedSetIterable iter env x = pure x)
    (hq : wpAny (model prog w) A (eval iter env) (fun x s₁ => wpAny (model prog w) A (pyIter x) (fun it s₂ => wpAny (model prog w) A (newList []) (fun acc s₃ =>
      wpAny (model prog w) A (newFunctionEnv scope env.globals cl [] env.qual none .none (some env)) (fun cenv s₄ =>
        codeAny (model prog w) A (.compStart (.ListComp elt [⟨target, iter, ifs, 0⟩] scope pos) 0 it acc { cenv with scope := relabel scope env }) (compPost (model prog w) A NoE none Q acc cenv.locals) s₄) NoE s₃) NoE s₂) NoE s₁) NoE σ) :
    wpAny (model prog w) A (eval (.ListComp elt [⟨target, iter, ifs, 0⟩] scope pos) env) Q NoE σ := by
  rw [eval_ListComp]
  exact wpAny_comprehension_free (use := none) rfl hs hclos hkind hnames hq
theorem a_comp {elt target iter : PySem.Expr} {y : Str} {py spos : Pos} {ifs : List PySem.Expr} {scope : Scope} {cl : List (Str × Addr)} {pos : Pos} {Q : Flow → Shared → Prop} {σ : Shared}
    (hsw : swapsWith (.ListComp elt [⟨target, iter, ifs, 0⟩] scope pos) (some (.Name y py)) spos.line env = pure true)
    (hclos : closureFor scope env = pure cl) (hkind : scope.kind = .function) (hnames : ∀ x ∈ scope.names, x.2 = .local → scope.names.lookup x.1 = some .local) (hs : ∀ x, foldedSetIterable iter env x = pure x)
    (hq : wpAny (model prog w) A (eval iter env) (fun x s₁ => wpAny (model prog w) A (pyIter x) (fun it s₂ => wpAny (model prog w) A (newList []) (fun acc s₃ =>
      wpAny (model prog w) A (newFunctionEnv scope env.globals cl [] env.qual none .none (some env)) (fun cenv s₄ =>
        codeAny (model prog w) A (.compStart (.ListComp elt [⟨target, iter, ifs, 0⟩] scope pos) 0 it acc { cenv with scope := relabel scope env }) (compPost (model prog w) A NoE (some (assign (.Name y py) env)) (fun _ s' => Q .next s') acc cenv.locals) s₄) NoE s₃) NoE s₂) NoE s₁) NoE σ) :
    wpAny (model prog w) A (exec (.Assign [.Name y py] (.ListComp elt [⟨target, iter, ifs, 0⟩] scope pos) spos) env) Q NoE σ := by
  rw [exec_Assign_Name_used _ _ _ _ hsw]
  refine wpAny_bind (wpAny_standAt (wpAny_bind ?_))
  show wpAny _ A (do let _ ← comprehension (.ListComp elt [⟨target, iter, ifs, 0⟩] scope pos) scope env _ (newList []) false (eval iter env) (some (assign (.Name y py) env))) _ _ σ
  refine wpAny_bind (wpAny_mono (wpAny_comprehension_free (use := some (assign (.Name y py) env)) (Q := fun _ s' => Q .next s') rfl hs hclos hkind hnames hq) (fun _ s' hq => wpAny_pure (wpAny_pure hq)) fun _ _ e => e)
theorem self_list {It ax : Addr} {vs : List Value} (h : Heap) (t : Nat) (Q : Value → Shared → Prop) (st : h.IsListIter It ax 0 ∧ h.IsList ax vs.toArray) (hq : Q (.ref It) (mk s h t)) : wpAny (model prog w) A (pyIter (.ref It)) Q NoE (mk s h t) :=
  wpAny_pyIter_listiter (s := mk s h t) st.1 hq
theorem self_enum {e it l : Addr} {vs : List Value} (h : Heap) (t : Nat) (Q : Value → Shared → Prop) (st : (∃ old, IsEnum h e it 0 old) ∧ h.IsListIter it l 0 ∧ h.IsList l vs.toArray) (hq : Q (.ref e) (mk s h t)) : wpAny (model prog w) A (pyIter (.ref e)) Q NoE (mk s h t) := by
  obtain ⟨⟨old, he⟩, _⟩ := st
  exact wpAny_pyIter_enum (s := mk s h t) he hq
theorem comp_ext {wr : List Addr} {C : Addr} {hc h' h'' : Heap} (kci : Ext h hc) (fC : hc.get? C = none) (kk : ∀ b o, b ∉ wr → hc.get? b = some o → h'.get? b = some o) (hw : ∀ b ∈ wr, h.get? b = none) (sb : Heap.SameBut C h' h'') : Ext h h'' := fun b o e =>
  (sb.2 b fun q => fresh_ne fC (kci _ _ e) q.symm).trans (kk b o (fun q => by rw [hw b q] at e; cases e) (kci b o e))
/-- the plain end -/
theorem post_plain {C D : Addr} {h' : Heap} {t' : Nat} {mc : Str → Option Value} {Q : Value → Shared → Prop} (hn : h'.Ns C mc)
    (hq : ∀ h'', Heap.SameBut C h' h'' → Q (.ref D) (mk s h'' t')) : compPost (model prog w) A NoE none Q (.ref D) C (.ok .next) (mk s h' t') := ⟨mc, hn, hq⟩
/-- the end that stores -/
theorem post_store {C D : Addr} {h' : Heap} {t' : Nat} {mc : Str → Option Value} {y : Str} {py : Pos} {Q : Value → Shared → Prop}
    (hq : wpAny (model prog w) A (storeName env y (.ref D)) (fun _ s'' => ∃ m, s''.heap.Ns C m ∧ ∀ h'', Heap.SameBut C s''.heap h'' → Q .none { s'' with heap := h'' }) NoE (mk s h' t')) :
    compPost (model prog w) A NoE (some (assign (.Name y py) env)) Q (.ref D) C (.ok .next) (mk s h' t') := wpAny_assign_Name hq
end
end Mine
end
-- part Sq
section
open PySem PySem.W PySem.Calls PyProof.Rows
set_option Elab.async false
set_option maxRecDepth 100000
set_option maxHeartbeats 4000000
set_option linter.unusedVariables false
namespace Mine
section
variable {prog : Program} {w : World} {A : Around} {s : Shared} {h : Heap} {t : Nat} {env : Env} {E : Value → Shared → Prop} {Q : Value → Shared → Prop} {h₀ : Heap} {L : Addr} {m : Str → Option Value} {news : List (Addr × Obj)}
theorem off_all {it : Addr} (N : News h₀ L h news) (hit : h.get? it = none) : ∀ p ∈ news, p.1 ∉ [it] := fun p hp => by
  simp only [List.mem_cons, List.not_mem_nil, or_false]
  exact news_fresh N hit p hp
theorem notL1 (F : Fr h₀ L h m) {it : Addr} (hit : h.get? it = none) : L ∉ [it] := by
  obtain ⟨oL, hoL⟩ := fr_live F
  exact off1 hit hoL
def LO (o : Obj) (vs : List Value) : Prop := o.cls = .type "list" ∧ ∃ n, o.data = .seq vs.toArray n
theorem LO.is {o : Obj} {vs : List Value} {l : Addr} (x : LO o vs) (ho : h.get? l = some o) : h.IsList l vs.toArray := ⟨o, ho, x.1, x.2⟩
theorem LO.lst (vs : List Value) (n : Nat) : LO (lst vs n) vs := ⟨rfl, n, rfl⟩
theorem l_set {o : Obj} {vs : List Value} {l : Addr} {k : Int} {u : Tok} {v : Value} {Q : Unit → Shared → Prop} (x : LO o vs) (ho : h.get? l = some o) (h0 : 0 ≤ k) (h1 : k < (vs.length : Int)) (hn : vs.length ≤ 1000000)
    (hq : ∀ h' o', h'.get? l = some o' → LO o' (vs.set k.toNat v) → Heap.SameBut l h h' → Q () (mk s h' t)) : wpAny (model prog w) A (setItem (.ref l) (.int k u) v) Q E (mk s h t) := by
  refine wpAny_setItem_list (s := mk s h t) (x.is ho) h0 (by omega) (by simpa using h1) fun h' hl hs => ?_
  obtain ⟨o', ho', hc, n, hd⟩ := hl
  exact hq h' o' ho' ⟨hc, n, by rw [hd]; simp⟩ hs
theorem c_sorted {l : Addr} {vs : List Value} {ns : List Int} (F : Fr h₀ L h m) (N : News h₀ L h news) (hl : h.IsList l vs.toArray) (hI : IntsAre vs ns) (h64 : vs.length < 64)
    (hq : ∀ r h' vs' ns' e, Fr h₀ L h' m → News h₀ L h' ((r, lst vs' e) :: news) → IntsAre vs' ns' → ns'.Perm ns → ns'.Pairwise (· ≤ ·) → Q (.ref r) (mk s h' t)) : wpAny (model prog w) A (call (.builtin "sorted") [.ref l]) Q E (mk s h t) :=
  sorted_N (s := mk s h t) F N hl hI h64 fun h' vs' ns' e F' N' a b c => hq _ h' vs' ns' e F' N' a b c
theorem c_min {a b : Int} {ta tb : Tok} (hh : A.handled = none) (F : Fr h₀ L h m) (N : News h₀ L h news)
    (hq : ∀ h' t' u, Fr h₀ L h' m → News h₀ L h' news → Q (.int (min a b) u) (mk s h' t')) : wpAny (model prog w) A (call (.builtin "min") [.int a ta, .int b tb]) Q E (mk s h t) :=
  min_two_N (s := mk s h t) hh F N fun h' tk F' N' => by
    have e : (if b < a then b else a) = min a b := by rw [Int.min_def]; split <;> split <;> omega
    rw [e]
    exact hq h' tk _ F' N'
theorem ep_none {Q : Value → Shared → Prop} {σ : Shared} (hq : Q .none σ) : wpAny (model prog w) A (evalPart none env) Q E σ := evalPart_none_step hq
theorem ep_some {e : PySem.Expr} {Q : Value → Shared → Prop} {σ : Shared} (hq : wpAny (model prog w) A (eval e env) Q E σ) : wpAny (model prog w) A (evalPart (some e) env) Q E σ := evalPart_some_step hq
theorem e_slice {lower upper step : Option PySem.Expr} {p : Pos}
    (hq : wpAny (model prog w) A (evalPart lower env) (fun l s₁ => wpAny (model prog w) A (evalPart upper env) (fun u s₂ => wpAny (model prog w) A (evalPart step env) (fun st s₃ =>
      ∃ h₃ t₃, s₃ = mk s h₃ t₃ ∧ ∀ r h', h₃.get? r = none → h'.IsSliceOf r l u st → Ext h₃ h' → Q (.ref r) (mk s h' t₃)) E s₂) E s₁) E (mk s h t)) : wpAny (model prog w) A (eval (.Slice lower upper step p) env) Q E (mk s h t) := by
  refine wpAny_Slice (wpAny_mono hq (fun l s₁ h₁ => wpAny_mono h₁ (fun u s₂ h₂ => wpAny_mono h₂ (fun st s₃ h₃ => ?_) fun _ _ x => x) fun _ _ x => x) fun _ _ x => x)
  obtain ⟨h₃, t₃, rfl, k⟩ := h₃
  exact k _ _ (size_none h₃) (Heap.IsSliceOf.new ..) (push_ext h₃ _)
theorem l_slice {value slice : PySem.Expr} {l sl : Addr} {vs : List Value} {vl vu vst : Value} {lo hi st : Option Int} {ops : List Value} (hl : h.IsList l vs.toArray) (hsl : h.IsSliceOf sl vl vu vst) (pl : IsPart vl lo) (pu : IsPart vu hi) (ps : IsPart vst st) (h0 : st ≠ some 0) (hn : vs.length ≤ 1000000)
    (hq : ∀ r h' us, us = (slicePick vs.toArray lo hi st).toList → h.get? r = none → h'.get? r = some (lst us 0) → Ext h h' → Q (.ref r) (mk s h' t))
    (hs : subscripted slice false (.ref l) (.ref sl) = operate ops (getItem (.ref l) (.ref sl))) : wpAny (model prog w) A (subscriptTail value slice (.ref l) (.ref sl)) Q E (mk s h t) := by
  refine tail_any (s := mk s h t) hl.typeIs list_getitem_lookup (wpAny_getItem_list_slice hl hsl pl pu ps h0 ?_ (by rw [List.size_toArray, sizeLine_eq]; omega)) hs
  refine hq _ _ _ rfl (size_none h) ?_ (push_ext h _)
  show (h.push { cls := .type "list", data := .seq (slicePick vs.toArray lo hi st) }).get? h.objs.size = _
  rw [Heap.get?_push_size _ rfl]
end
end Mine
end
-- part Lam
section
open PySem PySem.W PySem.Calls PyProof.Rows
set_option Elab.async false
set_option maxRecDepth 100000
set_option maxHeartbeats 4000000
set_option linter.unusedVariables false
namespace Mine
section
variable {prog : Program} {w : World} {A : Around} {s : Shared} {h : Heap} {t : Nat} {env : Env} {E : Value → Shared → Prop} {Q : Value → Shared → Prop} {mg mb : Str → Option Value}
theorem e_lambda {params : Arguments} {body : PySem.Expr} {scope : Scope} {pos : Pos} {clos : List (Str × Addr)} {c P : Addr} (G : Gd w mg mb h) (hP : h.get? P = some (tabObj #[])) (C : CodeHd h c P)
    (hq : ∀ f c' ctv pm h' t', (∀ b o, b ≠ P → h.get? b = some o → h'.get? b = some o) → h.get? f = none → h'.get? f = some (kla_obj "<lambda>" (env.qual ++ "<lambda>") params body scope clos pm c' ctv) → h'.CodeRec (.ref c') (env.qual ++ "<lambda>") → (∃ ps, h'.get? P = some (tabObj ps)) → Q (.ref f) (mk s h' t'))
    (hdef : defaultsOf params env = ([], [])) (hcl : closureFor scope env = pure clos) (hg0 : env.globals = mainGlobals) (hcode : env.code = .ref c) :
    wpAny (model prog w) A (eval (.Lambda params body scope pos) env) Q E (mk s h t) := by
  refine kla_eval hdef ?_
  obtain ⟨bm, ob, b1, b2, b3, b4, b5, b6⟩ := G.bm
  have hgP : mainGlobals ≠ P := fun q => by
    obtain ⟨o, es, ep, e, hd, _⟩ := G.g
    rw [q, hP] at e; cases e; cases hd
  have hbP : bm ≠ P := fun q => by
    rw [q, hP] at b3; cases b3; cases b4
  have hbG : bm ≠ mainGlobals := fun q => by
    obtain ⟨o, es, ep, e, hd, _⟩ := G.g
    rw [q, e] at b3; cases b3; rw [hd] at b6; cases b6
  refine kla_makeFunction (s := mk s h t) (mg := mg) hcl hg0 G.g hcode C hP (by simp [TriplesOk]) rfl hgP ⟨bm, ob, b1, b2, hbG, hbP, b3, b4, b5, b6⟩ fun c' ctv h' tk hx hge hlt hrec htb => ?_
  refine hq _ c' ctv _ _ tk (fun b o hb e => Heap.get?_push_of_some _ (hx b o hb e)) ?_ (Heap.get?_push_size _ rfl) (hrec.keeps fun b o e => Heap.get?_push_of_some _ e) ⟨_, Heap.get?_push_of_some _ htb⟩
  exact Heap.get?_none_of_le (Nat.le_trans hge (Nat.le_of_lt hlt))
theorem enterL {name qual : Str} {params : Arguments} {body : PySem.Expr} {scope : Scope} {cl : List (Str × Addr)} {pm ctv : Value} {c' f : Addr} {args : Args} {binds : List (Str × Value)}
    (G : Gd w mg mb h) (ho : h.get? f = some (kla_obj name qual params body scope cl pm c' ctv)) (hcd : h.CodeRec (.ref c') qual) (hroom : A.depth < recursionLimit)
    (hbind : bindArgs (kla_fn name qual params body scope cl pm (.ref c') ctv) args = pure binds) (hloc : ∀ y ∈ binds, scope.names.lookup y.1 = some .local) (hkn : Kn (fun y => binds.reverse.lookup y) binds)
    (hq : ∀ h₁ m₁ t₁, Fr h h.objs.size h₁ m₁ → Kn m₁ binds → News h h.objs.size h₁ [] →
      wpAny (model prog w) (A.deeper (envX qual scope h.objs.size f (.ref c') cl)) (eval body (envX qual scope h.objs.size f (.ref c') cl)) Q NoE (mk s h₁ t₁))
    (hco : scope.isCoroutine = false) (hgen : scope.isGenerator = false) (hk : scope.kind = .function) (hcell : ∀ x ∈ scope.names, x.2 ≠ .cell) :
    wpAny (model prog w) A (call (.ref f) args.pos args.kw) Q E (mk s h t) := by
  refine wpAny_call (kla_callFunE (s := mk s h t) hroom ho rfl hco hgen rfl hcd ?_)
  rw [hbind]
  refine wpAny_pure (wpAny_newFunctionEnv hcell hloc (fun h₁ hns hsb => ⟨G.nl.fresh _ hsb, ?_⟩) hk)
  show codeAny _ _ (.expr body (envX qual scope h.objs.size f (.ref c') cl)) _ _
  have hk₁ : Ext h h₁ := fun b o e => hsb.extBut b o (Nat.ne_of_lt (Heap.lt_size e)) (Heap.get?_push_of_some _ e)
  exact kla_codeExpr (wpAny_mono (hq h₁ _ _ ⟨hns, hk₁, Nat.le_refl _⟩ hkn News.nil) (fun v s' hl => hl) fun _ _ x => x.elim)
/-- a call of a function that a local name holds -/
theorem callO {pos : Pos} {f : Addr} {o : Obj} {fd : FuncData} {e : PySem.Expr} {rest : List PySem.Expr} (hdat : o.data = .func fd)
    (hq : wpAny (model prog w) A (spliced (backTo pos (starEach (e :: rest) env))) (fun vs s₁ => s₁.heap.get? f = some o ∧ wpAny (model prog w) A (call (.ref f) vs) Q E s₁) E (mk s h t))
    (he : starEach (e :: rest) env = (false, eval e env) :: starEach rest env) :
    wpAny (model prog w) A (callWith pos (.ref f) [] (backTo pos (starEach (e :: rest) env)) []) Q E (mk s h t) := callWith_def hdat hq he
theorem b_lt {a : Bool} (hq : Q (.bool (!a)) (mk s h t)) : wpAny (model prog w) A (compareOp .Lt (.bool a) (.bool true)) Q E (mk s h t) := by
  refine lt_bool ?_
  have e : decide (b2i a < b2i true) = !a := by cases a <;> rfl
  rw [e]; exact hq
/-- a call by name with keywords -/
theorem callK {pos : Pos} {f : Addr} {o : Obj} {fd : FuncData} {e : PySem.Expr} {rest : List PySem.Expr} {kws : List Keyword} (hdat : o.data = .func fd)
    (hall : (backToKw pos (keywordEach kws env)).all (·.1.isSome) = true) (he : starEach (e :: rest) env = (false, eval e env) :: starEach rest env)
    (hq : wpAny (model prog w) A (spliced (backTo pos (starEach (e :: rest) env))) (fun vs s₁ => wpAny (model prog w) A (evalAll ((backToKw pos (keywordEach kws env)).map (·.2)))
      (fun ks s₂ => s₂.heap.get? f = some o ∧ wpAny (model prog w) A (call (.ref f) vs (((backToKw pos (keywordEach kws env)).filterMap (·.1)).zip ks)) Q E s₂) E s₁) E (mk s h t)) :
    wpAny (model prog w) A (callWith pos (.ref f) [] (backTo pos (starEach (e :: rest) env)) (backToKw pos (keywordEach kws env))) Q E (mk s h t) := callWith_def_kw hdat (evalArgs_kw2 hall hq he)
def rangeI (a : Int) (n : Nat) : List Int := (List.range n).map fun (i : Nat) => a + (i : Int)
theorem ints_items {a : Int} : ∀ (n : Nat) (vs : List Value), vs.length = n → (∀ (i : Nat) (v : Value), vs[i]? = some v → ∃ t, v = .int (a + i * 1) t) → IntsAre vs (rangeI a n) := by
  intro n
  induction n with
  | zero =>
    intro vs hl _
    have : vs = [] := List.length_eq_zero_iff.mp hl
    subst this; exact IntsAre.nil
  | succ n ih =>
    intro vs hl hv
    have hne : vs ≠ [] := by intro e; rw [e] at hl; cases hl
    obtain ⟨ws, v, rfl⟩ : ∃ ws v, vs = ws ++ [v] := ⟨vs.dropLast, vs.getLast hne, (List.dropLast_concat_getLast hne).symm⟩
    have hws : ws.length = n := by simpa using hl
    obtain ⟨t, rfl⟩ := hv n v (by rw [← hws]; simp)
    unfold rangeI
    rw [List.range_succ, List.map_append]
    refine ints_app (ih ws hws fun i v' h' => ?_) ?_
    · have hlt : i < ws.length := by
        rcases Nat.lt_or_ge i ws.length with h | h
        · exact h
        · rw [List.getElem?_eq_none h] at h'; cases h'
      exact hv i v' (by rw [List.getElem?_append_left hlt]; exact h')
    · simp only [List.map_cons, List.map_nil]
      rw [Int.mul_one]
      exact IntsAre.cons _ _ IntsAre.nil
theorem c_listRange {r : Addr} {a b : Int} {u v z : Tok} (hh : A.handled = none) (hr : IsRange h r a b 1 u v z) (a1 : -1000000 ≤ a) (a2 : a ≤ 1000000) (b1 : -1000000 ≤ b) (b2 : b ≤ 1000000)
    (hq : ∀ l h' t' vs n, Ext h h' → h.get? l = none → h'.get? l = some (lst vs n) → IntsAre vs (rangeI a (b - a).toNat) → Q (.ref l) (mk s h' t')) : wpAny (model prog w) A (call (.type "list") [.ref r]) Q E (mk s h t) := by
  have hs : Builtin.Range.rangeSize a b 1 = ((b - a).toNat : Int) := by
    rw [rangeSize_one]; split <;> omega
  refine call_list_range (s := mk s h t) (n := (b - a).toNat) hh hr ?_ hs (by omega) fun h' tk acc c' hk ho hacc => ?_
  · unfold Builtin.Range.small
    rw [hs, fitsLong (by omega) (by omega), fitsLong (by omega) (by omega), fitsLong (by omega) (by omega), fitsLong (by omega) (by omega), if_pos (by decide), fitsLong (by omega) (by omega)]
    simp
  · refine hq _ h' tk acc.toList c' hk (size_none h) (by rw [ho]) ?_
    obtain ⟨hsz, hit⟩ := hacc
    exact ints_items _ _ (by simpa using hsz) fun i v hv => hit i v (by simpa using hv)
/-- entering a def of the top that has cells -/
theorem enterC {name qual : Str} {params : Arguments} {body : List Stmt} {scope : Scope} {dV kV doc pm cdv ct oc : Value} {an od : Option Addr} {osl : Array (Option Value)} {f : Addr} {vals : List Value} {binds : List (Str × Value)}
    (G : Gd w mg mb h) (hroom : A.depth < recursionLimit)
    (hK : (hd.heap_39 w.params).lookup f = some ⟨oc, od, .func (fnOf name qual params body scope dV kV doc pm an cdv ct), osl⟩) (hcd : codeIn (hd.heap_39 w.params) cdv qual = true)
    (hbind : bindArgs (fnOf name qual params body scope dV kV doc pm an cdv ct) ⟨vals, []⟩ = pure binds)
    (hkind : ∀ x ∈ binds, scope.names.lookup x.1 = some .local ∨ (scope.names.lookup x.1 = some .cell ∧ ((cellsFrom (h.objs.size + 1) scope.names []).lookup x.1).isSome = true))
    (hq : ∀ h₁ m₁ t₁, Fr h h.objs.size h₁ m₁ → m₁ = bindL (envX qual scope h.objs.size f cdv (cellsFrom (h.objs.size + 1) scope.names [])).kindOf binds (fun _ => none) →
      (∀ n c, (cellsFrom (h.objs.size + 1) scope.names []).lookup n = some c → h₁.IsCell c (bindC (envX qual scope h.objs.size f cdv (cellsFrom (h.objs.size + 1) scope.names [])).kindOf binds (fun _ => none) n)) →
      wpAny (model prog w) (A.deeper (envX qual scope h.objs.size f cdv (cellsFrom (h.objs.size + 1) scope.names []))) (execs body (envX qual scope h.objs.size f cdv (cellsFrom (h.objs.size + 1) scope.names [])))
        (fun fl s' => Q (match fl with | .ret v => v | _ => .none) s') NoE (mk s h₁ t₁))
    (hco : scope.isCoroutine = false) (hgen : scope.isGenerator = false) (hk : scope.kind = .function) : wpAny (model prog w) A (call (.ref f) vals) Q E (mk s h t) := by
  refine wpAny_call ?_
  refine codeAny_call_cells (s := mk s h t) (fd := fnOf name qual params body scope dV kV doc pm an cdv ct) (body := body) (binds := binds) hroom (G.X _ _ hK) rfl G.nl (codeRec_of G.X hcd) rfl hbind rfl hkind (fun s₁ x => ?_) hco hgen hk
  obtain ⟨⟨⟨h₁, t₁, rfl⟩, hns, hkeep, hfr⟩, hcell, _, _⟩ := x
  exact wpAny_mono (hq h₁ _ t₁ ⟨hns, hkeep, Nat.le_refl _⟩ rfl hcell) (fun fl s' hl => hl) fun _ _ x => x.elim
theorem stC {x : Str} {v : Value} {v₀ : Option Value} {c : Addr} {o : Obj} {Q : Unit → Shared → Prop} (ho : h.get? c = some o) (hd : o.data = .cell v₀)
    (hq : ∀ h' o', h'.get? c = some o' → o'.data = .cell (some v) → Heap.SameBut c h h' → Q () (mk s h' t)) (hc : env.cells.lookup x = some c) (hk : env.scope.kind = .function) (hl : env.kindOf x = some .cell) :
    wpAny (model prog w) A (storeName env x v) Q E (mk s h t) :=
  wpAny_storeName_cell (s := mk s h t) hk hl hc ⟨o, ho, hd⟩ fun h' hc' hs => by
    obtain ⟨o', ho', hd'⟩ := hc'
    exact hq h' o' ho' hd' hs
end
end Mine
end
-- part Ru
section
open PySem PySem.W PySem.Calls PyProof.Rows
set_option Elab.async false
set_option maxRecDepth 100000
set_option maxHeartbeats 4000000
set_option linter.unusedVariables false
namespace Mine
section
variable {prog : Program} {w : World} {A : Around} {s : Shared} {h : Heap} {t : Nat} {env : Env} {E : Value → Shared → Prop} {Q : Value → Shared → Prop}
theorem c_listL {l : Addr} {vs : List Value} (hl : h.IsList l vs.toArray) (hn : vs.length ≤ 1000000)
    (hq : ∀ r h' n, Ext h h' → h.get? r = none → h'.get? r = some (lst vs n) → Q (.ref r) (mk s h' t)) : wpAny (model prog w) A (call (.type "list") [.ref l]) Q E (mk s h t) := by
  obtain ⟨o, ho, hc, n, hd⟩ := hl
  exact call_list_seq (s := mk s h t) l (.inl rfl) ho hc hd (fun h' c' k e => hq _ h' c' k (size_none h) e) (by rw [List.size_toArray, sizeLine_eq]; omega)
theorem c_sumL {l : Addr} {vs : List Value} {ns : List Int} (hh : A.handled = none) (hl : h.IsList l vs.toArray) (hi : IntsAre vs ns)
    (hq : ∀ h' t' u, Ext h h' → Q (.int ns.sum u) (mk s h' t')) : wpAny (model prog w) A (call (.builtin "sum") [.ref l]) Q E (mk s h t) := by
  have hn : numsOf vs = ns := hi.numsOf
  obtain ⟨xs, hx⟩ := hi.allInts.items
  rw [hx] at hl
  refine sum_intListG (s := mk s h t) hh hl fun h' tk t' hk => ?_
  have e : preSum (numAt xs) xs.size = ns.sum := by
    rw [preSum_eq, List.take_of_length_le (by simp), ← hn, ← nums_intItems, ← hx]
  rw [e]
  exact hq h' tk t' hk
theorem ne_L {a b : Addr} {vs us : List Value} {ns : List Int} (hl : h.IsList a vs.toArray) (hi : IntsAre vs ns) (hl' : h.IsList b us.toArray) (hi' : IntsAre us ns) (hu : A.units + 64 < cLine)
    (hq : Q (.bool false) (mk s h t)) : wpAny (model prog w) A (compareOp .NotEq (.ref a) (.ref b)) Q E (mk s h t) :=
  ne_intsK (s := mk s h t) hl hi hl' hi' hu (by rw [decide_eq_true rfl]; exact hq)
/-- what [:4] names of five -/
theorem upto4 {sl : Addr} {u : Tok} {K : Int × Int × Nat → Shared → Prop} (hs : s.heap.IsSliceOf sl .none (.int 4 u) .none) (hk : K (0, 1, 4) s) :
    wpAny (model prog w) A (Builtin.Slice.sliceApplied (.ref sl) (pure ((5 : Nat) : Int))) K E s := by
  obtain ⟨o, ho, _, hd⟩ := hs
  have parts : wpAny (model prog w) A (Builtin.Slice.sliceFields (.ref sl)) (fun p s' => s' = s ∧ p = (.none, .int 4 u, .none)) E s :=
    wpAny_bind (wpAny_field ho hd rfl (wpAny_bind (wpAny_field ho hd rfl (wpAny_bind (wpAny_field ho hd rfl (wpAny_pure ⟨rfl, rfl⟩))))))
  unfold Builtin.Slice.sliceApplied
  refine wpAny_bind (wpAny_mono parts (fun p s' hp => ?_) fun _ _ x => x)
  obtain ⟨rfl, rfl⟩ := hp
  exact wpAny_bind (slicePart_none (wpAny_bind (slicePart_none (wpAny_bind (slicePart_int (wpAny_bind (wpAny_pure (wpAny_pure hk))))))))
/-- a five-tuple's first four: the slot's rule of the library, then the built-in's own text -/
theorem t_slice4 {value slice : PySem.Expr} {l sl : Addr} {v0 v1 v2 v3 v4 : Value} {u : Tok} {ops : List Value} (ho : h.get? l = some (tup [v0, v1, v2, v3, v4])) (hsl : h.IsSliceOf sl .none (.int 4 u) .none)
    (hq : ∀ r h', h.get? r = none → h'.get? r = some (tup [v0, v1, v2, v3]) → Ext h h' → Q (.ref r) (mk s h' t))
    (hs : subscripted slice false (.ref l) (.ref sl) = operate ops (getItem (.ref l) (.ref sl))) : wpAny (model prog w) A (subscriptTail value slice (.ref l) (.ref sl)) Q E (mk s h t) := by
  have five : IsTup (mk s h t).heap l #[v0, v1, v2, v3, v4] := ⟨_, ho, rfl, _, rfl⟩
  have four : sizeOk (.seq #[v0, v1, v2, v3]) := show 4 ≤ sizeLine by rw [sizeLine_eq]; omega
  have isSl : (mk s h t).TypeIs (.ref sl) "slice" := by obtain ⟨o, e, c, _⟩ := hsl; exact ⟨o, e, c⟩
  refine tail_any (s := mk s h t) five.typeIs slot_tuple_getitem.lookup (PyProof.Rows.getItem_slot five.typeIs (by decide) slot_tuple_getitem ?_) hs
  refine wpAny_call_entry slot_tuple_getitem five.typeIs entry_tuple_getitem ?_ (args_tuple_getitem _ _)
  refine wpAny_bind (m := Builtin.Tuple.tupleItemsOf (.ref l)) (tupleItemsOf_ five (wpAny_bind (wpAny_typeOf isSl ?_)))
  refine wpAny_bind (m := Builtin.Slice.sliceApplied (.ref sl) (pure ((5 : Nat) : Int))) (upto4 hsl ?_)
  refine wpAny_bind (m := Builtin.Tuple.tupleExact #[v0, v1, v2, v3]) (wpAny_newObj_type (wpAny_pure ⟨_, rfl, ?_⟩) four)
  exact hq _ (h.push (tup [v0, v1, v2, v3])) (size_none h) (Heap.get?_push_size _ rfl) (push_ext h _)
/-- four ints against four ints -/
theorem ne_T4 {a b : Addr} {x0 x1 x2 x3 : Int} {u0 u1 u2 u3 v0 v1 v2 v3 : Tok} (ha : h.get? a = some (tup [.int x0 u0, .int x1 u1, .int x2 u2, .int x3 u3])) (hb : h.get? b = some (tup [.int x0 v0, .int x1 v1, .int x2 v2, .int x3 v3])) (hu : A.units + 64 < cLine)
    (hq : Q (.bool false) (mk s h t)) : wpAny (model prog w) A (compareOp .NotEq (.ref a) (.ref b)) Q E (mk s h t) := by
  have ra : ∀ {y0 y1 y2 y3 : Tok}, ReadsAll h [.int x0 y0, .int x1 y1, .int x2 y2, .int x3 y3] [.int x0, .int x1, .int x2, .int x3] [] := fun {y0 y1 y2 y3} =>
    readsAll_cons_val (.int _ _) (readsAll_cons_val (.int _ _) (readsAll_cons_val (.int _ _) (readsAll_cons_val (.int _ _) .nil)))
  refine ne_dataH (s := mk s h t) (reads_tuple_at ha rfl rfl ra) (reads_tuple_at hb rfl rfl ra) ?_ ?_ hu ?_
  · rfl
  · rfl
  · have e : PyData.eqv (.tuple [.int x0, .int x1, .int x2, .int x3]) (.tuple [.int x0, .int x1, .int x2, .int x3]) = true := by
      simp [PyData.eqv, PyData.eqvAll]
    rw [e]; exact hq
/-- references to pairs of ints -/
inductive PairsAt (h : Heap) : List Value → List (Int × Int) → Prop
  | nil : PairsAt h [] []
  | cons {a : Addr} {k v : Int} {u u' : Tok} {r : List Value} {c : List (Int × Int)} : h.get? a = some (tup [.int k u, .int v u']) → PairsAt h r c → PairsAt h (.ref a :: r) ((k, v) :: c)
theorem PairsAt.keeps {h h' : Heap} {vs : List Value} {c : List (Int × Int)} (p : PairsAt h vs c) (k : Ext h h') : PairsAt h' vs c := by
  induction p with
  | nil => exact .nil
  | cons e _ ih => exact .cons (k _ _ e) ih
theorem PairsAt.app {h : Heap} {vs us : List Value} {c d : List (Int × Int)} (p : PairsAt h vs c) (q : PairsAt h us d) : PairsAt h (vs ++ us) (c ++ d) := by
  induction p with
  | nil => exact q
  | cons e _ ih => exact .cons e ih
def pairD (c : List (Int × Int)) : List PyData := c.map fun p => .tuple [.int p.1, .int p.2]
theorem PairsAt.reads {h : Heap} {vs : List Value} {c : List (Int × Int)} (p : PairsAt h vs c) : ReadsAll h vs (pairD c) [] := by
  induction p with
  | nil => exact .nil
  | cons e _ ih => exact readsAll_cons_val (reads_tuple_at e rfl rfl (readsAll_cons_val (.int _ _) (readsAll_cons_val (.int _ _) .nil))) ih
theorem pairD_lay : ∀ c, PyData.canLayAll0 (pairD c) = true
  | [] => rfl
  | p :: c => by
    have := pairD_lay c
    unfold pairD at this ⊢
    rw [List.map_cons, PyData.canLayAll0, this]; rfl
theorem pairD_depth : ∀ c, PyData.depthAll (pairD c) ≤ 2
  | [] => by simp [pairD, PyData.depthAll]
  | p :: c => by
    have := pairD_depth c
    unfold pairD at this ⊢
    rw [List.map_cons, PyData.depthAll]
    have e : PyData.depth (.tuple [.int p.1, .int p.2]) ≤ 2 := by simp [PyData.depth, PyData.depthAll]
    omega
theorem pairD_eqv : ∀ c, PyData.eqvAll (pairD c) (pairD c) = true
  | [] => rfl
  | p :: c => by
    have := pairD_eqv c
    unfold pairD at this ⊢
    rw [List.map_cons, PyData.eqvAll, this]
    simp [PyData.eqv, PyData.eqvAll]
theorem pairD_shaped (c : List (Int × Int)) : SeqAt.shaped (.list (pairD c)) = true := by
  unfold SeqAt.shaped
  have := pairD_depth c
  rw [PyData.canLay0, pairD_lay, Bool.true_and]
  refine decide_eq_true ?_
  rw [PyData.depth]; omega
theorem ne_P {a b : Addr} {vs us : List Value} {n m : Nat} {c : List (Int × Int)} (ha : h.get? a = some (lst vs n)) (pa : PairsAt h vs c) (hb : h.get? b = some (lst us m)) (pb : PairsAt h us c) (hu : A.units + 64 < cLine)
    (hq : Q (.bool false) (mk s h t)) : wpAny (model prog w) A (compareOp .NotEq (.ref a) (.ref b)) Q E (mk s h t) := by
  refine ne_dataH (s := mk s h t) (reads_list_at ha rfl rfl pa.reads) (reads_list_at hb rfl rfl pb.reads) (pairD_shaped c) (pairD_shaped c) hu ?_
  rw [PyData.eqv, pairD_eqv]; exact hq
theorem PairsAt.idx {h : Heap} : ∀ (as : List Addr) (c : List (Int × Int)), as.length = c.length → (∀ (j : Nat) (a : Addr), as[j]? = some a → ∃ k v u u', c[j]? = some (k, v) ∧ h.get? a = some (tup [.int k u, .int v u'])) → PairsAt h (as.map Value.ref) c
  | [], [], _, _ => .nil
  | [], _ :: _, e, _ => by cases e
  | _ :: _, [], e, _ => by cases e
  | a :: as, (k, v) :: c, e, f => by
    obtain ⟨k', v', u, u', e1, e2⟩ := f 0 a rfl
    have e1' : (k, v) = (k', v') := Option.some.inj e1
    cases e1'
    exact .cons e2 (PairsAt.idx as c (by simpa using e) fun j b hb => f (j + 1) b hb)
theorem c_listItems {v d : Addr} {o : Obj} {c : List (Int × Int)} (hh : A.handled = none) (D : DI prog w d o c) (ho : h.get? d = some o) (hv : h.IsItemsView v d) (hn : c.length ≤ 1000000)
    (hq : ∀ r h' t' us n, Ext h h' → h.get? r = none → h'.get? r = some (lst us n) → PairsAt h' us c → Q (.ref r) (mk s h' t')) : wpAny (model prog w) A (call (.type "list") [.ref v]) Q E (mk s h t) := by
  obtain ⟨lo, kvs, a, b⟩ := D
  obtain ⟨ep, hat⟩ := KdkAt.of a
  refine kdx_call (s := mk s h t) (knd := PySem.intKind prog w) (kvs := kvs) (ep := ep) hh hv (hat.dictAt ho) (by rw [sizeLine_eq, b.length]; omega) fun h' tk acc n as hk hS hl hG hacc => ?_
  refine hq _ h' tk (as.map Value.ref) n hk (size_none h) (by rw [← hacc]; exact hS) (PairsAt.idx as c (by rw [hl, b.length]) fun j a' ha' => ?_)
  obtain ⟨key, k, x, e1, e2, e3⟩ := hG.pairs j a' ha'
  obtain ⟨n, u', e4, rfl⟩ := b.get j k x e1
  obtain ⟨u, rfl⟩ := Value.isInt_shape e2
  exact ⟨k, n, u, u', e4, e3⟩
theorem hits_all {A : Around} {σ : Shared} {kb : List (Int × Value)} {cb : List (Int × Int)} (vb : VI kb cb) : ∀ {ka : List (Int × Value)} {ca : List (Int × Int)}, VI ka ca → (∀ p ∈ ca, lookD cb p.1 = some p.2) → KeqHits A σ kb ka true := by
  intro ka ca va
  induction va with
  | nil => exact fun _ => .nil
  | cons k v t _ ih =>
    intro hall
    obtain ⟨u, q⟩ := vb.there (hall (k, v) mem0)
    have e := keq_flat (A := A) (s := σ) (v := .int v t) (y := .int v u) (d := .int v) (e := .int v) (fun h => .int _ _) (fun h => .int _ _)
    have e' : PyData.eqv (.int v) (.int v) = true := by simp [PyData.eqv]
    rw [e'] at e
    exact .hit q e (ih fun p hp => hall p (mem1 hp))
theorem d_eq {a b : Addr} {oa ob : Obj} {ca cb : List (Int × Int)} (Da : DI prog w a oa ca) (Db : DI prog w b ob cb) (ha : h.get? a = some oa) (hb : h.get? b = some ob) (hu : A.units < cLine) (hl : ca.length = cb.length) (hall : ∀ p ∈ ca, lookD cb p.1 = some p.2)
    (hq : Q (.bool true) (mk s h t)) : wpAny (model prog w) A (compareOp .Eq (.ref a) (.ref b)) Q E (mk s h t) := by
  obtain ⟨la, ka, xa, va⟩ := Da
  obtain ⟨lb, kb, xb, vb⟩ := Db
  refine keq_eq (s := mk s h t) (knd := PySem.intKind prog w) (r := true) la lb (Heap.dictOf_iff.mpr ⟨oa, ha, xa⟩) (Heap.dictOf_iff.mpr ⟨ob, hb, xb⟩) hu (fun _ => hits_all vb va hall) ?_
  rw [va.length, vb.length, hl]
  simpa using hq
theorem l_count {l : Addr} {vs : List Value} {ns : List Int} {k : Int} {u : Tok} (hl : h.IsList l vs.toArray) (hi : IntsAre vs ns) (hq : ∀ t' u', Q (.int (ns.count k : Nat) u') (mk s h t')) :
    wpAny (model prog w) A (call (.builtin "list.count") [.ref l, .int k u]) Q E (mk s h t) := count_list_ints (s := mk s h t) hl hi (hq _ _)
theorem n_notin {l : Addr} {vs : List Value} {ns : List Int} {k : Int} {u : Tok} (hl : h.IsList l vs.toArray) (hi : IntsAre vs ns) (hq : Q (.bool (!(ns.any (· == k)))) (mk s h t)) :
    wpAny (model prog w) A (compareOp .NotIn (.int k u) (.ref l)) Q E (mk s h t) := notin_list_ints (s := mk s h t) hl hi hq
end
end Mine
end
section
open PySem PySem.W PySem.Calls PyProof.Rows
set_option Elab.async false
set_option maxRecDepth 100000
set_option maxHeartbeats 4000000
set_option linter.unusedVariables false
namespace Mine
local macro_rules | `(tactic| walk_at "m.mem") => `(tactic| repeat (first | with_reducible exact mem0 | with_reducible refine mem1 ?_))
local macro_rules | `(tactic| walk_at "m.put") => `(tactic| repeat (first | exact Put.nil | with_reducible apply Put.drop | (with_reducible apply Put.keep; decide)))
local macro_rules | `(tactic| walk_at "m.sub") => `(tactic| repeat (first | exact all0 | refine all1 (by walk_at "m.mem") ?_))
local macro_rules | `(tactic| walk_at "m.kn") => `(tactic| repeat (first | exact kn0 | refine kn1 rfl ?_))
local macro_rules | `(tactic| walk_at "m.ld") => `(tactic| with_reducible refine ldK (by assumption) (by assumption) (by walk_at "m.mem") ?_ (by with_unfolding_all rfl) (by with_unfolding_all rfl) (by with_unfolding_all rfl) (by decide))
local macro_rules | `(tactic| walk_at "m.ldn") => `(tactic| with_reducible refine ldnK (by assumption) (by assumption) (by walk_at "m.mem") ?_ (by with_unfolding_all rfl) (by with_unfolding_all rfl) (by with_unfolding_all rfl))
local macro_rules | `(tactic| walk_at "m.st") => `(tactic| (with_reducible refine stK (by assumption) (by assumption) (by assumption) (by walk_at "m.put") ?_ (by with_unfolding_all rfl) (by with_unfolding_all rfl) (by with_unfolding_all rfl); intro _ _ _ _ _ _))
local macro_rules | `(tactic| walk_at "m.glB") => `(tactic| with_reducible refine glB (by assumption) (by assumption) (by first | exact b_len (by assumption) | exact b_range (by assumption) | exact b_list (by assumption) | exact b_sum (by assumption) | exact b_enumerate (by assumption) | exact b_isinstance (by assumption) | exact b_tuple (by assumption) | exact b_min (by assumption) | exact b_sorted (by assumption)) ?_ (by with_unfolding_all rfl) (by with_unfolding_all rfl) (by with_unfolding_all rfl) (by with_unfolding_all rfl) (by decide))
local macro_rules | `(tactic| walk_at "m.glF") => `(tactic| with_reducible refine glF (by assumption) (by assumption) (by first | exact g_insort_right (by assumption) | exact g_bisect_right (by assumption) | exact g_insort_left (by assumption) | exact g_bisect_left (by assumption) | exact g_add_func_stats (by assumption) | exact g_add_callers (by assumption) | exact g_count_calls (by assumption) | exact g_law_halves (by assumption) | exact g_law_kept (by assumption) | exact g_law_hooks (by assumption) | exact g_law_cells (by assumption) | exact g_law_profile (by assumption) | exact g_law_back (by assumption)) ?_ (by with_unfolding_all rfl) (by with_unfolding_all rfl) (by with_unfolding_all rfl) (by decide))
local macro_rules | `(tactic| walk_at "m.callF") => `(tactic| with_reducible refine callF (by assumption) (by with_unfolding_all rfl) (by with_unfolding_all rfl) ?_ (by with_unfolding_all rfl))
local macro_rules | `(tactic| walk_at "m1") => `(tactic| first
  | with_reducible refine wpAny_execs_cons ?_
  | with_reducible refine wpAny_execs_nil ?_
  | with_reducible refine wpAny_Assign_Name ?_ (by with_unfolding_all rfl)
  | with_reducible refine wpAny_If ?_
  | with_reducible refine wpAny_Assign_Subscript ?_ (by with_unfolding_all rfl)
  | with_reducible refine wpAny_AugAssign_Subscript ?_
  | with_reducible refine wpAny_AugAssign_Name ?_
  | with_reducible refine Assign_Tuple ?_ (by with_unfolding_all rfl) (by with_unfolding_all rfl)
  | with_reducible refine aio1 ?_
  | with_reducible refine aio0 ?_
  | walk_at "m.ldn"
  | with_reducible refine wpAny_isTrue_Compare1 ?_ (by with_unfolding_all rfl)
  | with_reducible refine wpAny_Compare1 ?_ (by with_unfolding_all rfl)
  | with_reducible refine wpAny_BinOp ?_
  | (with_reducible refine c_int ?_; intro _ _)
  | with_reducible refine c_none ?_
  | with_reducible refine wpAny_Return_some ?_
  | with_reducible refine wpAny_truthy_bool ?_
  | walk_at "m.ld"
  | walk_at "m.st"
  | walk_at "m.glB"
  | walk_at "m.glF"
  | walk_at "m.callF"
  | with_reducible refine wpAny_Expr ?_ (by with_unfolding_all rfl) (by with_unfolding_all rfl)
  | with_reducible refine if_tt ?_
  | with_reducible refine if_ff ?_
  | (with_reducible refine i_add ?_; intro _ _)
  | (with_reducible refine i_sub ?_; intro _ _)
  | (with_reducible refine i_iadd ?_; intro _ _)
  | with_reducible refine UnaryOp_ ?_
  | (with_reducible refine i_neg ?_; intro _ _)
  | (with_reducible refine i_fdiv (by decide) (by decide) ?_; intro _ _)
  | with_reducible refine i_lt ?_
  | with_reducible refine Subscript_ ?_
  | with_reducible refine is_none_none ?_
  | with_reducible refine MethodCall_ ?_ (by with_unfolding_all rfl)
  | with_reducible refine Call_ ?_ (by with_unfolding_all rfl)
  | with_reducible refine callWith_method0 ?_
  | with_reducible refine callWith_method1 ?_ (by with_unfolding_all rfl) (by with_unfolding_all rfl)
  | with_reducible refine PyProof.Rows.callWith_builtin1 ?_ (by with_unfolding_all rfl) (by with_unfolding_all rfl)
  | with_reducible refine PyProof.Rows.callWith_type1 ?_ (by with_unfolding_all rfl) (by with_unfolding_all rfl)
  | with_reducible refine List_ ?_
  | with_reducible refine Tuple_ ?_
  | with_reducible refine t_int ?_
  | (with_reducible refine i_mod (by decide) ?_; intro _ _)
  | with_reducible refine i_gt ?_
  | with_reducible refine i_ge ?_
  | with_reducible refine i_eq ?_
  | with_reducible refine i_ne ?_
  | with_reducible refine c_bool ?_
  | with_reducible refine isTrue_plain ?_ (by with_unfolding_all rfl)
  | with_reducible refine e_slice ?_
  | with_reducible refine tests1 ?_
  | with_reducible refine tests0 ?_
  | with_reducible refine ep_none ?_
  | with_reducible refine ep_some ?_
  | with_reducible refine wpAny_For ?_ (by intro _; with_unfolding_all rfl)
  | with_reducible refine spliced_more ?_ (by with_unfolding_all rfl)
  | with_reducible refine spliced_none ?_)
-- part b1
section
theorem bisect_left_spec {prog : Program} {w : World} {mg mb : Str → Option Value} {A : Around} {s : Shared} {hp : Heap} {tk : Nat} {E : Value → Shared → Prop} {Q : Value → Shared → Prop} {a : Addr} {vs : List Value} {ns : List Int} {x : Int} {tx : Tok}
    (G : Gd w mg mb hp) (O : Ok A 3) (hl : hp.IsList a vs.toArray) (hi : IntsAre vs ns) (hs : ns.Pairwise (· ≤ ·)) (hn : ns.length ≤ 100000)
    (hq : ∀ h' tk t, Ext hp h' → Q (.int (ns.countP fun v => decide (v < x)) t) (mk s h' tk)) :
    wpAny (model prog w) A (call (.ref 50) [.ref a, .int x tx]) Q E (mk s hp tk) := by
  have hlen : vs.length = ns.length := hi.length
  refine enter (args := ⟨[.ref a, .int x tx], []⟩) (binds := [("a", .ref a), ("x", .int x tx), ("lo", .int 0 _), ("hi", .none), ("key", .none)]) G (by have := O.dp; omega) rfl rfl (kp_binds G.X fun S => rfl) (locs rfl) ?_ ?_ rfl rfl rfl (by decide)
  · walk_at "m.kn"
  · intro h₁ m₁ t₁ F K N
    repeat' (walk_at "m1")
    refine split_dec (fun hc => absurd hc (by decide)) fun _ => ?_
    repeat' (walk_at "m1")
    refine l_len (hl.at fun o e => F.keep _ o e) (by omega) ?_
    intro _ _
    repeat' (walk_at "m1")
    refine whileR (fun n h => ∃ m lo hi t1 t2, Fr hp hp.objs.size h m ∧ Kn m [("a", .ref a), ("x", .int x tx), ("lo", .int lo t1), ("hi", .int hi t2)] ∧ Turn ns.length (fun i => decide (ns.getD i 0 < x)) lo hi ∧ n = (hi - lo).toNat) ns.length ?_ ?_
    · refine ⟨_, 0, vs.length, _, _, by assumption, Kn.sub (by assumption) (by walk_at "m.sub"), ?_, by omega⟩
      rw [hlen]; exact Turn.start _ _
    clear K F N
    rintro n h t ⟨m, lo, hi', t1, t2, F, K, T, rfl⟩
    have N := News.nil (h₀ := hp) (L := hp.objs.size) (h := h)
    repeat' (walk_at "m1")
    refine split_dec (fun hc => ?_) fun hc => ?_
    · obtain ⟨e1, e2⟩ := mid_facts T.1 hc
      have e3 := T.2.2.1
      have e4 := T.1
      repeat' (walk_at "m1")
      refine i_item (hl.at fun o e => Fr.keep (by assumption) _ o e) hi (by omega) (by omega) (by omega) ?_ (by with_unfolding_all rfl) (by intro _; with_unfolding_all rfl)
      intro _
      repeat' (walk_at "m1")
      refine split_dec (fun hd => ?_) fun hd => ?_
      · repeat' (walk_at "m1")
        refine ⟨rfl, _, _, _, ?_, rfl, _, _, _, _, _, by assumption, Kn.sub (by assumption) (by walk_at "m.sub"), T.left (falls_lt hs x) e1 e2 (by simpa using hd), rfl⟩
        omega
      · repeat' (walk_at "m1")
        refine ⟨rfl, _, _, _, ?_, rfl, _, _, _, _, _, by assumption, Kn.sub (by assumption) (by walk_at "m.sub"), T.right (falls_lt hs x) e1 e2 (by simpa using hd), rfl⟩
        omega
    · repeat' (walk_at "m1")
      have e : lo = hi' := by have := T.2.1; omega
      subst e
      have := hq h t t1 F.keep
      rw [← Turn.count (q := fun v => decide (v < x)) T] at this
      exact this

theorem bisect_left_spec4 {prog : Program} {w : World} {mg mb : Str → Option Value} {A : Around} {s : Shared} {hp : Heap} {tk : Nat} {E : Value → Shared → Prop} {Q : Value → Shared → Prop} {a : Addr} {vs : List Value} {ns : List Int} {x : Int} {tx : Tok} {tl : Tok}
    (G : Gd w mg mb hp) (O : Ok A 3) (hl : hp.IsList a vs.toArray) (hi : IntsAre vs ns) (hs : ns.Pairwise (· ≤ ·)) (hn : ns.length ≤ 100000)
    (hq : ∀ h' tk t, Ext hp h' → Q (.int (ns.countP fun v => decide (v < x)) t) (mk s h' tk)) :
    wpAny (model prog w) A (call (.ref 50) [.ref a, .int x tx, .int 0 tl, .none]) Q E (mk s hp tk) := by
  have hlen : vs.length = ns.length := hi.length
  refine enter (args := ⟨[.ref a, .int x tx, .int 0 tl, .none], []⟩) (binds := [("a", .ref a), ("x", .int x tx), ("lo", .int 0 tl), ("hi", .none), ("key", .none)]) G (by have := O.dp; omega) rfl rfl (kp_binds G.X fun S => rfl) (locs rfl) ?_ ?_ rfl rfl rfl (by decide)
  · walk_at "m.kn"
  · intro h₁ m₁ t₁ F K N
    repeat' (walk_at "m1")
    refine split_dec (fun hc => absurd hc (by decide)) fun _ => ?_
    repeat' (walk_at "m1")
    refine l_len (hl.at fun o e => F.keep _ o e) (by omega) ?_
    intro _ _
    repeat' (walk_at "m1")
    refine whileR (fun n h => ∃ m lo hi t1 t2, Fr hp hp.objs.size h m ∧ Kn m [("a", .ref a), ("x", .int x tx), ("lo", .int lo t1), ("hi", .int hi t2)] ∧ Turn ns.length (fun i => decide (ns.getD i 0 < x)) lo hi ∧ n = (hi - lo).toNat) ns.length ?_ ?_
    · refine ⟨_, 0, vs.length, _, _, by assumption, Kn.sub (by assumption) (by walk_at "m.sub"), ?_, by omega⟩
      rw [hlen]; exact Turn.start _ _
    clear K F N
    rintro n h t ⟨m, lo, hi', t1, t2, F, K, T, rfl⟩
    have N := News.nil (h₀ := hp) (L := hp.objs.size) (h := h)
    repeat' (walk_at "m1")
    refine split_dec (fun hc => ?_) fun hc => ?_
    · obtain ⟨e1, e2⟩ := mid_facts T.1 hc
      have e3 := T.2.2.1
      have e4 := T.1
      repeat' (walk_at "m1")
      refine i_item (hl.at fun o e => Fr.keep (by assumption) _ o e) hi (by omega) (by omega) (by omega) ?_ (by with_unfolding_all rfl) (by intro _; with_unfolding_all rfl)
      intro _
      repeat' (walk_at "m1")
      refine split_dec (fun hd => ?_) fun hd => ?_
      · repeat' (walk_at "m1")
        refine ⟨rfl, _, _, _, ?_, rfl, _, _, _, _, _, by assumption, Kn.sub (by assumption) (by walk_at "m.sub"), T.left (falls_lt hs x) e1 e2 (by simpa using hd), rfl⟩
        omega
      · repeat' (walk_at "m1")
        refine ⟨rfl, _, _, _, ?_, rfl, _, _, _, _, _, by assumption, Kn.sub (by assumption) (by walk_at "m.sub"), T.right (falls_lt hs x) e1 e2 (by simpa using hd), rfl⟩
        omega
    · repeat' (walk_at "m1")
      have e : lo = hi' := by have := T.2.1; omega
      subst e
      have := hq h t t1 F.keep
      rw [← Turn.count (q := fun v => decide (v < x)) T] at this
      exact this

theorem bisect_right_spec {prog : Program} {w : World} {mg mb : Str → Option Value} {A : Around} {s : Shared} {hp : Heap} {tk : Nat} {E : Value → Shared → Prop} {Q : Value → Shared → Prop} {a : Addr} {vs : List Value} {ns : List Int} {x : Int} {tx : Tok}
    (G : Gd w mg mb hp) (O : Ok A 3) (hl : hp.IsList a vs.toArray) (hi : IntsAre vs ns) (hs : ns.Pairwise (· ≤ ·)) (hn : ns.length ≤ 100000)
    (hq : ∀ h' tk t, Ext hp h' → Q (.int (ns.countP fun v => decide (¬ x < v)) t) (mk s h' tk)) :
    wpAny (model prog w) A (call (.ref 32) [.ref a, .int x tx]) Q E (mk s hp tk) := by
  have hlen : vs.length = ns.length := hi.length
  refine enter (args := ⟨[.ref a, .int x tx], []⟩) (binds := [("a", .ref a), ("x", .int x tx), ("lo", .int 0 _), ("hi", .none), ("key", .none)]) G (by have := O.dp; omega) rfl rfl (kp_binds G.X fun S => rfl) (locs rfl) ?_ ?_ rfl rfl rfl (by decide)
  · walk_at "m.kn"
  · intro h₁ m₁ t₁ F K N
    repeat' (walk_at "m1")
    refine split_dec (fun hc => absurd hc (by decide)) fun _ => ?_
    repeat' (walk_at "m1")
    refine l_len (hl.at fun o e => F.keep _ o e) (by omega) ?_
    intro _ _
    repeat' (walk_at "m1")
    refine whileR (fun n h => ∃ m lo hi t1 t2, Fr hp hp.objs.size h m ∧ Kn m [("a", .ref a), ("x", .int x tx), ("lo", .int lo t1), ("hi", .int hi t2)] ∧ Turn ns.length (fun i => decide (¬ x < ns.getD i 0)) lo hi ∧ n = (hi - lo).toNat) ns.length ?_ ?_
    · refine ⟨_, 0, vs.length, _, _, by assumption, Kn.sub (by assumption) (by walk_at "m.sub"), ?_, by omega⟩
      rw [hlen]; exact Turn.start _ _
    clear K F N
    rintro n h t ⟨m, lo, hi', t1, t2, F, K, T, rfl⟩
    have N := News.nil (h₀ := hp) (L := hp.objs.size) (h := h)
    repeat' (walk_at "m1")
    refine split_dec (fun hc => ?_) fun hc => ?_
    · obtain ⟨e1, e2⟩ := mid_facts T.1 hc
      have e3 := T.2.2.1
      have e4 := T.1
      repeat' (walk_at "m1")
      refine i_item (hl.at fun o e => Fr.keep (by assumption) _ o e) hi (by omega) (by omega) (by omega) ?_ (by with_unfolding_all rfl) (by intro _; with_unfolding_all rfl)
      intro _
      repeat' (walk_at "m1")
      refine split_dec (fun hd => ?_) fun hd => ?_
      · repeat' (walk_at "m1")
        refine ⟨rfl, _, _, _, ?_, rfl, _, _, _, _, _, by assumption, Kn.sub (by assumption) (by walk_at "m.sub"), T.right (falls_le hs x) e1 e2 (by simpa using hd), rfl⟩
        omega
      · repeat' (walk_at "m1")
        refine ⟨rfl, _, _, _, ?_, rfl, _, _, _, _, _, by assumption, Kn.sub (by assumption) (by walk_at "m.sub"), T.left (falls_le hs x) e1 e2 (by simpa using hd), rfl⟩
        omega
    · repeat' (walk_at "m1")
      have e : lo = hi' := by have := T.2.1; omega
      subst e
      have := hq h t t1 F.keep
      rw [← Turn.count (q := fun v => decide (¬ x < v)) T] at this
      exact this

theorem bisect_right_spec4 {prog : Program} {w : World} {mg mb : Str → Option Value} {A : Around} {s : Shared} {hp : Heap} {tk : Nat} {E : Value → Shared → Prop} {Q : Value → Shared → Prop} {a : Addr} {vs : List Value} {ns : List Int} {x : Int} {tx : Tok} {tl : Tok}
    (G : Gd w mg mb hp) (O : Ok A 3) (hl : hp.IsList a vs.toArray) (hi : IntsAre vs ns) (hs : ns.Pairwise (· ≤ ·)) (hn : ns.length ≤ 100000)
    (hq : ∀ h' tk t, Ext hp h' → Q (.int (ns.countP fun v => decide (¬ x < v)) t) (mk s h' tk)) :
    wpAny (model prog w) A (call (.ref 32) [.ref a, .int x tx, .int 0 tl, .none]) Q E (mk s hp tk) := by
  have hlen : vs.length = ns.length := hi.length
  refine enter (args := ⟨[.ref a, .int x tx, .int 0 tl, .none], []⟩) (binds := [("a", .ref a), ("x", .int x tx), ("lo", .int 0 tl), ("hi", .none), ("key", .none)]) G (by have := O.dp; omega) rfl rfl (kp_binds G.X fun S => rfl) (locs rfl) ?_ ?_ rfl rfl rfl (by decide)
  · walk_at "m.kn"
  · intro h₁ m₁ t₁ F K N
    repeat' (walk_at "m1")
    refine split_dec (fun hc => absurd hc (by decide)) fun _ => ?_
    repeat' (walk_at "m1")
    refine l_len (hl.at fun o e => F.keep _ o e) (by omega) ?_
    intro _ _
    repeat' (walk_at "m1")
    refine whileR (fun n h => ∃ m lo hi t1 t2, Fr hp hp.objs.size h m ∧ Kn m [("a", .ref a), ("x", .int x tx), ("lo", .int lo t1), ("hi", .int hi t2)] ∧ Turn ns.length (fun i => decide (¬ x < ns.getD i 0)) lo hi ∧ n = (hi - lo).toNat) ns.length ?_ ?_
    · refine ⟨_, 0, vs.length, _, _, by assumption, Kn.sub (by assumption) (by walk_at "m.sub"), ?_, by omega⟩
      rw [hlen]; exact Turn.start _ _
    clear K F N
    rintro n h t ⟨m, lo, hi', t1, t2, F, K, T, rfl⟩
    have N := News.nil (h₀ := hp) (L := hp.objs.size) (h := h)
    repeat' (walk_at "m1")
    refine split_dec (fun hc => ?_) fun hc => ?_
    · obtain ⟨e1, e2⟩ := mid_facts T.1 hc
      have e3 := T.2.2.1
      have e4 := T.1
      repeat' (walk_at "m1")
      refine i_item (hl.at fun o e => Fr.keep (by assumption) _ o e) hi (by omega) (by omega) (by omega) ?_ (by with_unfolding_all rfl) (by intro _; with_unfolding_all rfl)
      intro _
      repeat' (walk_at "m1")
      refine split_dec (fun hd => ?_) fun hd => ?_
      · repeat' (walk_at "m1")
        refine ⟨rfl, _, _, _, ?_, rfl, _, _, _, _, _, by assumption, Kn.sub (by assumption) (by walk_at "m.sub"), T.right (falls_le hs x) e1 e2 (by simpa using hd), rfl⟩
        omega
      · repeat' (walk_at "m1")
        refine ⟨rfl, _, _, _, ?_, rfl, _, _, _, _, _, by assumption, Kn.sub (by assumption) (by walk_at "m.sub"), T.left (falls_le hs x) e1 e2 (by simpa using hd), rfl⟩
        omega
    · repeat' (walk_at "m1")
      have e : lo = hi' := by have := T.2.1; omega
      subst e
      have := hq h t t1 F.keep
      rw [← Turn.count (q := fun v => decide (¬ x < v)) T] at this
      exact this

end
-- part b2
section

theorem insort_left_spec {prog : Program} {w : World} {mg mb : Str → Option Value} {A : Around} {s : Shared} {hp : Heap} {tk : Nat} {E : Value → Shared → Prop} {Q : Value → Shared → Prop} {a : Addr} {vs : List Value} {ep : Nat} {ns : List Int} {x : Int} {tx : Tok}
    (G : Gd w mg mb hp) (O : Ok A 5) (ho : hp.get? a = some (lst vs ep)) (hi : IntsAre vs ns) (hs : ns.Pairwise (· ≤ ·)) (hn : ns.length ≤ 100000)
    (hq : ∀ h' tk vs' ep', (∀ b o, b ≠ a → hp.get? b = some o → h'.get? b = some o) → h'.get? a = some (lst vs' ep') → IntsAre vs' (insAt (ns.countP fun v => decide (v < x)) x ns) → Q .none (mk s h' tk)) :
    wpAny (model prog w) A (call (.ref 41) [.ref a, .int x tx]) Q E (mk s hp tk) := by
  have hlen : vs.length = ns.length := hi.length
  refine enter (args := ⟨[.ref a, .int x tx], []⟩) (binds := [("a", .ref a), ("x", .int x tx), ("lo", .int 0 _), ("hi", .none), ("key", .none)]) G (by have := O.dp; omega) rfl rfl (kp_binds G.X fun S => rfl) (locs rfl) ?_ ?_ rfl rfl rfl (by decide)
  · walk_at "m.kn"
  · intro h₁ m₁ t₁ F K N
    repeat' (walk_at "m1")
    refine ⟨⟨_, _, rfl, G.keeps F.keep⟩, ?_⟩
    refine bisect_left_spec4 (G.keeps F.keep) (O.deeper.le (by omega)) ((lst_is ho).at fun o e => F.keep _ o e) hi hs hn ?_
    intro h₂ t₂ u₂ k₂
    have F₂ := after F k₂
    have N₂ := afterN N k₂
    clear F N
    repeat' (walk_at "m1")
    refine l_meth (Fr.keep (by assumption) _ _ ho) PySem.F.slot_list_insert PySem.F.type_list_insert ?_
    repeat' (walk_at "m1")
    have hc := List.countP_le_length (p := fun v => decide (v < x)) (l := ns)
    refine l_insert (Fr.keep (by assumption) _ _ ho) (by omega) (by omega) (by omega) ?_
    intro h₃ o₃ sb₃
    repeat' (walk_at "m1")
    refine hq _ _ _ _ (fun b o hb e => ?_) o₃ ?_
    · exact (sb₃.2 b hb).trans (Fr.keep (by assumption) b o e)
    · exact ints_ins hi _ x _


theorem insort_right_spec {prog : Program} {w : World} {mg mb : Str → Option Value} {A : Around} {s : Shared} {hp : Heap} {tk : Nat} {E : Value → Shared → Prop} {Q : Value → Shared → Prop} {a : Addr} {vs : List Value} {ep : Nat} {ns : List Int} {x : Int} {tx : Tok}
    (G : Gd w mg mb hp) (O : Ok A 5) (ho : hp.get? a = some (lst vs ep)) (hi : IntsAre vs ns) (hs : ns.Pairwise (· ≤ ·)) (hn : ns.length ≤ 100000)
    (hq : ∀ h' tk vs' ep', (∀ b o, b ≠ a → hp.get? b = some o → h'.get? b = some o) → h'.get? a = some (lst vs' ep') → IntsAre vs' (insAt (ns.countP fun v => decide (¬ x < v)) x ns) → Q .none (mk s h' tk)) :
    wpAny (model prog w) A (call (.ref 23) [.ref a, .int x tx]) Q E (mk s hp tk) := by
  have hlen : vs.length = ns.length := hi.length
  refine enter (args := ⟨[.ref a, .int x tx], []⟩) (binds := [("a", .ref a), ("x", .int x tx), ("lo", .int 0 _), ("hi", .none), ("key", .none)]) G (by have := O.dp; omega) rfl rfl (kp_binds G.X fun S => rfl) (locs rfl) ?_ ?_ rfl rfl rfl (by decide)
  · walk_at "m.kn"
  · intro h₁ m₁ t₁ F K N
    repeat' (walk_at "m1")
    refine ⟨⟨_, _, rfl, G.keeps F.keep⟩, ?_⟩
    refine bisect_right_spec4 (G.keeps F.keep) (O.deeper.le (by omega)) ((lst_is ho).at fun o e => F.keep _ o e) hi hs hn ?_
    intro h₂ t₂ u₂ k₂
    have F₂ := after F k₂
    have N₂ := afterN N k₂
    clear F N
    repeat' (walk_at "m1")
    refine l_meth (Fr.keep (by assumption) _ _ ho) PySem.F.slot_list_insert PySem.F.type_list_insert ?_
    repeat' (walk_at "m1")
    have hc := List.countP_le_length (p := fun v => decide (¬ x < v)) (l := ns)
    refine l_insert (Fr.keep (by assumption) _ _ ho) (by omega) (by omega) (by omega) ?_
    intro h₃ o₃ sb₃
    repeat' (walk_at "m1")
    refine hq _ _ _ _ (fun b o hb e => ?_) o₃ ?_
    · exact (sb₃.2 b hb).trans (Fr.keep (by assumption) b o e)
    · exact ints_ins hi _ x _

end
-- part b3
section
theorem law_kept_spec {prog : Program} {w : World} {mg mb : Str → Option Value} {A : Around} {s : Shared} {hp : Heap} {tk : Nat} {E : Value → Shared → Prop} {Q : Value → Shared → Prop} {a : Addr} {vs : List Value} {ns : List Int}
    (G : Gd w mg mb hp) (O : Ok A 7) (hl : hp.IsList a vs.toArray) (hi : IntsAre vs ns) (hn : ns.length ≤ 1000)
    (hq : ∀ h' tk r vs' ep' ns', Ext hp h' → hp.get? r = none → h'.get? r = some (lst vs' ep') → IntsAre vs' ns' → ns'.Pairwise (· ≤ ·) → ns'.Perm ns → Q (.ref r) (mk s h' tk)) :
    wpAny (model prog w) A (call (.ref 85) [.ref a]) Q E (mk s hp tk) := by
  have hlen : vs.length = ns.length := hi.length
  refine enter (args := ⟨[.ref a], []⟩) (binds := [("things", .ref a)]) G (by have := O.dp; omega) rfl rfl (BindsTo.of_eq rfl) (locs rfl) ?_ ?_ rfl rfl rfl (by decide)
  · walk_at "m.kn"
  · intro h₁ m₁ t₁ F K N
    repeat' (walk_at "m1")
    refine n_list (by decide) ?_
    intro r h₂ r₂ o₂ k₂
    have N₂ := afterNew F N k₂ r₂ o₂
    have F₂ := after F k₂
    clear F N
    repeat' (walk_at "m1")
    rename_i h₃ m₃ t₃ F₃ K₃ N₃
    have hl₃ : h₃.IsList a vs.toArray := hl.at fun o e => F₃.keep _ o e
    obtain ⟨oa, hoa, _⟩ := id hl
    have hoa₃ := F₃.keep _ _ hoa
    refine c_enum hl₃ ?_
    intro e it h₄ he hit e₄ it₄ hne k₄
    refine p_enum he ?_
    have hra : r ≠ a := by
      rintro rfl
      have := (N₃ _ mem0).2.2
      rw [hoa] at this; cases this
    have her : r ∉ [e, it] := by
      have hor := (N₃ _ mem0).1
      simp only [List.mem_cons, List.not_mem_nil, or_false, not_or]
      exact ⟨(fresh_ne e₄ hor).symm, (fresh_ne it₄ hor).symm⟩
    refine for2 (σ := List Value × Nat × List Int) (h₀ := hp) (Ok.deeper (d := 6) O).hh (wk_enum (Ok.deeper (d := 6) O).hh e it a hne (fresh_ne e₄ hoa₃).symm (fresh_ne it₄ hoa₃).symm vs) ?_ ?_
      (fun c => [("row", .ref r), ("things", .ref a)]) (fun c => [(r, lst c.1 c.2.1)]) (fun i c => IntsAre c.1 c.2.2 ∧ c.2.2.Pairwise (· ≤ ·) ∧ c.2.2.Perm (ns.take i)) ([], 0, [])
      (after F₃ k₄) (K₃.sub (by walk_at "m.sub")) (afterN N₃ k₄) (all1 her all0) ⟨⟨_, he⟩, hit, hl₃.at fun o x => k₄ _ o x⟩ ⟨.nil, .nil, by simp⟩ ?_ ?_
    · have hL := F₃.ns.lt
      obtain ⟨oL, _, _, hoL, _⟩ := F₃.ns
      simp only [List.mem_cons, List.not_mem_nil, or_false, not_or]
      refine ⟨(fresh_ne e₄ hoL).symm, (fresh_ne it₄ hoL).symm, fun q => ?_⟩
      exact absurd (Heap.lt_size hoa) (by rw [← q]; exact Nat.lt_irrefl _)
    · intro b hb
      simp only [List.mem_cons, List.not_mem_nil, or_false] at hb
      have q : ∀ b, h₃.get? b = none → hp.get? b = none := fun b hb => by
        cases q : hp.get? b with
        | none => rfl
        | some o => rw [F₃.keep _ _ q] at hb; cases hb
      rcases hb with rfl | rfl
      · exact q _ e₄
      · exact q _ it₄
    · clear K K₃ N₂ N₃ F₂ F₃
      rintro i v0 v1 ⟨vs₁, ep₁, ns₁⟩ h t m own hin ⟨u, rfl, hv⟩ ⟨hI, hS, hP⟩ hoff hsub hlive F K N
      dsimp only [envOf, List.cons_append, List.nil_append] at hI hS hP F K N
      have hin' : i < ns.length := hlen ▸ hin
      obtain ⟨u1, hx⟩ := hi.get i ns[i] (by simp [hin'])
      have hv1 : v1 = .int ns[i] u1 := by rw [hx] at hv; exact (Option.some.inj hv).symm
      subst hv1
      have hown : ∀ p ∈ own, p.1 ≠ r := fun p hp q => by
        have := hsub p hp
        rw [q] at this
        simp only [List.mem_cons, List.not_mem_nil, or_false] at this her
        rcases this with z | z | z
        · exact her (.inl z)
        · exact her (.inr z)
        · exact hra z
      have hlen₁ : ns₁.length ≤ 1000 := by
        have := hP.length_eq
        rw [List.length_take] at this; omega
      have hperm : ∀ r, (insAt r ns[i] ns₁).Perm (ns.take (i + 1)) := fun r => by
        refine (insAt_perm r _ _).trans ?_
        rw [List.take_add_one, List.getElem?_eq_getElem hin']
        exact (List.Perm.cons _ hP).trans (List.perm_append_comm (l₁ := [ns[i]]))
      repeat' (walk_at "m1")
      refine split_bool (fun hb => ?_) fun hb => ?_
      all_goals
        repeat' (walk_at "m1")
        rename_i h₅ m₅ t₅ F₅ K₅ N₅ _ _ _ _
        refine ⟨⟨_, _, rfl, G.keeps F₅.keep⟩, ?_⟩
        first
        | refine insort_left_spec (G.keeps F₅.keep) (O.deeper.le (by omega)) (N₅ _ mem0).1 hI hS (by omega) ?_
        | refine insort_right_spec (G.keeps F₅.keep) (O.deeper.le (by omega)) (N₅ _ mem0).1 hI hS (by omega) ?_
        intro h₆ t₆ vs₆ ep₆ k₆ o₆ i₆
        obtain ⟨F₆, N₆⟩ := upd1 F₅ N₅ hown k₆ o₆
        repeat' (walk_at "m1")
        refine ⟨rfl, (vs₆, ep₆, _), _, _, _, rfl, F₆, K₅.sub (by walk_at "m.sub"), N₆, all1 her all0, i₆, ?_, hperm _⟩
        first
        | exact ins_left_sorted hS _
        | exact ins_right_sorted hS _
    · clear K K₃ N₂ N₃ F₂ F₃
      rintro ⟨vs₁, ep₁, ns₁⟩ h t m ⟨hI, hS, hP⟩ F K N
      dsimp only [envOf] at hI hS hP F K N
      repeat' (walk_at "m1")
      refine hq _ _ _ _ _ _ F.keep (N _ mem0).2.2 (N _ mem0).1 hI hS ?_
      rwa [List.take_of_length_le (by omega)] at hP
end
-- part b4
section
def halvesOf (ns : List Int) : List Int := ns.flatMap fun x => List.replicate (1 + (x.fdiv 6).fmod 2).toNat (x.fmod 6)
theorem halvesOf_take {ns : List Int} {i : Nat} (h : i < ns.length) : halvesOf (ns.take (i + 1)) = halvesOf (ns.take i) ++ List.replicate (1 + (ns[i].fdiv 6).fmod 2).toNat (ns[i].fmod 6) := by
  unfold halvesOf
  rw [List.take_add_one, List.getElem?_eq_getElem h, List.flatMap_append]
  simp
theorem two_cases (x : Int) : x.fmod 2 = 0 ∨ x.fmod 2 = 1 := by
  rw [Int.fmod_eq_emod_of_nonneg _ (by omega)]; omega
theorem halvesOf_len (ns : List Int) : (halvesOf ns).length ≤ 2 * ns.length := by
  induction ns with
  | nil => simp [halvesOf]
  | cons x ns ih =>
    unfold halvesOf at ih ⊢
    rw [List.flatMap_cons, List.length_append, List.length_replicate, List.length_cons]
    rcases two_cases (x.fdiv 6) with e | e <;> rw [e] <;> omega
theorem ints_rep (x : Int) (u : Tok) : ∀ k, IntsAre (List.replicate k (.int x u)) (List.replicate k x)
  | 0 => .nil
  | k + 1 => .cons x u (ints_rep x u k)

theorem law_halves_spec {prog : Program} {w : World} {mg mb : Str → Option Value} {A : Around} {s : Shared} {hp : Heap} {tk : Nat} {E : Value → Shared → Prop} {Q : Value → Shared → Prop} {a : Addr} {vs : List Value} {ns : List Int}
    (G : Gd w mg mb hp) (O : Ok A 7) (hl : hp.IsList a vs.toArray) (hi : IntsAre vs ns) (hn : ns.length ≤ 1000)
    (hq : ∀ h' tk r vs' ep', Ext hp h' → hp.get? r = none → h'.get? r = some (lst vs' ep') → IntsAre vs' (halvesOf ns) → Q (.ref r) (mk s h' tk)) :
    wpAny (model prog w) A (call (.ref 78) [.ref a]) Q E (mk s hp tk) := by
  have hlen : vs.length = ns.length := hi.length
  obtain ⟨oa, hoa, _⟩ := id hl
  refine enter (args := ⟨[.ref a], []⟩) (binds := [("numbers", .ref a)]) G (by have := O.dp; omega) rfl rfl (BindsTo.of_eq rfl) (locs rfl) ?_ ?_ rfl rfl rfl (by decide)
  · walk_at "m.kn"
  · intro h₁ m₁ t₁ F K N
    repeat' (walk_at "m1")
    refine n_list (by decide) ?_
    intro r h₂ r₂ o₂ k₂
    have N₂ := afterNew F N k₂ r₂ o₂
    have F₂ := after F k₂
    clear F N
    repeat' (walk_at "m1")
    rename_i h₃ m₃ t₃ F₃ K₃ N₃
    have hl₃ : h₃.IsList a vs.toArray := hl.at fun o e => F₃.keep _ o e
    have hoa₃ := F₃.keep _ _ hoa
    refine p_list hl₃ ?_
    intro it h₄ hit it₄ k₄
    refine for1 (σ := Addr × List Value × Nat) (h₀ := hp) (wk_list (Ok.deeper (d := 6) O).hh it a (fresh_ne it₄ hoa₃).symm vs) ?_ ?_
      (fun c => [("halves", .ref c.1), ("numbers", .ref a)]) (fun c => [(c.1, lst c.2.1 c.2.2)]) (fun i c => IntsAre c.2.1 (halvesOf (ns.take i))) (r, [], 0)
      (after F₃ k₄) (K₃.sub (by walk_at "m.sub")) (afterN N₃ k₄) ?_ ⟨hit, hl₃.at fun o x => k₄ _ o x⟩ .nil ?_ ?_
    · obtain ⟨oL, _, _, hoL, _⟩ := F₃.ns
      simp only [List.mem_cons, List.not_mem_nil, or_false, not_or]
      refine ⟨(fresh_ne it₄ hoL).symm, fun q => ?_⟩
      exact absurd (Heap.lt_size hoa) (by rw [← q]; exact Nat.lt_irrefl _)
    · refine all1 ?_ all0
      cases q : hp.get? it with
      | none => rfl
      | some o => rw [F₃.keep _ _ q] at it₄; cases it₄
    · refine all1 ?_ all0
      simp only [List.mem_cons, List.not_mem_nil, or_false]
      exact (fresh_ne it₄ (N₃ _ mem0).1).symm
    · clear K K₃ N₂ N₃ F₂ F₃
      rintro i v ⟨r₁, vs₁, ep₁⟩ h t m own hin hv hI hoff hsub hlive F K N
      dsimp only [envOf, List.cons_append, List.nil_append] at hI F K N
      have hin' : i < ns.length := hlen ▸ hin
      obtain ⟨u1, hx⟩ := hi.get i ns[i] (by simp [hin'])
      have hv1 : v = .int ns[i] u1 := by rw [hx] at hv; exact (Option.some.inj hv).symm
      subst hv1
      have hlen₁ : vs₁.length ≤ 2000 := by
        rw [hI.length]
        have := halvesOf_len (ns.take i)
        rw [List.length_take] at this; omega
      have h2 := two_cases (ns[i].fdiv 6)
      repeat' (walk_at "m1")
      refine n_list (by simp) ?_
      intro r₅ h₅ f₅ o₅ k₅
      have N₅ := afterNew (by assumption) (by assumption) k₅ f₅ o₅
      have F₅ := after (by assumption) k₅
      repeat' (walk_at "m1")
      refine l_mul (N₅ _ mem0).1 (by omega) (by omega) ?_
      intro r₆ h₆ us₆ e₆ f₆ o₆ k₆
      have N₆ := afterNew F₅ N₅ k₆ f₆ o₆
      have F₆ := after F₅ k₆
      refine l_add (N₆ _ (mem1 (mem1 mem0))).1 (N₆ _ mem0).1 (by rw [e₆, List.length_replicate]; omega) ?_
      intro r₇ h₇ us₇ e₇ f₇ o₇ k₇
      have N₇ := afterNew F₆ N₆ k₇ f₇ o₇
      have F₇ := after F₆ k₇
      have off₇ := off_fresh (own := own) (fun p hp => N₆ p (mem1 (mem1 (mem1 hp)))) hlive f₇
      clear N₆ F₆ N₅ F₅
      repeat' (walk_at "m1")
      rename_i h₈ m₈ t₈ F₈ K₈ N₈
      refine ⟨rfl, (r₇, us₇, 0), _, _, _, rfl, F₈, K₈.sub (by walk_at "m.sub"), ?_, ?_, ?_⟩
      · exact fun p hp => N₈ p (by
          rcases List.mem_cons.mp hp with rfl | hp
          · exact mem0
          · exact mem1 (mem1 (mem1 (mem1 hp))))
      · exact all1 off₇ all0
      · show IntsAre _ (halvesOf (ns.take (i + 1)))
        rw [halvesOf_take hin']
        rw [e₇, e₆]
        exact ints_app hI (ints_rep _ _ _)
    · clear K K₃ N₂ N₃ F₂ F₃
      rintro ⟨r₁, vs₁, ep₁⟩ h t m hI F K N
      dsimp only [envOf] at hI F K N
      repeat' (walk_at "m1")
      refine hq _ _ _ _ _ F.keep (N _ mem0).2.2 (N _ mem0).1 ?_
      rwa [List.take_of_length_le (by omega)] at hI
end
-- part b5
section
theorem add_callers_spec {prog : Program} {w : World} {mg mb : Str → Option Value} {A : Around} {s : Shared} {hp : Heap} {tk : Nat} {E : Value → Shared → Prop} {Q : Value → Shared → Prop} {d1 d2 : Addr} {o1 o2 : Obj} {c1 c2 : List (Int × Int)}
    (G : Gd w mg mb hp) (O : Ok A 7) (D1 : DI prog w d1 o1 c1) (h1 : hp.get? d1 = some o1) (D2 : DI prog w d2 o2 c2) (h2 : hp.get? d2 = some o2) (hn1 : c1.length ≤ 1000) (hn2 : c2.length ≤ 1000)
    (hq : ∀ h' tk r o, Ext hp h' → hp.get? r = none → h'.get? r = some o → DI prog w r o (c2.foldl addD c1) → Q (.ref r) (mk s h' tk)) :
    wpAny (model prog w) A (call (.ref 64) [.ref d1, .ref d2]) Q E (mk s hp tk) := by
  refine enter (args := ⟨[.ref d1, .ref d2], []⟩) (binds := [("target", .ref d1), ("source", .ref d2)]) G (by have := O.dp; omega) rfl rfl (BindsTo.of_eq rfl) (locs rfl) ?_ ?_ rfl rfl rfl (by decide)
  · walk_at "m.kn"
  · intro h₁ m₁ t₁ F K N
    repeat' (walk_at "m1")
    refine d_empty ?_ ?_
    · have := modules_low G.nl
      exact Nat.lt_of_lt_of_le this (Nat.le_trans F.above (Nat.le_of_lt F.ns.lt))
    intro r o h₂ r₂ o₂ D₂ k₂
    have N₂ := afterNew F N k₂ r₂ o₂
    have F₂ := after F k₂
    clear F N
    repeat' (walk_at "m1")
    rename_i h₃ m₃ t₃ F₃ K₃ N₃
    refine d_meth D1 (F₃.keep _ _ h1) PySem.F.slot_dict_items PySem.F.type_dict_items ?_
    repeat' (walk_at "m1")
    refine d_items D1 (F₃.keep _ _ h1) ?_
    intro vw h₄ hvw vw₄ k₄
    have F₄ := after F₃ k₄
    have N₄ := afterN N₃ k₄
    clear F₃ N₃
    obtain ⟨kvs, hkvs, hvi⟩ := D1.dictOf (F₄.keep _ _ h1)
    obtain ⟨ep, hat⟩ := hkvs.dictAt
    refine p_items hvw hat ?_
    intro it h₅ hst it₅ k₅
    have hoff : r ∉ [it] := off1 it₅ (N₄ _ mem0).1
    have hfp : r ∉ [it, d1] := notIn2 (fun e => hoff (by simp [e])) (ne_old N₄ h1)
    have hlen := hvi.length
    refine for2 (σ := Obj) (h₀ := hp) (Ok.deeper (d := 6) O).hh (wk_items (Ok.deeper (d := 6) O).hh it d1 (fresh_ne it₅ (F₄.keep _ _ h1)).symm kvs ep) (notL2 F₄ it₅ h1) (fresh1 F₄ it₅)
      (fun c => [("new_callers", .ref r), ("source", .ref d2), ("target", .ref d1)]) (fun c => [(r, c)]) (fun i c => DI prog w r c (c1.take i)) o
      (after F₄ k₅) (K₃.sub (by walk_at "m.sub")) (afterN N₄ k₅) (all1 hoff all0) hst (by simpa using D₂) ?_ ?_
    · clear K K₃ N₂ N₄ F₂ F₄
      rintro i v0 v1 o₁ h t m own hin ⟨k, u, rfl, hv⟩ hJ _ hsub hlive F K N
      dsimp only [envOf, List.cons_append, List.nil_append] at F K N
      have hin' : i < c1.length := hlen ▸ hin
      obtain ⟨n, u1, hc, rfl⟩ := hvi.get i k v1 hv
      rw [List.getElem?_eq_getElem hin'] at hc
      have hc' := Option.some.inj hc
      repeat' (walk_at "m1")
      rename_i h₆ m₆ t₆ F₆ K₆ N₆
      refine d_set hJ (N₆ _ mem0).1 (by rw [List.length_take]; omega) ?_
      intro h₇ o₇ t₇ ho₇ D₇ sb₇
      obtain ⟨F₇, N₇⟩ := upd1 F₆ N₆ (own_ne hsub hfp) (sameBut_ext sb₇) ho₇
      repeat' (walk_at "m1")
      refine ⟨rfl, o₇, _, _, _, rfl, F₇, K₆.sub (by walk_at "m.sub"), N₇, all1 hoff all0, ?_⟩
      show DI prog w r o₇ (c1.take (i + 1))
      have := put_take D1.nodup hin'
      rw [hc'] at this
      rwa [this] at D₇
    · clear K K₃ N₂ N₄ F₂ F₄
      rintro o₁ h t m hJ F K N
      dsimp only [envOf] at F K N
      rw [hlen, List.take_length] at hJ
      clear hat hkvs hvi hlen hst hoff hfp
      repeat' (walk_at "m1")
      refine d_meth D2 (F.keep _ _ h2) PySem.F.slot_dict_items PySem.F.type_dict_items ?_
      repeat' (walk_at "m1")
      refine d_items D2 (F.keep _ _ h2) ?_
      intro vw h₄ hvw vw₄ k₄
      have F₄ := after F k₄
      have N₄ := afterN N k₄
      obtain ⟨kvs, hkvs, hvi⟩ := D2.dictOf (F₄.keep _ _ h2)
      obtain ⟨ep, hat⟩ := hkvs.dictAt
      refine p_items hvw hat ?_
      intro it h₅ hst it₅ k₅
      have hoff : r ∉ [it] := off1 it₅ (N₄ _ mem0).1
      have hfp : r ∉ [it, d2] := notIn2 (fun e => hoff (by simp [e])) (ne_old N₄ h2)
      have hlen := hvi.length
      refine for2 (σ := Obj) (h₀ := hp) (Ok.deeper (d := 6) O).hh (wk_items (Ok.deeper (d := 6) O).hh it d2 (fresh_ne it₅ (F₄.keep _ _ h2)).symm kvs ep) (notL2 F₄ it₅ h2) (fresh1 F₄ it₅)
        (fun c => [("new_callers", .ref r)]) (fun c => [(r, c)]) (fun i c => DI prog w r c ((c2.take i).foldl addD c1)) o₁
        (after F₄ k₅) (K.sub (by walk_at "m.sub")) (afterN N₄ k₅) (all1 hoff all0) hst (by simpa using hJ) ?_ ?_
      · clear K N N₄ F F₄ hJ
        rintro i v0 v1 o₁ h t m own hin ⟨k, u, rfl, hv⟩ hJ _ hsub hlive F K N
        dsimp only [envOf, List.cons_append, List.nil_append] at F K N
        have hin' : i < c2.length := hlen ▸ hin
        obtain ⟨n, u1, hc, rfl⟩ := hvi.get i k v1 hv
        rw [List.getElem?_eq_getElem hin'] at hc
        have hc' := Option.some.inj hc
        have hstep := foldl_take (c := c1) hin'
        rw [hc'] at hstep
        have hlen1 : ((c2.take i).foldl addD c1).length ≤ 2000 := by
          have := foldl_addD_length (c2.take i) c1
          rw [List.length_take] at this
          omega
        repeat' (walk_at "m1")
        rename_i h₆ m₆ t₆ F₆ K₆ N₆
        refine d_in hJ (N₆ _ mem0).1 ?_
        intro t₇
        cases hl : lookD ((c2.take i).foldl addD c1) k with
        | none =>
          repeat' (walk_at "m1")
          refine if_ff ?_
          repeat' (walk_at "m1")
          refine d_set hJ (N₆ _ mem0).1 (by omega) ?_
          intro h₇ o₇ t₇ ho₇ D₇ sb₇
          obtain ⟨F₇, N₇⟩ := upd1 F₆ N₆ (own_ne hsub hfp) (sameBut_ext sb₇) ho₇
          repeat' (walk_at "m1")
          refine ⟨rfl, o₇, _, _, _, rfl, F₇, K₆.sub (by walk_at "m.sub"), N₇, all1 hoff all0, ?_⟩
          show DI prog w r o₇ ((c2.take (i + 1)).foldl addD c1)
          rw [hstep, addD_none hl]
          exact D₇
        | some v =>
          repeat' (walk_at "m1")
          refine if_tt ?_
          repeat' (walk_at "m1")
          refine i_isTuple ?_
          intro t₈
          repeat' (walk_at "m1")
          refine d_get hJ (N₆ _ mem0).1 hl ?_
          intro t₉ u₉
          repeat' (walk_at "m1")
          refine d_set hJ (N₆ _ mem0).1 (by omega) ?_
          intro h₇ o₇ t₇ ho₇ D₇ sb₇
          obtain ⟨F₇, N₇⟩ := upd1 F₆ N₆ (own_ne hsub hfp) (sameBut_ext sb₇) ho₇
          repeat' (walk_at "m1")
          refine ⟨rfl, o₇, _, _, _, rfl, F₇, K₆.sub (by walk_at "m.sub"), N₇, all1 hoff all0, ?_⟩
          show DI prog w r o₇ ((c2.take (i + 1)).foldl addD c1)
          rw [hstep, addD_some hl]
          exact D₇
      · clear K N N₄ F F₄ hJ
        rintro o₁ h t m hJ F K N
        dsimp only [envOf] at F K N
        rw [hlen, List.take_length] at hJ
        repeat' (walk_at "m1")
        exact hq _ _ _ _ F.keep (N _ mem0).2.2 (N _ mem0).1 hJ
end
-- part b6
section
theorem add_func_stats_spec {prog : Program} {w : World} {mg mb : Str → Option Value} {A : Around} {s : Shared} {hp : Heap} {tk : Nat} {E : Value → Shared → Prop} {Q : Value → Shared → Prop} {T1 T2 d1 d2 : Addr} {o1 o2 : Obj} {c1 c2 : List (Int × Int)}
    {a1 a2 a3 a4 b1 b2 b3 b4 : Int} {ta1 ta2 ta3 ta4 tb1 tb2 tb3 tb4 : Tok}
    (G : Gd w mg mb hp) (O : Ok A 9) (H1 : hp.get? T1 = some (tup [.int a1 ta1, .int a2 ta2, .int a3 ta3, .int a4 ta4, .ref d1])) (H2 : hp.get? T2 = some (tup [.int b1 tb1, .int b2 tb2, .int b3 tb3, .int b4 tb4, .ref d2]))
    (D1 : DI prog w d1 o1 c1) (h1 : hp.get? d1 = some o1) (D2 : DI prog w d2 o2 c2) (h2 : hp.get? d2 = some o2) (hn1 : c1.length ≤ 1000) (hn2 : c2.length ≤ 1000)
    (hq : ∀ h' tk r d o u1 u2 u3 u4, Ext hp h' → hp.get? r = none → hp.get? d = none → h'.get? r = some (tup [.int (b1 + a1) u1, .int (b2 + a2) u2, .int (b3 + a3) u3, .int (b4 + a4) u4, .ref d]) → h'.get? d = some o → DI prog w d o (c2.foldl addD c1) → Q (.ref r) (mk s h' tk)) :
    wpAny (model prog w) A (call (.ref 57) [.ref T1, .ref T2]) Q E (mk s hp tk) := by
  refine enter (args := ⟨[.ref T1, .ref T2], []⟩) (binds := [("target", .ref T1), ("source", .ref T2)]) G (by have := O.dp; omega) rfl rfl (BindsTo.of_eq rfl) (locs rfl) ?_ ?_ rfl rfl rfl (by decide)
  · walk_at "m.kn"
  · intro h₁ m₁ t₁ F K N
    repeat' (walk_at "m1")
    refine a_tup (Ok.deeper (d := 8) O).hh (F.keep _ _ H2) (by with_unfolding_all rfl) (by with_unfolding_all rfl) ?_
    intro h₂ k₂
    have F₂ := after F k₂
    have N₂ := afterN N k₂
    clear F N
    repeat' (walk_at "m1")
    rename_i h₃ m₃ t₃ F₃ K₃ N₃
    refine a_tup (Ok.deeper (d := 8) O).hh (F₃.keep _ _ H1) (by with_unfolding_all rfl) (by with_unfolding_all rfl) ?_
    intro h₄ k₄
    have F₄ := after F₃ k₄
    have N₄ := afterN N₃ k₄
    repeat' (walk_at "m1")
    rename_i h₅ m₅ t₅ F₅ K₅ N₅ _ _ _ _ _ _ _ _
    refine ⟨⟨_, _, rfl, G.keeps F₅.keep⟩, ?_⟩
    refine add_callers_spec (G.keeps F₅.keep) ((Ok.deeper (d := 8) O).le (by omega)) D1 (F₅.keep _ _ h1) D2 (F₅.keep _ _ h2) hn1 hn2 ?_
    intro h₆ t₆ r₆ o₆ k₆ f₆ ho₆ D₆
    have F₆ := after F₅ k₆
    have N₆ := afterNew F₅ N₅ k₆ f₆ ho₆
    repeat' (walk_at "m1")
    refine n_tup (by simp) ?_
    intro r₇ h₇ f₇ o₇ k₇
    have F₇ := after F₆ k₇
    have N₇ := afterNew F₆ N₆ k₇ f₇ o₇
    exact hq _ _ _ _ _ _ _ _ _ F₇.keep (N₇ _ mem0).2.2 (N₇ _ (mem1 mem0)).2.2 o₇ (N₇ _ (mem1 mem0)).1 D₆

theorem count_calls_spec {prog : Program} {w : World} {mg mb : Str → Option Value} {A : Around} {s : Shared} {hp : Heap} {tk : Nat} {E : Value → Shared → Prop} {Q : Value → Shared → Prop} {d1 : Addr} {o1 : Obj} {c1 : List (Int × Int)}
    (G : Gd w mg mb hp) (O : Ok A 7) (D1 : DI prog w d1 o1 c1) (h1 : hp.get? d1 = some o1)
    (hq : ∀ h' tk u, Ext hp h' → Q (.int ((c1.map (·.2)).sum) u) (mk s h' tk)) :
    wpAny (model prog w) A (call (.ref 71) [.ref d1]) Q E (mk s hp tk) := by
  refine enter (args := ⟨[.ref d1], []⟩) (binds := [("callers", .ref d1)]) G (by have := O.dp; omega) rfl rfl (BindsTo.of_eq rfl) (locs rfl) ?_ ?_ rfl rfl rfl (by decide)
  · walk_at "m.kn"
  · intro h₁ m₁ t₁ F K N
    repeat' (walk_at "m1")
    rename_i h₃ m₃ t₃ F₃ K₃ N₃
    refine d_meth D1 (F₃.keep _ _ h1) PySem.F.slot_dict_values PySem.F.type_dict_values ?_
    repeat' (walk_at "m1")
    refine d_values D1 (F₃.keep _ _ h1) ?_
    intro vw h₄ hvw vw₄ k₄
    have F₄ := after F₃ k₄
    have N₄ := afterN N₃ k₄
    obtain ⟨kvs, hkvs, hvi⟩ := D1.dictOf (F₄.keep _ _ h1)
    obtain ⟨ep, hat⟩ := hkvs.dictAt
    have hlen := hvi.length
    refine p_values hvw hat ?_
    intro it h₅ hit hat₅ it₅ k₅
    refine for1 (σ := Int × Tok) (h₀ := hp) (wk_values (Ok.deeper (d := 6) O).hh it d1 (fresh_ne it₅ (F₄.keep _ _ h1)).symm kvs ep) (notL2 F₄ it₅ h1) (fresh1 F₄ it₅)
      (fun c => [("nc", .int c.1 c.2)]) (fun c => []) (fun i c => c.1 = ((c1.take i).map (·.2)).sum) (0, _)
      (after F₄ k₅) (K₃.sub (by walk_at "m.sub")) (afterN N₄ k₅) all0 ⟨hit, hat₅⟩ rfl ?_ ?_
    · rintro i v ⟨n₁, u₁⟩ h t m own hin ⟨k, hv⟩ hJ _ hsub hlive F K N
      dsimp only [envOf, List.nil_append] at F K N hJ
      have hin' : i < c1.length := hlen ▸ hin
      obtain ⟨n, u1, hc, rfl⟩ := hvi.get i k v hv
      rw [List.getElem?_eq_getElem hin'] at hc
      have hc' := Option.some.inj hc
      repeat' (walk_at "m1")
      rename_i u₆ h₆ m₆ t₆ F₆ K₆ N₆
      refine ⟨rfl, (n₁ + n, u₆), _, _, _, rfl, F₆, K₆.sub (by walk_at "m.sub"), N₆, all0, ?_⟩
      show n₁ + n = ((c1.take (i + 1)).map (·.2)).sum
      rw [List.take_add_one, List.getElem?_eq_getElem hin', hc', hJ]
      simp
    · rintro ⟨n₁, u₁⟩ h t m hJ F K N
      dsimp only [envOf] at F K N hJ
      rw [hlen, List.take_length] at hJ
      repeat' (walk_at "m1")
      rw [hJ]
      exact hq _ _ _ F.keep
end
-- part b7
section
/-- what a profile has come to -/
structure Prof where
  T : Addr
  d : Addr
  o : Obj
  a1 : Int
  a2 : Int
  a3 : Int
  a4 : Int
  u1 : Tok
  u2 : Tok
  u3 : Tok
  u4 : Tok
def Prof.tup (c : Prof) : Obj := Mine.tup [.int c.a1 c.u1, .int c.a2 c.u2, .int c.a3 c.u3, .int c.a4 c.u4, .ref c.d]
def tally (wt : Int) (ns : List Int) : List (Int × Int) := (ns.map fun n => (n, wt)).foldl addD []
theorem tally_take {wt : Int} {ns : List Int} {i : Nat} (h : i < ns.length) : tally wt (ns.take (i + 1)) = [(ns[i], wt)].foldl addD (tally wt (ns.take i)) := by
  unfold tally
  rw [List.take_add_one, List.getElem?_eq_getElem h, List.map_append, List.foldl_append]; rfl
theorem tally_length (wt : Int) (ns : List Int) : (tally wt ns).length ≤ ns.length := by
  have := foldl_addD_length (ns.map fun n => (n, wt)) []
  simpa [tally] using this
theorem sum_take {ns : List Int} {f : Int → Int} {i : Nat} (h : i < ns.length) : ((ns.take (i + 1)).map f).sum = f ns[i] + ((ns.take i).map f).sum := by
  rw [List.take_add_one, List.getElem?_eq_getElem h, List.map_append, List.sum_append]
  simp; omega

theorem law_profile_spec {prog : Program} {w : World} {mg mb : Str → Option Value} {A : Around} {s : Shared} {hp : Heap} {tk : Nat} {E : Value → Shared → Prop} {Q : Value → Shared → Prop} {a : Addr} {vs : List Value} {ns : List Int} {wt : Int} {tw : Tok}
    (G : Gd w mg mb hp) (O : Ok A 12) (hl : hp.IsList a vs.toArray) (hi : IntsAre vs ns) (hn : ns.length ≤ 1000) (hb : ∀ n ∈ ns, 0 ≤ n ∧ n ≤ 1000000)
    (hq : ∀ h' tk r d o u1 u2 u3 u4, Ext hp h' → hp.get? r = none → hp.get? d = none → h'.get? r = some (tup [.int ns.length u1, .int ns.sum u2, .int (ns.map fun n => n.fdiv 2).sum u3, .int (ns.map fun n => n * wt).sum u4, .ref d]) → h'.get? d = some o → DI prog w d o (tally wt ns) → Q (.ref r) (mk s h' tk)) :
    wpAny (model prog w) A (call (.ref 104) [.ref a, .int wt tw]) Q E (mk s hp tk) := by
  have hlen : vs.length = ns.length := hi.length
  obtain ⟨oa, hoa, _⟩ := id hl
  have hmod : ∀ {h : Heap} {m : Str → Option Value}, Fr hp hp.objs.size h m → sysModules < h.objs.size := fun F => Nat.lt_of_lt_of_le (modules_low G.nl) (Nat.le_trans F.above (Nat.le_of_lt F.ns.lt))
  refine enter (args := ⟨[.ref a, .int wt tw], []⟩) (binds := [("row", .ref a), ("weight", .int wt tw)]) G (by have := O.dp; omega) rfl rfl (BindsTo.of_eq rfl) (locs rfl) ?_ ?_ rfl rfl rfl (by decide)
  · walk_at "m.kn"
  · intro h₁ m₁ t₁ F K N
    repeat' (walk_at "m1")
    rename_i v1 _ v2 _ v3 _ v4
    refine d_empty (hmod F) ?_
    intro d o h₂ f₂ o₂ D₂ k₂
    have N₂ := afterNew F N k₂ f₂ o₂
    have F₂ := after F k₂
    repeat' (walk_at "m1")
    refine n_tup (by simp) ?_
    intro T h₃ f₃ o₃ k₃
    have N₃ := afterNew F₂ N₂ k₃ f₃ o₃
    have F₃ := after F₂ k₃
    clear F N F₂ N₂
    repeat' (walk_at "m1")
    rename_i h₄ m₄ t₄ F₄ K₄ N₄
    have hl₄ : h₄.IsList a vs.toArray := hl.at fun o e => F₄.keep _ o e
    refine p_list hl₄ ?_
    intro it h₅ hit it₅ k₅
    refine for1 (σ := Prof) (h₀ := hp) (wk_list (Ok.deeper (d := 11) O).hh it a (fresh_ne it₅ (F₄.keep _ _ hoa)).symm vs) (notL2 F₄ it₅ hoa) (fresh1 F₄ it₅)
      (fun c => [("whole", .ref c.T), ("row", .ref a), ("weight", .int wt tw)]) (fun c => [(c.T, c.tup), (c.d, c.o)])
      (fun i c => c.a1 = i ∧ c.a2 = (ns.take i).sum ∧ c.a3 = ((ns.take i).map fun n => n.fdiv 2).sum ∧ c.a4 = ((ns.take i).map fun n => n * wt).sum ∧ DI prog w c.d c.o (tally wt (ns.take i))) ⟨T, d, o, 0, 0, 0, 0, v1, v2, v3, v4⟩
      (after F₄ k₅) (K₄.sub (by walk_at "m.sub")) (afterN N₄ k₅) (all1 (off1 it₅ (N₄ _ mem0).1) (all1 (off1 it₅ (N₄ _ (mem1 mem0)).1) all0)) ⟨hit, hl₄.at fun o x => k₅ _ o x⟩ ⟨rfl, by simp, by simp, by simp, D₂⟩ ?_ ?_
    · clear K K₄ N₃ N₄ F₃ F₄
      rintro i v ⟨T₁, d₁, o₁, a1, a2, a3, a4, u1, u2, u3, u4⟩ h t m own hin hv ⟨e1, e2, e3, e4, D₁⟩ hoff hsub hlive F K N
      dsimp only [envOf, List.cons_append, List.nil_append, Prof.tup] at e1 e2 e3 e4 D₁ F K N
      have hin' : i < ns.length := hlen ▸ hin
      obtain ⟨u, hx⟩ := hi.get i ns[i] (by simp [hin'])
      have hv1 : v = .int ns[i] u := by rw [hx] at hv; exact (Option.some.inj hv).symm
      subst hv1
      have hni := hb ns[i] (List.getElem_mem _)
      repeat' (walk_at "m1")
      refine i_mul (by omega) (by omega) ?_
      intro t₆ u₆
      repeat' (walk_at "m1")
      refine d_one (hmod (by assumption)) ?_ (by with_unfolding_all rfl)
      intro d₆ o₆ h₆ f₆ ho₆ k₆
      have N₆ := afterNew (by assumption) (by assumption) k₆ f₆ ho₆
      have F₆ := after (by assumption) k₆
      have ne₆ := news_fresh (r := d₆) (by assumption : News hp hp.objs.size _ ((T₁, Mine.tup [.int a1 u1, .int a2 u2, .int a3 u3, .int a4 u4, .ref d₁]) :: (d₁, o₁) :: own)) f₆
      repeat' (walk_at "m1")
      refine ⟨_, _, _, _, _, _, rfl, rfl, rfl, (N₆ _ mem0).1, ?_⟩
      intro h₇ o₇ t₇ ho₇ D₇ sb₇
      obtain ⟨F₇, N₇⟩ := upd1 F₆ N₆ ne₆ (sameBut_ext sb₇) ho₇
      clear F₆ N₆
      repeat' (walk_at "m1")
      refine n_tup (by simp) ?_
      intro T₈ h₈ f₈ o₈ k₈
      have N₈ := afterNew F₇ N₇ k₈ f₈ o₈
      have F₈ := after F₇ k₈
      clear F₇ N₇
      repeat' (walk_at "m1")
      refine ⟨⟨_, _, rfl, G.keeps F₈.keep⟩, ?_⟩
      refine add_func_stats_spec (G.keeps F₈.keep) ((Ok.deeper (d := 11) O).le (by omega)) (N₈ _ (mem1 (mem1 mem0))).1 (N₈ _ mem0).1 D₁ (N₈ _ (mem1 (mem1 (mem1 mem0)))).1 D₇ (N₈ _ (mem1 mem0)).1 ?_ (by simp) ?_
      · have := tally_length wt (ns.take i)
        rw [List.length_take] at this; omega
      intro h₉ t₉ r₉ d₉ o₉ w1 w2 w3 w4 k₉ fr₉ fd₉ hr₉ hd₉ D₉
      have F₉ := after F₈ k₉
      have Nd : News hp hp.objs.size h₉ ((d₉, o₉) :: _) := afterNew F₈ N₈ k₉ fd₉ hd₉
      have Nr : News hp hp.objs.size h₉ ((r₉, _) :: _) := afterNew F₈ N₈ k₉ fr₉ hr₉
      have offr := off_fresh (own := own) (fun p hp => N₈ p (mem1 (mem1 (mem1 (mem1 hp))))) hlive fr₉
      have offd := off_fresh (own := own) (fun p hp => N₈ p (mem1 (mem1 (mem1 (mem1 hp))))) hlive fd₉
      have N₉ : News hp hp.objs.size h₉ ((r₉, Mine.tup [.int (1 + a1) w1, .int (ns[i] + a2) w2, .int (ns[i].fdiv 2 + a3) w3, .int (ns[i] * wt + a4) w4, .ref d₉]) :: (d₉, o₉) :: own) := fun p hp => by
        rcases List.mem_cons.mp hp with rfl | hp
        · exact Nr _ mem0
        · rcases List.mem_cons.mp hp with rfl | hp
          · exact Nd _ mem0
          · exact Nd p (mem1 (mem1 (mem1 (mem1 (mem1 hp)))))
      clear Nd Nr F₈ N₈
      repeat' (walk_at "m1")
      rename_i h₀ m₀ t₀ F₀ K₀ N₀
      refine ⟨rfl, ⟨r₉, d₉, o₉, 1 + a1, ns[i] + a2, ns[i].fdiv 2 + a3, ns[i] * wt + a4, w1, w2, w3, w4⟩, _, _, _, rfl, F₀, K₀.sub (by walk_at "m.sub"), N₀, all1 offr (all1 offd all0), ?_, ?_, ?_, ?_, ?_⟩
      · show 1 + a1 = ((i + 1 : Nat) : Int); omega
      · show ns[i] + a2 = (ns.take (i + 1)).sum
        have := sum_take (f := id) hin'
        simp only [List.map_id, id] at this
        omega
      · show ns[i].fdiv 2 + a3 = _
        rw [sum_take hin', e3]
      · show ns[i] * wt + a4 = _
        rw [sum_take hin', e4]
      · show DI prog w d₉ o₉ _
        rw [tally_take hin']
        exact D₉
    · clear K K₄ N₃ N₄ F₃ F₄
      rintro ⟨T₁, d₁, o₁, a1, a2, a3, a4, u1, u2, u3, u4⟩ h t m ⟨e1, e2, e3, e4, D₁⟩ F K N
      dsimp only [envOf, Prof.tup] at e1 e2 e3 e4 D₁ F K N
      repeat' (walk_at "m1")
      rw [List.take_of_length_le (by omega)] at e2 e3 e4 D₁
      subst e1 e2 e3 e4
      rw [hlen] at N
      exact hq _ _ _ _ _ _ _ _ _ F.keep (N _ mem0).2.2 (N _ (mem1 mem0)).2.2 (N _ mem0).1 (N _ (mem1 mem0)).1 D₁
end
-- part b8
section
def backRow (ns : List Int) : List Int := ns ++ List.replicate (ns.length % 2) 0
def backStep (row : List Int) (wt : Int) (kk : Nat) (st : Int × List (Int × Int)) : Int × List (Int × Int) :=
  (if 0 < kk then st.1 + 2 * (row.getD (kk - 1) 0 - row.getD kk 0 - 1) else st.1,
   if 0 < row.getD kk 0 - row.getD (kk + 1) 0 - 1 then addD (addD st.2 (st.1, wt)) ((kk : Int) + 1, (row.getD kk 0 - row.getD (kk + 1) 0 - 1) * wt) else addD st.2 (st.1, wt))
def backRun (row : List Int) (wt : Int) (k : Nat) : Nat → Int × List (Int × Int)
  | 0 => ((row.length : Int) - 1 + 2 * row.getD (row.length - 1) 0, [])
  | i + 1 => backStep row wt (2 * k - 2 * i) (backRun row wt k i)
def backOf (ns : List Int) (wt : Int) : List (Int × Int) := (backRun (backRow ns) wt ((backRow ns).length / 2 - 1) ((backRow ns).length / 2)).2
theorem backRun_length (row : List Int) (wt : Int) (k : Nat) : ∀ i, (backRun row wt k i).2.length ≤ 2 * i
  | 0 => by simp [backRun]
  | i + 1 => by
    have ih := backRun_length row wt k i
    have h1 := addD_length (backRun row wt k i).2 ((backRun row wt k i).1, wt)
    show (backStep row wt (2 * k - 2 * i) (backRun row wt k i)).2.length ≤ _
    unfold backStep
    dsimp only
    split
    · have h2 := addD_length (addD (backRun row wt k i).2 ((backRun row wt k i).1, wt)) (((2 * k - 2 * i : Nat) : Int) + 1, (row.getD (2 * k - 2 * i) 0 - row.getD (2 * k - 2 * i + 1) 0 - 1) * wt)
      omega
    · omega
theorem getD_bound {ns : List Int} (hb : ∀ n ∈ ns, 0 ≤ n ∧ n ≤ 1000000) (i : Nat) : 0 ≤ ns.getD i 0 ∧ ns.getD i 0 ≤ 1000000 := by
  rw [List.getD_eq_getElem?_getD]
  cases h : ns[i]? with
  | none => simp
  | some v => exact hb v (List.mem_of_getElem? h)

theorem law_back_spec {prog : Program} {w : World} {mg mb : Str → Option Value} {A : Around} {s : Shared} {hp : Heap} {tk : Nat} {E : Value → Shared → Prop} {Q : Value → Shared → Prop} {a : Addr} {vs : List Value} {ep : Nat} {ns : List Int} {wt : Int} {tw : Tok}
    (G : Gd w mg mb hp) (O : Ok A 12) (hl : hp.get? a = some (lst vs ep)) (hi : IntsAre vs ns) (hn0 : 0 < ns.length) (hn : ns.length ≤ 400) (hb : ∀ n ∈ ns, 0 ≤ n ∧ n ≤ 1000000)
    (hq : ∀ h' tk d o, Ext hp h' → hp.get? d = none → h'.get? d = some o → DI prog w d o (backOf ns wt) → Q (.ref d) (mk s h' tk)) :
    wpAny (model prog w) A (call (.ref 111) [.ref a, .int wt tw]) Q E (mk s hp tk) := by
  have hlen : vs.length = ns.length := hi.length
  have hmod : ∀ {h : Heap} {m : Str → Option Value}, Fr hp hp.objs.size h m → sysModules < h.objs.size := fun F => Nat.lt_of_lt_of_le (modules_low G.nl) (Nat.le_trans F.above (Nat.le_of_lt F.ns.lt))
  refine enter (args := ⟨[.ref a, .int wt tw], []⟩) (binds := [("hooks", .ref a), ("weight", .int wt tw)]) G (by have := O.dp; omega) rfl rfl (BindsTo.of_eq rfl) (locs rfl) ?_ ?_ rfl rfl rfl (by decide)
  · walk_at "m.kn"
  · intro h₁ m₁ t₁ F K N
    repeat' (walk_at "m1")
    refine n_list (by simp) ?_
    intro r₂ h₂ f₂ o₂ k₂
    have N₂ := afterNew F N k₂ f₂ o₂
    have F₂ := after F k₂
    clear F N
    repeat' (walk_at "m1")
    refine l_len (lst_is (F₂.keep _ _ hl)) (by omega) ?_
    intro _ _
    repeat' (walk_at "m1")
    have e2 : ((vs.length : Int).fmod 2) = ((ns.length % 2 : Nat) : Int) := by
      rw [hlen, Int.fmod_eq_emod_of_nonneg _ (by omega)]; omega
    rw [e2]
    refine l_mul (N₂ _ mem0).1 (by omega) (by omega) ?_
    intro r₃ h₃ us₃ e₃ f₃ o₃ k₃
    have N₃ := afterNew F₂ N₂ k₃ f₃ o₃
    have F₃ := after F₂ k₃
    clear F₂ N₂
    refine l_add (F₃.keep _ _ hl) (N₃ _ mem0).1 (by rw [e₃, List.length_replicate]; omega) ?_
    intro r h₄ us e₄ f₄ o₄ k₄
    have N₄ := afterNew F₃ N₃ k₄ f₄ o₄
    have F₄ := after F₃ k₄
    clear F₃ N₃
    have hI : IntsAre us (backRow ns) := by
      rw [e₄, e₃]
      exact ints_app hi (ints_rep _ _ _)
    obtain ⟨row, hrow⟩ : ∃ row, row = backRow ns := ⟨_, rfl⟩
    obtain ⟨k, hk⟩ : ∃ k, row.length = 2 * (k + 1) := by
      refine ⟨row.length / 2 - 1, ?_⟩
      rw [hrow]
      unfold backRow
      rw [List.length_append, List.length_replicate]
      omega
    have hrb : ∀ n ∈ row, 0 ≤ n ∧ n ≤ 1000000 := by
      rw [hrow]
      intro n hn
      rcases List.mem_append.mp hn with h | h
      · exact hb n h
      · rw [(List.mem_replicate.mp h).2]; omega
    have hk2 : k ≤ 200 := by
      have : row.length ≤ ns.length + 1 := by
        rw [hrow]; unfold backRow
        rw [List.length_append, List.length_replicate]; omega
      omega
    have hout : backOf ns wt = (backRun row wt k (k + 1)).2 := by
      unfold backOf
      rw [← hrow, hk]
      congr 2
      · omega
      · omega
    rw [← hrow] at hI
    have hus : us.length = 2 * (k + 1) := by rw [hI.length, hk]
    rw [hout] at hq
    clear hrow e₄ e₃ hout
    repeat' (walk_at "m1")
    refine d_empty (hmod (by assumption)) ?_
    intro d o h₅ f₅ o₅ D₅ k₅
    have N₅ := afterNew (by assumption) (by assumption) k₅ f₅ o₅
    have F₅ := after (by assumption) k₅
    clear F₄ N₄
    repeat' (walk_at "m1")
    rename_i h₆ m₆ t₆ F₆ K₆ N₆
    refine l_len (lst_is (N₆ _ (mem1 mem0)).1) (by omega) ?_
    intro _ _
    repeat' (walk_at "m1")
    refine i_last (lst_is (N₆ _ (mem1 mem0)).1) hI (by omega) ?_ (by with_unfolding_all rfl) (by intro _; with_unfolding_all rfl)
    intro _
    refine i_mul (by omega) (by omega) ?_
    intro _ _
    repeat' (walk_at "m1")
    rename_i uo h₇ m₇ t₇ F₇ K₇ N₇
    refine l_len (lst_is (N₇ _ (mem1 mem0)).1) (by omega) ?_
    intro _ _
    repeat' (walk_at "m1")
    refine r_3 (by decide) (by decide) ?_
    intro rr h₈ t₈ u v z f₈ hr₈ k₈
    have N₈ := afterN N₇ k₈
    have F₈ := after F₇ k₈
    have e8 : (us.length : Int) - 2 = 2 * (k : Int) := by omega
    rw [e8] at hr₈
    refine p_range2 hr₈ (by omega) ?_
    intro it h₉ hit it₉ k₉
    have offr : r ∉ [it] := off1 it₉ (N₈ _ (mem1 mem0)).1
    refine for1 (σ := Addr × Obj × Int × Tok) (h₀ := hp) (wk_range (Ok.deeper (d := 11) O).hh it (2 * (k : Int)) (-2) (k + 1)) ?_ (fresh1 F₈ it₉)
      (fun c => [("table", .ref c.1), ("odd", .int c.2.2.1 c.2.2.2), ("row", .ref r), ("weight", .int wt tw)]) (fun c => [(c.1, c.2.1), (r, lst us 0)])
      (fun i c => c.2.2.1 = (backRun row wt k i).1 ∧ DI prog w c.1 c.2.1 (backRun row wt k i).2) (d, o, (us.length : Int) - 1 + 2 * row.getD (row.length - 1) 0, uo)
      (after F₈ k₉) (K₇.sub (by walk_at "m.sub")) (fun p hp => afterN N₈ k₉ p ?_) (all1 (off1 it₉ (N₈ _ mem0).1) (all1 offr all0)) (by simpa using hit) ⟨?_, D₅⟩ ?_ ?_
    · obtain ⟨oL, hoL⟩ := fr_live F₈
      exact off1 it₉ hoL
    · rcases List.mem_cons.mp hp with rfl | hp
      · exact mem0
      · rcases List.mem_cons.mp hp with rfl | hp
        · exact mem1 mem0
        · cases hp
    · show (us.length : Int) - 1 + 2 * row.getD (row.length - 1) 0 = (row.length : Int) - 1 + 2 * row.getD (row.length - 1) 0
      rw [hus, hk]
    · clear K K₆ K₇ N₅ N₆ N₇ N₈ F₅ F₆ F₇ F₈ D₅
      rintro i v ⟨d, o, odd, u⟩ h t m own hin ⟨uv, rfl⟩ ⟨hodd, D⟩ hoff hsub hlive F K N
      dsimp only [envOf, List.cons_append, List.nil_append] at hodd D F K N
      obtain ⟨kk, hkk⟩ : ∃ kk : Nat, kk = 2 * k - 2 * i := ⟨_, rfl⟩
      have hke : (2 * (k : Int) + (i : Nat) * -2) = (kk : Int) := by omega
      rw [hke]
      have hstep1 : (backRun row wt k (i + 1)).1 = if 0 < kk then odd + 2 * (row.getD (kk - 1) 0 - row.getD kk 0 - 1) else odd := by
        rw [hodd, hkk]; rfl
      have hstep2 : (backRun row wt k (i + 1)).2 = if 0 < row.getD kk 0 - row.getD (kk + 1) 0 - 1 then addD (addD (backRun row wt k i).2 (odd, wt)) ((kk : Int) + 1, (row.getD kk 0 - row.getD (kk + 1) 0 - 1) * wt) else addD (backRun row wt k i).2 (odd, wt) := by
        rw [hodd, hkk]; rfl
      have b0 := getD_bound hrb kk
      have b1 := getD_bound hrb (kk + 1)
      have b2 := getD_bound hrb (kk - 1)
      have e4 : ((kk : Int) + 1).toNat = kk + 1 := by omega
      have e5 : ((kk : Int) - 1).toNat = kk - 1 := by omega
      have e6 : (kk : Int).toNat = kk := by omega
      have hlenT := backRun_length row wt k i
      clear hke hodd
      repeat' (walk_at "m1")
      refine d_one (hmod (by assumption)) ?_ (by with_unfolding_all rfl)
      intro dd oo hh ff hoo kkk
      have NN := afterNew (by assumption) (by assumption) kkk ff hoo
      have FF := after (by assumption) kkk
      have nne := news_fresh (r := dd) (by assumption : News hp hp.objs.size _ ((d, o) :: (r, lst us 0) :: own)) ff
      repeat' (walk_at "m1")
      refine ⟨_, _, _, _, _, _, rfl, rfl, rfl, (NN _ mem0).1, ?_⟩
      intro ha oa ta hoa Da sba
      obtain ⟨Fa, Na⟩ := upd1 FF NN nne (sameBut_ext sba) hoa
      clear FF NN
      repeat' (walk_at "m1")
      refine ⟨⟨_, _, rfl, G.keeps Fa.keep⟩, ?_⟩
      refine add_callers_spec (G.keeps Fa.keep) ((Ok.deeper (d := 11) O).le (by omega)) D (Na _ (mem1 mem0)).1 Da (Na _ mem0).1 (by omega) (by simp) ?_
      intro hc tc d1 o1 kc fc hoc D1
      have Fc := after Fa kc
      have Nc : News hp hp.objs.size hc ((d1, o1) :: (r, lst us 0) :: own) := fun p hp => by
        rcases List.mem_cons.mp hp with rfl | hp
        · exact afterNew Fa Na kc fc hoc _ mem0
        · exact afterN Na kc p (mem1 (mem1 hp))
      have offd1 := off_fresh (own := own) (fun p hp => Na p (mem1 (mem1 (mem1 hp)))) hlive fc
      have hlen1 : (addD (backRun row wt k i).2 (odd, wt)).length ≤ 2 * i + 1 := by
        have := addD_length (backRun row wt k i).2 (odd, wt)
        omega
      replace D1 : DI prog w d1 o1 (addD (backRun row wt k i).2 (odd, wt)) := D1
      clear Fa Na Da
      repeat' (walk_at "m1")
      refine i_item (lst_is (News.get (by assumption) (mem1 mem0))) hI (by omega) (by omega) (by omega) ?_ (by with_unfolding_all rfl) (by intro _; with_unfolding_all rfl)
      intro _
      rw [e6]
      repeat' (walk_at "m1")
      refine i_item (lst_is (News.get (by assumption) (mem1 mem0))) hI (by omega) (by omega) (by omega) ?_ (by with_unfolding_all rfl) (by intro _; with_unfolding_all rfl)
      intro _
      rw [e4]
      repeat' (walk_at "m1")
      refine split_dec (fun hof => ?_) fun hof => ?_
      · repeat' (walk_at "m1")
        refine d_one (hmod (by assumption)) ?_ (by with_unfolding_all rfl)
        intro dd oo hh ff hoo kkk
        have NN := afterNew (by assumption) (by assumption) kkk ff hoo
        have FF := after (by assumption) kkk
        have nne := news_fresh (r := dd) (by assumption : News hp hp.objs.size _ ((d1, o1) :: (r, lst us 0) :: own)) ff
        repeat' (walk_at "m1")
        refine i_mul (by omega) (by omega) ?_
        intro _ _
        refine ⟨_, _, _, _, _, _, rfl, rfl, rfl, (NN _ mem0).1, ?_⟩
        intro ha oa ta hoa Da sba
        obtain ⟨Fa, Na⟩ := upd1 FF NN nne (sameBut_ext sba) hoa
        clear FF NN
        repeat' (walk_at "m1")
        refine ⟨⟨_, _, rfl, G.keeps Fa.keep⟩, ?_⟩
        refine add_callers_spec (G.keeps Fa.keep) ((Ok.deeper (d := 11) O).le (by omega)) D1 (Na _ (mem1 mem0)).1 Da (Na _ mem0).1 (by omega) (by simp) ?_
        intro hc tc d2 o2 kc fc hoc D2
        have Fc := after Fa kc
        have Nc : News hp hp.objs.size hc ((d2, o2) :: (r, lst us 0) :: own) := fun p hp => by
          rcases List.mem_cons.mp hp with rfl | hp
          · exact afterNew Fa Na kc fc hoc _ mem0
          · exact afterN Na kc p (mem1 (mem1 hp))
        have offd2 := off_fresh (own := own) (fun p hp => Na p (mem1 (mem1 (mem1 hp)))) hlive fc
        replace D2 : DI prog w d2 o2 (addD (addD (backRun row wt k i).2 (odd, wt)) ((kk : Int) + 1, (row.getD kk 0 - row.getD (kk + 1) 0 - 1) * wt)) := by
          exact D2
        clear Fa Na Da
        repeat' (walk_at "m1")
        refine split_dec (fun hk0 => ?_) fun hk0 => ?_
        · repeat' (walk_at "m1")
          refine i_item (lst_is (News.get (by assumption) (mem1 mem0))) hI (by omega) (by omega) (by omega) ?_ (by with_unfolding_all rfl) (by intro _; with_unfolding_all rfl)
          intro _
          rw [e5]
          repeat' (walk_at "m1")
          refine i_item (lst_is (News.get (by assumption) (mem1 mem0))) hI (by omega) (by omega) (by omega) ?_ (by with_unfolding_all rfl) (by intro _; with_unfolding_all rfl)
          intro _
          rw [e6]
          repeat' (walk_at "m1")
          refine i_mul (by omega) (by omega) ?_
          intro _ _
          repeat' (walk_at "m1")
          rename_i ue hz mz tz Fz Kz Nz
          refine ⟨rfl, (d2, o2, odd + 2 * (row.getD (kk - 1) 0 - row.getD kk 0 - 1), ue), _, _, _, rfl, Fz, Kz.sub (by walk_at "m.sub"), fun p hp => Nz p (by
            rcases List.mem_cons.mp hp with rfl | hp
            · exact mem0
            · rcases List.mem_cons.mp hp with rfl | hp
              · exact mem1 mem0
              · exact mem1 (mem1 hp)), all1 offd2 (all1 offr all0), ?_, ?_⟩
          · show odd + 2 * (row.getD (kk - 1) 0 - row.getD kk 0 - 1) = (backRun row wt k (i + 1)).1
            rw [hstep1, if_pos (by omega)]
          · show DI prog w d2 o2 (backRun row wt k (i + 1)).2
            rw [hstep2, if_pos hof]
            exact D2
        · repeat' (walk_at "m1")
          refine ⟨rfl, (d2, o2, odd, u), _, _, _, rfl, by assumption, Kn.sub (by assumption) (by walk_at "m.sub"), (by assumption : News hp hp.objs.size _ ((d2, o2) :: (r, lst us 0) :: own)), all1 offd2 (all1 offr all0), ?_, ?_⟩
          · show odd = (backRun row wt k (i + 1)).1
            rw [hstep1, if_neg (by omega)]
          · show DI prog w d2 o2 (backRun row wt k (i + 1)).2
            rw [hstep2, if_pos hof]
            exact D2
      · repeat' (walk_at "m1")
        refine split_dec (fun hk0 => ?_) fun hk0 => ?_
        · repeat' (walk_at "m1")
          refine i_item (lst_is (News.get (by assumption) (mem1 mem0))) hI (by omega) (by omega) (by omega) ?_ (by with_unfolding_all rfl) (by intro _; with_unfolding_all rfl)
          intro _
          rw [e5]
          repeat' (walk_at "m1")
          refine i_item (lst_is (News.get (by assumption) (mem1 mem0))) hI (by omega) (by omega) (by omega) ?_ (by with_unfolding_all rfl) (by intro _; with_unfolding_all rfl)
          intro _
          rw [e6]
          repeat' (walk_at "m1")
          refine i_mul (by omega) (by omega) ?_
          intro _ _
          repeat' (walk_at "m1")
          rename_i ue hz mz tz Fz Kz Nz
          refine ⟨rfl, (d1, o1, odd + 2 * (row.getD (kk - 1) 0 - row.getD kk 0 - 1), ue), _, _, _, rfl, Fz, Kz.sub (by walk_at "m.sub"), fun p hp => Nz p (by
            rcases List.mem_cons.mp hp with rfl | hp
            · exact mem0
            · rcases List.mem_cons.mp hp with rfl | hp
              · exact mem1 mem0
              · exact mem1 (mem1 hp)), all1 offd1 (all1 offr all0), ?_, ?_⟩
          · show odd + 2 * (row.getD (kk - 1) 0 - row.getD kk 0 - 1) = (backRun row wt k (i + 1)).1
            rw [hstep1, if_pos (by omega)]
          · show DI prog w d1 o1 (backRun row wt k (i + 1)).2
            rw [hstep2, if_neg hof]
            exact D1
        · repeat' (walk_at "m1")
          refine ⟨rfl, (d1, o1, odd, u), _, _, _, rfl, by assumption, Kn.sub (by assumption) (by walk_at "m.sub"), (by assumption : News hp hp.objs.size _ ((d1, o1) :: (r, lst us 0) :: own)), all1 offd1 (all1 offr all0), ?_, ?_⟩
          · show odd = (backRun row wt k (i + 1)).1
            rw [hstep1, if_neg (by omega)]
          · show DI prog w d1 o1 (backRun row wt k (i + 1)).2
            rw [hstep2, if_neg hof]
            exact D1
    · clear K K₆ K₇ N₅ N₆ N₇ N₈ F₅ F₆ F₇ F₈ D₅
      rintro ⟨d, o, odd, u⟩ h t m ⟨hodd, D⟩ F K N
      dsimp only [envOf] at hodd D F K N
      repeat' (walk_at "m1")
      exact hq _ _ _ _ F.keep (N _ mem0).2.2 (N _ mem0).1 D
end
-- part b9
section
def bump (sz : List Int) (k : Nat) : List Int := sz.set k (sz.getD k 0 + 1)
def cellA (i : Nat) (sz : List Int) : Nat → List Int
  | 0 => sz
  | m + 1 => bump (cellA i sz m) (2 * min i m)
def cellB (i : Nat) (sz : List Int) : Nat → List Int
  | 0 => sz
  | m + 1 => bump (cellB i sz m) (2 * min i m + 1)
def cellRows (falling : List Int) (sz : List Int) : Nat → List Int
  | 0 => sz
  | i + 1 => cellB i (cellA i (cellRows falling sz i) (falling.getD i 0 + 1).toNat) (falling.getD i 0).toNat
def cellsOf (falling : List Int) : List Int := (cellRows falling (List.replicate (2 * falling.length + 2) 0) falling.length).filter fun v => decide (0 < v)
theorem bump_len (sz : List Int) (k : Nat) : (bump sz k).length = sz.length := by simp [bump]
theorem cellA_len (i : Nat) (sz : List Int) : ∀ m, (cellA i sz m).length = sz.length
  | 0 => rfl
  | m + 1 => by rw [cellA, bump_len, cellA_len i sz m]
theorem cellB_len (i : Nat) (sz : List Int) : ∀ m, (cellB i sz m).length = sz.length
  | 0 => rfl
  | m + 1 => by rw [cellB, bump_len, cellB_len i sz m]
theorem cellRows_len (falling sz : List Int) : ∀ i, (cellRows falling sz i).length = sz.length
  | 0 => rfl
  | i + 1 => by rw [cellRows, cellB_len, cellA_len, cellRows_len falling sz i]
theorem ints_set {vs : List Value} {ns : List Int} (h : IntsAre vs ns) (k : Nat) (x : Int) (u : Tok) : IntsAre (vs.set k (.int x u)) (ns.set k x) := by
  induction h generalizing k with
  | nil => simp; exact .nil
  | cons n t h ih =>
    cases k with
    | zero => exact .cons x u h
    | succ k => exact .cons n t (ih k)
theorem ints_rev {vs : List Value} {ns : List Int} (h : IntsAre vs ns) : IntsAre vs.reverse ns.reverse := h.reverse
theorem min_nat (i j : Nat) : min (i : Int) (j : Int) = ((min i j : Nat) : Int) := by omega

theorem law_cells_spec {prog : Program} {w : World} {mg mb : Str → Option Value} {A : Around} {s : Shared} {hp : Heap} {tk : Nat} {E : Value → Shared → Prop} {Q : Value → Shared → Prop} {a : Addr} {vs : List Value} {ns : List Int}
    (G : Gd w mg mb hp) (O : Ok A 12) (hl : hp.IsList a vs.toArray) (hi : IntsAre vs ns) (hn : ns.length ≤ 60) (hb : ∀ n ∈ ns, 0 ≤ n ∧ n ≤ 1000)
    (hq : ∀ h' tk r us k (ns' : List Int), Ext hp h' → hp.get? r = none → h'.get? r = some (lst us k) → ns'.Perm ns → ns'.Pairwise (· ≤ ·) → IntsAre us (cellsOf ns'.reverse) → Q (.ref r) (mk s h' tk)) :
    wpAny (model prog w) A (call (.ref 97) [.ref a]) Q E (mk s hp tk) := by
  have hlen : vs.length = ns.length := hi.length
  refine enter (args := ⟨[.ref a], []⟩) (binds := [("halves", .ref a)]) G (by have := O.dp; omega) rfl rfl (BindsTo.of_eq rfl) (locs rfl) ?_ ?_ rfl rfl rfl (by decide)
  · walk_at "m.kn"
  · intro h₁ m₁ t₁ F K N
    repeat' (walk_at "m1")
    refine c_sorted F N (hl.at fun o e => F.keep _ o e) hi (by omega) ?_
    intro r₂ h₂ vs₂ ns₂ e₂ F₂ N₂ I₂ perm sorted
    repeat' (walk_at "m1")
    refine ⟨_, _, rfl, ?_⟩
    intro sl h₃ f₃ hsl k₃
    have F₃ := after F₂ k₃
    have N₃ := afterN N₂ k₃
    have hlen₂ : vs₂.length = ns.length := by rw [I₂.length, perm.length_eq]
    refine l_slice (lst_is (N₃ _ mem0).1) hsl .none .none (.int _ _) (by decide) (by omega) ?_ (by with_unfolding_all rfl)
    intro r h₄ us e₄ f₄ o₄ k₄
    have F₄ := after F₃ k₄
    have N₄ := afterNew F₃ N₃ k₄ f₄ o₄
    rw [krv_pick] at e₄
    have I₄ : IntsAre us ns₂.reverse := by rw [e₄]; simpa using ints_rev I₂
    clear F F₂ F₃ N N₂ N₃ e₄
    repeat' (walk_at "m1")
    rename_i h₅ m₅ t₅ F₅ K₅ N₅ t₆ u₆
    have hus : us.length = ns.length := by rw [I₄.length, List.length_reverse, perm.length_eq]
    refine n_list (by simp) ?_
    intro r₆ h₆ f₆ o₆ k₆
    have F₆ := after F₅ k₆
    have N₆ := afterNew F₅ N₅ k₆ f₆ o₆
    clear F₄ N₄
    repeat' (walk_at "m1")
    refine l_len (lst_is (N₆ _ (mem1 mem0)).1) (by omega) ?_
    intro _ _
    refine i_mul (by omega) (by omega) ?_
    intro _ _
    repeat' (walk_at "m1")
    refine l_mul (N₆ _ mem0).1 (by omega) (by omega) ?_
    intro z h₇ zs e₇ f₇ o₇ k₇
    have F₇ := after F₆ k₇
    have N₇ := afterNew F₆ N₆ k₇ f₇ o₇
    have hrz : r ≠ z := fun e => by
      have := (N₆ _ (mem1 mem0)).1
      rw [e, f₇] at this; cases this
    have ez : (2 * (us.length : Int) + 2).toNat = 2 * us.length + 2 := by omega
    have Iz0 : IntsAre zs (List.replicate (2 * us.length + 2) 0) := by rw [e₇, ez]; exact ints_rep _ _ _
    clear F₅ N₅ F₆ N₆ e₇
    repeat' (walk_at "m1")
    rename_i h₈ m₈ t₈ F₈ K₈ N₈
    refine l_len (lst_is (N₈ _ (mem1 (mem1 mem0))).1) (by omega) ?_
    intro _ _
    repeat' (walk_at "m1")
    refine r_1 ?_
    intro rg h₉ t₉ u1 u2 u3 f₉ hr₉ k₉
    have F₉ := after F₈ k₉
    have N₉ : News hp hp.objs.size h₉ [(z, lst zs 0), (r, lst us 0)] := all1 (afterN N₈ k₉ _ mem0) (all1 (afterN N₈ k₉ _ (mem1 (mem1 mem0))) all0)
    clear F₇ N₇ F₈ N₈
    refine p_range1 hr₉ (by omega) (by omega) (by omega) (by omega) ?_
    intro it h₀ hit f₀ k₀
    have hh' := (Ok.deeper (d := 11) (env := envOf "_law_cells" (((hd.heap_39 w.params).lookup 97).elim default fun o => match o.data with | .func fd => fd.scope | _ => default) hp.objs.size 97 (.ref 96)) O).hh
    have hoff := off_all N₉ f₀
    have hoz := hoff _ mem0
    have hor := hoff _ (mem1 mem0)
    have hbr : ∀ n ∈ ns₂.reverse, 0 ≤ n ∧ n ≤ 1000 := fun n hn => hb n (perm.mem_iff.mp (List.mem_reverse.mp hn))
    have hl2 : ns₂.reverse.length = us.length := I₄.length.symm
    refine for1 (σ := Obj × List Value × List Int) (h₀ := hp) (wk_range hh' it 0 1 ((us.length : Int) - 0).toNat) (notL1 F₉ f₀) (fresh1 F₉ f₀)
      (fun c => [("falling", .ref r), ("sizes", .ref z)]) (fun c => [(z, c.1), (r, lst us 0)])
      (fun i c => LO c.1 c.2.1 ∧ IntsAre c.2.1 c.2.2 ∧ c.2.2 = cellRows ns₂.reverse (List.replicate (2 * us.length + 2) 0) i) (lst zs 0, zs, List.replicate (2 * us.length + 2) 0)
      (after F₉ k₀) (K₈.sub (by walk_at "m.sub")) (afterN N₉ k₀) hoff (by simpa using hit) ⟨LO.lst _ _, Iz0, rfl⟩ ?_ ?_
    · clear F₉ N₉ K₈ K₅ K hoff hit
      rintro i v ⟨oz, vz, lz⟩ h t m own hin ⟨ui, rfl⟩ ⟨Lz, Iz, hlz0⟩ _ hsub hlive F K N
      dsimp only [envOf, List.cons_append, List.nil_append] at Lz Iz hlz0 F K N
      have ei0 : (0 : Int) + (i : Nat) * 1 = (i : Int) := by omega
      rw [ei0]
      have hin' : i < us.length := by omega
      have ei : (i : Int).toNat = i := by omega
      have hvz : vz.length = 2 * us.length + 2 := by rw [Iz.length, hlz0, cellRows_len, List.length_replicate]
      have hown : ∀ p ∈ own, p.1 ≠ z := fun p hp e => hoz (e ▸ hsub p hp)
      have bi : 0 ≤ ns₂.reverse.getD i 0 ∧ ns₂.reverse.getD i 0 ≤ 1000 := by
        have hlt : i < ns₂.reverse.length := by omega
        rw [List.getD_eq_getElem?_getD, List.getElem?_eq_getElem hlt]
        exact hbr _ (List.getElem_mem _)
      repeat' (walk_at "m1")
      refine i_item (lst_is (News.get (by assumption) (mem1 mem0))) I₄ (by omega) (by omega) (by omega) ?_ (by with_unfolding_all rfl) (by intro _; with_unfolding_all rfl)
      intro _
      rw [ei]
      repeat' (walk_at "m1")
      refine r_1 ?_
      intro rgA hr tr u1 u2 u3 fr hrg kr
      have FA := after (by assumption) kr
      have NA := afterN (by assumption) kr
      refine p_range1 hrg (by omega) (by omega) (by omega) (by omega) ?_
      intro it2 hi2 hit2 fi2 ki2
      have hoff2 := off_all NA fi2
      refine for1 (σ := Obj × List Value × List Int) (h₀ := hp) (wk_range hh' it2 0 1 (ns₂.reverse.getD i 0 + 1 - 0).toNat) (notL1 FA fi2) (fresh1 FA fi2)
        (fun c => [("falling", .ref r), ("sizes", .ref z), ("i", .int i ui)]) (fun c => (z, c.1) :: (r, lst us 0) :: own)
        (fun j c => LO c.1 c.2.1 ∧ IntsAre c.2.1 c.2.2 ∧ c.2.2 = cellA i lz j) (oz, vz, lz)
        (after FA ki2) (Kn.sub (by assumption) (by walk_at "m.sub")) (afterN NA ki2) hoff2 (by simpa using hit2) ⟨Lz, Iz, rfl⟩ ?_ ?_
      · clear FA NA
        rintro j v ⟨o₁, v₁, l₁⟩ h t m own2 hj ⟨uj, rfl⟩ ⟨L₁, I₁, hl₁⟩ hoff₂ hsub2 hlive2 F K N
        dsimp only [envOf, List.cons_append] at L₁ I₁ hl₁ F K N
        have ej : (0 : Int) + (j : Nat) * 1 = (j : Int) := by omega
        rw [ej]
        have hlz : v₁.length = 2 * us.length + 2 := by rw [I₁.length, hl₁, cellA_len, ← Iz.length, hvz]
        have hzo : ∀ p ∈ (r, lst us 0) :: (own ++ own2), p.1 ≠ z := fun p hp => by
          rcases List.mem_cons.mp hp with rfl | hp
          · exact hrz
          · rcases List.mem_append.mp hp with q | q
            · exact hown p q
            · exact fun e => hoff₂ (z, o₁) mem0 (e ▸ hsub2 p q)
        have emin := min_nat i j
        have eidx : (2 * ((min i j : Nat) : Int)).toNat = 2 * min i j := by omega
        repeat' (walk_at "m1")
        refine c_min hh' (by assumption) (by assumption) ?_
        intro hq1 tq1 uq1 Fq1 Nq1
        rw [emin]
        refine i_mul (by omega) (by omega) ?_
        intro _ _
        repeat' (walk_at "m1")
        refine i_item (L₁.is (News.get (by assumption) mem0)) I₁ (by omega) (by rw [← I₁.length]; omega) (by rw [← I₁.length]; omega) ?_ (by with_unfolding_all rfl) (by intro _; with_unfolding_all rfl)
        intro _
        rw [eidx]
        repeat' (walk_at "m1")
        refine c_min hh' (by assumption) (by assumption) ?_
        intro hq2 tq2 uq2 Fq2 Nq2
        rw [emin]
        refine i_mul (by omega) (by omega) ?_
        intro _ _
        repeat' (walk_at "m1")
        refine l_set L₁ (News.get (by assumption) mem0) (by omega) (by omega) (by omega) ?_
        intro hs os hos Ls sbs
        rw [eidx] at Ls
        obtain ⟨Fs, Ns⟩ := upd1 (by assumption) (by assumption) hzo (sameBut_ext sbs) hos
        repeat' (walk_at "m1")
        refine ⟨rfl, (os, _, bump l₁ (2 * min i j)), _, _, _, rfl, Fs, Kn.sub (by assumption) (by walk_at "m.sub"), Ns, ?_, Ls, ints_set I₁ _ _ _, ?_⟩
        · intro p hp
          rcases List.mem_cons.mp hp with rfl | hp
          · exact hoff₂ (z, o₁) mem0
          · exact hoff₂ p (mem1 hp)
        · show bump l₁ _ = cellA i lz (j + 1)
          rw [hl₁]; rfl
      · clear FA NA hoff2
        rintro ⟨oA, vA, lA⟩ hA tA mA ⟨LA, IA, hlA⟩ FA KA NA
        dsimp only [envOf] at LA IA hlA FA KA NA
        have hvA : vA.length = 2 * us.length + 2 := by rw [IA.length, hlA, cellA_len, ← Iz.length, hvz]
        clear Lz Iz hvz
        obtain ⟨Lz, Iz, hvz⟩ : LO oA vA ∧ IntsAre vA lA ∧ vA.length = 2 * us.length + 2 := ⟨LA, IA, hvA⟩
        repeat' (walk_at "m1")
        refine i_item (lst_is (NA.get (mem1 mem0))) I₄ (by omega) (by omega) (by omega) ?_ (by with_unfolding_all rfl) (by intro _; with_unfolding_all rfl)
        intro _
        rw [ei]
        repeat' (walk_at "m1")
        refine r_1 ?_
        intro rgB hr tr u1 u2 u3 fr hrg kr
        have FB := after (by assumption) kr
        have NB := afterN (by assumption) kr
        refine p_range1 hrg (by omega) (by omega) (by omega) (by omega) ?_
        intro it2 hi2 hit2 fi2 ki2
        have hoff2 := off_all NB fi2
        refine for1 (σ := Obj × List Value × List Int) (h₀ := hp) (wk_range hh' it2 0 1 (ns₂.reverse.getD i 0 - 0).toNat) (notL1 FB fi2) (fresh1 FB fi2)
          (fun c => [("falling", .ref r), ("sizes", .ref z), ("i", .int i ui)]) (fun c => (z, c.1) :: (r, lst us 0) :: own)
          (fun j c => LO c.1 c.2.1 ∧ IntsAre c.2.1 c.2.2 ∧ c.2.2 = cellB i lA j) (oA, vA, lA)
          (after FB ki2) (Kn.sub (by assumption) (by walk_at "m.sub")) (afterN NB ki2) hoff2 (by simpa using hit2) ⟨Lz, Iz, rfl⟩ ?_ ?_
        · clear FB NB
          rintro j v ⟨o₁, v₁, l₁⟩ h t m own2 hj ⟨uj, rfl⟩ ⟨L₁, I₁, hl₁⟩ hoff₂ hsub2 hlive2 F K N
          dsimp only [envOf, List.cons_append] at L₁ I₁ hl₁ F K N
          have ej : (0 : Int) + (j : Nat) * 1 = (j : Int) := by omega
          rw [ej]
          have hlz : v₁.length = 2 * us.length + 2 := by rw [I₁.length, hl₁, cellB_len, ← Iz.length, hvz]
          have hzo : ∀ p ∈ (r, lst us 0) :: (own ++ own2), p.1 ≠ z := fun p hp => by
            rcases List.mem_cons.mp hp with rfl | hp
            · exact hrz
            · rcases List.mem_append.mp hp with q | q
              · exact hown p q
              · exact fun e => hoff₂ (z, o₁) mem0 (e ▸ hsub2 p q)
          have emin := min_nat i j
          have eidx : (2 * ((min i j : Nat) : Int) + 1).toNat = 2 * min i j + 1 := by omega
          repeat' (walk_at "m1")
          refine c_min hh' (by assumption) (by assumption) ?_
          intro hq1 tq1 uq1 Fq1 Nq1
          rw [emin]
          refine i_mul (by omega) (by omega) ?_
          intro _ _
          repeat' (walk_at "m1")
          refine i_item (L₁.is (News.get (by assumption) mem0)) I₁ (by omega) (by rw [← I₁.length]; omega) (by rw [← I₁.length]; omega) ?_ (by with_unfolding_all rfl) (by intro _; with_unfolding_all rfl)
          intro _
          rw [eidx]
          repeat' (walk_at "m1")
          refine c_min hh' (by assumption) (by assumption) ?_
          intro hq2 tq2 uq2 Fq2 Nq2
          rw [emin]
          refine i_mul (by omega) (by omega) ?_
          intro _ _
          repeat' (walk_at "m1")
          refine l_set L₁ (News.get (by assumption) mem0) (by omega) (by omega) (by omega) ?_
          intro hs os hos Ls sbs
          rw [eidx] at Ls
          obtain ⟨Fs, Ns⟩ := upd1 (by assumption) (by assumption) hzo (sameBut_ext sbs) hos
          repeat' (walk_at "m1")
          refine ⟨rfl, (os, _, bump l₁ (2 * min i j + 1)), _, _, _, rfl, Fs, Kn.sub (by assumption) (by walk_at "m.sub"), Ns, ?_, Ls, ints_set I₁ _ _ _, ?_⟩
          · intro p hp
            rcases List.mem_cons.mp hp with rfl | hp
            · exact hoff₂ (z, o₁) mem0
            · exact hoff₂ p (mem1 hp)
          · show bump l₁ _ = cellB i lA (j + 1)
            rw [hl₁]; rfl
        · clear FB NB hoff2
          rintro ⟨oB, vB, lB⟩ hB tB mB ⟨LB, IB, hlB⟩ FB KB NB
          dsimp only [envOf] at LB IB hlB FB KB NB
          repeat' (walk_at "m1")
          refine ⟨rfl, (oB, vB, lB), _, _, _, rfl, FB, KB.sub (by walk_at "m.sub"), NB, all1 hoz (all1 hor all0), LB, IB, ?_⟩
          show lB = cellRows ns₂.reverse (List.replicate (2 * us.length + 2) 0) (i + 1)
          rw [hlB, hlA, hlz0]
          show cellB i (cellA i _ _) _ = cellB i (cellA i _ _) _
          congr 1
          · congr 1
            omega
          · omega
    · clear F₉ N₉ K₈ K₅ K hoff hit
      rintro ⟨oz, vz, lz⟩ h t m ⟨Lz, Iz, hlz⟩ F K N
      dsimp only [envOf] at Lz Iz hlz F K N
      have e1 : ((us.length : Int) - 0).toNat = us.length := by omega
      rw [e1] at hlz
      repeat' (walk_at "m1")
      refine e_comp (cl := []) (by with_unfolding_all rfl) rfl (by decide) (by intro _; with_unfolding_all rfl) ?_
      repeat' (walk_at "m1")
      refine p_list (Lz.is (N _ mem0).1) ?_
      intro ci hc hci fci kci
      have hoz : h.get? z = some oz := (N _ mem0).1
      have hlv : vz.length = lz.length := Iz.length
      refine comp1 (σ := Unit) (wk_list (Ok.deeper (d := 11) O).hh ci z (fresh_ne fci hoz).symm vz) self_list (by decide) rfl ?_ ⟨hci, (Lz.is hoz).at fun o e => kci _ o e⟩ ?_
        (fun _ => []) (fun i _ ys => IntsAre ys ((lz.take i).filter fun v => decide (0 < v))) () rfl .nil ?_ ?_
      · refine all1 ?_ (all1 ?_ all0)
        · obtain ⟨o, ho, _⟩ := hci
          exact Heap.lt_size ho
        · exact Heap.lt_size (kci _ _ hoz)
      · rw [hlv, hlz, cellRows_len, List.length_replicate]; omega
      · clear F K N
        intro C D i v c ys k h' t' mc own hC hD hi hv hJ hoff hlive F N
        dsimp only [List.nil_append] at N hJ
        have K := kn0 (m := mc)
        have hi' : i < lz.length := hlv ▸ hi
        obtain ⟨u, hx⟩ := Iz.get i lz[i] (by simp [hi'])
        have hv1 : v = .int lz[i] u := by rw [hx] at hv; exact (Option.some.inj hv).symm
        subst hv1
        have ht : lz.take (i + 1) = lz.take i ++ [lz[i]] := by rw [List.take_add_one, List.getElem?_eq_getElem hi']; rfl
        repeat' (walk_at "m1")
        refine split_dec (fun h0 => ?_) fun h0 => ?_
        · repeat' (walk_at "m1")
          refine ⟨(), _, _, _, rfl, by assumption, by assumption, all0, ?_⟩
          show IntsAre _ _
          rw [ht, List.filter_append, List.filter_cons_of_pos (by simpa using h0)]
          exact ints_app hJ (.cons _ _ .nil)
        · refine ⟨(), _, _, _, rfl, by assumption, by assumption, all0, ?_⟩
          show IntsAre _ _
          rw [ht, List.filter_append, List.filter_cons_of_neg (by simpa using h0), List.filter_nil, List.append_nil]
          exact hJ
      · intro C D c ys k h' t' mc fC fD hDC hns kk hoD _ hJ
        refine post_plain hns fun h'' sb => ?_
        have ext : Ext h h'' := comp_ext kci fC kk (all1 fci all0) sb
        refine hq h'' _ D ys k ns₂ (fun b o e => ext b o (F.keep b o e)) ?_ ((sb.2 D hDC).trans hoD) perm sorted ?_
        · cases q : hp.get? D with
          | none => rfl
          | some o => rw [kci _ _ (F.keep _ _ q)] at fD; cases fD
        · rw [hlv, List.take_length] at hJ
          unfold cellsOf
          rw [hl2, ← hlz]
          exact hJ
end
-- part b10
section
theorem bisect_key_spec {prog : Program} {w : World} {mg mb : Str → Option Value} {A : Around} {s : Shared} {hp : Heap} {tk : Nat} {E : Value → Shared → Prop} {Q : Value → Shared → Prop} {a kf : Addr} {vs : List Value} {ns : List Int} {ko : Obj} {kd : FuncData} {f : Int → Bool}
    (G : Gd w mg mb hp) (O : Ok A 4) (hl : hp.IsList a vs.toArray) (hi : IntsAre vs ns) (hs : Falls ns.length (fun i => !f (ns.getD i 0))) (hn : ns.length ≤ 100000)
    (hko : hp.get? kf = some ko) (hkd : ko.data = .func kd)
    (hkey : ∀ (A : Around) (Q : Value → Shared → Prop) (E : Value → Shared → Prop) h t v tv, Ok A 3 → Ext hp h → v ∈ ns → (∀ h' t', Ext h h' → Q (.bool (f v)) (mk s h' t')) → wpAny (model prog w) A (call (.ref kf) [.int v tv]) Q E (mk s h t))
    (hq : ∀ h' tk t r, Ext hp h' → Turn ns.length (fun i => !f (ns.getD i 0)) r r → Q (.int r t) (mk s h' tk)) :
    wpAny (model prog w) A (call (.ref 50) [.ref a, .bool true] [("key", .ref kf)]) Q E (mk s hp tk) := by
  have hlen : vs.length = ns.length := hi.length
  refine enter (args := ⟨[.ref a, .bool true], [("key", .ref kf)]⟩) (binds := [("a", .ref a), ("x", .bool true), ("lo", .int 0 _), ("hi", .none), ("key", .ref kf)]) G (by have := O.dp; omega) rfl rfl (kp_binds G.X fun S => rfl) (locs rfl) ?_ ?_ rfl rfl rfl (by decide)
  · walk_at "m.kn"
  · intro h₁ m₁ t₁ F K N
    repeat' (walk_at "m1")
    refine split_dec (fun hc => absurd hc (by decide)) fun _ => ?_
    repeat' (walk_at "m1")
    refine l_len (hl.at fun o e => F.keep _ o e) (by omega) ?_
    intro _ _
    repeat' (walk_at "m1")
    refine is_none_ne (by intro x; cases x) ?_
    repeat' (walk_at "m1")
    refine whileR (fun n h => ∃ m lo hi t1 t2, Fr hp hp.objs.size h m ∧ Kn m [("a", .ref a), ("x", .bool true), ("lo", .int lo t1), ("hi", .int hi t2), ("key", .ref kf)] ∧ Turn ns.length (fun i => !f (ns.getD i 0)) lo hi ∧ n = (hi - lo).toNat) ns.length ?_ ?_
    · refine ⟨_, 0, vs.length, _, _, by assumption, Kn.sub (by assumption) (by walk_at "m.sub"), ?_, by omega⟩
      rw [hlen]; exact Turn.start _ _
    clear K F N
    rintro n h t ⟨m, lo, hi', t1, t2, F, K, T, rfl⟩
    have N := News.nil (h₀ := hp) (L := hp.objs.size) (h := h)
    repeat' (walk_at "m1")
    refine split_dec (fun hc => ?_) fun hc => ?_
    · obtain ⟨e1, e2⟩ := mid_facts T.1 hc
      have e3 := T.2.2.1
      have e4 := T.1
      repeat' (walk_at "m1")
      refine callO hkd ?_ rfl
      repeat' (walk_at "m1")
      refine i_item (hl.at fun o e => Fr.keep (by assumption) _ o e) hi (by omega) (by omega) (by omega) ?_ (by with_unfolding_all rfl) (by intro _; with_unfolding_all rfl)
      intro _
      repeat' (walk_at "m1")
      rename_i F' K' N' _
      refine ⟨F'.keep _ _ hko, ?_⟩
      refine hkey _ _ _ _ _ _ _ O.deeper F'.keep ?_ fun h' t' x' => ?_
      · have hb : ((lo + hi').fdiv 2).toNat < ns.length := by omega
        rw [List.getD_eq_getElem?_getD, List.getElem?_eq_getElem hb]
        exact List.getElem_mem hb
      replace F' := after F' x'
      clear N'
      have N' := News.nil (h₀ := hp) (L := hp.objs.size) (h := h')
      repeat' (walk_at "m1")
      refine b_lt ?_
      repeat' (walk_at "m1")
      refine split_bool (fun hd => ?_) fun hd => ?_
      · repeat' (walk_at "m1")
        refine ⟨rfl, _, _, _, ?_, rfl, _, _, _, _, _, by assumption, Kn.sub (by assumption) (by walk_at "m.sub"), T.left hs e1 e2 (by simpa using hd), rfl⟩
        omega
      · repeat' (walk_at "m1")
        refine ⟨rfl, _, _, _, ?_, rfl, _, _, _, _, _, by assumption, Kn.sub (by assumption) (by walk_at "m.sub"), T.right hs e1 e2 (by simpa using hd), rfl⟩
        omega
    · repeat' (walk_at "m1")
      have e : lo = hi' := by have := T.2.1; omega
      subst e
      exact hq h t t1 _ F.keep T
end
-- part b12
section
def hookA (ns : List Int) (k : Nat) : Int := ns.getD (ns.length - k) 0 + ns.length - (ns.countP fun v => decide (v < (k : Int) - 1)) - 2 * k + 2
def hookB (ns : List Int) (k : Nat) : Int := ns.getD (ns.length - k) 0 + ns.length - (ns.countP fun v => decide (¬ (k : Int) - 1 < v)) - 2 * k + 1
def hooksN (ns : List Int) : Nat → List Int
  | 0 => []
  | k + 1 => hooksN ns k ++ hookA ns (k + 1) :: if ((k + 1 : Nat) : Int) ≤ ns.getD (ns.length - (k + 1)) 0 then [hookB ns (k + 1)] else []
theorem hooks_len (ns : List Int) : ∀ k, (hooksN ns k).length ≤ 2 * k
  | 0 => by simp [hooksN]
  | k + 1 => by
    have := hooks_len ns k
    rw [hooksN, List.length_append, List.length_cons]
    split <;> simp <;> omega
def turnAt (ns : List Int) (k : Int) : Bool := decide (ns.getD (ns.length - k).toNat 0 < k - 1)
theorem range_getD {a : Int} {n i : Nat} (h : i < n) : (rangeI a n).getD i 0 = a + i := by
  unfold rangeI
  rw [List.getD_eq_getElem?_getD, List.getElem?_map, List.getElem?_range h]; rfl
theorem range_len {a : Int} {n : Nat} : (rangeI a n).length = n := by simp [rangeI]
theorem range_mem {a v : Int} {n : Nat} (h : v ∈ rangeI a n) : a ≤ v ∧ v < a + n := by
  unfold rangeI at h
  obtain ⟨i, hi, rfl⟩ := List.mem_map.mp h
  have := List.mem_range.mp hi
  omega
theorem falls_turn {ns : List Int} (hs : ns.Pairwise (· ≤ ·)) : Falls (rangeI 1 ns.length).length (fun i => !turnAt ns ((rangeI 1 ns.length).getD i 0)) := by
  intro i j hij hj hp
  rw [range_len] at hj
  have hi : i < ns.length := by omega
  simp only [range_getD hi, range_getD hj, turnAt, Bool.not_eq_true', decide_eq_false_iff_not] at hp ⊢
  have e1 : ((ns.length : Int) - (1 + (i : Int))).toNat = ns.length - 1 - i := by omega
  have e2 : ((ns.length : Int) - (1 + (j : Int))).toNat = ns.length - 1 - j := by omega
  rw [e1]; rw [e2] at hp
  have h1 : ns.length - 1 - i < ns.length := by omega
  have h2 : ns.length - 1 - j < ns.length := by omega
  rw [List.getD_eq_getElem?_getD, List.getElem?_eq_getElem h1, Option.getD_some]
  rw [List.getD_eq_getElem?_getD, List.getElem?_eq_getElem h2, Option.getD_some] at hp
  rcases Nat.lt_or_eq_of_le hij with h | rfl
  · have := List.pairwise_iff_getElem.mp hs (ns.length - 1 - j) (ns.length - 1 - i) h2 h1 (by omega)
    omega
  · exact hp
theorem law_hooks_spec {prog : Program} {w : World} {mg mb : Str → Option Value} {A : Around} {s : Shared} {hp : Heap} {tk : Nat} {E : Value → Shared → Prop} {Q : Value → Shared → Prop} {a : Addr} {vs : List Value} {ns : List Int}
    (G : Gd w mg mb (hideAll hp [87])) (O : Ok A 12) (hP : hp.get? 87 = some (tabObj #[])) (C : CodeHd hp 91 87) (hl : hp.IsList a vs.toArray) (hi : IntsAre vs ns) (hn : ns.length ≤ 60) (hs : ns.Pairwise (· ≤ ·)) (hb : ∀ n ∈ ns, 0 ≤ n ∧ n ≤ 1000)
    (hq : ∀ h' tk r us k (n : Nat), (∀ b o, b ≠ 87 → hp.get? b = some o → h'.get? b = some o) → hp.get? r = none → h'.get? r = some (lst us k) → (∃ ps, h'.get? 87 = some (tabObj ps)) → Turn ns.length (fun i => !turnAt ns (1 + i)) n n → IntsAre us (hooksN ns n) → Q (.ref r) (mk s h' tk)) :
    wpAny (model prog w) A (call (.ref 92) [.ref a]) Q E (mk s hp tk) := by
  have hlen : vs.length = ns.length := hi.length
  have kG : Ext (hideAll hp [87]) hp := fun b o e => of_hideAll [87] e
  have Gp := G.keeps kG
  refine enterC (binds := [("row", .ref a)]) Gp (by have := O.dp; omega) rfl rfl rfl ?_ ?_ rfl rfl rfl
  · intro x hx
    cases hx with
    | head => exact .inr ⟨rfl, rfl⟩
    | tail _ h => cases h
  · intro h₁ m₁ t₁ F₀ em hcell
    have c1 := hcell "row" (hp.objs.size + 1) rfl
    have c2 := hcell "size" (hp.objs.size + 2) rfl
    obtain ⟨o1, ho1, hd1⟩ := c1
    obtain ⟨o2, ho2, hd2⟩ := c2
    replace hd1 : o1.data = .cell (some (.ref a)) := hd1
    replace hd2 : o2.data = .cell none := hd2
    clear hcell em
    have h87 := Heap.lt_size hP
    have F : Fr (hideAll hp [87]) hp.objs.size h₁ m₁ := ⟨F₀.ns, fun b o e => F₀.keep b o (kG b o e), by rw [hideAll_size]; exact Nat.le_refl _⟩
    have N : News (hideAll hp [87]) hp.objs.size h₁ [(hp.objs.size + 2, o2), (hp.objs.size + 1, o1), (87, tabObj #[])] :=
      all1 ⟨ho2, by show hp.objs.size + 2 ≠ _; omega, Heap.get?_none_of_le (by rw [hideAll_size]; show _ ≤ hp.objs.size + 2; omega)⟩
        (all1 ⟨ho1, by show hp.objs.size + 1 ≠ _; omega, Heap.get?_none_of_le (by rw [hideAll_size]; show _ ≤ hp.objs.size + 1; omega)⟩
          (all1 ⟨F₀.keep _ _ hP, Nat.ne_of_lt h87, hideAll_none [87] mem0⟩ all0))
    have hl₁ : h₁.IsList a vs.toArray := hl.at fun o e => F₀.keep _ o e
    have hcode := C.keeps F₀.keep
    have K := kn0 (m := m₁)
    repeat' (walk_at "m1")
    refine ldC rfl ⟨_, N.get (mem1 mem0), hd1⟩ ?_ rfl rfl (by decide)
    repeat' (walk_at "m1")
    refine l_len hl₁ (by omega) ?_
    intro t₂ u₂
    refine stC (N.get mem0) hd2 ?_ rfl rfl rfl
    intro h₃ o3 ho3 hd3 sb3
    obtain ⟨F₃, N₃⟩ := upd1 F N (all1 (by show hp.objs.size + 1 ≠ hp.objs.size + 2; omega) (all1 (Nat.ne_of_lt (Nat.lt_of_lt_of_le h87 (Nat.le_add_right _ 2))) all0)) (sameBut_ext sb3) ho3
    have K₃ := kn0 (m := m₁)
    have hne3 : Ext hp h₃ := fun b o e => (sb3.2 b (Nat.ne_of_lt (Nat.lt_of_lt_of_le (Heap.lt_size e) (Nat.le_add_right _ 2)))).trans (F₀.keep b o e)
    have hl₃ : h₃.IsList a vs.toArray := hl.at fun o e => hne3 _ o e
    have hcode₃ := C.keeps hne3
    clear F N K hl₁ hcode F₀ ho1 ho2 hd2
    repeat' (walk_at "m1")
    refine wpAny_Call_Name_kw ?_
    repeat' (walk_at "m1")
    refine callK (o := ((hd.heap_39 w.params).lookup 50).elim default id) (by with_unfolding_all rfl) (by with_unfolding_all rfl) (by with_unfolding_all rfl) ?_
    repeat' (walk_at "m1")
    refine ldC rfl ⟨_, N₃.get mem0, hd3⟩ ?_ rfl rfl (by decide)
    repeat' (walk_at "m1")
    refine r_2 ?_
    intro rg h₄ t₄ u1 u2 u3 f₄ hr₄ k₄
    repeat' (walk_at "m1")
    refine c_listRange (Ok.deeper (d := 11) O).hh hr₄ (by omega) (by omega) (by omega) (by omega) ?_
    intro li h₅ t₅ ks n₅ k₅ f₅ o₅ I₅
    have ek : ((vs.length : Int) + 1 - 1).toNat = ns.length := by omega
    rw [ek] at I₅
    have k₃₅ : Ext h₃ h₅ := k₄.trans k₅
    have F₅ := after F₃ k₃₅
    have N₅ := afterNew (after F₃ k₄) (afterN N₃ k₄) k₅ f₅ o₅
    clear F₃ N₃
    repeat' (walk_at "m1")
    refine kwAll_cons ?_
    refine e_lambda (clos := [("size", hp.objs.size + 2), ("row", hp.objs.size + 1)]) (Gp.keeps (Ext.trans hne3 k₃₅)) (N₅.get (mem1 (mem1 (mem1 mem0)))) (hcode₃.keeps k₃₅) ?_ rfl (by with_unfolding_all rfl) rfl rfl
    intro kf c' ctv pm h₆ t₆ k₆ f₆ o₆ hrec hP₆
    obtain ⟨ps, ho87⟩ := hP₆
    obtain ⟨o87, e87⟩ : ∃ o, o = tabObj ps := ⟨_, rfl⟩
    rw [← e87] at ho87
    refine kwAll_nil ?_
    have g87 : (hideAll hp [87]).get? 87 = none := hideAll_none [87] mem0
    have nL : hp.objs.size ≠ 87 := (Nat.ne_of_lt h87).symm
    have li87 : li ≠ 87 := fresh_ne f₅ (k₄ _ _ (hne3 _ _ hP))
    have F₆ : Fr (hideAll hp [87]) hp.objs.size h₆ m₁ := ⟨F₅.ns.at' fun o e => k₆ _ o nL e, fun b o e => k₆ b o (fun q => by rw [q, g87] at e; cases e) (F₅.keep b o e), F₅.above⟩
    have N₆ : News (hideAll hp [87]) hp.objs.size h₆ [(hp.objs.size + 2, o3), (hp.objs.size + 1, o1), (87, o87)] := by
      have e1 := N₅ _ (mem1 mem0)
      have e2 := N₅ _ (mem1 (mem1 mem0))
      refine all1 ⟨k₆ _ _ (Nat.ne_of_gt (Nat.lt_of_lt_of_le h87 (Nat.le_add_right _ 2))) e1.1, e1.2⟩ (all1 ⟨k₆ _ _ (Nat.ne_of_gt (Nat.lt_of_lt_of_le h87 (Nat.le_add_right _ 1))) e2.1, e2.2⟩ (all1 ⟨ho87, nL.symm, g87⟩ all0))
    have hpk : ∀ b o, b ≠ 87 → hp.get? b = some o → h₆.get? b = some o := fun b o hb e => k₆ b o hb (k₃₅ _ _ (hne3 _ _ e))
    have o5' : h₆.get? li = some (lst ks n₅) := k₆ _ _ li87 o₅
    have ha87 : a ≠ 87 := fun q => by
      obtain ⟨oa, hoa, hcl, _⟩ := id hl
      rw [q, hP] at hoa; cases hoa; cases hcl
    have hlg : (hideAll hp [87]).IsList a vs.toArray := hl.at fun o e => hideAll_get [87] e (by simpa using ha87)
    have hl₆ : h₆.IsList a vs.toArray := hl.at fun o e => hpk _ o ha87 e
    have G₆ := G.keeps F₆.keep
    clear N₅ F₅ hcode₃ ho3 sb3
    refine ⟨G₆.X _ _ (by with_unfolding_all rfl), ?_⟩
    refine bisect_key_spec (vs := ks) (ns := rangeI 1 ns.length) (f := turnAt ns) (kf := kf) G₆ (Ok.le (Ok.deeper (d := 11) O) (by decide)) (lst_is o5') I₅ (falls_turn hs) (by rw [range_len]; omega) o₆ rfl ?_ ?_
    · intro A' Q' E' h t v tv O' x hv hq'
      obtain ⟨v1, v2⟩ := range_mem hv
      refine enterL (args := ⟨[.int v tv], []⟩) (binds := [("k", .int v tv)]) (G₆.keeps x) (x _ _ o₆) (hrec.keeps x) (by have := O'.dp; omega) rfl (locs rfl) ?_ ?_ rfl rfl rfl (by decide)
      · walk_at "m.kn"
      · intro h₇ m₇ t₇ F K N
        repeat' (walk_at "m1")
        refine ldFr rfl ⟨_, F.keep _ _ (x _ _ (N₆.get (mem1 mem0))), hd1⟩ ?_ rfl rfl (by decide) (by decide)
        repeat' (walk_at "m1")
        refine ldFr rfl ⟨_, F.keep _ _ (x _ _ (N₆.get mem0)), hd3⟩ ?_ rfl rfl (by decide) (by decide)
        repeat' (walk_at "m1")
        refine i_item (hl₆.at fun o e => F.keep _ o (x _ _ e)) hi (by omega) (by omega) (by omega) ?_ (by with_unfolding_all rfl) (by intro _; with_unfolding_all rfl)
        intro _
        repeat' (walk_at "m1")
        have := fun t' => hq' h₇ t' F.keep
        simp only [turnAt, ← hlen] at this
        exact this _
    · intro h₇ t₇ u₇ r k₇ T
      have F₇ := after F₆ k₇
      have N₇ := afterN N₆ k₇
      have K₇ := kn0 (m := m₁)
      obtain ⟨rn, rfl⟩ : ∃ n : Nat, r = n := ⟨r.toNat, by have := T.1; omega⟩
      have T' : Turn ns.length (fun i => !turnAt ns (1 + i)) rn rn := by
        obtain ⟨a1, a2, a3, a4, a5⟩ := T
        rw [range_len] at a3 a5
        refine ⟨a1, a2, a3, fun i hi' => ?_, fun i hi' hl' => ?_⟩
        · have := a4 i hi'
          dsimp only at this
          rwa [range_getD (by omega)] at this
        · have := a5 i hi' hl'
          dsimp only at this
          rwa [range_getD hl'] at this
      have hrn := T'.2.2.1
      clear F₆ N₆ K₃
      repeat' (walk_at "m1")
      refine n_list (by decide) ?_
      intro r h₈ f₈ o₈ k₈
      have F₈ := after (by assumption) k₈
      have N₈ := afterNew (by assumption) (by assumption) k₈ f₈ o₈
      have hr87 : (87 : Addr) ≠ r := news_fresh (by assumption) f₈ (87, o87) (mem1 (mem1 mem0))
      have hr1 : hp.objs.size + 1 ≠ r := news_fresh (by assumption) f₈ (hp.objs.size + 1, o1) (mem1 mem0)
      have hr2 : hp.objs.size + 2 ≠ r := news_fresh (by assumption) f₈ (hp.objs.size + 2, o3) mem0
      clear F₇ N₇
      repeat' (walk_at "m1")
      rename_i h₉ m₉ t₉ F₉ K₉ N₉ _ _ _ _ _ _
      clear F₈ N₈ K₇
      refine r_2 ?_
      intro rg' ha ta v1 v2 v3 fa hra ka
      have Fa := after F₉ ka
      have Na := afterN N₉ ka
      clear F₉ N₉
      refine p_range1 hra (by omega) (by omega) (by omega) (by omega) ?_
      intro it hb' hit fit kit
      have en : ((rn : Int) + 1 - 1).toNat = rn := by omega
      rw [en] at hit
      have hoff := off_all Na fit
      have hor := hoff _ mem0
      refine for1 (σ := List Value × Nat) (h₀ := hideAll hp [87]) (wk_range (Ok.deeper (d := 11) O).hh it 1 1 rn) (notL1 Fa fit) (fresh1 Fa fit)
        (fun c => [("hooks", .ref r)]) (fun c => [(r, lst c.1 c.2), (hp.objs.size + 2, o3), (hp.objs.size + 1, o1), (87, o87)])
        (fun i c => IntsAre c.1 (hooksN ns i)) ([], 0)
        (after Fa kit) (K₉.sub (by walk_at "m.sub")) (afterN Na kit) hoff (by simpa using hit) .nil ?_ ?_
      · clear Fa Na K₉ hit
        rintro i v ⟨us, n⟩ h t m own hin ⟨ui, rfl⟩ hJ _ hsub hlive F K N
        dsimp only [List.cons_append, List.nil_append] at hJ F K N
        have ek : (1 : Int) + (i : Int) * 1 = ((i + 1 : Nat) : Int) := by omega
        rw [ek]
        have hus : us.length ≤ 2 * i := by rw [hJ.length]; exact hooks_len ns i
        have ei : ((vs.length : Int) - ((i + 1 : Nat) : Int)).toNat = ns.length - (i + 1) := by omega
        have hown : ∀ p ∈ (hp.objs.size + 2, o3) :: (hp.objs.size + 1, o1) :: (87, o87) :: own, p.1 ≠ r := all1 hr2 (all1 hr1 (all1 hr87 (own_ne hsub hor)))
        repeat' (walk_at "m1")
        rename_i h₁ m₁ t₁ F₁ K₁ N₁
        refine ldC rfl ⟨_, N₁.get (mem1 (mem1 mem0)), hd1⟩ ?_ rfl rfl (by decide)
        repeat' (walk_at "m1")
        refine ldC rfl ⟨_, N₁.get (mem1 mem0), hd3⟩ ?_ rfl rfl (by decide)
        repeat' (walk_at "m1")
        refine i_item (hlg.at fun o e => F₁.keep _ o e) hi (by omega) (by omega) (by omega) ?_ (by with_unfolding_all rfl) (by intro _; with_unfolding_all rfl)
        intro uh
        rw [ei]
        clear F N K
        repeat' (walk_at "m1")
        rename_i h₂ m₂ t₂ F₂ K₂ N₂
        clear F₁ K₁ N₁
        refine l_meth (N₂.get mem0) PySem.F.slot_list_append PySem.F.type_list_append ?_
        repeat' (walk_at "m1")
        refine ldC rfl ⟨_, N₂.get (mem1 mem0), hd3⟩ ?_ rfl rfl (by decide)
        repeat' (walk_at "m1")
        refine ldC rfl ⟨_, N₂.get (mem1 (mem1 mem0)), hd1⟩ ?_ rfl rfl (by decide)
        repeat' (walk_at "m1")
        refine ⟨⟨_, _, rfl, G.keeps F₂.keep⟩, ?_⟩
        refine bisect_left_spec (G.keeps F₂.keep) (Ok.le (Ok.deeper (d := 11) O) (by decide)) (hlg.at fun o e => F₂.keep _ o e) hi hs (by omega) ?_
        intro h₃ t₃ u₃ x₃
        have F₃ := after F₂ x₃
        have N₃ := afterN N₂ x₃
        clear F₂ N₂
        repeat' (walk_at "m1")
        refine i_mul (by omega) (by omega) ?_
        intro _ _
        repeat' (walk_at "m1")
        refine l_append (N₃.get mem0) (by omega) ?_
        intro h₄ n₄ o₄ sb₄
        obtain ⟨F₄, N₄⟩ := upd1 F₃ N₃ hown (sameBut_ext sb₄) o₄
        clear F₃ N₃
        repeat' (walk_at "m1")
        rw [hlen] at o₄ N₄
        have hoff' : ∀ p ∈ [(r, lst us n), (hp.objs.size + 2, o3), (hp.objs.size + 1, o1), (87, o87)], p.1 ∉ [it] := by assumption
        have J4 := fun u => ints_app hJ (IntsAre.cons (hookA ns (i + 1)) u IntsAre.nil)
        refine split_dec (fun hc => ?_) fun hc => ?_
        · repeat' (walk_at "m1")
          refine l_meth (N₄.get mem0) PySem.F.slot_list_append PySem.F.type_list_append ?_
          repeat' (walk_at "m1")
          refine ldC rfl ⟨_, N₄.get (mem1 mem0), hd3⟩ ?_ rfl rfl (by decide)
          repeat' (walk_at "m1")
          refine ldC rfl ⟨_, N₄.get (mem1 (mem1 mem0)), hd1⟩ ?_ rfl rfl (by decide)
          repeat' (walk_at "m1")
          refine ⟨⟨_, _, rfl, G.keeps F₄.keep⟩, ?_⟩
          refine bisect_right_spec (G.keeps F₄.keep) (Ok.le (Ok.deeper (d := 11) O) (by decide)) (hlg.at fun o e => F₄.keep _ o e) hi hs (by omega) ?_
          intro h₅ t₅ u₅ x₅
          have F₅ := after F₄ x₅
          have N₅ := afterN N₄ x₅
          clear F₄ N₄
          repeat' (walk_at "m1")
          refine i_mul (by omega) (by omega) ?_
          intro _ _
          repeat' (walk_at "m1")
          refine l_append (N₅.get mem0) (by rw [List.length_append, List.length_singleton]; omega) ?_
          intro h₆ n₆ o₆' sb₆
          obtain ⟨F₆, N₆'⟩ := upd1 F₅ N₅ hown (sameBut_ext sb₆) o₆'
          clear F₅ N₅
          repeat' (walk_at "m1")
          refine ⟨rfl, (_, n₆), _, _, _, rfl, F₆, Kn.sub (by assumption) (by walk_at "m.sub"), N₆', all1 hor (fun p hp => hoff' _ (mem1 hp)), ?_⟩
          show IntsAre _ (hooksN ns (i + 1))
          rw [hooksN, if_pos hc, hlen, List.append_cons (hooksN ns i)]
          exact ints_app (J4 _) (IntsAre.cons (hookB ns (i + 1)) _ IntsAre.nil)
        · repeat' (walk_at "m1")
          refine ⟨rfl, (_, n₄), _, _, _, rfl, F₄, Kn.sub (by assumption) (by walk_at "m.sub"), N₄, all1 hor (fun p hp => hoff' _ (mem1 hp)), ?_⟩
          show IntsAre _ (hooksN ns (i + 1))
          rw [hooksN, if_neg hc]
          exact J4 _
      · clear Fa Na K₉ hit
        rintro ⟨us, n⟩ h t m hJ F K N
        dsimp only at hJ F K N
        repeat' (walk_at "m1")
        refine hq h _ r us n rn (fun b o hb e => F.keep _ _ (hideAll_get [87] e (by simpa using hb))) ?_ (N.get mem0) ⟨ps, e87 ▸ N.get (mem1 (mem1 (mem1 mem0)))⟩ T' hJ
        cases q : hp.get? r with
        | none => rfl
        | some o =>
          have := (N _ mem0).2.2
          rw [hideAll_get [87] q (by simpa using hr87.symm)] at this; cases this
end
-- part Hk
section
set_option Elab.async false
set_option maxHeartbeats 1000000
set_option linter.unusedVariables false
/-- those of the rest that lie above t -/
def up (t : Int) (r : List Int) : List Int := r.filter fun v => decide (t < v)
theorem up_len (t : Int) (r : List Int) : (up t r).length ≤ r.length := List.length_filter_le _ _
def HK (t : Int) : List Int → List Int
  | [] => []
  | x :: r => (x - t + 1 + r.length) :: if t < x then (x - t + (up t r).length) :: HK (t + 1) (up t r) else []
termination_by G => G.length
decreasing_by simp; have := up_len t r; omega
structure Reg (t : Int) (G : List Int) : Prop where
  fall : G.Pairwise (· ≥ ·)
  low : ∀ x ∈ G, t ≤ x
theorem Reg.up {t x : Int} {r : List Int} (g : Reg t (x :: r)) : Reg (t + 1) (up t r) := by
  refine ⟨(List.pairwise_cons.mp g.fall).2.filter _, fun y hy => ?_⟩
  have := (List.mem_filter.mp hy).2
  simp only [decide_eq_true_eq] at this
  omega
theorem up_mem {t v : Int} {r : List Int} : v ∈ up t r ↔ v ∈ r ∧ t < v := by simp [up]
/-- induction along the hooks -/
theorem hk_ind {P : Int → List Int → Prop} (h0 : ∀ t, P t []) (h1 : ∀ t x r, Reg t (x :: r) → Reg (t + 1) (up t r) → P (t + 1) (up t r) → P t (x :: r)) : ∀ (n : Nat) t G, G.length ≤ n → Reg t G → P t G
  | 0, t, G, hl, _ => by
    have : G = [] := List.length_eq_zero_iff.mp (by omega)
    subst this; exact h0 t
  | n + 1, t, [], _, _ => h0 t
  | n + 1, t, x :: r, hl, g => h1 t x r g g.up (hk_ind h0 h1 n _ _ (by have := up_len t r; simp at hl; omega) g.up)
theorem hk_nil (t : Int) : HK t [] = [] := by rw [HK]
theorem hk_cons (t x : Int) (r : List Int) : HK t (x :: r) = (x - t + 1 + r.length) :: if t < x then (x - t + (up t r).length) :: HK (t + 1) (up t r) else [] := by rw [HK]
theorem hk_le {t : Int} {G : List Int} (g : Reg t G) : ∀ b, (∀ x ∈ G, x ≤ b) → ∀ y ∈ HK t G, 0 < y ∧ y ≤ b - t + G.length := by
  refine hk_ind (P := fun t G => ∀ b, (∀ x ∈ G, x ≤ b) → ∀ y ∈ HK t G, 0 < y ∧ y ≤ b - t + G.length) ?_ ?_ _ _ _ (Nat.le_refl _) g
  · intro t b _ y hy; rw [hk_nil] at hy; cases hy
  · intro t x r g g' ih b hb y hy
    have hx := hb x List.mem_cons_self
    have h0 := g.low x List.mem_cons_self
    have hu := up_len t r
    rw [hk_cons] at hy
    rcases List.mem_cons.mp hy with rfl | hy
    · rw [List.length_cons]; omega
    · split at hy
      · rcases List.mem_cons.mp hy with rfl | hy
        · rw [List.length_cons]; omega
        · have := ih b (fun v hv => hb v (List.mem_cons_of_mem _ (up_mem.mp hv).1)) y hy
          rw [List.length_cons]; omega
      · cases hy
theorem hk_fall {t : Int} {G : List Int} (g : Reg t G) : (HK t G).Pairwise (· > ·) := by
  refine hk_ind (P := fun t G => (HK t G).Pairwise (· > ·)) ?_ ?_ _ _ _ (Nat.le_refl _) g
  · intro t; rw [hk_nil]; exact .nil
  · intro t x r g g' ih
    have h0 := g.low x List.mem_cons_self
    have hu := up_len t r
    have hx := (List.pairwise_cons.mp g.fall).1
    rw [hk_cons]
    have hb : ∀ y ∈ HK (t + 1) (up t r), 0 < y ∧ y ≤ x - (t + 1) + (up t r).length := hk_le g' x fun v hv => hx v (up_mem.mp hv).1
    split
    · refine List.pairwise_cons.mpr ⟨fun y hy => ?_, List.pairwise_cons.mpr ⟨fun y hy => ?_, ih⟩⟩
      · rcases List.mem_cons.mp hy with rfl | hy
        · show _ < _; omega
        · have := hb y hy
          show _ < _; omega
      · have := hb y hy
        show _ < _; omega
    · exact List.pairwise_singleton _ _
theorem up_sum (t : Int) : ∀ r : List Int, (∀ x ∈ r, t ≤ x) → (r.map fun x => 2 * (x - t) + 1).sum = ((up t r).map fun x => 2 * (x - t) + 1).sum + (r.length - (up t r).length : Int)
  | [], _ => by simp [up]
  | x :: r, h => by
    have ih := up_sum t r fun y hy => h y (List.mem_cons_of_mem _ hy)
    have h0 := h x List.mem_cons_self
    unfold up at ih ⊢
    by_cases hx : t < x
    · rw [List.filter_cons_of_pos (by simpa using hx)]
      simp only [List.map_cons, List.sum_cons, List.length_cons, ih]
      omega
    · rw [List.filter_cons_of_neg (by simpa using hx)]
      simp only [List.map_cons, List.sum_cons, List.length_cons, ih]
      omega
theorem shift_sum (t : Int) : ∀ r : List Int, (r.map fun x => 2 * (x - t) + 1).sum = (r.map fun x => 2 * (x - (t + 1)) + 1).sum + 2 * r.length
  | [] => by simp
  | x :: r => by
    have := shift_sum t r
    simp only [List.map_cons, List.sum_cons, List.length_cons, this]
    omega
theorem hk_sum {t : Int} {G : List Int} (g : Reg t G) : (HK t G).sum = (G.map fun x => 2 * (x - t) + 1).sum := by
  refine hk_ind (P := fun t G => (HK t G).sum = (G.map fun x => 2 * (x - t) + 1).sum) ?_ ?_ _ _ _ (Nat.le_refl _) g
  · intro t; rw [hk_nil]; rfl
  · intro t x r g g' ih
    have h0 := g.low x List.mem_cons_self
    have e1 := up_sum t r fun y hy => g.low y (List.mem_cons_of_mem _ hy)
    have e2 := shift_sum t (up t r)
    rw [hk_cons, List.map_cons, List.sum_cons, List.sum_cons]
    split
    · rw [List.sum_cons, ih]; omega
    · have e3 : up t r = [] := List.filter_eq_nil_iff.mpr fun v hv => by
        have := (List.pairwise_cons.mp g.fall).1 v hv
        simp; omega
      rw [e3] at e1 e2
      simp at e1 e2 ⊢
      omega
/-- how many of a falling list have no next above them -/
def ends : List Int → Nat
  | [] => 0
  | [_] => 1
  | a :: b :: l => ends (b :: l) + if a = b + 1 then 0 else 1
theorem ends_filter : ∀ l : List Int, l.Pairwise (· > ·) → (l.filter fun n => decide (n + 1 ∉ l)).length = ends l
  | [], _ => rfl
  | [a], _ => by
    have : a + 1 ∉ [a] := by simp; omega
    rw [List.filter_cons_of_pos (by simpa using this)]; rfl
  | a :: b :: l, h => by
    have ha := (List.pairwise_cons.mp h).1
    have hbl := (List.pairwise_cons.mp h).2
    have hb := (List.pairwise_cons.mp hbl).1
    have ih := ends_filter (b :: l) hbl
    have hab : b < a := ha b List.mem_cons_self
    have h1 : a + 1 ∉ a :: b :: l := fun q => by
      rcases List.mem_cons.mp q with q | q
      · omega
      · have : a + 1 < a := ha _ q
        omega
    rw [List.filter_cons_of_pos (by simpa using h1), List.length_cons, ends, ← ih]
    have h2 : l.filter (fun n => decide (n + 1 ∉ a :: b :: l)) = l.filter (fun n => decide (n + 1 ∉ b :: l)) := List.filter_congr fun n hn => by
      have : n < b := hb n hn
      have e : (n + 1 ∉ a :: b :: l) ↔ (n + 1 ∉ b :: l) := by
        simp only [List.mem_cons, not_or]
        constructor
        · exact fun x => x.2
        · exact fun x => ⟨by omega, x⟩
      exact decide_eq_decide.mpr e
    have hb1 : b + 1 ∉ b :: l := fun q => by
      rcases List.mem_cons.mp q with q | q
      · omega
      · have : b + 1 < b := hb _ q
        omega
    have f1 : ((b :: l).filter fun n => decide (n + 1 ∉ b :: l)).length = (l.filter fun n => decide (n + 1 ∉ b :: l)).length + 1 := by
      rw [List.filter_cons_of_pos (by simpa using hb1), List.length_cons]
    rw [f1]
    by_cases e : a = b + 1
    · have q : b + 1 ∈ a :: b :: l := by rw [e]; exact List.mem_cons_self
      have f2 : ((b :: l).filter fun n => decide (n + 1 ∉ a :: b :: l)) = l.filter fun n => decide (n + 1 ∉ a :: b :: l) := List.filter_cons_of_neg (by simp only [decide_not, Bool.not_eq_true', decide_eq_false_iff_not]; exact fun x => x q)
      rw [f2, h2, if_pos e]
    · have : b + 1 ∉ a :: b :: l := fun q => by
        rcases List.mem_cons.mp q with q | q
        · exact e q.symm
        · exact hb1 q
      have f2 : ((b :: l).filter fun n => decide (n + 1 ∉ a :: b :: l)) = b :: l.filter fun n => decide (n + 1 ∉ a :: b :: l) := List.filter_cons_of_pos (decide_eq_true this)
      rw [f2, List.length_cons, h2, if_neg e]
theorem up_gone {t x : Int} {r : List Int} (g : Reg t (x :: r)) (h : ¬ t < x) : ∀ v ∈ r, v = t := fun v hv => by
  have := (List.pairwise_cons.mp g.fall).1 v hv
  have := g.low v (List.mem_cons_of_mem _ hv)
  omega
theorem up_all {t : Int} {r : List Int} (hl : (up t r).length = r.length) : ∀ v ∈ r, t < v := by
  have : up t r = r := List.Sublist.eq_of_length List.filter_sublist hl
  intro v hv
  rw [← this] at hv
  exact (up_mem.mp hv).2
theorem up_some {t : Int} {r : List Int} (hr : ∀ x ∈ r, t ≤ x) (hl : (up t r).length ≠ r.length) : t ∈ r := by
  refine Decidable.byContradiction fun hn => hl ?_
  unfold up
  rw [List.filter_eq_self.mpr fun v hv => ?_]
  have := hr v hv
  have : v ≠ t := fun e => hn (e ▸ hv)
  simp; omega
theorem hk_ends {t : Int} {G : List Int} (g : Reg t G) : ∃ D : List Int, D.Nodup ∧ (∀ v, v ∈ D ↔ v ∈ G) ∧ D.length = ends (HK t G) := by
  refine hk_ind (P := fun t G => ∃ D : List Int, D.Nodup ∧ (∀ v, v ∈ D ↔ v ∈ G) ∧ D.length = ends (HK t G)) ?_ ?_ _ _ _ (Nat.le_refl _) g
  · intro t; exact ⟨[], .nil, fun v => Iff.rfl, by rw [hk_nil]; rfl⟩
  · intro t x r g g' ⟨D, hn, hm, hl⟩
    have h0 := g.low x List.mem_cons_self
    have hr : ∀ v ∈ r, t ≤ v := fun y hy => g.low y (List.mem_cons_of_mem _ hy)
    have hx := (List.pairwise_cons.mp g.fall).1
    have hul := up_len t r
    rw [hk_cons]
    by_cases hlt : t < x
    · rw [if_pos hlt]
      -- the ones that lie on t
      obtain ⟨D2, n2, m2, l2⟩ : ∃ D2 : List Int, D2.Nodup ∧ (∀ v, v ∈ D2 ↔ v = t ∧ t ∈ r) ∧ D2.length = if (x - t + 1 + (r.length : Int)) = (x - t + ((up t r).length : Int)) + 1 then 0 else 1 := by
        by_cases hq : (up t r).length = r.length
        · refine ⟨[], .nil, fun v => ⟨fun h => (List.not_mem_nil h).elim, fun h => ?_⟩, ?_⟩
          · have := up_all hq t h.2; omega
          · rw [if_pos (by omega)]; rfl
        · have ht := up_some hr hq
          refine ⟨[t], by simp, fun v => by simp [ht], ?_⟩
          rw [if_neg (by omega)]; rfl
      cases hu : up t r with
      | nil =>
        rw [hu] at hm l2
        refine ⟨x :: D2, List.nodup_cons.mpr ⟨fun q => ?_, n2⟩, fun v => ?_, ?_⟩
        · have := ((m2 x).mp q).1; omega
        · rw [List.mem_cons, m2, List.mem_cons]
          constructor
          · rintro (h | ⟨h, h'⟩)
            · exact .inl h
            · exact .inr (h ▸ h')
          · rintro (h | h)
            · exact .inl h
            · by_cases hv : t < v
              · have := up_mem.mpr ⟨h, hv⟩
                rw [hu] at this; cases this
              · have e : v = t := by have := hr v h; omega
                exact .inr ⟨e, e ▸ h⟩
        · rw [hk_nil, List.length_cons, l2]
          show _ = ends [_] + _
          rw [ends, Nat.add_comm]
      | cons x1 r1 =>
        rw [hu] at hm hl l2 g'
        have hx1 : x1 ∈ r := (up_mem.mp (hu ▸ List.mem_cons_self : x1 ∈ up t r)).1
        have hx1' := hx x1 hx1
        have hmem : ∀ v, v ∈ r ↔ v ∈ D ∨ (v = t ∧ t ∈ r) := fun v => by
          rw [hm, ← hu, up_mem]
          constructor
          · intro h
            by_cases hv : t < v
            · exact .inl ⟨h, hv⟩
            · have e : v = t := by have := hr v h; omega
              exact .inr ⟨e, e ▸ h⟩
          · rintro (h | ⟨h, h'⟩)
            · exact h.1
            · exact h ▸ h'
        have hD2 : ∀ v ∈ D, v ∉ D2 := fun v hv q => by
          have e1 := ((m2 v).mp q).1
          have e2 := (hm v).mp hv
          rw [← hu] at e2
          have := (up_mem.mp e2).2
          omega
        have hND : (D ++ D2).Nodup := List.nodup_append.mpr ⟨hn, n2, fun a ha b hb e => hD2 a ha (e ▸ hb)⟩
        rw [hk_cons] at hl ⊢
        have eE : ∀ (a b c : Int) (l : List Int), ends (a :: b :: c :: l) = ends (c :: l) + (if b = c + 1 then 0 else 1) + if a = b + 1 then 0 else 1 := fun a b c l => rfl
        rw [eE, ← hl]
        have ec : ((x - t + ((x1 :: r1).length : Int)) = x1 - (t + 1) + 1 + (r1.length : Int) + 1) ↔ x = x1 := by rw [List.length_cons]; omega
        by_cases exx : x = x1
        · refine ⟨D ++ D2, hND, fun v => ?_, ?_⟩
          · rw [List.mem_append, m2, ← hmem, List.mem_cons]
            constructor
            · exact .inr
            · rintro (h | h)
              · rw [h, exx]; exact hx1
              · exact h
          · rw [List.length_append, l2, if_pos (ec.mpr exx), Nat.add_zero]
        · have hxD : x ∉ D ++ D2 := fun q => by
            have : x ∈ r := (hmem x).mpr (by rcases List.mem_append.mp q with q | q; exact .inl q; exact .inr ((m2 x).mp q))
            have e : x ∈ x1 :: r1 := by rw [← hu]; exact up_mem.mpr ⟨this, hlt⟩
            rcases List.mem_cons.mp e with e | e
            · exact exx e
            · have := (List.pairwise_cons.mp g'.fall).1 x e
              omega
          refine ⟨x :: (D ++ D2), List.nodup_cons.mpr ⟨hxD, hND⟩, fun v => ?_, ?_⟩
          · rw [List.mem_cons, List.mem_append, m2, ← hmem, List.mem_cons]
          · rw [List.length_cons, List.length_append, l2, if_neg (fun q => exx (ec.mp q))]
            omega
    · rw [if_neg hlt]
      have hall := up_gone g hlt
      have ext : x = t := by omega
      refine ⟨[x], by simp, fun v => ?_, rfl⟩
      rw [List.mem_singleton, List.mem_cons]
      constructor
      · exact .inl
      · rintro (h | h)
        · exact h
        · rw [ext]; exact hall v h
end
-- part Hk2
section
set_option Elab.async false
set_option maxHeartbeats 1000000
set_option linter.unusedVariables false
theorem look_nil (k : Int) : lookD [] k = none := rfl
theorem look_cons (p : Int × Int) (c : List (Int × Int)) (k : Int) : lookD (p :: c) k = if p.1 = k then some p.2 else lookD c k := by
  unfold lookD
  rw [List.find?_cons]
  by_cases h : p.1 = k <;> simp [h]
theorem look_map (k v k' : Int) : ∀ c : List (Int × Int), lookD (c.map fun p => if p.1 = k then (p.1, v) else p) k' = if k' = k then (lookD c k).map (fun _ => v) else lookD c k'
  | [] => by simp [look_nil]
  | p :: c => by
    rw [List.map_cons, look_cons, look_map k v k' c, look_cons, look_cons]
    by_cases h1 : p.1 = k <;> by_cases h2 : k' = k <;> by_cases h3 : p.1 = k' <;> simp_all <;> omega
theorem look_app (k v k' : Int) : ∀ c : List (Int × Int), lookD (c ++ [(k, v)]) k' = match lookD c k' with | some u => some u | none => if k = k' then some v else none
  | [] => by rw [List.nil_append, look_cons, look_nil]
  | p :: c => by
    rw [List.cons_append, look_cons, look_app k v k' c, look_cons]
    by_cases h1 : p.1 = k' <;> simp [h1]
theorem look_any (k : Int) : ∀ c : List (Int × Int), c.any (fun p => decide (p.1 = k)) = (lookD c k).isSome
  | [] => rfl
  | p :: c => by
    rw [List.any_cons, look_any k c, look_cons]
    by_cases h1 : p.1 = k <;> simp [h1]
theorem look_put (c : List (Int × Int)) (k v k' : Int) : lookD (putD c k v) k' = if k' = k then some v else lookD c k' := by
  unfold putD
  rw [look_any]
  cases h : lookD c k with
  | none =>
    simp only [Option.isSome_none, Bool.false_eq_true, if_false]
    rw [look_app]
    by_cases e : k' = k
    · subst e; simp [h]
    · rw [if_neg e]
      cases h' : lookD c k' with
      | none => simp; exact fun x => e x.symm
      | some u => rfl
  | some u =>
    simp only [Option.isSome_some, if_true]
    rw [look_map, h]; rfl
theorem look_add (c : List (Int × Int)) (k v k' : Int) : lookD (addD c (k, v)) k' = if k' = k then some ((lookD c k).getD 0 + v) else lookD c k' := by
  cases h : lookD c k with
  | none => rw [addD_none h, look_put]; simp
  | some u => rw [addD_some h, look_put]; simp
/-- the table counts the list -/
def TD (W : Int) (c : List (Int × Int)) (l : List Int) : Prop := ∀ k, lookD c k = if l.count k = 0 then none else some ((l.count k : Int) * W)
theorem TD.nil (W : Int) : TD W [] [] := fun k => rfl
theorem TD.congr {W : Int} {c : List (Int × Int)} {l l' : List Int} (h : TD W c l) (e : ∀ k, l.count k = l'.count k) : TD W c l' := fun k => by rw [← e]; exact h k
theorem TD.adds {W : Int} {c : List (Int × Int)} {l : List Int} (h : TD W c l) (x : Int) (o : Nat) (ho : 0 < o) : TD W (addD c (x, (o : Int) * W)) (List.replicate o x ++ l) := fun k => by
  rw [look_add, List.count_append, List.count_replicate]
  by_cases e : k = x
  · subst e
    rw [if_pos rfl, h k]
    simp only [beq_self_eq_true, if_true]
    rw [if_neg (show ¬ (o + l.count k = 0) by omega)]
    by_cases h0 : l.count k = 0
    · rw [if_pos h0, h0]; simp
    · rw [if_neg h0, Option.getD_some, ← Int.add_mul]
      congr 2; omega
  · have e' : (x == k) = false := by simpa using fun q : x = k => e q.symm
    rw [if_neg e, h k, e']
    simp
theorem TD.add {W : Int} {c : List (Int × Int)} {l : List Int} (h : TD W c l) (x : Int) : TD W (addD c (x, W)) (x :: l) := by
  have := h.adds x 1 (by omega)
  simpa using this
theorem td_tally (W : Int) : ∀ (l : List Int) (c : List (Int × Int)) (l₀ : List Int), TD W c l₀ → TD W ((l.map fun n => (n, W)).foldl addD c) (l₀ ++ l)
  | [], c, l₀, h => by simpa using h
  | x :: l, c, l₀, h => by
    have := td_tally W l (addD c (x, W)) (x :: l₀) (h.add x)
    refine TD.congr this fun k => ?_
    simp only [List.count_append, List.cons_append, List.count_cons]
    omega
theorem tally_td (W : Int) (l : List Int) : TD W (tally W l) l := by simpa [tally] using td_tally W l [] [] (TD.nil W)
def oddOf (h : Int) : Int := 2 * h + 1
theorem up_count (t : Int) (k : Int) : ∀ r : List Int, (∀ v ∈ r, t ≤ v) → (r.map oddOf).count k = ((up t r).map oddOf).count k + if oddOf t = k then r.length - (up t r).length else 0
  | [], _ => by simp [up]
  | x :: r, h => by
    have ih := up_count t k r fun y hy => h y (List.mem_cons_of_mem _ hy)
    have h0 := h x List.mem_cons_self
    have hl := up_len t r
    unfold up at ih hl ⊢
    by_cases hx : t < x
    · rw [List.filter_cons_of_pos (by simpa using hx)]
      simp only [List.map_cons, List.count_cons, List.length_cons, ih]
      split <;> split <;> omega
    · have ext : x = t := by omega
      subst ext
      rw [List.filter_cons_of_neg (by simpa using hx)]
      simp only [List.map_cons, List.count_cons, List.length_cons, ih, beq_iff_eq]
      split <;> omega
theorem td_step {W t x : Int} {r : List Int} {T : List (Int × Int)} (hr : ∀ v ∈ r, t ≤ v) (h : TD W T ((up t r).map oddOf)) :
    TD W (if 0 < (r.length : Int) - (up t r).length then addD (addD T (2 * x + 1, W)) (2 * t + 1, ((r.length : Int) - (up t r).length) * W) else addD T (2 * x + 1, W)) ((x :: r).map oddOf) := by
  have hl := up_len t r
  have h1 := h.add (oddOf x)
  by_cases ho : 0 < (r.length : Int) - (up t r).length
  · rw [if_pos ho]
    have h2 := h1.adds (oddOf t) (r.length - (up t r).length) (by omega)
    rw [show (((r.length - (up t r).length : Nat) : Int)) = (r.length : Int) - (up t r).length by omega] at h2
    refine TD.congr h2 fun k => ?_
    rw [List.map_cons, List.count_append, List.count_cons, List.count_cons, List.count_replicate, up_count t k r hr]
    simp only [beq_iff_eq]
    omega
  · rw [if_neg ho]
    refine TD.congr h1 fun k => ?_
    rw [List.map_cons, List.count_cons, List.count_cons, up_count t k r hr]
    have : r.length - (up t r).length = 0 := by omega
    rw [this]; simp
theorem getD_app (pre l : List Int) (j : Nat) : (pre ++ l).getD (pre.length + j) 0 = l.getD j 0 := by
  rw [List.getD_eq_getElem?_getD, List.getElem?_append_right (by omega), List.getD_eq_getElem?_getD]
  congr 2; omega
theorem backRow_cons2 (a b : Int) (l : List Int) : backRow (a :: b :: l) = a :: b :: backRow l := by
  unfold backRow
  have : (a :: b :: l).length % 2 = l.length % 2 := by simp only [List.length_cons]; omega
  rw [this]; rfl
theorem backRow_even (l : List Int) : (backRow l).length % 2 = 0 := by
  unfold backRow
  rw [List.length_append, List.length_replicate]; omega
/-- what the run leaves behind -/
def Back (W : Int) (t : Int) : List Int → Prop
  | [] => True
  | x :: r => ∀ (tn : Nat) (pre : List Int), t = tn → pre.length = 2 * tn →
      TD W (backRun (pre ++ backRow (HK t (x :: r))) W ((pre ++ backRow (HK t (x :: r))).length / 2 - 1) ((backRow (HK t (x :: r))).length / 2)).2 ((x :: r).map oddOf) ∧
      (backRun (pre ++ backRow (HK t (x :: r))) W ((pre ++ backRow (HK t (x :: r))).length / 2 - 1) ((backRow (HK t (x :: r))).length / 2)).1 =
        if 0 < tn then 2 * x + 1 + 2 * ((pre ++ backRow (HK t (x :: r))).getD (2 * tn - 1) 0 - (x - t + 1 + r.length) - 1) else 2 * x + 1
theorem back_ok (W : Int) {t : Int} {G : List Int} (g : Reg t G) : Back W t G := by
  refine hk_ind (P := fun t G => Back W t G) (fun t => trivial) ?_ _ _ _ (Nat.le_refl _) g
  intro t x r g g' ih tn pre htn hpre
  have h0 := g.low x List.mem_cons_self
  have hr : ∀ v ∈ r, t ≤ v := fun y hy => g.low y (List.mem_cons_of_mem _ hy)
  have hul := up_len t r
  cases hu : up t r with
  | nil =>
    have erow : backRow (HK t (x :: r)) = [x - t + 1 + r.length, x - t] := by
      rw [hk_cons, hu, hk_nil]
      by_cases hlt : t < x
      · rw [if_pos hlt]; simp [backRow]
      · rw [if_neg hlt]
        have : x - t = 0 := by omega
        simp [backRow, this]
    rw [erow]
    have el : (pre ++ [x - t + 1 + (r.length : Int), x - t]).length = 2 * tn + 2 := by simp [hpre]
    have e0 : (pre ++ [x - t + 1 + (r.length : Int), x - t]).getD (2 * tn) 0 = x - t + 1 + r.length := by
      have := getD_app pre [x - t + 1 + (r.length : Int), x - t] 0
      rw [hpre] at this; simpa using this
    have e1 : (pre ++ [x - t + 1 + (r.length : Int), x - t]).getD (2 * tn + 1) 0 = x - t := by
      have := getD_app pre [x - t + 1 + (r.length : Int), x - t] 1
      rw [hpre] at this; simpa using this
    rw [el]
    have ek : (2 * tn + 2) / 2 - 1 = tn := by omega
    rw [ek]
    rw [show ([x - t + 1 + (r.length : Int), x - t] : List Int).length / 2 = 0 + 1 by simp]
    show TD W (backStep _ W (2 * tn - 2 * 0) (backRun _ W tn 0)).2 _ ∧ (backStep _ W (2 * tn - 2 * 0) (backRun _ W tn 0)).1 = _
    have es : backRun (pre ++ [x - t + 1 + (r.length : Int), x - t]) W tn 0 = (2 * x + 1, []) := by
      show ((_ : Int), _) = _
      rw [el]
      have : 2 * tn + 2 - 1 = 2 * tn + 1 := by omega
      rw [this, e1]
      congr 1
      omega
    rw [es]
    have T0 : TD W [] ((up t r).map oddOf) := by rw [hu]; exact TD.nil W
    have st := td_step (x := x) hr T0
    rw [hu] at st
    unfold backStep
    dsimp only
    rw [show 2 * tn - 2 * 0 = 2 * tn by omega, e0, e1]
    refine ⟨?_, ?_⟩
    · have eo : x - t + 1 + (r.length : Int) - (x - t) - 1 = (r.length : Int) - ([] : List Int).length := by simp; omega
      rw [eo, show ((2 * tn : Nat) : Int) + 1 = 2 * t + 1 by omega]
      exact st
    · by_cases h : 0 < tn
      · rw [if_pos (by omega), if_pos h]
      · rw [if_neg (by omega), if_neg h]
  | cons x1 r1 =>
    have hx1 : x1 ∈ up t r := by rw [hu]; exact List.mem_cons_self
    have hlt : t < x := by
      have h1 := (up_mem.mp hx1).2
      have h2 := (List.pairwise_cons.mp g.fall).1 x1 (up_mem.mp hx1).1
      omega
    rw [hu] at ih
    have erow : backRow (HK t (x :: r)) = (x - t + 1 + r.length) :: (x - t + (up t r).length) :: backRow (HK (t + 1) (x1 :: r1)) := by
      rw [hk_cons, if_pos hlt, backRow_cons2, hu]
    obtain ⟨T1, O1⟩ := ih (tn + 1) (pre ++ [x - t + 1 + (r.length : Int), x - t + ((up t r).length : Int)]) (by omega) (by simp [hpre]; omega)
    have eass : pre ++ backRow (HK t (x :: r)) = pre ++ [x - t + 1 + (r.length : Int), x - t + ((up t r).length : Int)] ++ backRow (HK (t + 1) (x1 :: r1)) := by rw [erow]; simp
    rw [← eass] at T1 O1
    have eB : (pre ++ backRow (HK t (x :: r))).getD (2 * tn + 1) 0 = x - t + (up t r).length := by
      have := getD_app pre (backRow (HK t (x :: r))) 1
      rw [hpre] at this; rw [this, erow]; rfl
    have eA : (pre ++ backRow (HK t (x :: r))).getD (2 * tn) 0 = x - t + 1 + r.length := by
      have := getD_app pre (backRow (HK t (x :: r))) 0
      rw [hpre] at this; rw [show 2 * tn = 2 * tn + 0 from rfl, this, erow]; rfl
    have hev := backRow_even (HK (t + 1) (x1 :: r1))
    generalize hrow : pre ++ backRow (HK t (x :: r)) = row at *
    have hlen : row.length = 2 * tn + 2 + (backRow (HK (t + 1) (x1 :: r1))).length := by rw [← hrow, erow]; simp [hpre]; omega
    have hi : (backRow (HK t (x :: r))).length / 2 = (backRow (HK (t + 1) (x1 :: r1))).length / 2 + 1 := by rw [erow]; simp; omega
    rw [hi]
    show TD W (backStep row W _ (backRun row W _ _)).2 _ ∧ (backStep row W _ (backRun row W _ _)).1 = _
    generalize hst : backRun row W (row.length / 2 - 1) ((backRow (HK (t + 1) (x1 :: r1))).length / 2) = st at *
    have ekk : 2 * (row.length / 2 - 1) - 2 * ((backRow (HK (t + 1) (x1 :: r1))).length / 2) = 2 * tn := by omega
    rw [ekk]
    have O2 : st.1 = 2 * x + 1 := by
      rw [O1, if_pos (by omega), show 2 * (tn + 1) - 1 = 2 * tn + 1 by omega, eB, hu, List.length_cons]
      omega
    have st2 := td_step (x := x) hr (by rw [hu]; exact T1)
    unfold backStep
    dsimp only
    rw [eA, eB, O2]
    refine ⟨?_, ?_⟩
    · have eo : x - t + 1 + (r.length : Int) - (x - t + (up t r).length) - 1 = (r.length : Int) - (up t r).length := by omega
      rw [eo, show ((2 * tn : Nat) : Int) + 1 = 2 * t + 1 by omega]
      exact st2
    · by_cases h : 0 < tn
      · rw [if_pos (by omega), if_pos h]
      · rw [if_neg (by omega), if_neg h]
theorem back_td (W : Int) {f : List Int} (g : Reg 0 f) (hne : f ≠ []) : TD W (backOf (HK 0 f) W) (f.map oddOf) := by
  cases f with
  | nil => exact absurd rfl hne
  | cons x r => exact (back_ok W g 0 [] rfl rfl).1
end
-- part Hk3
section
set_option Elab.async false
set_option maxHeartbeats 1000000
set_option linter.unusedVariables false
theorem look_key (c : List (Int × Int)) (k : Int) : k ∈ c.map (·.1) ↔ lookD c k ≠ none := by
  induction c with
  | nil => simp [look_nil]
  | cons p c ih =>
    rw [look_cons, List.map_cons, List.mem_cons, ih]
    by_cases h : p.1 = k
    · simp [h]
    · simp [h]
      exact fun q => absurd q.symm h
theorem look_mem {c : List (Int × Int)} (hn : (c.map (·.1)).Nodup) : ∀ p ∈ c, lookD c p.1 = some p.2 := by
  induction c with
  | nil => intro p hp; cases hp
  | cons q c ih =>
    intro p hp
    rw [List.map_cons, List.nodup_cons] at hn
    rw [look_cons]
    rcases List.mem_cons.mp hp with rfl | hp
    · rw [if_pos rfl]
    · have hne : q.1 ≠ p.1 := fun e => hn.1 (by rw [e]; exact List.mem_map_of_mem (f := (·.1)) hp)
      rw [if_neg hne, ih hn.2 p hp]
/-- two tables that count lists of the same counts -/
theorem td_same {W : Int} {c d : List (Int × Int)} {l l' : List Int} (hc : (c.map (·.1)).Nodup) (hd : (d.map (·.1)).Nodup) (tc : TD W c l) (td : TD W d l') (e : ∀ k, l.count k = l'.count k) :
    c.length = d.length ∧ ∀ p ∈ c, lookD d p.1 = some p.2 := by
  have hl : ∀ k, lookD c k = lookD d k := fun k => by rw [tc k, td k, e k]
  refine ⟨?_, fun p hp => by rw [← hl]; exact look_mem hc p hp⟩
  have := (List.perm_ext_iff_of_nodup hc hd).mpr fun k => by rw [look_key, look_key, hl]
  simpa using this.length_eq
/-- the first ones -/
def firstsN (l : List Int) : Nat → List Int
  | 0 => []
  | k + 1 => firstsN l k ++ if (l.take k).any (· == l.getD k 0) then [] else [l.getD k 0]
theorem take_succ' {l : List Int} {k : Nat} (h : k < l.length) : l.take (k + 1) = l.take k ++ [l.getD k 0] := by
  rw [List.take_add_one, List.getD_eq_getElem?_getD, List.getElem?_eq_getElem h]; rfl
theorem any_mem {l : List Int} {x : Int} : l.any (· == x) = true ↔ x ∈ l := by
  rw [List.any_eq_true]
  constructor
  · rintro ⟨y, hy, e⟩; rw [← beq_iff_eq.mp e]; exact hy
  · exact fun h => ⟨x, h, by simp⟩
theorem firsts_mem {l : List Int} : ∀ k, k ≤ l.length → ∀ v, v ∈ firstsN l k ↔ v ∈ l.take k
  | 0, _, v => by simp [firstsN]
  | k + 1, h, v => by
    rw [firstsN, List.mem_append, firsts_mem k (by omega) v, take_succ' (by omega), List.mem_append, List.mem_singleton]
    split
    · rename_i hin
      have := any_mem.mp hin
      constructor
      · rintro (q | q)
        · exact .inl q
        · cases q
      · rintro (q | q)
        · exact .inl q
        · exact .inl (q ▸ this)
    · rw [List.mem_singleton]
theorem firsts_nodup {l : List Int} : ∀ k, k ≤ l.length → (firstsN l k).Nodup
  | 0, _ => .nil
  | k + 1, h => by
    rw [firstsN]
    split
    · simpa using firsts_nodup (l := l) k (by omega)
    · rename_i hin
      refine List.nodup_append.mpr ⟨firsts_nodup (l := l) k (by omega), by simp, fun a ha b hb e => ?_⟩
      rw [List.mem_singleton.mp hb] at e
      exact hin (any_mem.mpr (e ▸ (firsts_mem (l := l) k (by omega) a).mp ha))
theorem tally_succ {W : Int} {l : List Int} {k : Nat} (h : k < l.length) : tally W (l.take (k + 1)) = addD (tally W (l.take k)) (l.getD k 0, W) := by
  unfold tally
  rw [take_succ' h, List.map_append, List.foldl_append]; rfl
theorem tally_firsts (W : Int) {l : List Int} : ∀ k, k ≤ l.length → tally W (l.take k) = (firstsN l k).map fun n => (n, ((l.take k).count n : Int) * W)
  | 0, _ => by simp [tally, firstsN]
  | k + 1, h => by
    have ih := tally_firsts W (l := l) k (by omega)
    have hl := tally_td W (l.take k) (l.getD k 0)
    rw [tally_succ (by omega), firstsN]
    by_cases hin : l.getD k 0 ∈ l.take k
    · rw [if_pos (any_mem.mpr hin), List.append_nil]
      have hc : (l.take k).count (l.getD k 0) ≠ 0 := fun q => List.count_eq_zero.mp q hin
      rw [if_neg hc] at hl
      rw [addD_some hl]
      unfold putD
      rw [look_any, hl]
      simp only [Option.isSome_some, if_true]
      rw [ih, List.map_map]
      refine List.map_congr_left fun n hn => ?_
      show (if n = l.getD k 0 then _ else _) = _
      rw [take_succ' (by omega), List.count_append]
      by_cases e : n = l.getD k 0
      · rw [if_pos e, ← e, List.count_singleton_self, Int.natCast_add, Int.add_mul]; simp
      · rw [if_neg e, List.count_singleton, if_neg (by simpa using fun q => e q.symm)]; simp
    · rw [if_neg (fun q => hin (any_mem.mp q))]
      have hc : (l.take k).count (l.getD k 0) = 0 := List.count_eq_zero.mpr hin
      rw [if_pos hc] at hl
      rw [addD_none hl]
      unfold putD
      rw [look_any, hl]
      simp only [Option.isSome_none, Bool.false_eq_true, if_false]
      rw [ih, List.map_append]
      congr 1
      · refine List.map_congr_left fun n hn => ?_
        have e : n ≠ l.getD k 0 := fun q => hin (q ▸ (firsts_mem k (by omega) n).mp hn)
        rw [take_succ' (by omega), List.count_append, List.count_singleton, if_neg (by simpa using fun q => e q.symm), Nat.add_zero]
      · rw [List.map_singleton, take_succ' (by omega), List.count_append, hc, List.count_singleton_self]; simp
theorem tally_all (W : Int) (l : List Int) : tally W l = (firstsN l l.length).map fun n => (n, (l.count n : Int) * W) := by
  have := tally_firsts W (l := l) l.length (Nat.le_refl _)
  rwa [List.take_length] at this
theorem firsts_self {l : List Int} (hn : l.Nodup) : ∀ k, k ≤ l.length → firstsN l k = l.take k
  | 0, _ => by simp [firstsN]
  | k + 1, h => by
    rw [firstsN, firsts_self hn k (by omega), take_succ' (by omega), if_neg]
    intro q
    have q' := any_mem.mp q
    have hn' : (l.take (k + 1)).Nodup := hn.sublist (List.take_sublist _ _)
    rw [take_succ' (by omega), List.nodup_append] at hn'
    exact hn'.2.2 _ q' _ (List.mem_singleton.mpr rfl) rfl
theorem tally_nodup (W : Int) {l : List Int} (hn : l.Nodup) : tally W l = l.map fun n => (n, W) := by
  rw [tally_all, firsts_self hn _ (Nat.le_refl _), List.take_length]
  refine List.map_congr_left fun n hm => ?_
  have h1 := List.nodup_iff_count.mp hn n
  have h2 := List.count_pos_iff.mpr hm
  have h3 : l.count n = 1 := by omega
  rw [h3]; simp
theorem sum_map_put (k u v : Int) : ∀ c : List (Int × Int), (c.map (·.1)).Nodup → lookD c k = some u → ((c.map fun p => if p.1 = k then (p.1, v) else p).map (·.2)).sum = (c.map (·.2)).sum + (v - u)
  | [], _, h => by simp [look_nil] at h
  | p :: c, hn, h => by
    rw [List.map_cons, List.nodup_cons] at hn
    rw [look_cons] at h
    rw [List.map_cons, List.map_cons, List.map_cons, List.sum_cons, List.sum_cons]
    by_cases e : p.1 = k
    · rw [if_pos e] at h
      have : c.map (fun p => if p.1 = k then (p.1, v) else p) = c := by
        conv => rhs; rw [← List.map_id c]
        refine List.map_congr_left fun q hq => ?_
        rw [if_neg (fun e' => hn.1 (by rw [e, ← e']; exact List.mem_map_of_mem hq))]; rfl
      rw [this, if_pos e, ← Option.some.inj h]
      dsimp only; omega
    · rw [if_neg e] at h
      rw [sum_map_put k u v c hn.2 h, if_neg e]; omega
theorem sum_add {c : List (Int × Int)} (hn : (c.map (·.1)).Nodup) (k v : Int) : ((addD c (k, v)).map (·.2)).sum = (c.map (·.2)).sum + v := by
  cases h : lookD c k with
  | none =>
    rw [addD_none h]
    unfold putD
    rw [look_any, h]
    simp
  | some u =>
    rw [addD_some h]
    unfold putD
    rw [look_any, h]
    simp only [Option.isSome_some, if_true]
    rw [sum_map_put k u (u + v) c hn h]; omega
theorem tally_keys (W : Int) (l : List Int) : ((tally W l).map (·.1)).Nodup := by
  rw [tally_all, List.map_map]
  have : ((fun p : Int × Int => p.1) ∘ fun n => (n, (l.count n : Int) * W)) = id := rfl
  rw [this, List.map_id]
  exact firsts_nodup _ (Nat.le_refl _)
theorem tally_sum (W : Int) {l : List Int} : ∀ k, k ≤ l.length → ((tally W (l.take k)).map (·.2)).sum = (k : Int) * W
  | 0, _ => by simp [tally]
  | k + 1, h => by
    rw [tally_succ (by omega), sum_add (tally_keys W _), tally_sum W (l := l) k (by omega), Int.natCast_add, Int.add_mul]; simp
theorem tally_total (W : Int) (l : List Int) : ((tally W l).map (·.2)).sum = (l.length : Int) * W := by
  have := tally_sum W (l := l) l.length (Nat.le_refl _)
  rwa [List.take_length] at this
end
-- part Hk4
section
set_option Elab.async false
set_option maxHeartbeats 1000000
set_option linter.unusedVariables false
/-- the part of a falling list that hooks from t on cover -/
def reg (k : Nat) (f : List Int) : List Int := (f.drop k).filter fun v => decide ((k : Int) ≤ v)
theorem reg_up (k : Nat) (f : List Int) : up k ((f.drop (k + 1)).filter fun v => decide ((k : Int) ≤ v)) = reg (k + 1) f := by
  unfold up reg
  rw [List.filter_filter]
  refine List.filter_congr fun v _ => ?_
  by_cases h : (k : Int) < v
  · simp [h]; omega
  · simp [h]; omega
theorem reg_ok {f : List Int} (hf : f.Pairwise (· ≥ ·)) (k : Nat) : Reg k (reg k f) :=
  ⟨(hf.sublist (List.drop_sublist _ _)).filter _, fun x hx => by simpa using (List.mem_filter.mp hx).2⟩
theorem getD_at {f : List Int} {k : Nat} (h : k < f.length) : f.getD k 0 = f[k] := by rw [List.getD_eq_getElem?_getD, List.getElem?_eq_getElem h]; rfl
theorem reg_cons {f : List Int} {k : Nat} (h : k < f.length) (h' : (k : Int) ≤ f.getD k 0) : reg k f = f.getD k 0 :: (f.drop (k + 1)).filter fun v => decide ((k : Int) ≤ v) := by
  rw [getD_at h] at h' ⊢
  unfold reg
  rw [List.drop_eq_getElem_cons h, List.filter_cons_of_pos (by simpa using h')]
theorem fall_get {f : List Int} (hf : f.Pairwise (· ≥ ·)) {i j : Nat} (hij : i ≤ j) (hj : j < f.length) : f.getD j 0 ≤ f.getD i 0 := by
  rw [getD_at hj, getD_at (by omega)]
  rcases Nat.lt_or_eq_of_le hij with h | rfl
  · exact List.pairwise_iff_getElem.mp hf i j (by omega) hj h
  · exact Int.le_refl _
theorem drop_mem {f : List Int} {k : Nat} {v : Int} (h : v ∈ f.drop k) : ∃ j, k ≤ j ∧ j < f.length ∧ f.getD j 0 = v := by
  obtain ⟨i, hi, e⟩ := List.getElem_of_mem h
  rw [List.length_drop] at hi
  refine ⟨k + i, by omega, by omega, ?_⟩
  rw [getD_at (by omega), ← e, List.getElem_drop]
theorem reg_nil {f : List Int} (hf : f.Pairwise (· ≥ ·)) {k : Nat} (h : k < f.length → f.getD k 0 < k) : reg k f = [] := by
  refine List.filter_eq_nil_iff.mpr fun v hv => ?_
  obtain ⟨j, h1, h2, rfl⟩ := drop_mem hv
  have e1 := fall_get hf h1 h2
  have e2 := h (by omega)
  simp only [decide_eq_true_eq]; omega
theorem cnt_split {f : List Int} (q : Int → Bool) (c : Nat) (hc : c ≤ f.length) (h : ∀ i, i < c → q (f.getD i 0) = true) : f.countP q = c + ((f.drop c).filter q).length := by
  conv => lhs; rw [← List.take_append_drop c f]
  rw [List.countP_append, List.countP_eq_length_filter (l := f.drop c), List.countP_eq_length.mpr, List.length_take, Nat.min_eq_left hc]
  intro v hv
  obtain ⟨i, hi, e⟩ := List.getElem_of_mem hv
  rw [List.length_take] at hi
  have := h i (by omega)
  rw [getD_at (by omega)] at this
  rw [← e, List.getElem_take]; exact this
theorem cnt_two {f : List Int} (p q : Int → Bool) (hpq : ∀ v, p v = !q v) : f.countP p + f.countP q = f.length := by
  have := List.length_eq_countP_add_countP q (l := f)
  have e : f.countP p = f.countP (fun a => decide ¬ q a = true) := List.countP_congr fun v _ => by rw [hpq v]; cases q v <;> simp
  omega
theorem rev_get {ns : List Int} {k : Nat} (h : k < ns.length) : ns.getD (ns.length - (k + 1)) 0 = ns.reverse.getD k 0 := by
  rw [getD_at (by omega), getD_at (by simpa using h), List.getElem_reverse]
  congr 1; omega
theorem hookA_eq {ns : List Int} (hs : ns.Pairwise (· ≤ ·)) {k : Nat} (h : k < ns.length) (h' : (k : Int) ≤ ns.reverse.getD k 0) :
    hookA ns (k + 1) = ns.reverse.getD k 0 - k + 1 + ((ns.reverse.drop (k + 1)).filter fun v => decide ((k : Int) ≤ v)).length := by
  have hf : ns.reverse.Pairwise (· ≥ ·) := List.pairwise_reverse.mpr hs
  have hl : k < ns.reverse.length := by simpa using h
  have e1 := cnt_split (f := ns.reverse) (fun v => decide ((k : Int) ≤ v)) (k + 1) (by omega) fun i hi => by
    have := fall_get hf (show i ≤ k by omega) hl
    exact decide_eq_true (by omega)
  have e2 := cnt_two (f := ns.reverse) (fun v => decide (v < ((k + 1 : Nat) : Int) - 1)) (fun v => decide ((k : Int) ≤ v)) fun v => by
    rw [← decide_not]; exact decide_eq_decide.mpr (by omega)
  rw [List.countP_reverse, List.length_reverse] at e2
  unfold hookA
  rw [rev_get h]
  rw [e1] at e2
  omega
theorem hookB_eq {ns : List Int} (hs : ns.Pairwise (· ≤ ·)) {k : Nat} (h : k < ns.length) (h' : (k : Int) < ns.reverse.getD k 0) :
    hookB ns (k + 1) = ns.reverse.getD k 0 - k + (reg (k + 1) ns.reverse).length := by
  have hf : ns.reverse.Pairwise (· ≥ ·) := List.pairwise_reverse.mpr hs
  have hl : k < ns.reverse.length := by simpa using h
  have e1 := cnt_split (f := ns.reverse) (fun v => decide (((k + 1 : Nat) : Int) ≤ v)) (k + 1) (by omega) fun i hi => by
    have := fall_get hf (show i ≤ k by omega) hl
    exact decide_eq_true (by omega)
  have e2 := cnt_two (f := ns.reverse) (fun v => decide (¬ ((k + 1 : Nat) : Int) - 1 < v)) (fun v => decide (((k + 1 : Nat) : Int) ≤ v)) fun v => by
    rw [← decide_not]; exact decide_eq_decide.mpr (by omega)
  rw [List.countP_reverse, List.length_reverse] at e2
  unfold hookB
  rw [rev_get h]
  rw [e1] at e2
  unfold reg
  omega
theorem hooks_hk {ns : List Int} (hs : ns.Pairwise (· ≤ ·)) (n : Nat) (T : Turn ns.length (fun i => !turnAt ns (1 + i)) n n) : ∀ k, k ≤ n → hooksN ns k ++ HK k (reg k ns.reverse) = HK 0 (reg 0 ns.reverse)
  | 0, _ => rfl
  | k + 1, hk => by
    have hf : ns.reverse.Pairwise (· ≥ ·) := List.pairwise_reverse.mpr hs
    obtain ⟨_, _, T3, T4, T5⟩ := id T
    have hlt : k < ns.length := by omega
    have hl : k < ns.reverse.length := by simpa using hlt
    have htk := T4 k (by omega)
    simp only [turnAt, Bool.not_eq_true', decide_eq_false_iff_not] at htk
    have ei : ((ns.length : Int) - (1 + (k : Int))).toNat = ns.length - (k + 1) := by omega
    rw [ei, rev_get hlt] at htk
    have hle : (k : Int) ≤ ns.reverse.getD k 0 := by omega
    rw [← hooks_hk hs n T k (by omega), reg_cons hl hle, hk_cons, hooksN, List.append_assoc]
    congr 1
    rw [hookA_eq hs hlt hle, reg_up, rev_get hlt]
    by_cases h : (k : Int) < ns.reverse.getD k 0
    · rw [if_pos (by omega), if_pos h, hookB_eq hs hlt h]
      rw [show ((k + 1 : Nat) : Int) = (k : Int) + 1 by omega]; rfl
    · rw [if_neg (by omega), if_neg h]
      have : reg (k + 1) ns.reverse = [] := reg_nil hf fun h1 => by
        have := fall_get hf (show k ≤ k + 1 by omega) h1
        omega
      rw [this, hk_nil]; rfl
theorem hooks_eq {ns : List Int} (hs : ns.Pairwise (· ≤ ·)) (hb : ∀ v ∈ ns, 0 ≤ v) {n : Nat} (T : Turn ns.length (fun i => !turnAt ns (1 + i)) n n) : hooksN ns n = HK 0 ns.reverse := by
  have hf : ns.reverse.Pairwise (· ≥ ·) := List.pairwise_reverse.mpr hs
  have e := hooks_hk hs n T n (Nat.le_refl _)
  have e0 : reg 0 ns.reverse = ns.reverse := List.filter_eq_self.mpr fun v hv => by simpa using hb v (List.mem_reverse.mp hv)
  have en : reg n ns.reverse = [] := reg_nil hf fun h => by
    have h' : n < ns.length := by simpa using h
    have := T.2.2.2.2 n (by omega) h'
    simp only [turnAt, Bool.not_eq_false', decide_eq_true_eq] at this
    have ei : ((ns.length : Int) - (1 + (n : Int))).toNat = ns.length - (n + 1) := by omega
    rw [ei, rev_get h'] at this
    omega
  rw [en, hk_nil, List.append_nil, e0] at e
  exact e
theorem bump_get (sz : List Int) (k x : Nat) (hx : x < sz.length) : (bump sz k).getD x 0 = sz.getD x 0 + if k = x then 1 else 0 := by
  unfold bump
  rw [List.getD_eq_getElem?_getD, List.getElem?_set]
  by_cases h : k = x
  · subst h; simp [hx]
  · rw [if_neg h, if_neg h, List.getD_eq_getElem?_getD]; simp
def cA (i t q : Nat) : Nat := if t < i then (if t < q then 1 else 0) else if t = i then q - i else 0
theorem cA_succ (i t q : Nat) : cA i t (q + 1) = cA i t q + if min i q = t then 1 else 0 := by
  unfold cA
  split
  · split <;> split <;> split <;> omega
  · split
    · split <;> omega
    · split <;> omega
theorem cA_zero (i t : Nat) : cA i t 0 = 0 := by unfold cA; split <;> simp
theorem cellA_get (i : Nat) (sz : List Int) (t : Nat) (ht : 2 * t + 1 < sz.length) : ∀ q, (cellA i sz q).getD (2 * t) 0 = sz.getD (2 * t) 0 + cA i t q ∧ (cellA i sz q).getD (2 * t + 1) 0 = sz.getD (2 * t + 1) 0
  | 0 => by rw [cA_zero]; exact ⟨by simp [cellA], rfl⟩
  | q + 1 => by
    obtain ⟨e1, e2⟩ := cellA_get i sz t ht q
    have hl := cellA_len i sz q
    refine ⟨?_, ?_⟩
    · rw [cellA, bump_get _ _ _ (by omega), e1, cA_succ]
      by_cases h : min i q = t
      · rw [if_pos (by omega), if_pos h]; omega
      · rw [if_neg (by omega), if_neg h]; omega
    · rw [cellA, bump_get _ _ _ (by omega), e2, if_neg (by omega)]; omega
theorem cellB_get (i : Nat) (sz : List Int) (t : Nat) (ht : 2 * t + 1 < sz.length) : ∀ q, (cellB i sz q).getD (2 * t) 0 = sz.getD (2 * t) 0 ∧ (cellB i sz q).getD (2 * t + 1) 0 = sz.getD (2 * t + 1) 0 + cA i t q
  | 0 => by rw [cA_zero]; exact ⟨rfl, by simp [cellB]⟩
  | q + 1 => by
    obtain ⟨e1, e2⟩ := cellB_get i sz t ht q
    have hl := cellB_len i sz q
    refine ⟨?_, ?_⟩
    · rw [cellB, bump_get _ _ _ (by omega), e1, if_neg (by omega)]; omega
    · rw [cellB, bump_get _ _ _ (by omega), e2, cA_succ]
      by_cases h : min i q = t
      · rw [if_pos (by omega), if_pos h]; omega
      · rw [if_neg (by omega), if_neg h]; omega
def SA (f : List Int) (e : Int → Nat) (t : Nat) : Nat → Nat
  | 0 => 0
  | n + 1 => SA f e t n + cA n t (e (f.getD n 0))
theorem rows_get (f z : List Int) (t : Nat) (ht : 2 * t + 1 < z.length) : ∀ n, (cellRows f z n).getD (2 * t) 0 = z.getD (2 * t) 0 + SA f (fun v => (v + 1).toNat) t n ∧ (cellRows f z n).getD (2 * t + 1) 0 = z.getD (2 * t + 1) 0 + SA f (fun v => v.toNat) t n
  | 0 => ⟨by simp [cellRows, SA], by simp [cellRows, SA]⟩
  | n + 1 => by
    obtain ⟨e1, e2⟩ := rows_get f z t ht n
    have hl := cellRows_len f z n
    obtain ⟨a1, a2⟩ := cellA_get n (cellRows f z n) t (by omega) (f.getD n 0 + 1).toNat
    obtain ⟨b1, b2⟩ := cellB_get n (cellA n (cellRows f z n) (f.getD n 0 + 1).toNat) t (by rw [cellA_len]; omega) (f.getD n 0).toNat
    rw [cellRows, b1, b2, a1, a2, e1, e2, SA, SA]
    constructor <;> omega
theorem SA_eq (f : List Int) (e : Int → Nat) (t : Nat) : ∀ n, n ≤ f.length → SA f e t n = if n ≤ t then 0 else (e (f.getD t 0) - t) + ((f.take n).drop (t + 1)).countP fun v => decide (t < e v)
  | 0, _ => by simp [SA]
  | n + 1, h => by
    rw [SA, SA_eq f e t n (by omega)]
    unfold cA
    by_cases h1 : n < t
    · rw [if_pos (show n ≤ t by omega), if_neg (show ¬ t < n by omega), if_neg (show ¬ t = n by omega), if_pos (show n + 1 ≤ t by omega)]
    · rw [if_neg (show ¬ n + 1 ≤ t by omega)]
      by_cases h2 : n = t
      · subst h2
        rw [if_pos (show n ≤ n by omega), if_neg (show ¬ n < n by omega), if_pos rfl, List.drop_eq_nil_of_le (by rw [List.length_take]; omega)]
        simp
      · rw [if_neg (show ¬ n ≤ t by omega), if_pos (show t < n by omega), take_succ' (by omega), List.drop_append_of_le_length (by rw [List.length_take]; omega), List.countP_append, List.countP_singleton]
        simp only [decide_eq_true_eq]
        omega
theorem SA_all (f : List Int) (e : Int → Nat) (t : Nat) : SA f e t f.length = if f.length ≤ t then 0 else (e (f.getD t 0) - t) + ((f.drop (t + 1)).filter fun v => decide (t < e v)).length := by
  rw [SA_eq f e t f.length (Nat.le_refl _), List.take_length, List.countP_eq_length_filter]
theorem cells_hk {f : List Int} (hf : f.Pairwise (· ≥ ·)) : ∀ j t, t + j = f.length + 1 →
    ((cellRows f (List.replicate (2 * f.length + 2) 0) f.length).drop (2 * t)).filter (fun v => decide (0 < v)) = HK t (reg t f)
  | 0, t, h => by
    have hl := cellRows_len f (List.replicate (2 * f.length + 2) 0) f.length
    rw [List.length_replicate] at hl
    rw [List.drop_eq_nil_of_le (by omega), reg_nil hf (fun q => by omega), hk_nil]; rfl
  | j + 1, t, h => by
    have hl := cellRows_len f (List.replicate (2 * f.length + 2) 0) f.length
    rw [List.length_replicate] at hl
    have ih := cells_hk hf j (t + 1) (by omega)
    obtain ⟨e1, e2⟩ := rows_get f (List.replicate (2 * f.length + 2) 0) t (by rw [List.length_replicate]; omega) f.length
    have z : ∀ i, (List.replicate (2 * f.length + 2) (0 : Int)).getD i 0 = 0 := fun i => by
      rw [List.getD_eq_getElem?_getD, List.getElem?_replicate]; split <;> rfl
    rw [z, SA_all] at e1 e2
    generalize hsz : cellRows f (List.replicate (2 * f.length + 2) 0) f.length = sz at *
    have ed : sz.drop (2 * t) = sz.getD (2 * t) 0 :: sz.getD (2 * t + 1) 0 :: sz.drop (2 * (t + 1)) := by
      rw [List.drop_eq_getElem_cons (by omega), List.drop_eq_getElem_cons (by omega), getD_at (by omega), getD_at (by omega)]
      rfl
    rw [ed]
    by_cases hc : t < f.length ∧ (t : Int) ≤ f.getD t 0
    · obtain ⟨h1, h2⟩ := hc
      rw [if_neg (by omega)] at e1 e2
      have c1 : (f.drop (t + 1)).filter (fun v => decide (t < (v + 1).toNat)) = (f.drop (t + 1)).filter fun v => decide ((t : Int) ≤ v) := List.filter_congr fun v _ => decide_eq_decide.mpr (by omega)
      have c2 : (f.drop (t + 1)).filter (fun v => decide (t < v.toNat)) = reg (t + 1) f := by
        unfold reg; exact List.filter_congr fun v _ => decide_eq_decide.mpr (by omega)
      rw [c1] at e1
      rw [c2] at e2
      have p0 : (fun v : Int => decide (0 < v)) (sz.getD (2 * t) 0) = true := decide_eq_true (by omega)
      rw [reg_cons h1 h2, hk_cons, reg_up, List.filter_cons_of_pos (p := fun v : Int => decide (0 < v)) p0]
      congr 1
      · omega
      · by_cases h3 : (t : Int) < f.getD t 0
        · have p1 : (fun v : Int => decide (0 < v)) (sz.getD (2 * t + 1) 0) = true := decide_eq_true (by omega)
          rw [if_pos h3, List.filter_cons_of_pos (p := fun v : Int => decide (0 < v)) p1, ih]
          congr 1
          omega
        · have hnil : reg (t + 1) f = [] := reg_nil hf fun q => by
            have := fall_get hf (show t ≤ t + 1 by omega) q
            omega
          rw [hnil] at e2 ih
          have p1 : ¬ (fun v : Int => decide (0 < v)) (sz.getD (2 * t + 1) 0) = true := by
            simp only [decide_eq_true_eq]; simp only [List.length_nil] at e2; omega
          rw [if_neg h3, List.filter_cons_of_neg (p := fun v : Int => decide (0 < v)) p1, ih, hk_nil]
    · have hn : reg t f = [] := reg_nil hf fun q => by
        refine Decidable.byContradiction fun q' => hc ⟨q, by omega⟩
      have hn' : reg (t + 1) f = [] := reg_nil hf fun q => by
        have := fall_get hf (show t ≤ t + 1 by omega) q
        refine Decidable.byContradiction fun q' => hc ⟨by omega, by omega⟩
      have z1 : sz.getD (2 * t) 0 = 0 := by
        rw [e1]
        split
        · rfl
        · have : (f.drop (t + 1)).filter (fun v => decide (t < (v + 1).toNat)) = [] := List.filter_eq_nil_iff.mpr fun v hv => by
            obtain ⟨i, i1, i2, rfl⟩ := drop_mem hv
            have := fall_get hf (show t ≤ i by omega) i2
            have : ¬ ((t : Int) ≤ f.getD t 0) := fun q => hc ⟨by omega, q⟩
            simp only [decide_eq_true_eq]; omega
          rw [this]
          have : ¬ ((t : Int) ≤ f.getD t 0) := fun q => hc ⟨by omega, q⟩
          simp only [List.length_nil]; omega
      have z2 : sz.getD (2 * t + 1) 0 = 0 := by
        rw [e2]
        split
        · rfl
        · have : (f.drop (t + 1)).filter (fun v => decide (t < v.toNat)) = [] := List.filter_eq_nil_iff.mpr fun v hv => by
            obtain ⟨i, i1, i2, rfl⟩ := drop_mem hv
            have := fall_get hf (show t ≤ i by omega) i2
            have : ¬ ((t : Int) ≤ f.getD t 0) := fun q => hc ⟨by omega, q⟩
            simp only [decide_eq_true_eq]; omega
          rw [this]
          have : ¬ ((t : Int) ≤ f.getD t 0) := fun q => hc ⟨by omega, q⟩
          simp only [List.length_nil]; omega
      rw [z1, z2, List.filter_cons_of_neg (by decide), List.filter_cons_of_neg (by decide), ih, hn, hn', hk_nil, hk_nil]
theorem cells_eq {f : List Int} (hf : f.Pairwise (· ≥ ·)) (hb : ∀ v ∈ f, 0 ≤ v) : cellsOf f = HK 0 f := by
  have e0 : reg 0 f = f := List.filter_eq_self.mpr fun v hv => by simpa using hb v hv
  have := cells_hk hf (f.length + 1) 0 (by omega)
  rw [e0] at this
  exact this
end
-- part b15
section
theorem same_fn {w : World} {oc oc' : Value} {od od' : Option Addr} {name name' qual qual' : Str} {params params' : Arguments} {body body' : List Stmt} {scope scope' : Scope} {dV dV' kV kV' doc doc' pm pm' cdv cdv' ct ct' : Value} {an an' : Option Addr} {osl osl' : Array (Option Value)} {f : Addr}
    (h : (hd.heap_39 w.params).lookup f = some ⟨oc, od, .func (fnOf name qual params body scope dV kV doc pm an cdv ct), osl⟩) (h' : (hd.heap_39 w.params).lookup f = some ⟨oc', od', .func (fnOf name' qual' params' body' scope' dV' kV' doc' pm' an' cdv' ct'), osl'⟩) : body = body' ∧ scope = scope' := by
  rw [h] at h'
  have e := Option.some.inj h'
  simp only [Obj.mk.injEq, Data.func.injEq, fnOf, FuncData.mk.injEq] at e
  obtain ⟨_, _, e, _⟩ := e
  have e1 := e.2.2.2.1
  have e2 := e.2.2.2.2.1
  injection e1 with e1
  exact ⟨e1, e2⟩
theorem halves_bound (nn : List Int) : ∀ v ∈ halvesOf nn, 0 ≤ v ∧ v ≤ 5 := fun v hv => by
  unfold halvesOf at hv
  obtain ⟨x, _, hx⟩ := List.mem_flatMap.mp hv
  have e := List.eq_of_mem_replicate hx
  rw [Int.fmod_eq_emod_of_nonneg _ (by omega)] at e
  omega
theorem halves_ne {nn : List Int} (h : 0 < nn.length) : halvesOf nn ≠ [] := fun e => by
  cases nn with
  | nil => simp at h
  | cons x r =>
    unfold halvesOf at e
    rw [List.flatMap_cons] at e
    have e1 := List.append_eq_nil_iff.mp e |>.1
    rcases two_cases (x.fdiv 6) with q | q <;> rw [q] at e1 <;> simp at e1
theorem odd_half (H : List Int) : ((H.map oddOf).map fun n => n.fdiv 2) = H := by
  rw [List.map_map]
  conv => rhs; rw [← List.map_id H]
  refine List.map_congr_left fun x _ => ?_
  show (2 * x + 1).fdiv 2 = x
  rw [Int.fdiv_eq_ediv_of_nonneg _ (by omega)]; omega
theorem sum_mulW (W : Int) : ∀ l : List Int, (l.map fun n => n * W).sum = l.sum * W
  | [] => by simp
  | x :: l => by rw [List.map_cons, List.sum_cons, List.sum_cons, sum_mulW W l, Int.add_mul]
theorem sum_low {b : Int} (h0 : 0 ≤ b) : ∀ l : List Int, (∀ x ∈ l, 0 ≤ x ∧ x ≤ b) → 0 ≤ l.sum ∧ l.sum ≤ b * l.length
  | [], _ => by simp
  | x :: l, h => by
    have h1 := h x List.mem_cons_self
    have h2 := sum_low h0 l fun y hy => h y (List.mem_cons_of_mem _ hy)
    rw [List.sum_cons, List.length_cons, Int.natCast_add, Int.mul_add]
    omega
theorem perm_sum {l l' : List Int} (p : l.Perm l') : l.sum = l'.sum := by
  induction p with
  | nil => rfl
  | cons x _ ih => rw [List.sum_cons, List.sum_cons, ih]
  | swap x y l => simp only [List.sum_cons]; omega
  | trans _ _ ih1 ih2 => rw [ih1, ih2]
theorem gone_before {h hc : Heap} {D : Addr} (k : Ext h hc) (f : hc.get? D = none) : h.get? D = none := by
  cases q : h.get? D with
  | none => rfl
  | some o => rw [k _ _ q] at f; cases f
theorem comp_fp {hc h : Heap} {ci r : Addr} {o : Obj} {n : Nat} (hci : hc.IsListIter ci r n) (kci : Ext h hc) (ho : h.get? r = some o) : ∀ b ∈ [ci, r], b < hc.objs.size := by
  refine all1 ?_ (all1 ?_ all0)
  · obtain ⟨o, ho, _⟩ := hci
    exact Heap.lt_size ho
  · exact Heap.lt_size (kci _ _ ho)
theorem fw2 {h : Heap} {e i : Addr} (fe : h.get? e = none) (fi : h.get? i = none) : ∀ b ∈ [e, i], h.get? b = none := all1 fe (all1 fi all0)
theorem fwOne {h : Heap} {e : Addr} (fe : h.get? e = none) : ∀ b ∈ [e], h.get? b = none := all1 fe all0
theorem comp_keep {h hc h' : Heap} {wr : List Addr} {C : Addr} {mc : Str → Option Value} (fw : ∀ b ∈ wr, h.get? b = none) (k : Ext h hc) (F : Fr (hideAll hc wr) C h' mc) : Ext h h' := fun b o e =>
  F.keep _ _ (hideAll_get wr (k _ _ e) fun q => by rw [fw b q] at e; cases e)
theorem drop1 {h₀ h h' : Heap} {L C : Addr} {m : Str → Option Value} {o : Obj} {rest : List (Addr × Obj)} (F : Fr h₀ L h m) (N : News h₀ L h ((C, o) :: rest)) (hr : ∀ p ∈ rest, p.1 ≠ C) (sb : Heap.SameBut C h h') : Fr h₀ L h' m ∧ News h₀ L h' rest := by
  have D := N _ mem0
  refine ⟨⟨F.ns.at' fun o e => (sb.2 _ (Ne.symm D.2.1)).trans e, fun b o e => (sb.2 b ?_).trans (F.keep b o e), F.above⟩, fun p hp => ⟨(sb.2 _ (hr p hp)).trans (N p (mem1 hp)).1, (N p (mem1 hp)).2⟩⟩
  rintro rfl
  rw [D.2.2] at e; cases e
theorem comp_kept {h hc h' : Heap} {wr : List Addr} (fw : ∀ b ∈ wr, h.get? b = none) (k : Ext h hc) (kk : ∀ b o, b ∉ wr → hc.get? b = some o → h'.get? b = some o) : Ext h h' := fun b o e =>
  kk b o (fun q => by rw [fw b q] at e; cases e) (k _ _ e)
theorem News.less {h₀ h : Heap} {L : Addr} {l l' : List (Addr × Obj)} (N : News h₀ L h l) (hs : ∀ p ∈ l', p ∈ l) : News h₀ L h l' := fun p hp => N p (hs p hp)
theorem ne_cell {h : Heap} {a c : Addr} {oa oc : Obj} {v : Option Value} (ha : h.get? a = some oa) (hc : h.get? c = some oc) (hd : oc.data = .cell v) (hn : ∀ v, oa.data ≠ .cell v) : a ≠ c := fun e => by
  rw [e, hc] at ha; cases ha; exact hn _ hd
theorem di_ne {prog : Program} {w : World} {d : Addr} {o : Obj} {c : List (Int × Int)} (D : DI prog w d o c) : ∀ v, o.data ≠ .cell v := fun v e => by
  obtain ⟨_, kvs, ⟨es, ep, _, hd, _⟩, _⟩ := D
  rw [hd] at e; cases e
abbrev PT := Addr × Int × Int × Tok × Tok
def ptOne (x : PT) : Addr × Obj := (x.1, tup [.int x.2.1 x.2.2.2.1, .int x.2.2.1 x.2.2.2.2])
def ptNew (c : List PT) : List (Addr × Obj) := c.map ptOne
def ptVals (c : List PT) : List Value := c.map fun x => .ref x.1
def ptPairs (c : List PT) : List (Int × Int) := c.map fun x => (x.2.1, x.2.2.1)
theorem pt_pairs {h : Heap} : ∀ c : List PT, (∀ p ∈ ptNew c, h.get? p.1 = some p.2) → PairsAt h (ptVals c) (ptPairs c)
  | [], _ => .nil
  | x :: c, hh => .cons (hh (ptOne x) mem0) (pt_pairs c fun p hp => hh p (mem1 hp))
theorem pt_less {c : List PT} {x : PT} {D : Addr × Obj} {own : List (Addr × Obj)} : ∀ p ∈ D :: (ptNew (c ++ [x]) ++ own), p ∈ ptOne x :: D :: (ptNew c ++ own) := fun p hp => by
  unfold ptNew at *
  simp only [List.map_append, List.map_cons, List.map_nil, List.mem_cons, List.mem_append, List.not_mem_nil, or_false] at hp ⊢
  rcases hp with hp | (hp | hp) | hp
  · exact .inr (.inl hp)
  · exact .inr (.inr (.inl hp))
  · exact .inl hp
  · exact .inr (.inr (.inr hp))
theorem pt_off {h₀ h : Heap} {C D : Addr} {c : List PT} {x : PT} {wr : List Addr} {own : List (Addr × Obj)} {oD : Obj} (N : News h₀ C h ((D, oD) :: (ptNew c ++ own))) (hoff : ∀ p ∈ ptNew c, p.1 ∉ D :: wr) (hlive : ∀ b ∈ D :: wr, ∃ o, (b, o) ∈ (D, oD) :: own) (hr : h.get? x.1 = none) :
    ∀ p ∈ ptNew (c ++ [x]), p.1 ∉ D :: wr := fun p hp => by
  unfold ptNew at hp
  rw [List.map_append] at hp
  rcases List.mem_append.mp hp with hp | hp
  · exact hoff p hp
  · have e : p = ptOne x := by simpa using hp
    rw [e]
    intro q
    obtain ⟨o, ho⟩ := hlive _ q
    have : (x.1, o) ∈ (D, oD) :: (ptNew c ++ own) := by
      rcases List.mem_cons.mp ho with h1 | h1
      · have h1' : (x.1, o) = (D, oD) := h1
        rw [h1']; exact mem0
      · exact mem1 (List.mem_append_right _ h1)
    have := (N _ this).1
    rw [hr] at this; cases this
end
-- part b14
section
theorem free_count (x : Int) : ∀ l : List Int, (l.countP fun v => decide (¬ x < v)) = (l.countP fun v => decide (v < x)) + l.count x
  | [] => rfl
  | v :: l => by
    rw [List.countP_cons, List.countP_cons, List.count_cons, free_count x l]
    rcases Int.lt_trichotomy v x with q | q | q
    · have a : ¬ x < v := by omega
      have b : ¬ v = x := by omega
      simp [q, a, b]; omega
    · subst q; simp; omega
    · have a : ¬ v < x := by omega
      have b : ¬ v = x := by omega
      simp [q, a, b]
abbrev freeOf (R : List Int) (n : Int) : Bool := (((R.countP fun v => decide (v < n + 1)) : Nat) : Int) == ((R.countP fun v => decide (¬ n + 1 < v) : Nat) : Int)
theorem free_iff (R : List Int) (n : Int) : freeOf R n = decide (n + 1 ∉ R) := by
  unfold freeOf
  rw [free_count]
  by_cases q : n + 1 ∈ R
  · have := List.count_pos_iff.mpr q
    rw [decide_eq_false (fun e => e q)]
    exact beq_eq_false_iff_ne.mpr (by omega)
  · rw [decide_eq_true q, List.count_eq_zero.mpr q]
    exact beq_iff_eq.mpr (by omega)
theorem ends_firsts {odds X f H : List Int} (hodds : odds = H.map oddOf) (hX : X = HK 0 f) (g : Reg 0 f) (hfp : f.Perm H) :
    (X.filter (freeOf X.reverse)).length = (firstsN odds odds.length).length := by
  have hXf : X.Pairwise (· > ·) := by rw [hX]; exact hk_fall g
  have e : (fun n => freeOf X.reverse n) = fun n => decide (n + 1 ∉ X) := by
    funext n; rw [free_iff]; exact decide_eq_decide.mpr (by rw [List.mem_reverse])
  show (X.filter fun n => freeOf X.reverse n).length = _
  rw [e, ends_filter X hXf]
  obtain ⟨D, hn, hm, hl⟩ := hk_ends g
  rw [hX, ← hl]
  have hinj : ∀ a b : Int, oddOf a = oddOf b → a = b := fun a b q => by unfold oddOf at q; omega
  have hn' : (D.map oddOf).Nodup := List.pairwise_map.mpr (hn.imp fun hab q => hab (hinj _ _ q))
  have := (List.perm_ext_iff_of_nodup hn' (firsts_nodup odds.length (Nat.le_refl _))).mpr fun v => by
    rw [firsts_mem _ (Nat.le_refl _), List.take_length, hodds, List.mem_map, List.mem_map]
    constructor
    · rintro ⟨a, ha, rfl⟩; exact ⟨a, hfp.mem_iff.mp ((hm a).mp ha), rfl⟩
    · rintro ⟨a, ha, rfl⟩; exact ⟨a, (hm a).mpr (hfp.mem_iff.mpr ha), rfl⟩
  have := this.length_eq
  rwa [List.length_map] at this
theorem law_end {prog : Program} {w : World} {mg mb : Str → Option Value} {A : Around} {s : Shared} {gh h : Heap} {L : Addr} {t : Nat} {m : Str → Option Value} {oW o3 : Obj} {rX r1 e1 rF : Addr} {q1 : Obj} {vX vF : List Value} {nX nF : Nat} {odds X f H : List Int} {W : Int} {uW : Tok} {ps : Array Value}
    {x0 x1 x2 x3 : Value}
    {name qual : Str} {params : Arguments} {body : List Stmt} {scope : Scope} {dV kV doc pm ct oc : Value} {an od : Option Addr} {osl : Array (Option Value)} {cd : Value} {fa : Addr}
    (hK : (hd.heap_39 w.params).lookup 116 = some ⟨oc, od, .func (fnOf name qual params body scope dV kV doc pm an (.ref 115) ct), osl⟩)
    (G : Gd w mg mb gh) (O : Ok A 20) (F : Fr gh L h m) (K : Kn m [("ones", .ref r1), ("hooks", .ref rX), ("firsts", .ref rF)])
    (N : News gh L h [(L + 1 + 1 + 1, o3), (L + 1, oW), (87, tabObj ps), (rX, lst vX nX), (r1, tup [x0, x1, x2, x3, .ref e1]), (e1, q1), (rF, lst vF nF)])
    (dW : oW.data = .cell (some (.int W uW))) (d3 : o3.data = .cell none) (IX : IntsAre vX X) (IF : IntsAre vF (firstsN odds odds.length)) (D1 : DI prog w e1 q1 (tally W odds))
    (hodds : odds = H.map oddOf) (hX : X = HK 0 f) (g : Reg 0 f) (hfp : f.Perm H) (hfne : f ≠ []) (hFl : (firstsN odds odds.length).length ≤ 18) (hXl : X.length ≤ 36) (hXne : 0 < X.length) (hXb : ∀ y ∈ X, 0 < y ∧ y ≤ 23) (h87 : 87 < L) :
    wpAny (model prog w) A (call (.ref 85) [.ref rX]) (fun v s₁ => wpAny (model prog w) A (storeName (envX "law" scope L fa cd (cellsFrom (L + 1) scope.names [])) "row" v) (fun _ s₂ => wpAny (model prog w) A (execs (body.drop 15) (envX "law" scope L fa cd (cellsFrom (L + 1) scope.names []))) (fun fl s' => fl = .ret (.bool true) ∧ ∃ h' t' m', s' = mk s h' t' ∧ Fr gh L h' m' ∧ ∃ ps, h'.get? 87 = some (tabObj ps)) NoE s₂) NoE s₁) NoE (mk s h t) := by
  obtain ⟨rfl, rfl⟩ := same_fn hK rfl
  clear hK
  have hvX : vX.length = X.length := IX.length
  have hvF : vF.length = (firstsN odds odds.length).length := IF.length
  have hXf : X.Pairwise (· > ·) := by rw [hX]; exact hk_fall g
  have hu64 : A.units + 64 < cLine := by have := O.un; omega
  have c31 : L + 1 + 1 + 1 ≠ L + 1 := Nat.ne_of_gt (Nat.lt_trans (Nat.lt_succ_self _) (Nat.lt_succ_self _))
  have c03 : 87 ≠ L + 1 + 1 + 1 := Nat.ne_of_lt (Nat.lt_trans h87 (Nat.lt_trans (Nat.lt_succ_self _) (Nat.lt_trans (Nat.lt_succ_self _) (Nat.lt_succ_self _))))
  have lstNe : ∀ {us : List Value} {n : Nat} (v : Option Value), (lst us n).data ≠ .cell v := fun v e => by cases e
  have tupNe : ∀ {us : List Value} (v : Option Value), (tup us).data ≠ .cell v := fun v e => by cases e
  refine law_kept_spec (G.keeps F.keep) (O.le (by decide)) (lst_is (N.get (mem1 (mem1 (mem1 mem0))))) IX (by omega) ?_
  intro h1 t1 rR vR nR R k1 f1 o1 IR sorted perm
  have hRX : R = X.reverse := (perm.trans (List.reverse_perm X).symm).eq_of_pairwise (fun a b _ _ x y => Int.le_antisymm x y) sorted (List.pairwise_reverse.mpr (hXf.imp fun q => Int.le_of_lt q))
  subst hRX
  have F1 := after F k1
  have N1 := afterN N k1
  have n1 := afterNew F N k1 f1 o1
  clear F N
  refine stC (c := L + 1 + 1 + 1) (N1.get mem0) d3 ?_ rfl rfl rfl
  intro h2 o3' ho3 d3' sb2
  have ec := N1.get mem0
  obtain ⟨F2, N2⟩ := upd1 (rest := [(L + 1, oW), (87, tabObj ps), (rX, lst vX nX), (r1, tup [x0, x1, x2, x3, .ref e1]), (e1, q1), (rF, lst vF nF), (rR, lst vR nR)]) F1 (News.less n1 (by walk_at "m.sub"))
    (all1 c31.symm (all1 c03 (all1 (ne_cell (N1.get (mem1 (mem1 (mem1 mem0)))) ec d3 lstNe) (all1 (ne_cell (N1.get (mem1 (mem1 (mem1 (mem1 mem0))))) ec d3 tupNe) (all1 (ne_cell (N1.get (mem1 (mem1 (mem1 (mem1 (mem1 mem0)))))) ec d3 (di_ne D1)) (all1 (ne_cell (N1.get (mem1 (mem1 (mem1 (mem1 (mem1 (mem1 mem0))))))) ec d3 lstNe) (all1 (ne_cell o1 ec d3 lstNe) all0))))))) (sameBut_ext sb2) ho3
  clear F1 N1 n1 ec
  have hvR : vR.length = X.length := by rw [IR.length, List.length_reverse]
  change wpAny _ _ (execs (_ :: _) _) _ _ _
  refine wpAny_execs_cons ?_
  repeat' (walk_at "m1")
  refine ldC (c := L + 1 + 1 + 1) rfl ⟨_, N2.get mem0, d3'⟩ ?_ rfl rfl (by decide)
  repeat' (walk_at "m1")
  refine ⟨_, _, rfl, ?_⟩
  intro sl1 hsl1 fsl1 isl1 ksl1
  have F3 := after F2 ksl1
  have N3 := afterN N2 ksl1
  clear F2 N2
  refine l_slice (lst_is (N3.get (mem1 (mem1 (mem1 mem0))))) isl1 .none .none (.int _ _) (by decide) (by omega) ?_ (by with_unfolding_all rfl)
  intro rs1 hr1 us1 eu1 fr1 or1 kr1
  have F4 := after F3 kr1
  have N4 := afterNew F3 N3 kr1 fr1 or1
  clear F3 N3
  rw [krv_pick] at eu1
  have Ius1 : IntsAre us1 X.reverse := by rw [eu1]; simpa using ints_rev IX
  repeat' (walk_at "m1")
  refine ne_L (lst_is (N4.get (mem1 (mem1 (mem1 (mem1 (mem1 (mem1 (mem1 (mem1 mem0)))))))))) IR (lst_is (N4.get mem0)) Ius1 hu64 ?_
  repeat' (walk_at "m1")
  refine a_comp (cl := [("row", L + 1 + 1 + 1)]) (by with_unfolding_all rfl) (by with_unfolding_all rfl) rfl (by decide) (by intro _; with_unfolding_all rfl) ?_
  repeat' (walk_at "m1")
  have hoq2 := N4.get (mem1 (mem1 (mem1 (mem1 mem0))))
  have hcrow := N4.get (mem1 mem0)
  have hcR := N4.get (mem1 (mem1 (mem1 (mem1 (mem1 (mem1 (mem1 (mem1 mem0))))))))
  have Gh := G.keeps F4.keep
  refine p_list (lst_is hoq2) ?_
  intro ci2 hc2 hci2 fci2 kci2
  have fw2 := fwOne fci2
  refine comp1 (σ := Unit) (wk_list O.hh ci2 rX (fresh_ne fci2 hoq2).symm vX) self_list (by decide) rfl (comp_fp hci2 kci2 hoq2) ⟨hci2, (lst_is hoq2).at fun o e => kci2 _ o e⟩ (by omega)
    (fun _ => []) (fun i _ ys => IntsAre ys ((X.take i).filter (freeOf X.reverse))) () rfl .nil ?_ ?_
  · intro C' D i v c ys k h' t' mc own hC hD hi' hv hJ hoff hlive F N
    dsimp only [List.nil_append] at N hJ
    have K := kn0 (m := mc)
    have hi'' : i < X.length := hvX ▸ hi'
    obtain ⟨u, hx⟩ := IX.get i X[i] (by simp [hi''])
    have hv1 : v = .int X[i] u := by rw [hx] at hv; exact (Option.some.inj hv).symm
    subst hv1
    have ht : X.take (i + 1) = X.take i ++ [X[i]] := by rw [List.take_add_one, List.getElem?_eq_getElem hi'']; rfl
    have Gc : Gd w mg mb (hideAll hc2 [ci2]) := Gh.keeps fun b o e => hideAll_get _ (kci2 _ _ e) fun q => by rw [fw2 b q] at e; cases e
    repeat' (walk_at "m1")
    rename_i hA mA tA FA KA NA
    have kA := comp_keep fw2 kci2 FA
    refine ldC (c := L + 1 + 1 + 1) rfl ⟨_, kA _ _ hcrow, d3'⟩ ?_ (by with_unfolding_all rfl) (by with_unfolding_all rfl) (by decide)
    repeat' (walk_at "m1")
    refine ⟨⟨_, _, rfl, Gc.keeps FA.keep⟩, ?_⟩
    refine bisect_left_spec (Gc.keeps FA.keep) (O.le (by decide)) (lst_is (kA _ _ hcR)) IR sorted (by rw [List.length_reverse]; omega) ?_
    intro hB tB uB kB
    have FB := after FA kB
    have NB := afterN NA kB
    clear FA NA F N
    repeat' (walk_at "m1")
    refine ldC (c := L + 1 + 1 + 1) rfl ⟨_, kB _ _ (kA _ _ hcrow), d3'⟩ ?_ (by with_unfolding_all rfl) (by with_unfolding_all rfl) (by decide)
    repeat' (walk_at "m1")
    refine ⟨⟨_, _, rfl, Gc.keeps FB.keep⟩, ?_⟩
    refine bisect_right_spec (Gc.keeps FB.keep) (O.le (by decide)) (lst_is (kB _ _ (kA _ _ hcR))) IR sorted (by rw [List.length_reverse]; omega) ?_
    intro hE tE uE kE
    have FE := after FB kE
    have NE := afterN NB kE
    clear FB NB
    repeat' (walk_at "m1")
    refine split_bool (fun hq => ?_) fun hq => ?_
    · repeat' (walk_at "m1")
      refine ⟨(), _, _, _, rfl, by assumption, by assumption, all0, ?_⟩
      show IntsAre _ _
      rw [ht, List.filter_append, List.filter_cons_of_pos (show freeOf X.reverse X[i] = true from hq)]
      exact ints_app hJ (.cons _ _ .nil)
    · refine ⟨(), _, _, _, rfl, by assumption, by assumption, all0, ?_⟩
      show IntsAre _ _
      rw [ht, List.filter_append, List.filter_cons_of_neg (by rw [show freeOf X.reverse X[i] = false from hq]; exact Bool.false_ne_true), List.filter_nil, List.append_nil]
      exact hJ
  intro C2 rE c2 vE nE hd2 td2 mc2 fC2 fD2 hDC2 hns2 kk2 hoD2 _ IE
  rw [hvX, List.take_length] at IE
  have kx2 := comp_kept fw2 kci2 kk2
  obtain ⟨oC2, hoC2⟩ : ∃ o, hd2.get? C2 = some o := by obtain ⟨o, _, _, e, _⟩ := id hns2; exact ⟨o, e⟩
  have gD2 := gone_before kci2 fD2
  have gC2 := gone_before kci2 fC2
  have apart2 := news_fresh N4 gC2
  have cC2 := (afterNew F4 N4 kx2 gC2 hoC2 _ mem0).2
  have F5 := after F4 kx2
  have N5 := afterNew F4 N4 kx2 gD2 hoD2
  clear F4 N4
  have NC2 := all1 (p := fun p : Addr × Obj => hd2.get? p.1 = some p.2 ∧ p.1 ≠ L ∧ gh.get? p.1 = none) (a := (C2, oC2)) ⟨hoC2, cC2⟩ N5
  have NC2 : News gh L hd2 _ := NC2
  clear N5
  refine post_store (mc := fun _ => none) ?_
  walk_at "m.st"
  rename_i h6 m6 t6 F6 K6 NC6
  refine ⟨_, hns2.at' fun o q => ?_, fun hz2 sb2 => ?_⟩
  · rw [hoC2] at q; rw [← q]; exact (NC6 _ mem0).1
  obtain ⟨F7, N7⟩ := drop1 F6 NC6 (all1 hDC2 apart2) sb2
  clear F6 NC6 F5 NC2 hoC2 cC2 hns2 kk2 kci2 apart2 sb2
  show wpAny _ _ _ _ _ (mk s hz2 t6)
  repeat' (walk_at "m1")
  have hvE : vE.length = vF.length := by rw [IE.length, hvF, ends_firsts hodds hX g hfp]
  refine l_len (lst_is (N7.get mem0)) (by omega) ?_
  intro _ _
  repeat' (walk_at "m1")
  refine l_len (lst_is (N7.get (mem1 (mem1 (mem1 (mem1 (mem1 (mem1 (mem1 (mem1 mem0)))))))))) (by omega) ?_
  intro _ _
  repeat' (walk_at "m1")
  rw [hvE, bne_self_eq_false]
  repeat' (walk_at "m1")
  refine ldC (c := L + 1) rfl ⟨_, N7.get (mem1 (mem1 (mem1 mem0))), dW⟩ ?_ rfl rfl (by decide)
  repeat' (walk_at "m1")
  refine ⟨⟨_, _, rfl, G.keeps F7.keep⟩, ?_⟩
  refine law_back_spec (G.keeps F7.keep) (O.le (by decide)) (N7.get (mem1 (mem1 (mem1 (mem1 (mem1 mem0)))))) IX hXne (by omega) (fun n hn => by have := hXb n hn; omega) ?_
  intro hk tk dB oB kk fk ok DB
  have F8 := after F7 kk
  have N8 := afterNew F7 N7 kk fk ok
  clear F7 N7
  repeat' (walk_at "m1")
  refine item_tupleL (s := mk s _ _) (j := 4) (x := .ref e1) ⟨_, N8.get (mem1 (mem1 (mem1 (mem1 (mem1 (mem1 (mem1 mem0))))))), rfl, _, rfl⟩ (by decide) (by decide) rfl rfl ?_ (by with_unfolding_all rfl) (by intro _; with_unfolding_all rfl)
  repeat' (walk_at "m1")
  have tb := back_td W g hfne
  rw [← hX] at tb
  have same := td_same DB.nodup D1.nodup tb (tally_td W odds) fun k => by rw [hodds]; exact (hfp.map oddOf).count_eq k
  refine d_eq DB D1 (N8.get mem0) (N8.get (mem1 (mem1 (mem1 (mem1 (mem1 (mem1 (mem1 (mem1 mem0))))))))) (by omega) same.1 same.2 ?_
  exact ⟨rfl, _, _, _, rfl, F8, _, (N8.get (mem1 (mem1 (mem1 (mem1 (mem1 mem0))))))⟩
end
-- part b13
section
theorem law_tail {prog : Program} {w : World} {mg mb : Str → Option Value} {A : Around} {s : Shared} {gh h : Heap} {L : Addr} {t : Nat} {m : Str → Option Value} {oW oO o3 : Obj} {rO rX r1 e1 r2 e2 : Addr} {q1 q2 : Obj} {vO vX : List Value} {nO nX : Nat} {odds X f H : List Int} {W : Int} {uW : Tok} {ps : Array Value}
    {x0 x1 x2 x3 y0 y1 y2 y3 : Value}
    {name qual : Str} {params : Arguments} {body : List Stmt} {scope : Scope} {dV kV doc pm ct oc : Value} {an od : Option Addr} {osl : Array (Option Value)} {cd : Value} {fa : Addr}
    (hK : (hd.heap_39 w.params).lookup 116 = some ⟨oc, od, .func (fnOf name qual params body scope dV kV doc pm an (.ref 115) ct), osl⟩)
    (G : Gd w mg mb gh) (O : Ok A 20) (F : Fr gh L h m) (K : Kn m [("ones", .ref r1), ("others", .ref r2), ("hooks", .ref rX)])
    (N : News gh L h [(L + 1 + 1, oO), (L + 1, oW), (L + 1 + 1 + 1, o3), (87, tabObj ps), (rO, lst vO nO), (rX, lst vX nX), (r1, tup [x0, x1, x2, x3, .ref e1]), (e1, q1), (r2, tup [y0, y1, y2, y3, .ref e2]), (e2, q2)])
    (dO : oO.data = .cell (some (.ref rO))) (dW : oW.data = .cell (some (.int W uW))) (d3 : o3.data = .cell none) (IO : IntsAre vO odds) (IX : IntsAre vX X) (D1 : DI prog w e1 q1 (tally W odds)) (D2 : DI prog w e2 q2 (tally W X))
    (hodds : odds = H.map oddOf) (hX : X = HK 0 f) (g : Reg 0 f) (hfp : f.Perm H) (hfne : f ≠ []) (hOl : odds.length ≤ 18) (hXl : X.length ≤ 36) (hXne : 0 < X.length) (hXb : ∀ y ∈ X, 0 < y ∧ y ≤ 23) (h87 : 87 < L) :
    wpAny (model prog w) A (execs (body.drop 10) (envX "law" scope L fa cd (cellsFrom (L + 1) scope.names []))) (fun fl s' => fl = .ret (.bool true) ∧ ∃ h' t' m', s' = mk s h' t' ∧ Fr gh L h' m' ∧ ∃ ps, h'.get? 87 = some (tabObj ps)) NoE (mk s h t) := by
  obtain ⟨rfl, rfl⟩ := same_fn hK rfl
  have hvO : vO.length = odds.length := IO.length
  have hvX : vX.length = X.length := IX.length
  have hXf : X.Pairwise (· > ·) := by rw [hX]; exact hk_fall g
  have hu64 : A.units + 64 < cLine := by have := O.un; omega
  have c21 : L + 1 + 1 ≠ L + 1 := Nat.ne_of_gt (Nat.lt_succ_self _)
  have c31 : L + 1 + 1 + 1 ≠ L + 1 := Nat.ne_of_gt (Nat.lt_trans (Nat.lt_succ_self _) (Nat.lt_succ_self _))
  have c32 : L + 1 + 1 + 1 ≠ L + 1 + 1 := Nat.ne_of_gt (Nat.lt_succ_self _)
  have c03 : 87 ≠ L + 1 + 1 + 1 := Nat.ne_of_lt (Nat.lt_trans h87 (Nat.lt_trans (Nat.lt_succ_self _) (Nat.lt_trans (Nat.lt_succ_self _) (Nat.lt_succ_self _))))
  have lstNe : ∀ {us : List Value} {n : Nat} (v : Option Value), (lst us n).data ≠ .cell v := fun v e => by cases e
  have tupNe : ∀ {us : List Value} (v : Option Value), (tup us).data ≠ .cell v := fun v e => by cases e
  change wpAny _ _ (execs (_ :: _) _) _ _ _
  refine wpAny_execs_cons ?_
  have F0 := F
  have N0 := N
  have K0 := K
  clear F N K
  refine a_comp (cl := [("odds", L + 1 + 1)]) (by with_unfolding_all rfl) (by with_unfolding_all rfl) rfl (by decide) (by intro _; with_unfolding_all rfl) ?_
  repeat' (walk_at "m1")
  refine ldC (c := L + 1 + 1) rfl ⟨_, N0.get mem0, dO⟩ ?_ rfl rfl (by decide)
  repeat' (walk_at "m1")
  have hoq1 := N0.get (mem1 (mem1 (mem1 (mem1 mem0))))
  have hcO1 := N0.get mem0
  refine c_enum (lst_is hoq1) ?_
  intro en1 it1 hc1 he1 hit1 fe1 fi1 hne1 kci1
  refine p_enum he1 ?_
  have fw1 := fw2 fe1 fi1
  refine comp2 (σ := Unit) O.hh (wk_enum O.hh en1 it1 rO hne1 (fresh_ne fe1 hoq1).symm (fresh_ne fi1 hoq1).symm vO) self_enum (by decide) rfl ?_ ⟨⟨_, he1⟩, hit1, (lst_is hoq1).at fun o e => kci1 _ o e⟩ (by omega)
    (fun _ => []) (fun i _ ys => IntsAre ys (firstsN odds i)) () rfl .nil ?_ ?_
  · refine all1 ?_ (all1 ?_ (all1 (Heap.lt_size (kci1 _ _ hoq1)) all0))
    · exact Heap.lt_size he1
    · obtain ⟨o, ho, _⟩ := hit1; exact Heap.lt_size ho
  · rintro C' D i v0 v1 c ys k h' t' mc own hC hD hi' ⟨u0, rfl, hv⟩ hJ hoff hlive F N
    dsimp only [List.nil_append] at N hJ
    have K := kn0 (m := mc)
    have hi'' : i < odds.length := hvO ▸ hi'
    obtain ⟨u, hx⟩ := IO.get i odds[i] (by simp [hi''])
    have hv1 : v1 = .int odds[i] u := by rw [hx] at hv; exact (Option.some.inj hv).symm
    subst hv1
    repeat' (walk_at "m1")
    rename_i hA mA tA FA KA NA
    have kA := comp_keep fw1 kci1 FA
    refine ldC (c := L + 1 + 1) rfl ⟨_, kA _ _ hcO1, dO⟩ ?_ (by with_unfolding_all rfl) (by with_unfolding_all rfl) (by decide)
    repeat' (walk_at "m1")
    refine ⟨_, _, rfl, ?_⟩
    intro sl' hB fB isl kB
    have FB := after FA kB
    have NB := afterN NA kB
    clear FA NA F N
    refine l_slice ((lst_is hoq1).at fun o e => kB _ _ (kA _ _ e)) isl .none (.int _ _) .none (by decide) (by omega) ?_ (by with_unfolding_all rfl)
    intro rP hP' us eP fP oP kP
    have IP : IntsAre us (odds.take i) := by rw [eP]; simpa using slice_ints_uptoW IO (y := i) (by omega)
    have FP := after FB kP
    have NP := afterN NB kP
    clear FB NB
    repeat' (walk_at "m1")
    refine n_notin (lst_is oP) IP ?_
    repeat' (walk_at "m1")
    refine split_bool (fun hq => ?_) fun hq => ?_
    · repeat' (walk_at "m1")
      refine ⟨(), _, _, _, rfl, by assumption, by assumption, all0, ?_⟩
      show IntsAre _ (firstsN odds (i + 1))
      rw [firstsN, getD_at hi'', if_neg (by rw [Bool.not_eq_true'] at hq; rw [hq]; exact Bool.false_ne_true)]
      exact ints_app hJ (.cons _ _ .nil)
    · refine ⟨(), _, _, _, rfl, by assumption, by assumption, all0, ?_⟩
      show IntsAre _ (firstsN odds (i + 1))
      rw [firstsN, getD_at hi'', if_pos (by rw [Bool.not_eq_false'] at hq; exact hq), List.append_nil]
      exact hJ
  intro C1 rF c1 vF nF hd1 td1 mc1 fC1 fD1 hDC1 hns1 kk1 hoD1 _ IF
  have kx1 := comp_kept fw1 kci1 kk1
  obtain ⟨oC1, hoC1⟩ : ∃ o, hd1.get? C1 = some o := by obtain ⟨o, _, _, e, _⟩ := id hns1; exact ⟨o, e⟩
  have gD1 := gone_before kci1 fD1
  have gC1 := gone_before kci1 fC1
  have apart1 := news_fresh N0 gC1
  have cC1 := (afterNew F0 N0 kx1 gC1 hoC1 _ mem0).2
  have F1 := after F0 kx1
  have N1 := afterNew F0 N0 kx1 gD1 hoD1
  clear F0 N0
  have NC1 := all1 (p := fun p : Addr × Obj => hd1.get? p.1 = some p.2 ∧ p.1 ≠ L ∧ gh.get? p.1 = none) (a := (C1, oC1)) ⟨hoC1, cC1⟩ N1
  have NC1 : News gh L hd1 _ := NC1
  clear N1
  refine post_store (mc := fun _ => none) ?_
  walk_at "m.st"
  rename_i h2 m2 t2 F2 K2 NC2
  refine ⟨_, hns1.at' fun o q => ?_, fun hz1 sb1 => ?_⟩
  · rw [hoC1] at q; rw [← q]; exact (NC2 _ mem0).1
  obtain ⟨F3, N3⟩ := drop1 F2 NC2 (all1 hDC1 apart1) sb1
  clear F2 NC2 F1 NC1 hoC1 cC1 hns1 kk1 kci1 apart1 sb1
  show wpAny _ _ _ _ _ (mk s hz1 t2)
  repeat' (walk_at "m1")
  rw [hvO] at IF
  have hvF : vF.length = (firstsN odds odds.length).length := IF.length
  have hFl : (firstsN odds odds.length).length ≤ 18 := by have := tally_length W odds; rw [tally_all, List.length_map] at this; omega
  refine item_tupleL (s := mk s _ _) (j := 4) (x := .ref e1) ⟨_, N3.get (mem1 (mem1 (mem1 (mem1 (mem1 (mem1 (mem1 mem0))))))), rfl, _, rfl⟩ (by decide) (by decide) rfl rfl ?_ (by with_unfolding_all rfl) (by intro _; with_unfolding_all rfl)
  repeat' (walk_at "m1")
  refine d_meth D1 (N3.get (mem1 (mem1 (mem1 (mem1 (mem1 (mem1 (mem1 (mem1 mem0))))))))) PySem.F.slot_dict_items PySem.F.type_dict_items ?_
  repeat' (walk_at "m1")
  refine d_items D1 (N3.get (mem1 (mem1 (mem1 (mem1 (mem1 (mem1 (mem1 (mem1 mem0))))))))) ?_
  intro vw2 hv2 iv2 fv2 kv2
  have F4 := after F3 kv2
  have N4 := afterN N3 kv2
  clear F3 N3
  repeat' (walk_at "m1")
  refine c_listItems O.hh D1 (N4.get (mem1 (mem1 (mem1 (mem1 (mem1 (mem1 (mem1 (mem1 mem0))))))))) iv2 (by have := tally_length W odds; omega) ?_
  intro ri2 hi2 ti2 ui2 ni2 ki2 fi2 oi2 pi2
  have F5 := after F4 ki2
  have N5 := afterNew F4 N4 ki2 fi2 oi2
  clear F4 N4
  repeat' (walk_at "m1")
  refine e_comp (cl := [("weight", L + 1), ("odds", L + 1 + 1)]) (by with_unfolding_all rfl) rfl (by decide) (by intro _; with_unfolding_all rfl) ?_
  repeat' (walk_at "m1")
  have hoq3 := N5.get (mem1 mem0)
  have hcodds := N5.get (mem1 (mem1 mem0))
  have hcweight := N5.get (mem1 (mem1 (mem1 mem0)))
  have hcO := N5.get (mem1 (mem1 (mem1 (mem1 (mem1 (mem1 mem0))))))
  refine p_list (lst_is hoq3) ?_
  intro ci3 hc3 hci3 fci3 kci3
  have fw3 := fwOne fci3
  refine comp1 (σ := List PT) (wk_list O.hh ci3 rF (fresh_ne fci3 hoq3).symm vF) self_list (by decide) rfl (comp_fp hci3 kci3 hoq3) ⟨hci3, (lst_is hoq3).at fun o e => kci3 _ o e⟩ (by omega)
    ptNew (fun i c ys => ys = ptVals c ∧ ptPairs c = ((firstsN odds odds.length).take i).map (fun n => (n, (odds.count n : Int) * W))) [] rfl ⟨rfl, rfl⟩ ?_ ?_
  · rintro C' D i v c ys k h' t' mc own hC hD hi' hv ⟨hJ1, hJ2⟩ hoff hlive F N
    have K := kn0 (m := mc)
    have hi'' : i < (firstsN odds odds.length).length := hvF ▸ hi'
    obtain ⟨u, hx⟩ := IF.get i (firstsN odds odds.length)[i] (by simp [hi''])
    have hv1 : v = .int (firstsN odds odds.length)[i] u := by rw [hx] at hv; exact (Option.some.inj hv).symm
    subst hv1
    have ht : (firstsN odds odds.length).take (i + 1) = (firstsN odds odds.length).take i ++ [(firstsN odds odds.length)[i]] := by rw [List.take_add_one, List.getElem?_eq_getElem hi'']; rfl
    repeat' (walk_at "m1")
    rename_i hA mA tA FA KA NA
    have kA := comp_keep fw3 kci3 FA
    refine ldC (c := L + 1 + 1) rfl ⟨_, kA _ _ hcodds, dO⟩ ?_ (by with_unfolding_all rfl) (by with_unfolding_all rfl) (by decide)
    repeat' (walk_at "m1")
    refine l_meth (kA _ _ hcO) PySem.F.slot_list_count PySem.F.type_list_count ?_
    repeat' (walk_at "m1")
    refine l_count (lst_is (kA _ _ hcO)) IO ?_
    intro _ _
    repeat' (walk_at "m1")
    refine ldC (c := L + 1) rfl ⟨_, kA _ _ hcweight, dW⟩ ?_ (by with_unfolding_all rfl) (by with_unfolding_all rfl) (by decide)
    have := List.count_le_length (a := (firstsN odds odds.length)[i]) (l := odds)
    refine i_mul (by omega) (by omega) ?_
    intro _ _
    repeat' (walk_at "m1")
    refine n_tup (by simp) ?_
    intro rT hT fT oT kT
    have FT := after FA kT
    refine ⟨c ++ [(rT, (firstsN odds odds.length)[i], ((odds.count (firstsN odds odds.length)[i] : Int) * W), _, _)], hT, _, mA, rfl, FT, News.less (afterNew FA NA kT fT oT) pt_less, pt_off NA hoff hlive fT, ?_, ?_⟩
    · rw [hJ1]; simp [ptVals]
    · rw [ht, List.map_append, ← hJ2]; simp [ptPairs]
  rintro C3 rc3 c3 vc3 nc3 hd3 td3 mc3 fC3 fD3 hDC3 hns3 kk3 hoD3 hnw3 ⟨rfl, hJp3⟩
  refine post_plain hns3 fun hz3 sb3 => ?_
  have kz3 := comp_ext kci3 fC3 kk3 (all1 fci3 all0) sb3
  rw [hvF, List.take_length] at hJp3
  have pp3 := pt_pairs (h := hz3) c3 fun p hp => (sb3.2 _ (hnw3 p hp).2.2).trans (hnw3 p hp).1
  rw [hJp3] at pp3
  have F6 := after F5 kz3
  have N6 := afterNew F5 N5 kz3 (gone_before kci3 fD3) ((sb3.2 rc3 hDC3).trans hoD3)
  clear F5 N5
  clear hci3 fci3 kci3 kk3 fC3 hoD3 hns3 sb3 fD3 hnw3
  rw [← tally_all] at pp3
  refine ne_P (N6.get (mem1 mem0)) (pi2.keeps kz3) (N6.get mem0) pp3 hu64 ?_
  repeat' (walk_at "m1")
  refine item_tupleL (s := mk s _ _) (j := 4) (x := .ref e2) ⟨_, N6.get (mem1 (mem1 (mem1 (mem1 (mem1 (mem1 (mem1 (mem1 (mem1 (mem1 (mem1 mem0))))))))))), rfl, _, rfl⟩ (by decide) (by decide) rfl rfl ?_ (by with_unfolding_all rfl) (by intro _; with_unfolding_all rfl)
  repeat' (walk_at "m1")
  have hXn : X.Nodup := hXf.imp fun h => Ne.symm (Int.ne_of_lt h)
  refine d_meth D2 (N6.get (mem1 (mem1 (mem1 (mem1 (mem1 (mem1 (mem1 (mem1 (mem1 (mem1 (mem1 (mem1 mem0))))))))))))) PySem.F.slot_dict_items PySem.F.type_dict_items ?_
  repeat' (walk_at "m1")
  refine d_items D2 (N6.get (mem1 (mem1 (mem1 (mem1 (mem1 (mem1 (mem1 (mem1 (mem1 (mem1 (mem1 (mem1 mem0))))))))))))) ?_
  intro vw4 hv4 iv4 fv4 kv4
  have F7 := after F6 kv4
  have N7 := afterN N6 kv4
  clear F6 N6
  repeat' (walk_at "m1")
  refine c_listItems O.hh D2 (N7.get (mem1 (mem1 (mem1 (mem1 (mem1 (mem1 (mem1 (mem1 (mem1 (mem1 (mem1 (mem1 mem0))))))))))))) iv4 (by have := tally_length W X; omega) ?_
  intro ri4 hi4 ti4 ui4 ni4 ki4 fi4 oi4 pi4
  have F8 := after F7 ki4
  have N8 := afterNew F7 N7 ki4 fi4 oi4
  clear F7 N7
  repeat' (walk_at "m1")
  refine e_comp (cl := [("weight", L + 1)]) (by with_unfolding_all rfl) rfl (by decide) (by intro _; with_unfolding_all rfl) ?_
  repeat' (walk_at "m1")
  have hoq5 := N8.get (mem1 (mem1 (mem1 (mem1 (mem1 (mem1 (mem1 (mem1 (mem1 mem0)))))))))
  have hcweight := N8.get (mem1 (mem1 (mem1 (mem1 (mem1 mem0)))))
  refine p_list (lst_is hoq5) ?_
  intro ci5 hc5 hci5 fci5 kci5
  have fw5 := fwOne fci5
  refine comp1 (σ := List PT) (wk_list O.hh ci5 rX (fresh_ne fci5 hoq5).symm vX) self_list (by decide) rfl (comp_fp hci5 kci5 hoq5) ⟨hci5, (lst_is hoq5).at fun o e => kci5 _ o e⟩ (by omega)
    ptNew (fun i c ys => ys = ptVals c ∧ ptPairs c = (X.take i).map (fun n => (n, W))) [] rfl ⟨rfl, rfl⟩ ?_ ?_
  · rintro C' D i v c ys k h' t' mc own hC hD hi' hv ⟨hJ1, hJ2⟩ hoff hlive F N
    have K := kn0 (m := mc)
    have hi'' : i < X.length := hvX ▸ hi'
    obtain ⟨u, hx⟩ := IX.get i X[i] (by simp [hi''])
    have hv1 : v = .int X[i] u := by rw [hx] at hv; exact (Option.some.inj hv).symm
    subst hv1
    have ht : X.take (i + 1) = X.take i ++ [X[i]] := by rw [List.take_add_one, List.getElem?_eq_getElem hi'']; rfl
    repeat' (walk_at "m1")
    rename_i hA mA tA FA KA NA
    have kA := comp_keep fw5 kci5 FA
    refine ldC (c := L + 1) rfl ⟨_, kA _ _ hcweight, dW⟩ ?_ (by with_unfolding_all rfl) (by with_unfolding_all rfl) (by decide)
    repeat' (walk_at "m1")
    refine n_tup (by simp) ?_
    intro rT hT fT oT kT
    have FT := after FA kT
    refine ⟨c ++ [(rT, X[i], W, _, _)], hT, _, mA, rfl, FT, News.less (afterNew FA NA kT fT oT) pt_less, pt_off NA hoff hlive fT, ?_, ?_⟩
    · rw [hJ1]; simp [ptVals]
    · rw [ht, List.map_append, ← hJ2]; simp [ptPairs]
  rintro C5 rc5 c5 vc5 nc5 hd5 td5 mc5 fC5 fD5 hDC5 hns5 kk5 hoD5 hnw5 ⟨rfl, hJp5⟩
  refine post_plain hns5 fun hz5 sb5 => ?_
  have kz5 := comp_ext kci5 fC5 kk5 (all1 fci5 all0) sb5
  rw [hvX, List.take_length] at hJp5
  have pp5 := pt_pairs (h := hz5) c5 fun p hp => (sb5.2 _ (hnw5 p hp).2.2).trans (hnw5 p hp).1
  rw [hJp5] at pp5
  have F9 := after F8 kz5
  have N9 := afterNew F8 N8 kz5 (gone_before kci5 fD5) ((sb5.2 rc5 hDC5).trans hoD5)
  clear F8 N8
  clear hci5 fci5 kci5 kk5 fC5 hoD5 hns5 sb5 fD5 hnw5
  rw [← tally_nodup W hXn] at pp5
  refine ne_P (N9.get (mem1 mem0)) (pi4.keeps kz5) (N9.get mem0) pp5 hu64 ?_
  repeat' (walk_at "m1")
  refine isTrue_or ?_
  repeat' (walk_at "m1")
  refine item_tupleL (s := mk s _ _) (j := 4) (x := .ref e1) ⟨_, N9.get (mem1 (mem1 (mem1 (mem1 (mem1 (mem1 (mem1 (mem1 (mem1 (mem1 (mem1 mem0))))))))))), rfl, _, rfl⟩ (by decide) (by decide) rfl rfl ?_ (by with_unfolding_all rfl) (by intro _; with_unfolding_all rfl)
  repeat' (walk_at "m1")
  refine ⟨⟨_, _, rfl, G.keeps F9.keep⟩, ?_⟩
  refine count_calls_spec (G.keeps F9.keep) (O.le (by decide)) D1 (N9.get (mem1 (mem1 (mem1 (mem1 (mem1 (mem1 (mem1 (mem1 (mem1 (mem1 (mem1 (mem1 mem0))))))))))))) ?_
  intro hcc6 tcc6 ucc6 kcc6
  have F10 := after F9 kcc6
  have N10 := afterN N9 kcc6
  clear F9 N9
  rw [tally_total]
  repeat' (walk_at "m1")
  refine ldC (c := L + 1 + 1) rfl ⟨_, N10.get (mem1 (mem1 (mem1 (mem1 (mem1 mem0))))), dO⟩ ?_ rfl rfl (by decide)
  repeat' (walk_at "m1")
  refine l_len (lst_is (N10.get (mem1 (mem1 (mem1 (mem1 (mem1 (mem1 (mem1 (mem1 (mem1 mem0))))))))))) (by omega) ?_
  intro _ _
  repeat' (walk_at "m1")
  refine ldC (c := L + 1) rfl ⟨_, N10.get (mem1 (mem1 (mem1 (mem1 (mem1 (mem1 mem0)))))), dW⟩ ?_ rfl rfl (by decide)
  repeat' (walk_at "m1")
  refine i_mul (by omega) (by omega) ?_
  intro _ _
  repeat' (walk_at "m1")
  rw [hvO, bne_self_eq_false]
  repeat' (walk_at "m1")
  refine isTrue_or ?_
  repeat' (walk_at "m1")
  refine item_tupleL (s := mk s _ _) (j := 4) (x := .ref e2) ⟨_, N10.get (mem1 (mem1 (mem1 (mem1 (mem1 (mem1 (mem1 (mem1 (mem1 (mem1 (mem1 (mem1 (mem1 mem0))))))))))))), rfl, _, rfl⟩ (by decide) (by decide) rfl rfl ?_ (by with_unfolding_all rfl) (by intro _; with_unfolding_all rfl)
  repeat' (walk_at "m1")
  refine ⟨⟨_, _, rfl, G.keeps F10.keep⟩, ?_⟩
  refine count_calls_spec (G.keeps F10.keep) (O.le (by decide)) D2 (N10.get (mem1 (mem1 (mem1 (mem1 (mem1 (mem1 (mem1 (mem1 (mem1 (mem1 (mem1 (mem1 (mem1 (mem1 mem0))))))))))))))) ?_
  intro hcc7 tcc7 ucc7 kcc7
  have F11 := after F10 kcc7
  have N11 := afterN N10 kcc7
  clear F10 N10
  rw [tally_total]
  repeat' (walk_at "m1")
  refine l_len (lst_is (N11.get (mem1 (mem1 (mem1 (mem1 (mem1 (mem1 (mem1 (mem1 (mem1 (mem1 mem0)))))))))))) (by omega) ?_
  intro _ _
  repeat' (walk_at "m1")
  refine ldC (c := L + 1) rfl ⟨_, N11.get (mem1 (mem1 (mem1 (mem1 (mem1 (mem1 mem0)))))), dW⟩ ?_ rfl rfl (by decide)
  repeat' (walk_at "m1")
  refine i_mul (by omega) (by omega) ?_
  intro _ _
  repeat' (walk_at "m1")
  rw [hvX, bne_self_eq_false]
  repeat' (walk_at "m1")
  refine isTrue_or_nil ?_
  repeat' (walk_at "m1")
  refine ⟨⟨_, _, rfl, G.keeps F11.keep⟩, ?_⟩
  exact law_end hK G O F11 (K2.sub (by walk_at "m.sub")) (News.less N11 (by walk_at "m.sub")) dW d3 IX IF D1 hodds hX g hfp hfne hFl hXl hXne hXb h87
end
-- part b11
section
theorem law_body {prog : Program} {w : World} {mg mb : Str → Option Value} {A : Around} {s : Shared} {gh h : Heap} {L : Addr} {t : Nat} {m : Str → Option Value} {o1 o2 o3 : Obj} {a : Addr} {vs : List Value} {ns : List Int}
    {name qual : Str} {params : Arguments} {body : List Stmt} {scope : Scope} {dV kV doc pm ct oc : Value} {an od : Option Addr} {osl : Array (Option Value)} {cd : Value} {fa : Addr}
    (hK : (hd.heap_39 w.params).lookup 116 = some ⟨oc, od, .func (fnOf name qual params body scope dV kV doc pm an (.ref 115) ct), osl⟩)
    (G : Gd w mg mb gh) (O : Ok A 20) (F : Fr gh L h m) (K : Kn m [("script", .ref a)]) (N : News gh L h [(L + 1 + 1 + 1, o3), (L + 1 + 1, o2), (L + 1, o1), (87, tabObj #[])])
    (d1 : o1.data = .cell none) (d2 : o2.data = .cell none) (d3 : o3.data = .cell none) (C : CodeHd gh 91 87) (hl : gh.IsList a vs.toArray) (hi : IntsAre vs ns) (hn : ns.length ≤ 63) (h87 : 87 < L) :
    wpAny (model prog w) A (execs body (envX "law" scope L fa cd (cellsFrom (L + 1) scope.names []))) (fun fl s' => fl = .ret (.bool true) ∧ ∃ h' t' m', s' = mk s h' t' ∧ Fr gh L h' m' ∧ ∃ ps, h'.get? 87 = some (tabObj ps)) NoE (mk s h t) := by
  obtain ⟨rfl, rfl⟩ := same_fn hK rfl
  have hlen : vs.length = ns.length := hi.length
  repeat' (walk_at "m1")
  refine ⟨_, _, rfl, ?_⟩
  intro sl h₁ f₁ hsl k₁
  have F₁ := after F k₁
  have N₁ := afterN N k₁
  clear F N
  refine l_slice (hl.at fun o e => F₁.keep _ o e) hsl .none (.int _ _) .none (by decide) (by omega) ?_ (by with_unfolding_all rfl)
  intro r₂ h₂ us₂ e₂ f₂ o₂ k₂
  have F₂ := after F₁ k₂
  have N₂ := afterNew F₁ N₁ k₂ f₂ o₂
  have I₂ : IntsAre us₂ (ns.take 5) := by rw [e₂]; exact slice_ints_uptoW hi (y := 5) (by omega)
  clear F₁ N₁ e₂
  repeat' (walk_at "m1")
  refine c_listL (lst_is (N₂.get mem0)) (by rw [I₂.length]; simp; omega) ?_
  intro r₃ h₃ n₃ k₃ f₃ o₃
  have F₃ := after F₂ k₃
  have N₃ := afterNew F₂ N₂ k₃ f₃ o₃
  clear F₂ N₂
  repeat' (walk_at "m1")
  refine n_list (by simp) ?_
  intro r₄ h₄ f₄ o₄ k₄
  have F₄ := after F₃ k₄
  have N₄ := afterNew F₃ N₃ k₄ f₄ o₄
  clear F₃ N₃
  refine l_add (N₄.get (mem1 mem0)) (N₄.get mem0) (by rw [I₂.length]; simp; omega) ?_
  intro r₅ h₅ us₅ e₅ f₅ o₅ k₅
  have F₅ := after F₄ k₅
  have N₅ := afterNew F₄ N₄ k₅ f₅ o₅
  have I₅ : IntsAre us₅ (ns.take 5 ++ [9, 0, 17, 2]) := by
    rw [e₅]; exact ints_app I₂ (.cons _ _ (.cons _ _ (.cons _ _ (.cons _ _ .nil))))
  clear F₄ N₄ e₅
  repeat' (walk_at "m1")
  rename_i h₆ m₆ t₆ F₆ K₆ N₆
  clear F₅ N₅ K
  replace N₆ : News gh L h₆ [(L + 1, o1), (L + 1 + 1, o2), (L + 1 + 1 + 1, o3), (87, tabObj #[]), (r₅, lst us₅ 0)] := News.less N₆ (by walk_at "m.sub")
  obtain ⟨nn, hnn⟩ : ∃ l, l = ns.take 5 ++ [9, 0, 17, 2] := ⟨_, rfl⟩
  rw [← hnn] at I₅
  have hnl : nn.length ≤ 9 := by rw [hnn]; simp; omega
  have hnl' : 4 ≤ nn.length := by rw [hnn]; simp
  obtain ⟨W, hW⟩ : ∃ W : Int, W = if (nn.sum != 0) = true then nn.sum else 1 := ⟨_, rfl⟩
  refine wpAny_mono (?_ : wpAny (model prog w) A _ (fun v s₁ => ∃ h' t' u, s₁ = mk s h' t' ∧ Ext h₆ h' ∧ v = .int W u) NoE _) ?_ fun _ _ x => x
  · refine IfExp_ ?_
    repeat' (walk_at "m1")
    refine c_sumL O.hh (lst_is (N₆.get (mem1 (mem1 (mem1 (mem1 mem0)))))) I₅ ?_
    intro h₇ t₇ u₇ k₇
    have F₇ := after F₆ k₇
    repeat' (walk_at "m1")
    refine split_bool (fun hc => ?_) fun hc => ?_
    · repeat' (walk_at "m1")
      refine c_sumL O.hh (lst_is (k₇ _ _ (N₆.get (mem1 (mem1 (mem1 (mem1 mem0))))))) I₅ ?_
      intro h₈ t₈ u₈ k₈
      refine ⟨h₈, t₈, u₈, rfl, Ext.trans k₇ k₈, ?_⟩
      rw [hW, if_pos hc]
    · repeat' (walk_at "m1")
      have e : W = 1 := by rw [hW, if_neg (by rw [hc]; decide)]
      rw [e]
      exact ⟨h₇, _, _, rfl, k₇, rfl⟩
  rintro v s₁ ⟨h₇, t₇, u₇, rfl, k₇, rfl⟩
  have F₇ := after F₆ k₇
  have N₇ := afterN N₆ k₇
  clear F₆ N₆
  have c21 : L + 1 + 1 ≠ L + 1 := Nat.ne_of_gt (Nat.lt_succ_self _)
  have c31 : L + 1 + 1 + 1 ≠ L + 1 := Nat.ne_of_gt (Nat.lt_trans (Nat.lt_succ_self _) (Nat.lt_succ_self _))
  have c32 : L + 1 + 1 + 1 ≠ L + 1 + 1 := Nat.ne_of_gt (Nat.lt_succ_self _)
  have c01 : 87 ≠ L + 1 := Nat.ne_of_lt (Nat.lt_trans h87 (Nat.lt_succ_self _))
  have c02 : 87 ≠ L + 1 + 1 := Nat.ne_of_lt (Nat.lt_trans h87 (Nat.lt_trans (Nat.lt_succ_self _) (Nat.lt_succ_self _)))
  have c03 : 87 ≠ L + 1 + 1 + 1 := Nat.ne_of_lt (Nat.lt_trans h87 (Nat.lt_trans (Nat.lt_succ_self _) (Nat.lt_trans (Nat.lt_succ_self _) (Nat.lt_succ_self _))))
  have lstNe : ∀ {us : List Value} {n : Nat} (v : Option Value), (lst us n).data ≠ .cell v := fun v e => by cases e
  have tupNe : ∀ {us : List Value} (v : Option Value), (tup us).data ≠ .cell v := fun v e => by cases e
  refine stC (c := L + 1) (N₇.get mem0) d1 ?_ rfl rfl rfl
  intro h₈ o1' ho1 d1' sb8
  obtain ⟨F₈, N₈⟩ := upd1 F₇ N₇ (all1 c21 (all1 c31 (all1 c01 (all1 (ne_cell (N₇.get (mem1 (mem1 (mem1 (mem1 mem0))))) (N₇.get mem0) d1 lstNe) all0)))) (sameBut_ext sb8) ho1
  clear F₇ N₇ d1
  repeat' (walk_at "m1")
  -- halves
  refine ⟨⟨_, _, rfl, G.keeps F₈.keep⟩, ?_⟩
  refine law_halves_spec (G.keeps F₈.keep) (O.le (by decide)) (lst_is (N₈.get (mem1 (mem1 (mem1 (mem1 mem0)))))) I₅ (by omega) ?_
  intro h₉ t₉ rH vH nH k₉ f₉ o₉ IH
  have F₉ := after F₈ k₉
  have N₉ := afterNew F₈ N₈ k₉ f₉ o₉
  clear F₈ N₈
  obtain ⟨H, hH⟩ : ∃ l, l = halvesOf nn := ⟨_, rfl⟩
  rw [← hH] at IH
  have hHl : H.length ≤ 18 := by rw [hH]; have := halvesOf_len nn; omega
  have hHb : ∀ v ∈ H, 0 ≤ v ∧ v ≤ 5 := by rw [hH]; exact halves_bound nn
  have hHne : H ≠ [] := by rw [hH]; exact halves_ne (by omega)
  clear hH
  repeat' (walk_at "m1")
  rename_i h₁₀ m₁₀ t₁₀ F₁₀ K₁₀ N₁₀
  clear F₉ N₉ K₆
  replace N₁₀ : News gh L h₁₀ [(L + 1 + 1, o2), (L + 1, o1'), (L + 1 + 1 + 1, o3), (87, tabObj #[]), (rH, lst vH nH)] := News.less N₁₀ (by walk_at "m.sub")
  have hlH : vH.length = H.length := IH.length
  -- odds
  refine e_comp (cl := []) (by with_unfolding_all rfl) rfl (by decide) (by intro _; with_unfolding_all rfl) ?_
  repeat' (walk_at "m1")
  have hoH : h₁₀.get? rH = some (lst vH nH) := N₁₀.get (mem1 (mem1 (mem1 (mem1 mem0))))
  refine p_list (lst_is hoH) ?_
  intro ci hc hci fci kci
  refine comp1 (σ := Unit) (wk_list O.hh ci rH (fresh_ne fci hoH).symm vH) self_list (by decide) rfl ?_ ⟨hci, (lst_is hoH).at fun o e => kci _ o e⟩ (by omega)
    (fun _ => []) (fun i _ ys => IntsAre ys ((H.take i).map oddOf)) () rfl .nil ?_ ?_
  · refine all1 ?_ (all1 ?_ all0)
    · obtain ⟨o, ho, _⟩ := hci
      exact Heap.lt_size ho
    · exact Heap.lt_size (kci _ _ hoH)
  · intro C' D i v c ys k h' t' mc own hC hD hi' hv hJ hoff hlive F N
    dsimp only [List.nil_append] at N hJ
    have K := kn0 (m := mc)
    have hi'' : i < H.length := hlH ▸ hi'
    obtain ⟨u, hx⟩ := IH.get i H[i] (by simp [hi''])
    have hv1 : v = .int H[i] u := by rw [hx] at hv; exact (Option.some.inj hv).symm
    subst hv1
    have ht : H.take (i + 1) = H.take i ++ [H[i]] := by rw [List.take_add_one, List.getElem?_eq_getElem hi'']; rfl
    repeat' (walk_at "m1")
    refine i_mul (by omega) (by omega) ?_
    intro _ _
    repeat' (walk_at "m1")
    refine ⟨(), _, _, _, rfl, by assumption, by assumption, all0, ?_⟩
    show IntsAre _ _
    rw [ht, List.map_append]
    exact ints_app hJ (.cons _ _ .nil)
  intro C' rO c vO nO h' t' mc fC fD hDC hns kk hoD _ IO
  refine post_plain hns fun h₁₁ sb => ?_
  have k₁₁ : Ext h₁₀ h₁₁ := comp_ext kci fC kk (all1 fci all0) sb
  have o₁₁ : h₁₁.get? rO = some (lst vO nO) := (sb.2 rO hDC).trans hoD
  have f₁₁ : h₁₀.get? rO = none := by
    cases q : h₁₀.get? rO with
    | none => rfl
    | some o => rw [kci _ _ q] at fD; cases fD
  rw [hlH, List.take_length] at IO
  obtain ⟨odds, hodds⟩ : ∃ l, l = H.map oddOf := ⟨_, rfl⟩
  rw [← hodds] at IO
  have F₁₁ := after F₁₀ k₁₁
  have N₁₁ := afterN N₁₀ k₁₁
  have n₁₁ := afterNew F₁₀ N₁₀ k₁₁ f₁₁ o₁₁
  clear F₁₀ N₁₀ hci fci kci kk fC hoD hns sb
  refine stC (c := L + 1 + 1) (N₁₁.get mem0) d2 ?_ rfl rfl rfl
  intro h₁₂ o2' ho2 d2' sb12
  have n1 : rH ≠ L + 1 + 1 := ne_cell (N₁₁.get (mem1 (mem1 (mem1 (mem1 mem0))))) (N₁₁.get mem0) d2 lstNe
  have n2 : rO ≠ L + 1 + 1 := ne_cell o₁₁ (N₁₁.get mem0) d2 lstNe
  obtain ⟨F₁₂, N₁₂⟩ := upd1 (rest := [(L + 1, o1'), (L + 1 + 1 + 1, o3), (87, tabObj #[]), (rH, lst vH nH), (rO, lst vO nO)]) F₁₁ (News.less n₁₁ (by walk_at "m.sub"))
    (all1 c21.symm (all1 c32 (all1 c02 (all1 n1 (all1 n2 all0))))) (sameBut_ext sb12) ho2
  clear F₁₁ N₁₁ n₁₁ d2
  repeat' (walk_at "m1")
  -- kept and hooks
  refine ⟨⟨_, _, rfl, G.keeps F₁₂.keep⟩, ?_⟩
  refine law_kept_spec (G.keeps F₁₂.keep) (O.le (by decide)) (lst_is (N₁₂.get (mem1 (mem1 (mem1 (mem1 mem0)))))) IH (by omega) ?_
  intro h₁₃ t₁₃ rK vK nK S k₁₃ f₁₃ o₁₃ IK sorted perm
  have F₁₃ := after F₁₂ k₁₃
  have N₁₃ := afterN N₁₂ k₁₃
  clear F₁₂ N₁₂
  have g87 : gh.get? 87 = none := (N₁₃ _ (mem1 (mem1 (mem1 mem0)))).2.2
  have hS : ∀ v ∈ S, 0 ≤ v ∧ v ≤ 5 := fun v hv => hHb v (perm.mem_iff.mp hv)
  have hSl : S.length = H.length := perm.length_eq
  have hSne : S ≠ [] := fun e => by rw [e] at hSl; exact hHne (List.length_eq_zero_iff.mp hSl.symm)
  repeat' (walk_at "m1")
  refine ⟨⟨_, _, rfl, G.keeps F₁₃.keep⟩, ?_⟩
  refine law_hooks_spec (G.keeps fun b o e => hideAll_get [87] (F₁₃.keep b o e) (by simp only [List.mem_cons, List.not_mem_nil, or_false]; rintro rfl; rw [g87] at e; cases e)) (O.le (by decide)) (N₁₃.get (mem1 (mem1 (mem1 mem0)))) (C.keeps F₁₃.keep) (lst_is o₁₃) IK (by omega) sorted (fun v hv => by have := hS v hv; omega) ?_
  intro h₁₄ t₁₄ rX vX nX n k₁₄ f₁₄ o₁₄ hps T IX
  obtain ⟨ps, hps⟩ := hps
  rw [hooks_eq sorted (fun v hv => (hS v hv).1) T] at IX
  have hXl : (HK 0 S.reverse).length ≤ 36 := by
    rw [← hooks_eq sorted (fun v hv => (hS v hv).1) T]
    have := hooks_len S n
    have := T.2.2.1
    omega
  clear T
  obtain ⟨f, hf⟩ : ∃ l, l = S.reverse := ⟨_, rfl⟩
  have g : Reg 0 f := by rw [hf]; exact ⟨List.pairwise_reverse.mpr sorted, fun v hv => (hS v (List.mem_reverse.mp hv)).1⟩
  have hfb : ∀ v ∈ f, v ≤ 5 := by rw [hf]; exact fun v hv => (hS v (List.mem_reverse.mp hv)).2
  have hfl : f.length ≤ 18 := by rw [hf, List.length_reverse]; omega
  have hfne : f ≠ [] := by rw [hf]; simpa using hSne
  have hfp : f.Perm H := by rw [hf]; exact (List.reverse_perm S).trans perm
  rw [← hf] at IX hXl
  obtain ⟨X, hX⟩ : ∃ l, l = HK 0 f := ⟨_, rfl⟩
  have hXf : X.Pairwise (· > ·) := by rw [hX]; exact hk_fall g
  have hXb : ∀ y ∈ X, 0 < y ∧ y ≤ 23 := by
    rw [hX]; intro y hy
    have := hk_le g 5 hfb y hy
    omega
  have hXne : 0 < X.length := by
    rw [hX]
    cases f with
    | nil => exact absurd rfl hfne
    | cons x r => rw [hk_cons]; simp
  rw [← hX] at IX hXl
  have nL87 : L ≠ 87 := (Nat.ne_of_lt h87).symm
  have F₁₄ : Fr gh L h₁₄ m₁₀ := ⟨F₁₃.ns.at' fun o e => k₁₄ _ o nL87 e, fun b o e => k₁₄ b o (fun q => by rw [q, g87] at e; cases e) (F₁₃.keep b o e), F₁₃.above⟩
  have aH : rH ≠ 87 := fun e => by
    have q := N₁₃.get (mem1 (mem1 (mem1 (mem1 mem0))))
    have q' := N₁₃.get (mem1 (mem1 (mem1 mem0)))
    rw [e, q'] at q; cases q
  have aO : rO ≠ 87 := fun e => by
    have q := N₁₃.get (mem1 (mem1 (mem1 (mem1 (mem1 mem0)))))
    have q' := N₁₃.get (mem1 (mem1 (mem1 mem0)))
    rw [e, q'] at q; cases q
  have fXg : gh.get? rX = none := by
    cases q : gh.get? rX with
    | none => rfl
    | some o => rw [F₁₃.keep _ _ q] at f₁₄; cases f₁₄
  have fXL : rX ≠ L := by
    obtain ⟨oL, hoL⟩ := fr_live F₁₃
    exact fresh_ne f₁₄ hoL
  have N₁₄ : News gh L h₁₄ [(L + 1 + 1, o2'), (L + 1, o1'), (L + 1 + 1 + 1, o3), (87, tabObj ps), (rH, lst vH nH), (rO, lst vO nO), (rX, lst vX nX)] :=
    all1 ⟨k₁₄ _ _ c02.symm (N₁₃ _ mem0).1, (N₁₃ _ mem0).2⟩ (all1 ⟨k₁₄ _ _ c01.symm (N₁₃ _ (mem1 mem0)).1, (N₁₃ _ (mem1 mem0)).2⟩ (all1 ⟨k₁₄ _ _ c03.symm (N₁₃ _ (mem1 (mem1 mem0))).1, (N₁₃ _ (mem1 (mem1 mem0))).2⟩
      (all1 ⟨hps, (N₁₃ _ (mem1 (mem1 (mem1 mem0)))).2⟩ (all1 ⟨k₁₄ _ _ aH (N₁₃ _ (mem1 (mem1 (mem1 (mem1 mem0))))).1, (N₁₃ _ (mem1 (mem1 (mem1 (mem1 mem0))))).2⟩
        (all1 ⟨k₁₄ _ _ aO (N₁₃ _ (mem1 (mem1 (mem1 (mem1 (mem1 mem0)))))).1, (N₁₃ _ (mem1 (mem1 (mem1 (mem1 (mem1 mem0)))))).2⟩ (all1 ⟨o₁₄, fXL, fXg⟩ all0))))))
  clear F₁₃ N₁₃
  repeat' (walk_at "m1")
  -- cells
  rename_i h₁₅ m₁₅ t₁₅ F₁₅ K₁₅ N₁₅
  clear F₁₄ N₁₄ K₁₀
  refine ⟨⟨_, _, rfl, G.keeps F₁₅.keep⟩, ?_⟩
  refine law_cells_spec (G.keeps F₁₅.keep) (O.le (by decide)) (lst_is (N₁₅.get (mem1 (mem1 (mem1 (mem1 mem0)))))) IH (by omega) (fun v hv => by have := hHb v hv; omega) ?_
  intro h₁₆ t₁₆ rC vC nC S' k₁₆ f₁₆ o₁₆ perm' sorted' IC
  have eS : S' = S := List.Perm.eq_of_pairwise (le := (· ≤ ·)) (fun a b _ _ h1 h2 => Int.le_antisymm h1 h2) sorted' sorted (perm'.trans perm.symm)
  rw [eS, ← hf, cells_eq g.fall g.low, ← hX] at IC
  have F₁₆ := after F₁₅ k₁₆
  have N₁₆ := afterN N₁₅ k₁₆
  clear F₁₅ N₁₅
  repeat' (walk_at "m1")
  refine ne_L (lst_is (N₁₆.get (mem1 (mem1 (mem1 (mem1 (mem1 (mem1 mem0)))))))) IX (lst_is o₁₆) IC (by have := O.un; omega) ?_
  repeat' (walk_at "m1")
  -- profiles
  have hOl : odds.length = H.length := by rw [hodds, List.length_map]
  have hOb : ∀ v ∈ odds, 0 ≤ v ∧ v ≤ 11 := by
    rw [hodds]; intro v hv
    obtain ⟨x, hx, rfl⟩ := List.mem_map.mp hv
    have := hHb x hx
    unfold oddOf; omega
  have hOs := sum_low (by omega) odds hOb
  have hvO : vO.length = odds.length := IO.length
  have hvX : vX.length = X.length := IX.length
  have eXs : X.sum = odds.sum := by
    rw [hX, hk_sum g, hodds, ← perm_sum (hfp.map oddOf)]
    congr 1
    refine List.map_congr_left fun x _ => ?_
    unfold oddOf; omega
  have eHs : (odds.map fun n => n.fdiv 2).sum = H.sum := by rw [hodds, odd_half]
  have hu64 : A.units + 64 < cLine := by have := O.un; omega
  refine ldC (c := L + 1 + 1) rfl ⟨_, N₁₆.get mem0, d2'⟩ ?_ rfl rfl (by decide)
  repeat' (walk_at "m1")
  refine ldC (c := L + 1) rfl ⟨_, N₁₆.get (mem1 mem0), d1'⟩ ?_ rfl rfl (by decide)
  repeat' (walk_at "m1")
  refine ⟨⟨_, _, rfl, G.keeps F₁₆.keep⟩, ?_⟩
  refine law_profile_spec (G.keeps F₁₆.keep) (O.le (by decide)) (lst_is (N₁₆.get (mem1 (mem1 (mem1 (mem1 (mem1 mem0))))))) IO (by omega) (fun v hv => by have := hOb v hv; omega) ?_
  intro h₁₇ t₁₇ r1 e1 q1 a1 a2 a3 a4 k₁₇ f₁₇ f₁₇' o₁₇ o₁₇' D1
  have F₁₇ := after F₁₆ k₁₇
  have N₁₇ : News gh L h₁₇ [(L + 1 + 1, o2'), (L + 1, o1'), (L + 1 + 1 + 1, o3), (87, tabObj ps), (rH, lst vH nH), (rO, lst vO nO), (rX, lst vX nX), (r1, _), (e1, q1)] :=
    fun p hp => by
      rcases List.mem_append.mp (show p ∈ [(L + 1 + 1, o2'), (L + 1, o1'), (L + 1 + 1 + 1, o3), (87, tabObj ps), (rH, lst vH nH), (rO, lst vO nO), (rX, lst vX nX)] ++ [(r1, _), (e1, q1)] from hp) with hp | hp
      · exact afterN N₁₆ k₁₇ p hp
      · rcases List.mem_cons.mp hp with rfl | hp
        · exact afterNew F₁₆ N₁₆ k₁₇ f₁₇ o₁₇ _ mem0
        · rcases List.mem_cons.mp hp with rfl | hp
          · exact afterNew F₁₆ N₁₆ k₁₇ f₁₇' o₁₇' _ mem0
          · cases hp
  clear F₁₆ N₁₆
  repeat' (walk_at "m1")
  rename_i h₁₈ m₁₈ t₁₈ F₁₈ K₁₈ N₁₈
  clear F₁₇ N₁₇ K₁₅
  refine ldC (c := L + 1) rfl ⟨_, N₁₈.get (mem1 mem0), d1'⟩ ?_ rfl rfl (by decide)
  repeat' (walk_at "m1")
  refine ⟨⟨_, _, rfl, G.keeps F₁₈.keep⟩, ?_⟩
  refine law_profile_spec (G.keeps F₁₈.keep) (O.le (by decide)) (lst_is (N₁₈.get (mem1 (mem1 (mem1 (mem1 (mem1 (mem1 mem0)))))))) IX (by omega) (fun v hv => by have := hXb v hv; omega) ?_
  intro h₁₉ t₁₉ r2 e2 q2 b1 b2 b3 b4 k₁₉ f₁₉ f₁₉' o₁₉ o₁₉' D2
  have F₁₉ := after F₁₈ k₁₉
  have N₁₉ : News gh L h₁₉ [(L + 1 + 1, o2'), (L + 1, o1'), (L + 1 + 1 + 1, o3), (87, tabObj ps), (rH, lst vH nH), (rO, lst vO nO), (rX, lst vX nX), (r1, _), (e1, q1), (r2, _), (e2, q2)] :=
    fun p hp => by
      rcases List.mem_append.mp (show p ∈ [(L + 1 + 1, o2'), (L + 1, o1'), (L + 1 + 1 + 1, o3), (87, tabObj ps), (rH, lst vH nH), (rO, lst vO nO), (rX, lst vX nX), (r1, _), (e1, q1)] ++ [(r2, _), (e2, q2)] from hp) with hp | hp
      · exact afterN N₁₈ k₁₉ p hp
      · rcases List.mem_cons.mp hp with rfl | hp
        · exact afterNew F₁₈ N₁₈ k₁₉ f₁₉ o₁₉ _ mem0
        · rcases List.mem_cons.mp hp with rfl | hp
          · exact afterNew F₁₈ N₁₈ k₁₉ f₁₉' o₁₉' _ mem0
          · cases hp
  clear F₁₈ N₁₈
  repeat' (walk_at "m1")
  rename_i h21 m21 t21 F21 K21 N21 _ _
  clear K₁₈ F₁₉ N₁₉
  refine ⟨_, _, rfl, ?_⟩
  intro sl1 hsl1 fsl1 isl1 ksl1
  have F22 := after F21 ksl1
  have N22 := afterN N21 ksl1
  clear F21 N21
  refine t_slice4 (N22.get (mem1 (mem1 (mem1 (mem1 (mem1 (mem1 (mem1 mem0)))))))) isl1 ?_ (by with_unfolding_all rfl)
  intro rs1 hr1 fr1 or1 kr1
  have F23 := after F22 kr1
  have N23 := afterNew F22 N22 kr1 fr1 or1
  clear F22 N22
  repeat' (walk_at "m1")
  refine ldC (c := L + 1 + 1) rfl ⟨_, N23.get (mem1 mem0), d2'⟩ ?_ rfl rfl (by decide)
  repeat' (walk_at "m1")
  refine l_len (lst_is (N23.get (mem1 (mem1 (mem1 (mem1 (mem1 (mem1 mem0)))))))) (by omega) ?_
  intro _ _
  repeat' (walk_at "m1")
  refine ldC (c := L + 1 + 1) rfl ⟨_, N23.get (mem1 mem0), d2'⟩ ?_ rfl rfl (by decide)
  repeat' (walk_at "m1")
  refine c_sumL O.hh (lst_is (N23.get (mem1 (mem1 (mem1 (mem1 (mem1 (mem1 mem0)))))))) IO ?_
  intro hs2 ts2 us2 ks2
  have F24 := after F23 ks2
  have N24 := afterN N23 ks2
  clear F23 N23
  repeat' (walk_at "m1")
  refine c_sumL O.hh (lst_is (N24.get (mem1 (mem1 (mem1 (mem1 (mem1 mem0))))))) IH ?_
  intro hs3 ts3 us3 ks3
  have F25 := after F24 ks3
  have N25 := afterN N24 ks3
  clear F24 N24
  repeat' (walk_at "m1")
  refine ldC (c := L + 1 + 1) rfl ⟨_, N25.get (mem1 mem0), d2'⟩ ?_ rfl rfl (by decide)
  repeat' (walk_at "m1")
  refine c_sumL O.hh (lst_is (N25.get (mem1 (mem1 (mem1 (mem1 (mem1 (mem1 mem0)))))))) IO ?_
  intro hs4 ts4 us4 ks4
  have F26 := after F25 ks4
  have N26 := afterN N25 ks4
  clear F25 N25
  repeat' (walk_at "m1")
  refine ldC (c := L + 1) rfl ⟨_, N26.get (mem1 (mem1 mem0)), d1'⟩ ?_ rfl rfl (by decide)
  repeat' (walk_at "m1")
  refine i_mul (by omega) (by omega) ?_
  intro _ _
  repeat' (walk_at "m1")
  refine n_tup (by simp) ?_
  intro rt5 ht5 ft5 ot5 kt5
  have F27 := after F26 kt5
  have N27 := afterNew F26 N26 kt5 ft5 ot5
  clear F26 N26
  refine ne_T4 (N27.get (mem1 mem0)) (x0 := odds.length) (x1 := odds.sum) (x2 := (odds.map fun n => n.fdiv 2).sum) (x3 := (odds.map fun n => n * W).sum) (by rw [eHs, sum_mulW, ← hvO]; exact (N27.get mem0)) hu64 ?_
  repeat' (walk_at "m1")
  refine ⟨_, _, rfl, ?_⟩
  intro sl6 hsl6 fsl6 isl6 ksl6
  have F28 := after F27 ksl6
  have N28 := afterN N27 ksl6
  clear F27 N27
  refine t_slice4 (N28.get (mem1 (mem1 (mem1 (mem1 (mem1 (mem1 (mem1 (mem1 (mem1 (mem1 (mem1 mem0)))))))))))) isl6 ?_ (by with_unfolding_all rfl)
  intro rs6 hr6 fr6 or6 kr6
  have F29 := after F28 kr6
  have N29 := afterNew F28 N28 kr6 fr6 or6
  clear F28 N28
  repeat' (walk_at "m1")
  refine l_len (lst_is (N29.get (mem1 (mem1 (mem1 (mem1 (mem1 (mem1 (mem1 (mem1 (mem1 mem0))))))))))) (by omega) ?_
  intro _ _
  repeat' (walk_at "m1")
  refine ldC (c := L + 1 + 1) rfl ⟨_, N29.get (mem1 (mem1 (mem1 mem0))), d2'⟩ ?_ rfl rfl (by decide)
  repeat' (walk_at "m1")
  refine c_sumL O.hh (lst_is (N29.get (mem1 (mem1 (mem1 (mem1 (mem1 (mem1 (mem1 (mem1 mem0)))))))))) IO ?_
  intro hs7 ts7 us7 ks7
  have F30 := after F29 ks7
  have N30 := afterN N29 ks7
  clear F29 N29
  repeat' (walk_at "m1")
  refine e_comp (cl := []) (by with_unfolding_all rfl) rfl (by decide) (by intro _; with_unfolding_all rfl) ?_
  repeat' (walk_at "m1")
  have hoq8 := N30.get (mem1 (mem1 (mem1 (mem1 (mem1 (mem1 (mem1 (mem1 (mem1 mem0)))))))))
  refine p_list (lst_is hoq8) ?_
  intro ci8 hc8 hci8 fci8 kci8
  refine comp1 (σ := Unit) (wk_list O.hh ci8 rX (fresh_ne fci8 hoq8).symm vX) self_list (by decide) rfl (comp_fp hci8 kci8 hoq8) ⟨hci8, (lst_is hoq8).at fun o e => kci8 _ o e⟩ (by omega)
    (fun _ => []) (fun i _ ys => IntsAre ys ((X.take i).map (fun n => n.fdiv 2))) () rfl .nil ?_ ?_
  · intro C' D i v c ys k h' t' mc own hC hD hi' hv hJ hoff hlive F N
    dsimp only [List.nil_append] at N hJ
    have K := kn0 (m := mc)
    have hi'' : i < X.length := hvX ▸ hi'
    obtain ⟨u, hx⟩ := IX.get i X[i] (by simp [hi''])
    have hv1 : v = .int X[i] u := by rw [hx] at hv; exact (Option.some.inj hv).symm
    subst hv1
    have ht : X.take (i + 1) = X.take i ++ [X[i]] := by rw [List.take_add_one, List.getElem?_eq_getElem hi'']; rfl
    repeat' (walk_at "m1")
    refine ⟨(), _, _, _, rfl, by assumption, by assumption, all0, ?_⟩
    show IntsAre _ _
    rw [ht, List.map_append]
    exact ints_app hJ (.cons _ _ .nil)
  intro C8 rc8 c8 vc8 nc8 hd8 td8 mc8 fC8 fD8 hDC8 hns8 kk8 hoD8 _ Ic8
  refine post_plain hns8 fun hz8 sb8 => ?_
  have kz8 := comp_ext kci8 fC8 kk8 (all1 fci8 all0) sb8
  rw [hvX, List.take_length] at Ic8
  have F31 := after F30 kz8
  have N31 := afterNew F30 N30 kz8 (gone_before kci8 fD8) ((sb8.2 rc8 hDC8).trans hoD8)
  clear F30 N30
  clear hci8 fci8 kci8 kk8 fC8 hoD8 hns8 sb8 fD8
  repeat' (walk_at "m1")
  refine c_sumL O.hh (lst_is (N31.get mem0)) Ic8 ?_
  intro hs9 ts9 us9 ks9
  have F32 := after F31 ks9
  have N32 := afterN N31 ks9
  clear F31 N31
  repeat' (walk_at "m1")
  refine ldC (c := L + 1 + 1) rfl ⟨_, N32.get (mem1 (mem1 (mem1 (mem1 mem0)))), d2'⟩ ?_ rfl rfl (by decide)
  repeat' (walk_at "m1")
  refine c_sumL O.hh (lst_is (N32.get (mem1 (mem1 (mem1 (mem1 (mem1 (mem1 (mem1 (mem1 (mem1 mem0))))))))))) IO ?_
  intro hs10 ts10 us10 ks10
  have F33 := after F32 ks10
  have N33 := afterN N32 ks10
  clear F32 N32
  repeat' (walk_at "m1")
  refine ldC (c := L + 1) rfl ⟨_, N33.get (mem1 (mem1 (mem1 (mem1 (mem1 mem0))))), d1'⟩ ?_ rfl rfl (by decide)
  repeat' (walk_at "m1")
  refine i_mul (by omega) (by omega) ?_
  intro _ _
  repeat' (walk_at "m1")
  refine n_tup (by simp) ?_
  intro rt11 ht11 ft11 ot11 kt11
  have F34 := after F33 kt11
  have N34 := afterNew F33 N33 kt11 ft11 ot11
  clear F33 N33
  refine ne_T4 (N34.get (mem1 (mem1 mem0))) (x0 := X.length) (x1 := X.sum) (x2 := (X.map fun n => n.fdiv 2).sum) (x3 := (X.map fun n => n * W).sum) (by rw [sum_mulW, eXs, ← hvX]; exact (N34.get mem0)) hu64 ?_
  refine wpAny_truthy_bool ?_
  refine if_ff ?_
  refine wpAny_execs_nil ?_
  exact law_tail hK G O F34 (K21.sub (by walk_at "m.sub")) (News.less N34 (by walk_at "m.sub")) d2' d1' d3 IO IX D1 D2 hodds hX g hfp hfne (by omega) hXl hXne hXb h87
end
end Mine
end
-- the challenge
open PySem PySem.W PySem.Calls PyProof.Rows
set_option Elab.async false
set_option maxRecDepth 100000
set_option maxHeartbeats 8000000
open Mine
theorem PySem.Challenge.cw_ph0092_01_holds : PySem.Challenge.rw_ph0092_01.Holds :=
  hd (by
  w_strict (k_go0; (all_goals try k_fold))
  rename_i w s₀ s₁ mg mb _ _ fa _ _ cd _ _ _ _ _ _ _ _ _ _ ns _ _ _ _ _ _ _ a vs _ _ _ _ _ hi _ hlen _ _ h₁ t₁ o3 o2 o1 d3 d2 d1 _ X T B F N l0
  refine wpAny_mono (law_body (s := s₁) (h := h₁) (t := t₁) (mg := mg) (mb := mb) rfl ?_ ?_ F ?_ N d1 d2 d3 codeHd lifted hi (by omega) l0) ?_ fun _ _ x => x.elim
  · exact ⟨X, T.g, T.b, T.nolimit, T.builtins, T.bmain⟩
  · exact ⟨rfl, by show callerA.depth + 1 + 20 < recursionLimit; decide, by show callerA.units + 3 + 8 * 20 < cLine; decide⟩
  · exact kn1 rfl kn0
  · rintro fl s' ⟨rfl, h', t', m', rfl, F', ps, e⟩
    refine ⟨goodW_bool F' ?_ ?_ ?_ rfl, ⟨ps, e⟩, trivial⟩
    · assumption
    · intro cls; rfl
    · refine postW_of (X := true) ?_ ?_ rfl
      · with_unfolding_all rfl
      · with_unfolding_all rfl)
